import JvmDerived
import JvmDerived.Pilot.@@N@@Statement
import JvmDerived.Pilot.@@N@@Code
set_option linter.unusedVariables false
set_option linter.unusedSimpArgs false
namespace Jvm.Pilot.@@N@@
open Jvm Jvm.ClassFile Sem Op Lib Jvm.Free Jvm.Stand Jvm.LawKit Jvm.RoadKit Bundle Jvm.Pilot.@@N@@.Jvm.D

/-- the run that stands at T with the top frame f ends, and its end is as P says -/
def Go (p : Program) (e : Env) (below : List Frame) (P : Outcome → State → Prop) (T : State) (f : JFrame) : Prop :=
  ∃ s₂ o, Steps p.tables e below (T.setTop f) s₂ ∧ s₂.status = .running ∧ Ended s₂ below o ∧ P o s₂
theorem Go.st {p : Program} {e : Env} {below : List Frame} {P : Outcome → State → Prop} {T T' : State} {f f' : JFrame}
    (h : ∀ t, Steps p.tables e below (T'.setTop f') t → Steps p.tables e below (T.setTop f) t) (k : Go p e below P T' f') : Go p e below P T f := by
  obtain ⟨s₂, o, a, b⟩ := k
  exact ⟨s₂, o, h _ a, b⟩
theorem Go.tr {p : Program} {e : Env} {below : List Frame} {P : Outcome → State → Prop} {T T' : State} {f f' : JFrame}
    (h : Steps p.tables e below (T.setTop f) (T'.setTop f')) (k : Go p e below P T' f') : Go p e below P T f := by
  obtain ⟨s₂, o, a, b⟩ := k
  exact ⟨s₂, o, h.trans a, b⟩
/-- what a contract says of the end -/
abbrev Done (s : State) (Q : Option Value → Heap → List Loc → Prop) (C S : Nat) (o : Outcome) (U' : State) : Prop :=
  ∃ v L, o = .returned v ∧ Q v U'.heap L ∧ FrameEnd s o U' L C S
theorem Go.ret {p : Program} {l : Launch} {e : Env} {R : Room} {s : State} {m : MethodId} {args : Array Value} {below : List Frame} {meth : Method} {c : Code} {T : State} {locs : List Loc} {cells slots : Nat} {h : Heap}
    {Q : Option Value → Heap → List Loc → Prop} {C S : Nat} {v : Option Value} {f : JFrame}
    (X : Stand p l e R s m args below meth c T locs cells slots) (hlk : meth.locks = false) (hv : meth.sig.returnType = none → v = none)
    (hs : ∀ fs, (∀ (f : JFrame) (acts : List Action), f.method = m → f.locked = none → f.entered = [] → (doReturn e (T.setTop f) acts v).1 = T.setFrames fs) → Steps p.tables e below (T.setTop f) (T.setFrames fs))
    (eT : T.heap = h) (hQ : Q v h locs) (hc : cells ≤ C) (hl : slots ≤ S) : Go p e below (Done s Q C S) T f := by
  obtain ⟨fs, hr, hrun, hended, hW, hsame⟩ := X.leave (v := v) hv hlk
  refine ⟨_, _, hs fs hr, hrun, hended, v, locs, rfl, ?_, ⟨_, rfl⟩, hW, hsame.mono hc hl⟩
  show Q v T.heap locs
  rw [eT]; exact hQ
theorem Go.retB {p : Program} {l : Launch} {e : Env} {R : Room} {s : State} {m : MethodId} {args : Array Value} {below : List Frame} {meth : Method} {c : Code} {T : State} {locs : List Loc} {cells slots : Nat} {h : Heap}
    {Q : Option Value → Heap → List Loc → Prop} {C S : Nat} {pc : Nat} {Ls : Array Slot} {z : Int32} {rest : List Value} {t : FieldType}
    (X : Stand p l e R s m args below meth c T locs cells slots) (hlk : meth.locks = false) (hx : p.tables.exec = Jvm.exec) (hret : meth.sig.returnType = some t) (ht : t = .boolean ∨ t = .byte ∨ t = .char ∨ t = .short)
    (hd : decode c.code pc = .ok (.ireturn, 1)) (eT : T.heap = h) (hQ : Q (some (.int (nar t z))) h locs) (hc : cells ≤ C) (hl : slots ≤ S) : Go p e below (Done s Q C S) T (mkF m pc Ls (.int z :: rest)) :=
  Go.ret X hlk (fun h => by rw [hret] at h; cases h) (fun _ hr => retN X hx hret ht hd hr) eT hQ hc hl
theorem Go.retV {p : Program} {l : Launch} {e : Env} {R : Room} {s : State} {m : MethodId} {args : Array Value} {below : List Frame} {meth : Method} {c : Code} {T : State} {locs : List Loc} {cells slots : Nat} {h : Heap}
    {Q : Option Value → Heap → List Loc → Prop} {C S : Nat} {pc : Nat} {Ls : Array Slot} {w : Value} {rest : List Value} {t : FieldType} {i : Instr}
    (X : Stand p l e R s m args below meth c T locs cells slots) (hlk : meth.locks = false) (hx : p.tables.exec = Jvm.exec) (hret : meth.sig.returnType = some t) (hn : narrow t w = w)
    (hi : (i = .ireturn ∧ (t = .int ∨ t = .boolean ∨ t = .byte ∨ t = .char ∨ t = .short) ∧ ∃ z, w = .int z) ∨ (i = .lreturn ∧ t = .long ∧ ∃ z, w = .long z) ∨ (i = .dreturn ∧ t = .double ∧ ∃ z, w = .double z) ∨ (i = .freturn ∧ t = .float ∧ ∃ z, w = .float z) ∨ (i = .areturn ∧ t.isReference = true ∧ w.isRef = true))
    (hd : decode c.code pc = .ok (i, 1)) (eT : T.heap = h) (hQ : Q (some w) h locs) (hc : cells ≤ C) (hl : slots ≤ S) : Go p e below (Done s Q C S) T (mkF m pc Ls (w :: rest)) :=
  Go.ret X hlk (fun h => by rw [hret] at h; cases h) (fun _ hr => retOut X hx hret hn hi hd hr) eT hQ hc hl
theorem Go.ret0 {p : Program} {l : Launch} {e : Env} {R : Room} {s : State} {m : MethodId} {args : Array Value} {below : List Frame} {meth : Method} {c : Code} {T : State} {locs : List Loc} {cells slots : Nat} {h : Heap}
    {Q : Option Value → Heap → List Loc → Prop} {C S : Nat} {pc : Nat} {Ls : Array Slot}
    (X : Stand p l e R s m args below meth c T locs cells slots) (hlk : meth.locks = false) (hx : p.tables.exec = Jvm.exec) (hret : meth.sig.returnType = none)
    (hd : decode c.code pc = .ok (.return_, 1)) (eT : T.heap = h) (hQ : Q none h locs) (hc : cells ≤ C) (hl : slots ≤ S) : Go p e below (Done s Q C S) T (mkF m pc Ls []) :=
  Go.ret X hlk (fun _ => rfl) (fun _ hr => X.returnOut hx hret hd hr) eT hQ hc hl
/-- an entry that stands resolved stays so, also where String constants are loaded -/
theorem own_fieldRef {Z : State} {vm1 : Vm} {a0 : Array Value} {own O n d : String} {index : Nat} (hW : Z.Warmed39 vm1) (w : (Cond.fieldRef own index O n d).before a0 Z = true) : (Cond.fieldRef own index O n d).before a0 (Z.setVm vm1) = true := by
  simp only [Cond.before, Cond.holds, Cond.value, State.vm_setVm, hW.alike.findClass, State.names_setVm hW.alike] at w ⊢
  cases q1 : Z.vm.findClass own with
  | none => rw [q1] at w; simp at w
  | some cO =>
    cases q2 : Z.fieldFound? O n d with
    | none => rw [q1, q2] at w; simp at w
    | some z =>
      obtain ⟨c1, k1, i1, f1⟩ := z
      obtain ⟨k2, q3, -⟩ := State.fieldFound?_setVm hW.alike q2
      rw [q1, q2] at w
      rw [q3]
      cases q4 : Z.resolvedAt? own index with
      | none => rw [q4] at w; simp at w
      | some r => rw [State.resolvedAt?_warmed39 hW q4]; rw [q4] at w; exact w
/-- getfield through an entry that stands resolved at the start (the word fieldRef) -/
theorem own_getR {p : Program} {l : Launch} {e : Env} {R : Room} {s : State} {m : MethodId} {args : Array Value} {below : List Frame} {meth : Method} {c : Code} {T : State} {locs : List Loc} {cells slots : Nat} {Z : State} {a0 : Array Value} {h : Heap}
    (X : Stand p l e R s m args below meth c T locs cells slots) (hx : p.tables.exec = Jvm.exec) (hZ : Z.Warmed39 s.vm) {own O n d : String} {index : Nat} (hown : s.vm.findClass own = some m.cls) (w : (Cond.fieldRef own index O n d).before a0 Z = true)
    (eT : T.heap = h) {a : Addr} {v : Value} (F : Fld Z h a O n d v) {g : JFrame} (hg : g.method = m) {rest : List Value} (hs : g.stack = .ref a :: rest) (hd : decode c.code g.pc = .ok (.getfield index, 3)) :
    ∃ T', Stand p l e R s m args below meth c T' locs cells slots ∧ T'.heap = h ∧ ∀ target, Steps p.tables e below (T'.setTop { g with pc := g.pc + 3, stack := v :: rest }) target → Steps p.tables e below (T.setTop g) target := by
  obtain ⟨cell, cf, k, i, f, h1, h2, h3, h4, -, -, h7⟩ := F
  have w1 : (Cond.fieldRef own index O n d).before args s = true := (own_fieldRef hZ w : (Cond.fieldRef own index O n d).before a0 (Z.setVm s.vm) = true)
  have w2 := Cond.fieldRef_warmed X.warmed w1
  obtain ⟨k1, r1, -⟩ := State.fieldFound?_setVm (s := Z) hZ.alike h2
  obtain ⟨k2, r2, -⟩ := State.fieldFound?_setVm (s := s) X.warmed.alike (show s.fieldFound? O n d = _ from r1)
  obtain ⟨c', k', i', f', q1, q2⟩ := Cond.fieldRef_spec (s := s.setVm T.vm) (cur := m.cls) (by rw [State.vm_setVm, X.warmed.alike.findClass]; exact hown) w2
  cases q1.symm.trans r2
  exact ⟨T, X, eT, fun target k => (X.getfieldR hx hg q2 h3 hs (by rw [eT]; exact h1) h4 h7 hd (Steps.refl _)).trans k⟩
/-- the form of every contract here -/
def Con (l : Launch) (Z : State) (y : MethodName) (bytes : ByteArray) (ml : Nat) (ret : Option FieldType) (ws : List Jvm.Cond) (room : Room) (A : Array Value) (h0 : Heap) (Q : Option Value → Heap → List Loc → Prop) : Prop :=
  MetFree l y (head1 (Jvm.Cond.code y bytes ml ret :: ws) room) (fun a U => a = A ∧ Z.Warmed39 U.vm ∧ U.heap = h0) (fun _ _ _ _ _ => True) (fun _ U o U' => ∃ v L, o = .returned v ∧ Q v U'.heap L ∧ FrameEnd U o U' L room.cells room.slots)
theorem own_body {l : Launch} {Z : State} {y : MethodName} {bytes : ByteArray} {ml : Nat} {ret : Option FieldType} {ws : List Jvm.Cond} {room : Room} {A : Array Value} {h0 : Heap} {Q : Option Value → Heap → List Loc → Prop} (hpn : plainFor y = true)
    (body : ∀ (p : Program) (e : Env) (s : State) (m : MethodId) (below : List Frame) (meth : Method) (c : Code) (s₁ : State), p.tables.exec = Jvm.exec → c.code = bytes → c.maxLocals = ml → Z.Warmed39 s.vm → s.vm.findClass y.cls = some m.cls → meth.name = y.name → meth.locks = false → meth.sig.returnType = ret →
      Stand p l e room s m A below meth c s₁ [] 0 0 → s₁.heap = h0 → Go p e below (Done s Q room.cells room.slots) s₁ (entryFrame m A ml)) : Con l Z y bytes ml ret ws room A h0 Q := by
  refine MetFree.of_bodySF hpn hisR ?_
  intro p e s m args below meth c s₁ Bd hml0 hP hK
  obtain ⟨rfl, hZ, hh⟩ := hP
  exact body p e s m below meth c s₁ Bd.exec Bd.bytes hml0 hZ (findClass_of_methodNamed Bd.named) (name_of_methodNamed Bd.named Bd.method).1 Bd.notSynchronized Bd.returns (Stand.of_body Bd) (by rw [← hh, Bd.state]; rfl)
theorem own_back {l : Launch} {R : Room} {p : Program} {e : Env} {below : List Frame} {s Z : State} {args a0 : Array Value} {h : Heap} {y : MethodName} {bytes : ByteArray} {maxL : Nat} {ret : Option FieldType} {rm : Room} {len W : Nat} {as' : Array Value} {Q : Option Value → Heap → List Loc → Prop}
    (hM : Con l Z y bytes maxL ret [] rm as' h Q) (hZ : Z.Warmed39 s.vm) (wc : (Cond.code y bytes maxL ret).before a0 Z = true) (wz : (Cond.initialized y.cls).before a0 Z = true) (hf : rm.frames + 1 ≤ R.frames) (hl : W + (maxL + 11) + rm.locals ≤ R.locals) :
    Back l R p e below s args y len W (fun A a => a = as' ∧ A.U.heap = h ∧ A.cells + rm.cells ≤ R.cells ∧ A.slots + rm.slots ≤ R.slots)
      (fun A _ v B => ∃ L, Q v B.U.heap L ∧ B.locs = A.locs ++ L ∧ B.cells = A.cells + rm.cells ∧ B.slots = A.slots + rm.slots) := backOf (Q := Q) hM hZ wc wz hf hl
theorem Con.weaken {l : Launch} {Z : State} {y : MethodName} {bytes : ByteArray} {ml : Nat} {ret : Option FieldType} {ws : List Jvm.Cond} {room : Room} {A : Array Value} {h0 : Heap} {Q Q' : Option Value → Heap → List Loc → Prop} (h : Con l Z y bytes ml ret ws room A h0 Q) (hq : ∀ v h L, Q v h L → Q' v h L) : Con l Z y bytes ml ret ws room A h0 Q' := fun p e h1 h2 h3 s m args below hf happ hP hK => by
  obtain ⟨n, o, a, b, c, v, L, d, e, f⟩ := h p e h1 h2 h3 s m args below hf happ hP hK
  exact ⟨n, o, a, b, c, v, L, d, hq _ _ _ e, f⟩
theorem own_cat {v : Value} (h : v.isRef = true) : v.category = 1 := by cases v <;> first | rfl | (simp [Value.isRef] at h)
theorem acYes {c : ClassFile.ACond} {x y : Value} (h : x = y) : acV c (decide (x = y)) = acV c true := by rw [decide_eq_true h]

theorem own_weaken {l : Launch} {x : MethodName} {S : Spec} {P : Array Value → State → Prop} {K : Program → Env → List Frame → State → Array Value → Prop} {Q Q' : Array Value → State → Outcome → State → Prop} (h : MetFree l x S P K Q) (hq : ∀ a s o t, Q a s o t → Q' a s o t) : MetFree l x S P K Q' := fun p e h1 h2 h3 s m args below hf happ hP hK => by
  obtain ⟨n, o, a, b, c, d⟩ := h p e h1 h2 h3 s m args below hf happ hP hK
  exact ⟨n, o, a, b, c, hq _ _ _ _ d⟩
section Start
variable {args : Array Value} {first s : State} {o : Option Outcome} {idx : List Nat} {t u : Term}
theorem own_eq_int {k : Int32} (h : (Jvm.Cond.eq t (.int k)).value args first o s idx = some true) : t.eval args first o idx s = some (.int k) := by
  simp only [Cond.value, Term.eval] at h
  cases ht : t.eval args first o idx s with
  | none => simp [ht] at h
  | some x => cases x <;> simp [ht] at h ⊢ <;> exact h
theorem own_eq_ref {a : Addr} (h : (Jvm.Cond.eq t u).value args first o s idx = some true) (hu : u.eval args first o idx s = some (.ref a)) : t.eval args first o idx s = some (.ref a) := by
  simp only [Cond.value] at h
  rw [hu] at h
  cases ht : t.eval args first o idx s with
  | none => simp [ht] at h
  | some x => cases x <;> simp [ht] at h ⊢ <;> exact h
theorem own_len {a : Addr} {cl : Cell} {z : Int32} (h : (Term.length t).eval args first o idx s = some (.int z)) (ht : t.eval args first o idx s = some (.ref a)) (hc : s.heap[a]? = some cl) : cl.slots.size < 2 ^ 31 ∧ cl.slots.size.toInt32 = z := by
  obtain ⟨a', cell, e1, e2, e3⟩ := Term.length_spec h
  cases ht.symm.trans e1
  have e4 := (State.arrayAt?_spec e2).1
  cases hc.symm.trans e4
  refine ⟨?_, (Value.int.inj e3).symm⟩
  by_cases hn : cl.slots.size < 2147483648
  · exact hn
  · simp only [Term.eval, Option.bind_eq_bind, ht, Option.bind_some, e2] at h
    rw [if_neg hn] at h; cases h
theorem own_ne_int {z : Int32} (h : (Jvm.Cond.not (Jvm.Cond.eq t (.int 0))).value args first o s idx = some true) (ht : t.eval args first o idx s = some (.int z)) : ¬ z = 0 := by
  have h1 := not_v h
  intro e
  subst e
  simp [Cond.value, Term.eval, ht] at h1
theorem own_fld {a : Addr} {C n d : String} {k : Int32} (h : (Jvm.Cond.eq (Term.field t C n d) (.int k)).value args s none s [] = some true) (ht : t.eval args s none [] s = some (.ref a)) : Fld s s.heap a C n d (.int k) :=
  Fld.start (by rw [← fld_at ht]; exact own_eq_int h)
theorem own_elem {a : Addr} {cl : Cell} {w : Addr} {j : Int32} {i : Nat} (h : (Jvm.Cond.eq (Term.elem t (.int j)) u).value args s none s [] = some true) (hu : u.eval args s none [] s = some (.ref w)) (ht : t.eval args s none [] s = some (.ref a)) (hc : s.heap[a]? = some cl) (hj : j.toNatClampNeg = i) : cl.slots[i]? = some (.ref w) := by
  subst hj
  exact (elem_in (own_eq_ref h hu) ht rfl hc).2
end Start

def World1 (Z : State) (w__VALUES : Addr) (w_TLS : Addr) (w_SIM : Addr) (w_TTLS : Addr) (w_AKA : Addr) (w_AKA_PRIME : Addr) (w_EMPTY : Addr) (k__VALUES : ClassId) : Prop :=
  Sta Z Z.heap "com/example/lapwing/lapwing/eap/EapMethod" "$VALUES" "[Lcom/example/lapwing/lapwing/eap/EapMethod;" (.ref w__VALUES) ∧
  Exa Z Z.heap w__VALUES "[Lcom/example/lapwing/lapwing/eap/EapMethod;" ∧
  Sta Z Z.heap "com/example/lapwing/lapwing/eap/EapMethod" "TLS" "Lcom/example/lapwing/lapwing/eap/EapMethod;" (.ref w_TLS) ∧
  Exa Z Z.heap w_TLS "com/example/lapwing/lapwing/eap/EapMethod" ∧
  Sta Z Z.heap "com/example/lapwing/lapwing/eap/EapMethod" "SIM" "Lcom/example/lapwing/lapwing/eap/EapMethod;" (.ref w_SIM) ∧
  Exa Z Z.heap w_SIM "com/example/lapwing/lapwing/eap/EapMethod" ∧
  Sta Z Z.heap "com/example/lapwing/lapwing/eap/EapMethod" "TTLS" "Lcom/example/lapwing/lapwing/eap/EapMethod;" (.ref w_TTLS) ∧
  Exa Z Z.heap w_TTLS "com/example/lapwing/lapwing/eap/EapMethod" ∧
  Sta Z Z.heap "com/example/lapwing/lapwing/eap/EapMethod" "AKA" "Lcom/example/lapwing/lapwing/eap/EapMethod;" (.ref w_AKA) ∧
  Exa Z Z.heap w_AKA "com/example/lapwing/lapwing/eap/EapMethod" ∧
  Sta Z Z.heap "com/example/lapwing/lapwing/eap/EapMethod" "AKA_PRIME" "Lcom/example/lapwing/lapwing/eap/EapMethod;" (.ref w_AKA_PRIME) ∧
  Exa Z Z.heap w_AKA_PRIME "com/example/lapwing/lapwing/eap/EapMethod" ∧
  Sta Z Z.heap "java/util/Optional" "EMPTY" "Ljava/util/Optional;" (.ref w_EMPTY) ∧
  Exa Z Z.heap w_EMPTY "java/util/Optional" ∧
  Fld Z Z.heap w_TLS "com/example/lapwing/lapwing/eap/EapMethod" "number" "I" (.int (13 : Int32)) ∧
  Fld Z Z.heap w_SIM "com/example/lapwing/lapwing/eap/EapMethod" "number" "I" (.int (18 : Int32)) ∧
  Fld Z Z.heap w_TTLS "com/example/lapwing/lapwing/eap/EapMethod" "number" "I" (.int (21 : Int32)) ∧
  Fld Z Z.heap w_AKA "com/example/lapwing/lapwing/eap/EapMethod" "number" "I" (.int (23 : Int32)) ∧
  Fld Z Z.heap w_AKA_PRIME "com/example/lapwing/lapwing/eap/EapMethod" "number" "I" (.int (50 : Int32)) ∧
  Fld Z Z.heap w_EMPTY "java/util/Optional" "value" "Ljava/lang/Object;" .null ∧
  Arv Z Z.heap w__VALUES k__VALUES (Jvm.ClassFile.FieldType.object "com/example/lapwing/lapwing/eap/EapMethod") (5 : Int32) [(.ref w_TLS), (.ref w_SIM), (.ref w_TTLS), (.ref w_AKA), (.ref w_AKA_PRIME)] .null
theorem pn_com_example_lapwing_lapwing_eap_EapMethod : plainName "com/example/lapwing/lapwing/eap/EapMethod" = true := by first | (simp [plainName, overriddenIn]; done) | decide +kernel
theorem d3_0 : decode prog_11_method_1_code 0 = .ok (.getstatic 19, 3) := by decide +kernel
theorem d3_3 : decode prog_11_method_1_code 3 = .ok (.invokevirtual 23, 3) := by decide +kernel
theorem d3_6 : decode prog_11_method_1_code 6 = .ok (.checkcast 24, 3) := by decide +kernel
theorem d3_9 : decode prog_11_method_1_code 9 = .ok (.areturn, 1) := by decide +kernel
set_option maxRecDepth 65536 in
set_option maxHeartbeats 40000000 in
theorem rmV (l : Launch) (Z : State) (a0 : Array Value) (hw : ∀ d ∈ tables_1, d.before a0 Z = true) (ws : List Jvm.Cond) (w__VALUES : Addr) (w_TLS : Addr) (w_SIM : Addr) (w_TTLS : Addr) (w_AKA : Addr) (w_AKA_PRIME : Addr) (w_EMPTY : Addr) (k__VALUES : ClassId) (h0 : Heap) (n0 : Nat) (O0 : Old Z n0 h0) (WW : World1 Z w__VALUES w_TLS w_SIM w_TTLS w_AKA w_AKA_PRIME w_EMPTY k__VALUES) :
    Con l Z (⟨"com/example/lapwing/lapwing/eap/EapMethod", "values", "()[Lcom/example/lapwing/lapwing/eap/EapMethod;"⟩ : MethodName) prog_11_method_1_code 0 (some (.array (.object "com/example/lapwing/lapwing/eap/EapMethod"))) ws ({ frames := 1, cells := 1, slots := 5, locals := 14 } : Room) #[] h0 (fun v h L => ∃ b : Addr, v = some (.ref b) ∧ Fr n0 L ∧ h0.size ≤ b ∧ Keep h0 h [] ∧ Arv Z h b k__VALUES (Jvm.ClassFile.FieldType.object "com/example/lapwing/lapwing/eap/EapMethod") (5 : Int32) [(.ref w_TLS), (.ref w_SIM), (.ref w_TTLS), (.ref w_AKA), (.ref w_AKA_PRIME)] .null ∧ Exa Z h b "[Lcom/example/lapwing/lapwing/eap/EapMethod;") := by
  refine own_body (plainFor_of_name pn_com_example_lapwing_lapwing_eap_EapMethod) ?_
  intro p e s m below meth c s₁ hx hby hml hZ hown hnm hlk hret X0 e0
  have N0 := Fr.nil n0
  have K0 : Keep h0 h0 [] := Keep.refl _ _
  refine Go.st (T' := s₁) (f' := (mkF m 0 #[] [])) (fun _ k => castTop (by first | (simp [entryFrame, mkF, argsToLocals, Value.category]; done) | rfl) k) ?_
  have ⟨S_w__VALUES, E_w__VALUES, S_w_TLS, E_w_TLS, S_w_SIM, E_w_SIM, S_w_TTLS, E_w_TTLS, S_w_AKA, E_w_AKA, S_w_AKA_PRIME, E_w_AKA_PRIME, S_w_EMPTY, E_w_EMPTY, F_w_TLS_number, F_w_SIM_number, F_w_TTLS_number, F_w_AKA_number, F_w_AKA_PRIME_number, F_w_EMPTY_value, V_w__VALUES⟩ := WW
  have lt_w__VALUES := E_w__VALUES.lt
  have lt_w_TLS := E_w_TLS.lt
  have lt_w_SIM := E_w_SIM.lt
  have lt_w_TTLS := E_w_TTLS.lt
  have lt_w_AKA := E_w_AKA.lt
  have lt_w_AKA_PRIME := E_w_AKA_PRIME.lt
  have lt_w_EMPTY := E_w_EMPTY.lt
  obtain ⟨T1, X1, e1, st1⟩ := getS2 X0 hx hZ hown (host := "") (Or.inl (hw _ (List.mem_of_getElem? (i := 11) rfl))) Via.refl e0 (S_w__VALUES.ext O0.2) (g := (mkF m 0 #[] [])) rfl (hb hby d3_0)
  refine Go.st (f' := (mkF m 3 #[] [(.ref w__VALUES)])) (fun _ k => st1 _ k) ?_
  obtain ⟨T3, h3, X3, e3, E3, V3, A3, st3⟩ := cloneH X1 hx hZ hown (hw _ (List.mem_of_getElem? (i := 13) rfl)) (hw _ (List.mem_of_getElem? (i := 14) rfl)) (hw _ (List.mem_of_getElem? (i := 18) rfl)) (hw _ (List.mem_of_getElem? (i := 16) rfl)) (hw _ (List.mem_of_getElem? (i := 17) rfl)) (hw _ (List.mem_of_getElem? (i := 19) rfl)) e1 (Arv.arh (V_w__VALUES.ext O0.2)) (E_w__VALUES.ext O0.2) (g := (mkF m 3 #[] [(.ref w__VALUES)])) rfl (by rw [hml]; rfl) rfl (hb hby d3_3) (by decide) (W := 0) (by show 2 * 0 + _ ≤ _; exact Nat.le_of_eq rfl) (by decide) (cap := 5) (by decide) (by decide) (by decide)
  obtain ⟨b3, g3⟩ : ∃ z, z = h0.size := ⟨_, rfl⟩
  rw [← g3] at V3 A3 st3
  have ne_w__VALUES_b3 : w__VALUES ≠ b3 := Nat.ne_of_lt (Nat.lt_of_lt_of_le lt_w__VALUES (Nat.le_trans O0.2.1 (Nat.le_of_eq g3.symm)))
  have ne_w_TLS_b3 : w_TLS ≠ b3 := Nat.ne_of_lt (Nat.lt_of_lt_of_le lt_w_TLS (Nat.le_trans O0.2.1 (Nat.le_of_eq g3.symm)))
  have ne_w_SIM_b3 : w_SIM ≠ b3 := Nat.ne_of_lt (Nat.lt_of_lt_of_le lt_w_SIM (Nat.le_trans O0.2.1 (Nat.le_of_eq g3.symm)))
  have ne_w_TTLS_b3 : w_TTLS ≠ b3 := Nat.ne_of_lt (Nat.lt_of_lt_of_le lt_w_TTLS (Nat.le_trans O0.2.1 (Nat.le_of_eq g3.symm)))
  have ne_w_AKA_b3 : w_AKA ≠ b3 := Nat.ne_of_lt (Nat.lt_of_lt_of_le lt_w_AKA (Nat.le_trans O0.2.1 (Nat.le_of_eq g3.symm)))
  have ne_w_AKA_PRIME_b3 : w_AKA_PRIME ≠ b3 := Nat.ne_of_lt (Nat.lt_of_lt_of_le lt_w_AKA_PRIME (Nat.le_trans O0.2.1 (Nat.le_of_eq g3.symm)))
  have ne_w_EMPTY_b3 : w_EMPTY ≠ b3 := Nat.ne_of_lt (Nat.lt_of_lt_of_le lt_w_EMPTY (Nat.le_trans O0.2.1 (Nat.le_of_eq g3.symm)))
  have g_b3 : n0 ≤ b3 := Nat.le_trans (O0.1 ▸ O0.2.1) (Nat.le_of_eq g3.symm)
  have O3 : Old Z n0 h3 := O0.ext E3
  have sz_b3 : h0.size ≤ b3 := Nat.le_trans K0.1 (Nat.le_of_eq g3.symm)
  have K3 : Keep h0 h3 [] := K0.ext E3
  have V_b3 : Arv Z h3 b3 k__VALUES (Jvm.ClassFile.FieldType.object "com/example/lapwing/lapwing/eap/EapMethod") (5 : Int32) [(.ref w_TLS), (.ref w_SIM), (.ref w_TTLS), (.ref w_AKA), (.ref w_AKA_PRIME)] .null := V3
  have lt_b3 := A3.lt
  refine Go.st (f' := (mkF m 6 #[] [(.ref b3)])) (fun _ k => st3 _ k) ?_
  obtain ⟨T4, X4, e4, st4⟩ := castY X3 hx hZ hown (hw _ (List.mem_of_getElem? (i := 26) rfl)) e3 (Ins.self A3) (g := (mkF m 6 #[] [(.ref b3)])) rfl rfl (hb hby d3_6)
  refine Go.st (f' := (mkF m 9 #[] [(.ref b3)])) (fun _ k => st4 _ k) ?_
  refine Go.retV X4 hlk hx (t := (.array (.object "com/example/lapwing/lapwing/eap/EapMethod"))) hret rfl (Or.inr (Or.inr (Or.inr (Or.inr ⟨rfl, rfl, rfl⟩)))) (hb hby d3_9) e4 ?_ (by decide) (by decide)
  exact ⟨b3, rfl, N0, sz_b3, K3, V_b3, A3⟩
theorem pn_com_example_lapwing_lapwing_eap_EapMethodForNumberPinLaw : plainName "com/example/lapwing/lapwing/eap/EapMethodForNumberPinLaw" = true := by first | (simp [plainName, overriddenIn]; done) | decide +kernel
theorem d1_0 : decode method_3_code 0 = .ok (.iload_n 1, 1) := by decide +kernel
theorem d1_1 : decode method_3_code 1 = .ok (.bipush 7, 2) := by decide +kernel
theorem d1_3 : decode method_3_code 3 = .ok (.iand, 1) := by decide +kernel
theorem d1_4 : decode method_3_code 4 = .ok (.istore_n 2, 1) := by decide +kernel
theorem d1_5 : decode method_3_code 5 = .ok (.iload_n 2, 1) := by decide +kernel
theorem d1_6 : decode method_3_code 6 = .ok (.ifCond .ne 6, 3) := by decide +kernel
theorem d1_9 : decode method_3_code 9 = .ok (.bipush 13, 2) := by decide +kernel
theorem d1_11 : decode method_3_code 11 = .ok (.ireturn, 1) := by decide +kernel
theorem d1_12 : decode method_3_code 12 = .ok (.iload_n 2, 1) := by decide +kernel
theorem d1_13 : decode method_3_code 13 = .ok (.iconst 1, 1) := by decide +kernel
theorem d1_14 : decode method_3_code 14 = .ok (.if_icmp .ne 6, 3) := by decide +kernel
theorem d1_17 : decode method_3_code 17 = .ok (.bipush 18, 2) := by decide +kernel
theorem d1_19 : decode method_3_code 19 = .ok (.ireturn, 1) := by decide +kernel
theorem d1_20 : decode method_3_code 20 = .ok (.iload_n 2, 1) := by decide +kernel
theorem d1_21 : decode method_3_code 21 = .ok (.iconst 2, 1) := by decide +kernel
theorem d1_22 : decode method_3_code 22 = .ok (.if_icmp .ne 6, 3) := by decide +kernel
theorem d1_25 : decode method_3_code 25 = .ok (.bipush 21, 2) := by decide +kernel
theorem d1_27 : decode method_3_code 27 = .ok (.ireturn, 1) := by decide +kernel
theorem d1_28 : decode method_3_code 28 = .ok (.iload_n 2, 1) := by decide +kernel
theorem d1_29 : decode method_3_code 29 = .ok (.iconst 3, 1) := by decide +kernel
theorem d1_30 : decode method_3_code 30 = .ok (.if_icmp .ne 6, 3) := by decide +kernel
theorem d1_33 : decode method_3_code 33 = .ok (.bipush 23, 2) := by decide +kernel
theorem d1_35 : decode method_3_code 35 = .ok (.ireturn, 1) := by decide +kernel
theorem d1_36 : decode method_3_code 36 = .ok (.iload_n 2, 1) := by decide +kernel
theorem d1_37 : decode method_3_code 37 = .ok (.iconst 4, 1) := by decide +kernel
theorem d1_38 : decode method_3_code 38 = .ok (.if_icmp .ne 6, 3) := by decide +kernel
theorem d1_41 : decode method_3_code 41 = .ok (.bipush 50, 2) := by decide +kernel
theorem d1_43 : decode method_3_code 43 = .ok (.ireturn, 1) := by decide +kernel
theorem d1_44 : decode method_3_code 44 = .ok (.iload_n 2, 1) := by decide +kernel
theorem d1_45 : decode method_3_code 45 = .ok (.iconst 5, 1) := by decide +kernel
theorem d1_46 : decode method_3_code 46 = .ok (.if_icmp .ne 8, 3) := by decide +kernel
theorem d1_49 : decode method_3_code 49 = .ok (.iload_n 0, 1) := by decide +kernel
theorem d1_50 : decode method_3_code 50 = .ok (.bipush 63, 2) := by decide +kernel
theorem d1_52 : decode method_3_code 52 = .ok (.iand, 1) := by decide +kernel
theorem d1_53 : decode method_3_code 53 = .ok (.ireturn, 1) := by decide +kernel
theorem d1_54 : decode method_3_code 54 = .ok (.iload_n 0, 1) := by decide +kernel
theorem d1_55 : decode method_3_code 55 = .ok (.ireturn, 1) := by decide +kernel
def pkI (p1 : Int32) (p2 : Int32) : Int32 := (if (p2 &&& (7 : Int32)) = (0 : Int32) then (13 : Int32) else (if (p2 &&& (7 : Int32)) = (1 : Int32) then (18 : Int32) else (if (p2 &&& (7 : Int32)) = (2 : Int32) then (21 : Int32) else (if (p2 &&& (7 : Int32)) = (3 : Int32) then (23 : Int32) else (if (p2 &&& (7 : Int32)) = (4 : Int32) then (50 : Int32) else (if (p2 &&& (7 : Int32)) = (5 : Int32) then (p1 &&& (63 : Int32)) else p1))))))
set_option maxRecDepth 65536 in
set_option maxHeartbeats 40000000 in
theorem rmP (l : Launch) (Z : State) (a0 : Array Value) (hw : ∀ d ∈ tables_1, d.before a0 Z = true) (ws : List Jvm.Cond) (p1 : Int32) (p2 : Int32) (h0 : Heap) (n0 : Nat) (O0 : Old Z n0 h0)  :
    Con l Z (⟨"com/example/lapwing/lapwing/eap/EapMethodForNumberPinLaw", "pick", "(II)I"⟩ : MethodName) method_3_code 3 (some .int) ws ({ frames := 0, cells := 0, slots := 0, locals := 0 } : Room) #[(.int p1), (.int p2)] h0 (fun v h L => v = some (.int (pkI p1 p2)) ∧ Fr n0 L ∧ h = h0) := by
  refine own_body (plainFor_of_name pn_com_example_lapwing_lapwing_eap_EapMethodForNumberPinLaw) ?_
  intro p e s m below meth c s₁ hx hby hml hZ hown hnm hlk hret X0 e0
  have N0 := Fr.nil n0
  refine Go.st (T' := s₁) (f' := (mkF m 0 #[iv p1, iv p2, .unset] [])) (fun _ k => castTop (by first | (simp [entryFrame, mkF, argsToLocals, Value.category]; done) | rfl) k) ?_
  refine Go.st (f' := (mkF m 1 #[iv p1, iv p2, .unset] [(.int p2)])) (fun _ k => XS.iloadN X0.here hx rfl (hb hby d1_0) rfl k) ?_
  refine Go.st (f' := (mkF m 3 #[iv p1, iv p2, .unset] [(.int 7), (.int p2)])) (fun _ k => XS.bipush X0.here hx rfl (hb hby d1_1) k) ?_
  refine Go.st (f' := (mkF m 4 #[iv p1, iv p2, .unset] [(.int (p2 &&& (7 : Int32)))])) (fun _ k => XS.iand X0.here hx rfl (hb hby d1_3) rfl k) ?_
  refine Go.st (f' := (mkF m 5 #[iv p1, iv p2, .val (.int (p2 &&& (7 : Int32)))] [])) (fun _ k => XS.istoreN X0.here hx rfl (hb hby d1_4) rfl (l' := #[iv p1, iv p2, .val (.int (p2 &&& (7 : Int32)))]) rfl k) ?_
  refine Go.st (f' := (mkF m 6 #[iv p1, iv p2, .val (.int (p2 &&& (7 : Int32)))] [(.int (p2 &&& (7 : Int32)))])) (fun _ k => XS.iloadN X0.here hx rfl (hb hby d1_5) rfl k) ?_
  by_cases cd1 : (p2 &&& (7 : Int32)) = (0 : Int32)
  · refine Go.st (f' := (mkF m 9 #[iv p1, iv p2, .val (.int (p2 &&& (7 : Int32)))] [])) (fun _ k => XS.ifNo X0.here hx rfl (hb hby d1_6) rfl ((if0 _ _).trans (teq cd1).2) k) ?_
    refine Go.st (f' := (mkF m 11 #[iv p1, iv p2, .val (.int (p2 &&& (7 : Int32)))] [(.int 13)])) (fun _ k => XS.bipush X0.here hx rfl (hb hby d1_9) k) ?_
    refine Go.retV X0 hlk hx (t := .int) hret rfl (Or.inl ⟨rfl, Or.inl rfl, _, rfl⟩) (hb hby d1_11) e0 ?_ (by decide) (by decide)
    show (some (.int (13 : Int32)) : Option Value) = some (.int (pkI p1 p2)) ∧ _
    exact ⟨by rw [pkI, if_pos cd1], N0, rfl⟩
  · refine Go.st (f' := (mkF m 12 #[iv p1, iv p2, .val (.int (p2 &&& (7 : Int32)))] [])) (fun _ k => XS.ifYes X0.here hx rfl (pc0 := 6) (pc' := 12) rfl (hb hby d1_6) rfl ((if0 _ _).trans (feq cd1).2) (by decide) (by decide) k) ?_
    refine Go.st (f' := (mkF m 13 #[iv p1, iv p2, .val (.int (p2 &&& (7 : Int32)))] [(.int (p2 &&& (7 : Int32)))])) (fun _ k => XS.iloadN X0.here hx rfl (hb hby d1_12) rfl k) ?_
    refine Go.st (f' := (mkF m 14 #[iv p1, iv p2, .val (.int (p2 &&& (7 : Int32)))] [(.int 1), (.int (p2 &&& (7 : Int32)))])) (fun _ k => XS.iconst X0.here hx rfl (hb hby d1_13) k) ?_
    by_cases cd2 : (p2 &&& (7 : Int32)) = (1 : Int32)
    · refine Go.st (f' := (mkF m 17 #[iv p1, iv p2, .val (.int (p2 &&& (7 : Int32)))] [])) (fun _ k => XS.icmpNo X0.here hx rfl (hb hby d1_14) rfl (teq cd2).2 k) ?_
      refine Go.st (f' := (mkF m 19 #[iv p1, iv p2, .val (.int (p2 &&& (7 : Int32)))] [(.int 18)])) (fun _ k => XS.bipush X0.here hx rfl (hb hby d1_17) k) ?_
      refine Go.retV X0 hlk hx (t := .int) hret rfl (Or.inl ⟨rfl, Or.inl rfl, _, rfl⟩) (hb hby d1_19) e0 ?_ (by decide) (by decide)
      show (some (.int (18 : Int32)) : Option Value) = some (.int (pkI p1 p2)) ∧ _
      exact ⟨by rw [pkI, if_neg cd1, if_pos cd2], N0, rfl⟩
    · refine Go.st (f' := (mkF m 20 #[iv p1, iv p2, .val (.int (p2 &&& (7 : Int32)))] [])) (fun _ k => XS.icmpYes X0.here hx rfl (pc0 := 14) (pc' := 20) rfl (hb hby d1_14) rfl (feq cd2).2 (by decide) (by decide) k) ?_
      refine Go.st (f' := (mkF m 21 #[iv p1, iv p2, .val (.int (p2 &&& (7 : Int32)))] [(.int (p2 &&& (7 : Int32)))])) (fun _ k => XS.iloadN X0.here hx rfl (hb hby d1_20) rfl k) ?_
      refine Go.st (f' := (mkF m 22 #[iv p1, iv p2, .val (.int (p2 &&& (7 : Int32)))] [(.int 2), (.int (p2 &&& (7 : Int32)))])) (fun _ k => XS.iconst X0.here hx rfl (hb hby d1_21) k) ?_
      by_cases cd3 : (p2 &&& (7 : Int32)) = (2 : Int32)
      · refine Go.st (f' := (mkF m 25 #[iv p1, iv p2, .val (.int (p2 &&& (7 : Int32)))] [])) (fun _ k => XS.icmpNo X0.here hx rfl (hb hby d1_22) rfl (teq cd3).2 k) ?_
        refine Go.st (f' := (mkF m 27 #[iv p1, iv p2, .val (.int (p2 &&& (7 : Int32)))] [(.int 21)])) (fun _ k => XS.bipush X0.here hx rfl (hb hby d1_25) k) ?_
        refine Go.retV X0 hlk hx (t := .int) hret rfl (Or.inl ⟨rfl, Or.inl rfl, _, rfl⟩) (hb hby d1_27) e0 ?_ (by decide) (by decide)
        show (some (.int (21 : Int32)) : Option Value) = some (.int (pkI p1 p2)) ∧ _
        exact ⟨by rw [pkI, if_neg cd1, if_neg cd2, if_pos cd3], N0, rfl⟩
      · refine Go.st (f' := (mkF m 28 #[iv p1, iv p2, .val (.int (p2 &&& (7 : Int32)))] [])) (fun _ k => XS.icmpYes X0.here hx rfl (pc0 := 22) (pc' := 28) rfl (hb hby d1_22) rfl (feq cd3).2 (by decide) (by decide) k) ?_
        refine Go.st (f' := (mkF m 29 #[iv p1, iv p2, .val (.int (p2 &&& (7 : Int32)))] [(.int (p2 &&& (7 : Int32)))])) (fun _ k => XS.iloadN X0.here hx rfl (hb hby d1_28) rfl k) ?_
        refine Go.st (f' := (mkF m 30 #[iv p1, iv p2, .val (.int (p2 &&& (7 : Int32)))] [(.int 3), (.int (p2 &&& (7 : Int32)))])) (fun _ k => XS.iconst X0.here hx rfl (hb hby d1_29) k) ?_
        by_cases cd4 : (p2 &&& (7 : Int32)) = (3 : Int32)
        · refine Go.st (f' := (mkF m 33 #[iv p1, iv p2, .val (.int (p2 &&& (7 : Int32)))] [])) (fun _ k => XS.icmpNo X0.here hx rfl (hb hby d1_30) rfl (teq cd4).2 k) ?_
          refine Go.st (f' := (mkF m 35 #[iv p1, iv p2, .val (.int (p2 &&& (7 : Int32)))] [(.int 23)])) (fun _ k => XS.bipush X0.here hx rfl (hb hby d1_33) k) ?_
          refine Go.retV X0 hlk hx (t := .int) hret rfl (Or.inl ⟨rfl, Or.inl rfl, _, rfl⟩) (hb hby d1_35) e0 ?_ (by decide) (by decide)
          show (some (.int (23 : Int32)) : Option Value) = some (.int (pkI p1 p2)) ∧ _
          exact ⟨by rw [pkI, if_neg cd1, if_neg cd2, if_neg cd3, if_pos cd4], N0, rfl⟩
        · refine Go.st (f' := (mkF m 36 #[iv p1, iv p2, .val (.int (p2 &&& (7 : Int32)))] [])) (fun _ k => XS.icmpYes X0.here hx rfl (pc0 := 30) (pc' := 36) rfl (hb hby d1_30) rfl (feq cd4).2 (by decide) (by decide) k) ?_
          refine Go.st (f' := (mkF m 37 #[iv p1, iv p2, .val (.int (p2 &&& (7 : Int32)))] [(.int (p2 &&& (7 : Int32)))])) (fun _ k => XS.iloadN X0.here hx rfl (hb hby d1_36) rfl k) ?_
          refine Go.st (f' := (mkF m 38 #[iv p1, iv p2, .val (.int (p2 &&& (7 : Int32)))] [(.int 4), (.int (p2 &&& (7 : Int32)))])) (fun _ k => XS.iconst X0.here hx rfl (hb hby d1_37) k) ?_
          by_cases cd5 : (p2 &&& (7 : Int32)) = (4 : Int32)
          · refine Go.st (f' := (mkF m 41 #[iv p1, iv p2, .val (.int (p2 &&& (7 : Int32)))] [])) (fun _ k => XS.icmpNo X0.here hx rfl (hb hby d1_38) rfl (teq cd5).2 k) ?_
            refine Go.st (f' := (mkF m 43 #[iv p1, iv p2, .val (.int (p2 &&& (7 : Int32)))] [(.int 50)])) (fun _ k => XS.bipush X0.here hx rfl (hb hby d1_41) k) ?_
            refine Go.retV X0 hlk hx (t := .int) hret rfl (Or.inl ⟨rfl, Or.inl rfl, _, rfl⟩) (hb hby d1_43) e0 ?_ (by decide) (by decide)
            show (some (.int (50 : Int32)) : Option Value) = some (.int (pkI p1 p2)) ∧ _
            exact ⟨by rw [pkI, if_neg cd1, if_neg cd2, if_neg cd3, if_neg cd4, if_pos cd5], N0, rfl⟩
          · refine Go.st (f' := (mkF m 44 #[iv p1, iv p2, .val (.int (p2 &&& (7 : Int32)))] [])) (fun _ k => XS.icmpYes X0.here hx rfl (pc0 := 38) (pc' := 44) rfl (hb hby d1_38) rfl (feq cd5).2 (by decide) (by decide) k) ?_
            refine Go.st (f' := (mkF m 45 #[iv p1, iv p2, .val (.int (p2 &&& (7 : Int32)))] [(.int (p2 &&& (7 : Int32)))])) (fun _ k => XS.iloadN X0.here hx rfl (hb hby d1_44) rfl k) ?_
            refine Go.st (f' := (mkF m 46 #[iv p1, iv p2, .val (.int (p2 &&& (7 : Int32)))] [(.int 5), (.int (p2 &&& (7 : Int32)))])) (fun _ k => XS.iconst X0.here hx rfl (hb hby d1_45) k) ?_
            by_cases cd6 : (p2 &&& (7 : Int32)) = (5 : Int32)
            · refine Go.st (f' := (mkF m 49 #[iv p1, iv p2, .val (.int (p2 &&& (7 : Int32)))] [])) (fun _ k => XS.icmpNo X0.here hx rfl (hb hby d1_46) rfl (teq cd6).2 k) ?_
              refine Go.st (f' := (mkF m 50 #[iv p1, iv p2, .val (.int (p2 &&& (7 : Int32)))] [(.int p1)])) (fun _ k => XS.iloadN X0.here hx rfl (hb hby d1_49) rfl k) ?_
              refine Go.st (f' := (mkF m 52 #[iv p1, iv p2, .val (.int (p2 &&& (7 : Int32)))] [(.int 63), (.int p1)])) (fun _ k => XS.bipush X0.here hx rfl (hb hby d1_50) k) ?_
              refine Go.st (f' := (mkF m 53 #[iv p1, iv p2, .val (.int (p2 &&& (7 : Int32)))] [(.int (p1 &&& (63 : Int32)))])) (fun _ k => XS.iand X0.here hx rfl (hb hby d1_52) rfl k) ?_
              refine Go.retV X0 hlk hx (t := .int) hret rfl (Or.inl ⟨rfl, Or.inl rfl, _, rfl⟩) (hb hby d1_53) e0 ?_ (by decide) (by decide)
              show (some (.int (p1 &&& (63 : Int32))) : Option Value) = some (.int (pkI p1 p2)) ∧ _
              exact ⟨by rw [pkI, if_neg cd1, if_neg cd2, if_neg cd3, if_neg cd4, if_neg cd5, if_pos cd6], N0, rfl⟩
            · refine Go.st (f' := (mkF m 54 #[iv p1, iv p2, .val (.int (p2 &&& (7 : Int32)))] [])) (fun _ k => XS.icmpYes X0.here hx rfl (pc0 := 46) (pc' := 54) rfl (hb hby d1_46) rfl (feq cd6).2 (by decide) (by decide) k) ?_
              refine Go.st (f' := (mkF m 55 #[iv p1, iv p2, .val (.int (p2 &&& (7 : Int32)))] [(.int p1)])) (fun _ k => XS.iloadN X0.here hx rfl (hb hby d1_54) rfl k) ?_
              refine Go.retV X0 hlk hx (t := .int) hret rfl (Or.inl ⟨rfl, Or.inl rfl, _, rfl⟩) (hb hby d1_55) e0 ?_ (by decide) (by decide)
              show (some (.int p1) : Option Value) = some (.int (pkI p1 p2)) ∧ _
              exact ⟨by rw [pkI, if_neg cd1, if_neg cd2, if_neg cd3, if_neg cd4, if_neg cd5, if_neg cd6], N0, rfl⟩
theorem d9_0 : decode method_2_code 0 = .ok (.iload_n 0, 1) := by decide +kernel
theorem d9_1 : decode method_2_code 1 = .ok (.bipush 13, 2) := by decide +kernel
theorem d9_3 : decode method_2_code 3 = .ok (.if_icmp .ne 7, 3) := by decide +kernel
theorem d9_6 : decode method_2_code 6 = .ok (.getstatic 7, 3) := by decide +kernel
theorem d9_9 : decode method_2_code 9 = .ok (.areturn, 1) := by decide +kernel
theorem d9_10 : decode method_2_code 10 = .ok (.iload_n 0, 1) := by decide +kernel
theorem d9_11 : decode method_2_code 11 = .ok (.bipush 18, 2) := by decide +kernel
theorem d9_13 : decode method_2_code 13 = .ok (.if_icmp .ne 7, 3) := by decide +kernel
theorem d9_16 : decode method_2_code 16 = .ok (.getstatic 13, 3) := by decide +kernel
theorem d9_19 : decode method_2_code 19 = .ok (.areturn, 1) := by decide +kernel
theorem d9_20 : decode method_2_code 20 = .ok (.iload_n 0, 1) := by decide +kernel
theorem d9_21 : decode method_2_code 21 = .ok (.bipush 21, 2) := by decide +kernel
theorem d9_23 : decode method_2_code 23 = .ok (.if_icmp .ne 7, 3) := by decide +kernel
theorem d9_26 : decode method_2_code 26 = .ok (.getstatic 16, 3) := by decide +kernel
theorem d9_29 : decode method_2_code 29 = .ok (.areturn, 1) := by decide +kernel
theorem d9_30 : decode method_2_code 30 = .ok (.iload_n 0, 1) := by decide +kernel
theorem d9_31 : decode method_2_code 31 = .ok (.bipush 23, 2) := by decide +kernel
theorem d9_33 : decode method_2_code 33 = .ok (.if_icmp .ne 7, 3) := by decide +kernel
theorem d9_36 : decode method_2_code 36 = .ok (.getstatic 19, 3) := by decide +kernel
theorem d9_39 : decode method_2_code 39 = .ok (.areturn, 1) := by decide +kernel
theorem d9_40 : decode method_2_code 40 = .ok (.iload_n 0, 1) := by decide +kernel
theorem d9_41 : decode method_2_code 41 = .ok (.bipush 50, 2) := by decide +kernel
theorem d9_43 : decode method_2_code 43 = .ok (.if_icmp .ne 7, 3) := by decide +kernel
theorem d9_46 : decode method_2_code 46 = .ok (.getstatic 22, 3) := by decide +kernel
theorem d9_49 : decode method_2_code 49 = .ok (.areturn, 1) := by decide +kernel
theorem d9_50 : decode method_2_code 50 = .ok (.aconst_null, 1) := by decide +kernel
theorem d9_51 : decode method_2_code 51 = .ok (.areturn, 1) := by decide +kernel
def expV (p1 : Int32) (w__VALUES : Addr) (w_TLS : Addr) (w_SIM : Addr) (w_TTLS : Addr) (w_AKA : Addr) (w_AKA_PRIME : Addr) (w_EMPTY : Addr) (k__VALUES : ClassId) : Value := (if p1 = (13 : Int32) then (.ref w_TLS) else (if p1 = (18 : Int32) then (.ref w_SIM) else (if p1 = (21 : Int32) then (.ref w_TTLS) else (if p1 = (23 : Int32) then (.ref w_AKA) else (if p1 = (50 : Int32) then (.ref w_AKA_PRIME) else .null)))))
set_option maxRecDepth 65536 in
set_option maxHeartbeats 40000000 in
theorem rmX (l : Launch) (Z : State) (a0 : Array Value) (hw : ∀ d ∈ tables_1, d.before a0 Z = true) (ws : List Jvm.Cond) (p1 : Int32) (w__VALUES : Addr) (w_TLS : Addr) (w_SIM : Addr) (w_TTLS : Addr) (w_AKA : Addr) (w_AKA_PRIME : Addr) (w_EMPTY : Addr) (k__VALUES : ClassId) (h0 : Heap) (n0 : Nat) (O0 : Old Z n0 h0) (WW : World1 Z w__VALUES w_TLS w_SIM w_TTLS w_AKA w_AKA_PRIME w_EMPTY k__VALUES) :
    Con l Z (⟨"com/example/lapwing/lapwing/eap/EapMethodForNumberPinLaw", "expected", "(I)Lcom/example/lapwing/lapwing/eap/EapMethod;"⟩ : MethodName) method_2_code 1 (some (.object "com/example/lapwing/lapwing/eap/EapMethod")) ws ({ frames := 0, cells := 0, slots := 0, locals := 0 } : Room) #[(.int p1)] h0 (fun v h L => v = some (expV p1 w__VALUES w_TLS w_SIM w_TTLS w_AKA w_AKA_PRIME w_EMPTY k__VALUES) ∧ Fr n0 L ∧ h = h0) := by
  refine own_body (plainFor_of_name pn_com_example_lapwing_lapwing_eap_EapMethodForNumberPinLaw) ?_
  intro p e s m below meth c s₁ hx hby hml hZ hown hnm hlk hret X0 e0
  have N0 := Fr.nil n0
  refine Go.st (T' := s₁) (f' := (mkF m 0 #[iv p1] [])) (fun _ k => castTop (by first | (simp [entryFrame, mkF, argsToLocals, Value.category]; done) | rfl) k) ?_
  have ⟨S_w__VALUES, E_w__VALUES, S_w_TLS, E_w_TLS, S_w_SIM, E_w_SIM, S_w_TTLS, E_w_TTLS, S_w_AKA, E_w_AKA, S_w_AKA_PRIME, E_w_AKA_PRIME, S_w_EMPTY, E_w_EMPTY, F_w_TLS_number, F_w_SIM_number, F_w_TTLS_number, F_w_AKA_number, F_w_AKA_PRIME_number, F_w_EMPTY_value, V_w__VALUES⟩ := WW
  have lt_w__VALUES := E_w__VALUES.lt
  have lt_w_TLS := E_w_TLS.lt
  have lt_w_SIM := E_w_SIM.lt
  have lt_w_TTLS := E_w_TTLS.lt
  have lt_w_AKA := E_w_AKA.lt
  have lt_w_AKA_PRIME := E_w_AKA_PRIME.lt
  have lt_w_EMPTY := E_w_EMPTY.lt
  refine Go.st (f' := (mkF m 1 #[iv p1] [(.int p1)])) (fun _ k => XS.iloadN X0.here hx rfl (hb hby d9_0) rfl k) ?_
  refine Go.st (f' := (mkF m 3 #[iv p1] [(.int 13), (.int p1)])) (fun _ k => XS.bipush X0.here hx rfl (hb hby d9_1) k) ?_
  by_cases cd1 : p1 = (13 : Int32)
  · refine Go.st (f' := (mkF m 6 #[iv p1] [])) (fun _ k => XS.icmpNo X0.here hx rfl (hb hby d9_3) rfl (teq cd1).2 k) ?_
    obtain ⟨T2, X2, e2, st2⟩ := getS2 X0 hx hZ hown (host := "") (Or.inl (hw _ (List.mem_of_getElem? (i := 62) rfl))) Via.refl e0 (S_w_TLS.ext O0.2) (g := (mkF m 6 #[iv p1] [])) rfl (hb hby d9_6)
    refine Go.st (f' := (mkF m 9 #[iv p1] [(.ref w_TLS)])) (fun _ k => st2 _ k) ?_
    refine Go.retV X2 hlk hx (t := (.object "com/example/lapwing/lapwing/eap/EapMethod")) hret rfl (Or.inr (Or.inr (Or.inr (Or.inr ⟨rfl, rfl, rfl⟩)))) (hb hby d9_9) e2 ?_ (by decide) (by decide)
    show (some (.ref w_TLS) : Option Value) = some (expV p1 w__VALUES w_TLS w_SIM w_TTLS w_AKA w_AKA_PRIME w_EMPTY k__VALUES) ∧ _
    exact ⟨by rw [expV, if_pos cd1], N0, rfl⟩
  · refine Go.st (f' := (mkF m 10 #[iv p1] [])) (fun _ k => XS.icmpYes X0.here hx rfl (pc0 := 3) (pc' := 10) rfl (hb hby d9_3) rfl (feq cd1).2 (by decide) (by decide) k) ?_
    refine Go.st (f' := (mkF m 11 #[iv p1] [(.int p1)])) (fun _ k => XS.iloadN X0.here hx rfl (hb hby d9_10) rfl k) ?_
    refine Go.st (f' := (mkF m 13 #[iv p1] [(.int 18), (.int p1)])) (fun _ k => XS.bipush X0.here hx rfl (hb hby d9_11) k) ?_
    by_cases cd3 : p1 = (18 : Int32)
    · refine Go.st (f' := (mkF m 16 #[iv p1] [])) (fun _ k => XS.icmpNo X0.here hx rfl (hb hby d9_13) rfl (teq cd3).2 k) ?_
      obtain ⟨T4, X4, e4, st4⟩ := getS2 X0 hx hZ hown (host := "") (Or.inl (hw _ (List.mem_of_getElem? (i := 60) rfl))) Via.refl e0 (S_w_SIM.ext O0.2) (g := (mkF m 16 #[iv p1] [])) rfl (hb hby d9_16)
      refine Go.st (f' := (mkF m 19 #[iv p1] [(.ref w_SIM)])) (fun _ k => st4 _ k) ?_
      refine Go.retV X4 hlk hx (t := (.object "com/example/lapwing/lapwing/eap/EapMethod")) hret rfl (Or.inr (Or.inr (Or.inr (Or.inr ⟨rfl, rfl, rfl⟩)))) (hb hby d9_19) e4 ?_ (by decide) (by decide)
      show (some (.ref w_SIM) : Option Value) = some (expV p1 w__VALUES w_TLS w_SIM w_TTLS w_AKA w_AKA_PRIME w_EMPTY k__VALUES) ∧ _
      exact ⟨by rw [expV, if_neg cd1, if_pos cd3], N0, rfl⟩
    · refine Go.st (f' := (mkF m 20 #[iv p1] [])) (fun _ k => XS.icmpYes X0.here hx rfl (pc0 := 13) (pc' := 20) rfl (hb hby d9_13) rfl (feq cd3).2 (by decide) (by decide) k) ?_
      refine Go.st (f' := (mkF m 21 #[iv p1] [(.int p1)])) (fun _ k => XS.iloadN X0.here hx rfl (hb hby d9_20) rfl k) ?_
      refine Go.st (f' := (mkF m 23 #[iv p1] [(.int 21), (.int p1)])) (fun _ k => XS.bipush X0.here hx rfl (hb hby d9_21) k) ?_
      by_cases cd5 : p1 = (21 : Int32)
      · refine Go.st (f' := (mkF m 26 #[iv p1] [])) (fun _ k => XS.icmpNo X0.here hx rfl (hb hby d9_23) rfl (teq cd5).2 k) ?_
        obtain ⟨T6, X6, e6, st6⟩ := getS2 X0 hx hZ hown (host := "") (Or.inl (hw _ (List.mem_of_getElem? (i := 67) rfl))) Via.refl e0 (S_w_TTLS.ext O0.2) (g := (mkF m 26 #[iv p1] [])) rfl (hb hby d9_26)
        refine Go.st (f' := (mkF m 29 #[iv p1] [(.ref w_TTLS)])) (fun _ k => st6 _ k) ?_
        refine Go.retV X6 hlk hx (t := (.object "com/example/lapwing/lapwing/eap/EapMethod")) hret rfl (Or.inr (Or.inr (Or.inr (Or.inr ⟨rfl, rfl, rfl⟩)))) (hb hby d9_29) e6 ?_ (by decide) (by decide)
        show (some (.ref w_TTLS) : Option Value) = some (expV p1 w__VALUES w_TLS w_SIM w_TTLS w_AKA w_AKA_PRIME w_EMPTY k__VALUES) ∧ _
        exact ⟨by rw [expV, if_neg cd1, if_neg cd3, if_pos cd5], N0, rfl⟩
      · refine Go.st (f' := (mkF m 30 #[iv p1] [])) (fun _ k => XS.icmpYes X0.here hx rfl (pc0 := 23) (pc' := 30) rfl (hb hby d9_23) rfl (feq cd5).2 (by decide) (by decide) k) ?_
        refine Go.st (f' := (mkF m 31 #[iv p1] [(.int p1)])) (fun _ k => XS.iloadN X0.here hx rfl (hb hby d9_30) rfl k) ?_
        refine Go.st (f' := (mkF m 33 #[iv p1] [(.int 23), (.int p1)])) (fun _ k => XS.bipush X0.here hx rfl (hb hby d9_31) k) ?_
        by_cases cd7 : p1 = (23 : Int32)
        · refine Go.st (f' := (mkF m 36 #[iv p1] [])) (fun _ k => XS.icmpNo X0.here hx rfl (hb hby d9_33) rfl (teq cd7).2 k) ?_
          obtain ⟨T8, X8, e8, st8⟩ := getS2 X0 hx hZ hown (host := "") (Or.inl (hw _ (List.mem_of_getElem? (i := 59) rfl))) Via.refl e0 (S_w_AKA.ext O0.2) (g := (mkF m 36 #[iv p1] [])) rfl (hb hby d9_36)
          refine Go.st (f' := (mkF m 39 #[iv p1] [(.ref w_AKA)])) (fun _ k => st8 _ k) ?_
          refine Go.retV X8 hlk hx (t := (.object "com/example/lapwing/lapwing/eap/EapMethod")) hret rfl (Or.inr (Or.inr (Or.inr (Or.inr ⟨rfl, rfl, rfl⟩)))) (hb hby d9_39) e8 ?_ (by decide) (by decide)
          show (some (.ref w_AKA) : Option Value) = some (expV p1 w__VALUES w_TLS w_SIM w_TTLS w_AKA w_AKA_PRIME w_EMPTY k__VALUES) ∧ _
          exact ⟨by rw [expV, if_neg cd1, if_neg cd3, if_neg cd5, if_pos cd7], N0, rfl⟩
        · refine Go.st (f' := (mkF m 40 #[iv p1] [])) (fun _ k => XS.icmpYes X0.here hx rfl (pc0 := 33) (pc' := 40) rfl (hb hby d9_33) rfl (feq cd7).2 (by decide) (by decide) k) ?_
          refine Go.st (f' := (mkF m 41 #[iv p1] [(.int p1)])) (fun _ k => XS.iloadN X0.here hx rfl (hb hby d9_40) rfl k) ?_
          refine Go.st (f' := (mkF m 43 #[iv p1] [(.int 50), (.int p1)])) (fun _ k => XS.bipush X0.here hx rfl (hb hby d9_41) k) ?_
          by_cases cd9 : p1 = (50 : Int32)
          · refine Go.st (f' := (mkF m 46 #[iv p1] [])) (fun _ k => XS.icmpNo X0.here hx rfl (hb hby d9_43) rfl (teq cd9).2 k) ?_
            obtain ⟨T10, X10, e10, st10⟩ := getS2 X0 hx hZ hown (host := "") (Or.inl (hw _ (List.mem_of_getElem? (i := 61) rfl))) Via.refl e0 (S_w_AKA_PRIME.ext O0.2) (g := (mkF m 46 #[iv p1] [])) rfl (hb hby d9_46)
            refine Go.st (f' := (mkF m 49 #[iv p1] [(.ref w_AKA_PRIME)])) (fun _ k => st10 _ k) ?_
            refine Go.retV X10 hlk hx (t := (.object "com/example/lapwing/lapwing/eap/EapMethod")) hret rfl (Or.inr (Or.inr (Or.inr (Or.inr ⟨rfl, rfl, rfl⟩)))) (hb hby d9_49) e10 ?_ (by decide) (by decide)
            show (some (.ref w_AKA_PRIME) : Option Value) = some (expV p1 w__VALUES w_TLS w_SIM w_TTLS w_AKA w_AKA_PRIME w_EMPTY k__VALUES) ∧ _
            exact ⟨by rw [expV, if_neg cd1, if_neg cd3, if_neg cd5, if_neg cd7, if_pos cd9], N0, rfl⟩
          · refine Go.st (f' := (mkF m 50 #[iv p1] [])) (fun _ k => XS.icmpYes X0.here hx rfl (pc0 := 43) (pc' := 50) rfl (hb hby d9_43) rfl (feq cd9).2 (by decide) (by decide) k) ?_
            refine Go.st (f' := (mkF m 51 #[iv p1] [.null])) (fun _ k => XS.aconstNull X0.here hx rfl (hb hby d9_50) k) ?_
            refine Go.retV X0 hlk hx (t := (.object "com/example/lapwing/lapwing/eap/EapMethod")) hret rfl (Or.inr (Or.inr (Or.inr (Or.inr ⟨rfl, rfl, rfl⟩)))) (hb hby d9_51) e0 ?_ (by decide) (by decide)
            show (some .null : Option Value) = some (expV p1 w__VALUES w_TLS w_SIM w_TTLS w_AKA w_AKA_PRIME w_EMPTY k__VALUES) ∧ _
            exact ⟨by rw [expV, if_neg cd1, if_neg cd3, if_neg cd5, if_neg cd7, if_neg cd9], N0, rfl⟩
theorem pn_java_util_Objects : plainName "java/util/Objects" = true := by first | (simp [plainName, overriddenIn]; done) | decide +kernel
theorem d5_0 : decode jdk_31_method_10_code 0 = .ok (.aload_n 0, 1) := by decide +kernel
theorem d5_1 : decode jdk_31_method_10_code 1 = .ok (.ifnonnull 11, 3) := by decide +kernel
theorem d5_12 : decode jdk_31_method_10_code 12 = .ok (.aload_n 0, 1) := by decide +kernel
theorem d5_13 : decode jdk_31_method_10_code 13 = .ok (.areturn, 1) := by decide +kernel
def rqV (f1 : Addr) : Value := (.ref f1)
set_option maxRecDepth 65536 in
set_option maxHeartbeats 40000000 in
theorem rmQ (l : Launch) (Z : State) (a0 : Array Value) (hw : ∀ d ∈ tables_1, d.before a0 Z = true) (ws : List Jvm.Cond) (f1 : Addr) (h0 : Heap) (n0 : Nat) (O0 : Old Z n0 h0)  :
    Con l Z (⟨"java/util/Objects", "requireNonNull", "(Ljava/lang/Object;)Ljava/lang/Object;"⟩ : MethodName) jdk_31_method_10_code 1 (some (.object "java/lang/Object")) ws ({ frames := 0, cells := 0, slots := 0, locals := 0 } : Room) #[(.ref f1)] h0 (fun v h L => v = some (rqV f1) ∧ Fr n0 L ∧ h = h0) := by
  refine own_body (plainFor_of_name pn_java_util_Objects) ?_
  intro p e s m below meth c s₁ hx hby hml hZ hown hnm hlk hret X0 e0
  have N0 := Fr.nil n0
  refine Go.st (T' := s₁) (f' := (mkF m 0 #[rv f1] [])) (fun _ k => castTop (by first | (simp [entryFrame, mkF, argsToLocals, Value.category]; done) | rfl) k) ?_
  refine Go.st (f' := (mkF m 1 #[rv f1] [(.ref f1)])) (fun _ k => XS.aloadN X0.here hx rfl (hb hby d5_0) rfl rfl k) ?_
  refine Go.st (f' := (mkF m 12 #[rv f1] [])) (fun _ k => XS.ifnonnullYes X0.here hx rfl (pc0 := 1) (pc' := 12) rfl (hb hby d5_1) rfl (by decide) (by decide) k) ?_
  refine Go.st (f' := (mkF m 13 #[rv f1] [(.ref f1)])) (fun _ k => XS.aloadN X0.here hx rfl (hb hby d5_12) rfl rfl k) ?_
  refine Go.retV X0 hlk hx (t := (.object "java/lang/Object")) hret rfl (Or.inr (Or.inr (Or.inr (Or.inr ⟨rfl, rfl, rfl⟩)))) (hb hby d5_13) e0 ?_ (by decide) (by decide)
  show (some (.ref f1) : Option Value) = some (rqV f1) ∧ _
  exact ⟨by rw [rqV], N0, rfl⟩
theorem pn_java_util_Optional : plainName "java/util/Optional" = true := by first | (simp [plainName, overriddenIn]; done) | decide +kernel
theorem d6_0 : decode jdk_32_method_2_code 0 = .ok (.aload_n 0, 1) := by decide +kernel
theorem d6_1 : decode jdk_32_method_2_code 1 = .ok (.invokespecial 7, 3) := by decide +kernel
theorem d6_4 : decode jdk_32_method_2_code 4 = .ok (.aload_n 0, 1) := by decide +kernel
theorem d6_5 : decode jdk_32_method_2_code 5 = .ok (.aload_n 1, 1) := by decide +kernel
theorem d6_6 : decode jdk_32_method_2_code 6 = .ok (.putfield 13, 3) := by decide +kernel
theorem d6_9 : decode jdk_32_method_2_code 9 = .ok (.return_, 1) := by decide +kernel
set_option maxRecDepth 65536 in
set_option maxHeartbeats 40000000 in
theorem rmI (l : Launch) (Z : State) (a0 : Array Value) (hw : ∀ d ∈ tables_1, d.before a0 Z = true) (ws : List Jvm.Cond) (a1 : Addr) (f1 : Addr) (h0 : Heap) (n0 : Nat) (O0 : Old Z n0 h0) (g_a1 : n0 ≤ a1) (E_a1 : Exa Z h0 a1 "java/util/Optional") (F_a1_value : Fld Z h0 a1 "java/util/Optional" "value" "Ljava/lang/Object;" .null) :
    Con l Z (⟨"java/util/Optional", "<init>", "(Ljava/lang/Object;)V"⟩ : MethodName) jdk_32_method_2_code 2 none ws ({ frames := 1, cells := 0, slots := 0, locals := 12 } : Room) #[(.ref a1), (.ref f1)] h0 (fun v h L => v = none ∧ Fr n0 L ∧ Keep h0 h [a1] ∧ Exa Z h a1 "java/util/Optional" ∧ Fld Z h a1 "java/util/Optional" "value" "Ljava/lang/Object;" (.ref f1)) := by
  refine own_body (plainFor_of_name pn_java_util_Optional) ?_
  intro p e s m below meth c s₁ hx hby hml hZ hown hnm hlk hret X0 e0
  have N0 := Fr.nil n0
  have K0 : Keep h0 h0 [a1] := Keep.refl _ _
  refine Go.st (T' := s₁) (f' := (mkF m 0 #[rv a1, rv f1] [])) (fun _ k => castTop (by first | (simp [entryFrame, mkF, argsToLocals, Value.category]; done) | rfl) k) ?_
  have lt_a1 := E_a1.lt
  refine Go.st (f' := (mkF m 1 #[rv a1, rv f1] [(.ref a1)])) (fun _ k => XS.aloadN X0.here hx rfl (hb hby d6_0) rfl rfl k) ?_
  obtain ⟨T1, X1, e1, st1⟩ := initO X0 hx hZ hown (hw _ (List.mem_of_getElem? (i := 44) rfl)) (hw _ (List.mem_of_getElem? (i := 45) rfl)) (hw _ (List.mem_of_getElem? (i := 46) rfl)) e0 (g := (mkF m 1 #[rv a1, rv f1] [(.ref a1)])) rfl (by rw [hml]; rfl) rfl (hb hby d6_1) (by decide) (W := 0) (by show 2 * 0 + _ ≤ _; exact Nat.le_of_eq rfl) (by decide)
  refine Go.st (f' := (mkF m 4 #[rv a1, rv f1] [])) (fun _ k => st1 _ k) ?_
  refine Go.st (f' := (mkF m 5 #[rv a1, rv f1] [(.ref a1)])) (fun _ k => XS.aloadN X1.here hx rfl (hb hby d6_4) rfl rfl k) ?_
  refine Go.st (f' := (mkF m 6 #[rv a1, rv f1] [(.ref f1), (.ref a1)])) (fun _ k => XS.aloadN X1.here hx rfl (hb hby d6_5) rfl rfl k) ?_
  obtain ⟨T2, h2, X2, e2, W2, st2⟩ := putF X1 hx hZ hown (host := "") (Or.inl (hw _ (List.mem_of_getElem? (i := 47) rfl))) Via.refl e1 F_a1_value E_a1 (Or.inr ⟨(hw _ (List.mem_of_getElem? (i := 48) rfl)), rfl, hnm⟩) (hw _ (List.mem_of_getElem? (i := 35) rfl)) (ty := (.object "java/lang/Object")) (by decide) rfl rfl (g := (mkF m 6 #[rv a1, rv f1] [(.ref f1), (.ref a1)])) rfl rfl (hb hby d6_6)
  have N2 := Fr.snoc X2 N0 g_a1
  have O2 : Old Z n0 h2 := O0.wr W2 g_a1
  have K2 : Keep h0 h2 [a1] := K0.wr W2 (Or.inl (List.mem_of_getElem? (i := 0) rfl))
  have Fw2 := F_a1_value.same W2
  refine Go.st (f' := (mkF m 9 #[rv a1, rv f1] [])) (fun _ k => st2 _ k) ?_
  refine Go.ret0 X2 hlk hx hret (hb hby d6_9) e2 ?_ (by decide) (by decide)
  have ft3 := (E_a1.wr W2)
  exact ⟨rfl, N2, K2, ft3, Fw2⟩
theorem d4_0 : decode jdk_32_method_3_code 0 = .ok (.new 2, 3) := by decide +kernel
theorem d4_3 : decode jdk_32_method_3_code 3 = .ok (.dup, 1) := by decide +kernel
theorem d4_4 : decode jdk_32_method_3_code 4 = .ok (.aload_n 0, 1) := by decide +kernel
theorem d4_5 : decode jdk_32_method_3_code 5 = .ok (.invokestatic 17, 3) := by decide +kernel
theorem pd__Ljava_lang_Object__Ljava_lang_Object_ : parseMethodDescriptor "(Ljava/lang/Object;)Ljava/lang/Object;" = some ⟨[(.object "java/lang/Object")], some (.object "java/lang/Object")⟩ := by decide +kernel
theorem d4_8 : decode jdk_32_method_3_code 8 = .ok (.invokespecial 23, 3) := by decide +kernel
theorem pd__Ljava_lang_Object__V : parseMethodDescriptor "(Ljava/lang/Object;)V" = some ⟨[(.object "java/lang/Object")], none⟩ := by decide +kernel
theorem d4_11 : decode jdk_32_method_3_code 11 = .ok (.areturn, 1) := by decide +kernel
set_option maxRecDepth 65536 in
set_option maxHeartbeats 40000000 in
theorem rmO (l : Launch) (Z : State) (a0 : Array Value) (hw : ∀ d ∈ tables_1, d.before a0 Z = true) (ws : List Jvm.Cond) (f1 : Addr) (h0 : Heap) (n0 : Nat) (O0 : Old Z n0 h0)  :
    Con l Z (⟨"java/util/Optional", "of", "(Ljava/lang/Object;)Ljava/util/Optional;"⟩ : MethodName) jdk_32_method_3_code 1 (some (.object "java/util/Optional")) ws ({ frames := 2, cells := 1, slots := 1, locals := 26 } : Room) #[(.ref f1)] h0 (fun v h L => ∃ b : Addr, v = some (.ref b) ∧ Fr n0 L ∧ h0.size ≤ b ∧ Keep h0 h [] ∧ Exa Z h b "java/util/Optional" ∧ Fld Z h b "java/util/Optional" "value" "Ljava/lang/Object;" (.ref f1)) := by
  refine own_body (plainFor_of_name pn_java_util_Optional) ?_
  intro p e s m below meth c s₁ hx hby hml hZ hown hnm hlk hret X0 e0
  have N0 := Fr.nil n0
  have K0 : Keep h0 h0 [] := Keep.refl _ _
  refine Go.st (T' := s₁) (f' := (mkF m 0 #[rv f1] [])) (fun _ k => castTop (by first | (simp [entryFrame, mkF, argsToLocals, Value.category]; done) | rfl) k) ?_
  obtain ⟨T1, h1, X1, e1, E1, A1, D1, -, st1⟩ := newO X0 hx hZ hown (hw _ (List.mem_of_getElem? (i := 34) rfl)) (hw _ (List.mem_of_getElem? (i := 35) rfl)) (hw _ (List.mem_of_getElem? (i := 32) rfl)) e0 (g := (mkF m 0 #[rv f1] [])) rfl (hb hby d4_0) (by decide) (by decide)
  obtain ⟨b1, g1⟩ : ∃ z, z = h0.size := ⟨_, rfl⟩
  rw [← g1] at A1 D1 st1
  have g_b1 : n0 ≤ b1 := Nat.le_trans (O0.1 ▸ O0.2.1) (Nat.le_of_eq g1.symm)
  have O1 : Old Z n0 h1 := O0.ext E1
  have sz_b1 : h0.size ≤ b1 := Nat.le_trans K0.1 (Nat.le_of_eq g1.symm)
  have K1 : Keep h0 h1 [] := K0.ext E1
  have lt_b1 := A1.lt
  have F_value_b1 : Fld Z h1 b1 "java/util/Optional" "value" "Ljava/lang/Object;" .null := D1 (Or.inr (hw _ (List.mem_of_getElem? (i := 48) rfl))) (ty := (.object "java/lang/Object")) (by decide)
  refine Go.st (f' := (mkF m 3 #[rv f1] [(.ref b1)])) (fun _ k => st1 _ k) ?_
  refine Go.st (f' := (mkF m 4 #[rv f1] [(.ref b1), (.ref b1)])) (fun _ k => XS.dup X1.here hx rfl (hb hby d4_3) rfl rfl k) ?_
  refine Go.st (f' := (mkF m 5 #[rv f1] [(.ref f1), (.ref b1), (.ref b1)])) (fun _ k => XS.aloadN X1.here hx rfl (hb hby d4_4) rfl rfl k) ?_
  obtain ⟨_, _, ⟨T2, L2, kk2, nn2⟩, -, X2, ⟨Lc2, hQ2, lq2, yq2, zz2⟩, st2⟩ := Jvm.LawKit.callS X1 hx (y := (⟨"java/util/Objects", "requireNonNull", "(Ljava/lang/Object;)Ljava/lang/Object;"⟩ : MethodName)) hown (mvT hZ (hw _ (List.mem_of_getElem? (i := 36) rfl))) (mvT hZ (hw _ (List.mem_of_getElem? (i := 37) rfl))) (mvT hZ (hw _ (List.mem_of_getElem? (i := 38) rfl))) (mvT hZ (hw _ (List.mem_of_getElem? (i := 39) rfl))) (by decide) (own_back (W := 2) (rmQ l Z a0 hw [] f1 h1 n0 O1) hZ (hw _ (List.mem_of_getElem? (i := 39) rfl)) (hw _ (List.mem_of_getElem? (i := 38) rfl)) (by decide) (by decide)) (g := (mkF m 5 #[rv f1] [(.ref f1), (.ref b1), (.ref b1)])) rfl (by rw [hml]; rfl) (argsL := [(.ref f1)]) (rest := [(.ref b1), (.ref b1)]) (lenOf pd__Ljava_lang_Object__Ljava_lang_Object_ rfl) rfl (by show 2 * 0 + _ ≤ _; exact Nat.le_of_eq rfl) (hb hby d4_5) (fun _ _ => ⟨rfl, e1, (by decide : 1 + 0 ≤ _), (by decide : 1 + 0 ≤ _)⟩)
  dsimp only [Pt.U, Pt.locs, Pt.cells, Pt.slots] at X2 lq2 yq2 zz2 st2 hQ2
  subst lq2 yq2 zz2
  obtain ⟨rfl, Nq2, kq2⟩ := hQ2
  have N2 := Fr.app N0 Nq2
  rw [show rqV f1 = .ref f1 from rfl] at st2
  refine Go.st (f' := (mkF m 8 #[rv f1] [(.ref f1), (.ref b1), (.ref b1)])) (fun _ k => st2 _ k) ?_
  obtain ⟨_, _, ⟨T3, L3, kk3, nn3⟩, -, X3, ⟨Lc3, hQ3, lq3, yq3, zz3⟩, st3⟩ := X2.specialBack hx (y := (⟨"java/util/Optional", "<init>", "(Ljava/lang/Object;)V"⟩ : MethodName)) rfl hown (mvT hZ (hw _ (List.mem_of_getElem? (i := 40) rfl))) (mvT hZ (hw _ (List.mem_of_getElem? (i := 41) rfl))) (mvT hZ (hw _ (List.mem_of_getElem? (i := 43) rfl))) (by decide) (own_back (W := 1) (rmI l Z a0 hw [] b1 f1 h1 n0 O1 g_b1 A1 F_value_b1 ) hZ (hw _ (List.mem_of_getElem? (i := 43) rfl)) (hw _ (List.mem_of_getElem? (i := 32) rfl)) (by decide) (by decide)) (g := (mkF m 8 #[rv f1] [(.ref f1), (.ref b1), (.ref b1)])) rfl (by rw [hml]; rfl) (Steps.refl _) (a := b1) (argsL := [(.ref f1)]) (rest := [(.ref b1)]) (lenOf pd__Ljava_lang_Object__V rfl) rfl (by show 2 * 0 + _ ≤ _; exact Nat.le_of_eq rfl) (hb hby d4_8) (fun _ _ => ⟨rfl, kq2, (by decide : 1 + 0 ≤ _), (by decide : 1 + 0 ≤ _)⟩)
  dsimp only [Pt.U, Pt.locs, Pt.cells, Pt.slots] at X3 lq3 yq3 zz3 st3 hQ3
  subst lq3 yq3 zz3
  obtain ⟨rfl, Nq3, kq3, eq3, fq3_0⟩ := hQ3
  have N3 := Fr.app N2 Nq3
  have O3 : Old Z n0 T3.heap := O1.keep kq3 (allS g_b1 all0)
  have K3 : Keep h0 T3.heap [] := K1.trans kq3 (allS (Or.inr sz_b1) all0)
  refine Go.tr (f' := (mkF m 11 #[rv f1] [(.ref b1)])) st3 ?_
  refine Go.retV X3 hlk hx (t := (.object "java/util/Optional")) hret rfl (Or.inr (Or.inr (Or.inr (Or.inr ⟨rfl, rfl, rfl⟩)))) (hb hby d4_11) rfl ?_ (by decide) (by decide)
  exact ⟨b1, rfl, N3, sz_b1, K3, eq3, fq3_0⟩
theorem d10_0 : decode jdk_32_method_1_code 0 = .ok (.getstatic 1, 3) := by decide +kernel
theorem d10_3 : decode jdk_32_method_1_code 3 = .ok (.astore_n 0, 1) := by decide +kernel
theorem d10_4 : decode jdk_32_method_1_code 4 = .ok (.aload_n 0, 1) := by decide +kernel
theorem d10_5 : decode jdk_32_method_1_code 5 = .ok (.areturn, 1) := by decide +kernel
def emV (w__VALUES : Addr) (w_TLS : Addr) (w_SIM : Addr) (w_TTLS : Addr) (w_AKA : Addr) (w_AKA_PRIME : Addr) (w_EMPTY : Addr) (k__VALUES : ClassId) : Value := (.ref w_EMPTY)
set_option maxRecDepth 65536 in
set_option maxHeartbeats 40000000 in
theorem rmM (l : Launch) (Z : State) (a0 : Array Value) (hw : ∀ d ∈ tables_1, d.before a0 Z = true) (ws : List Jvm.Cond) (w__VALUES : Addr) (w_TLS : Addr) (w_SIM : Addr) (w_TTLS : Addr) (w_AKA : Addr) (w_AKA_PRIME : Addr) (w_EMPTY : Addr) (k__VALUES : ClassId) (h0 : Heap) (n0 : Nat) (O0 : Old Z n0 h0) (WW : World1 Z w__VALUES w_TLS w_SIM w_TTLS w_AKA w_AKA_PRIME w_EMPTY k__VALUES) :
    Con l Z (⟨"java/util/Optional", "empty", "()Ljava/util/Optional;"⟩ : MethodName) jdk_32_method_1_code 1 (some (.object "java/util/Optional")) ws ({ frames := 0, cells := 0, slots := 0, locals := 0 } : Room) #[] h0 (fun v h L => v = some (emV w__VALUES w_TLS w_SIM w_TTLS w_AKA w_AKA_PRIME w_EMPTY k__VALUES) ∧ Fr n0 L ∧ h = h0) := by
  refine own_body (plainFor_of_name pn_java_util_Optional) ?_
  intro p e s m below meth c s₁ hx hby hml hZ hown hnm hlk hret X0 e0
  have N0 := Fr.nil n0
  refine Go.st (T' := s₁) (f' := (mkF m 0 #[.unset] [])) (fun _ k => castTop (by first | (simp [entryFrame, mkF, argsToLocals, Value.category]; done) | rfl) k) ?_
  have ⟨S_w__VALUES, E_w__VALUES, S_w_TLS, E_w_TLS, S_w_SIM, E_w_SIM, S_w_TTLS, E_w_TTLS, S_w_AKA, E_w_AKA, S_w_AKA_PRIME, E_w_AKA_PRIME, S_w_EMPTY, E_w_EMPTY, F_w_TLS_number, F_w_SIM_number, F_w_TTLS_number, F_w_AKA_number, F_w_AKA_PRIME_number, F_w_EMPTY_value, V_w__VALUES⟩ := WW
  have lt_w__VALUES := E_w__VALUES.lt
  have lt_w_TLS := E_w_TLS.lt
  have lt_w_SIM := E_w_SIM.lt
  have lt_w_TTLS := E_w_TTLS.lt
  have lt_w_AKA := E_w_AKA.lt
  have lt_w_AKA_PRIME := E_w_AKA_PRIME.lt
  have lt_w_EMPTY := E_w_EMPTY.lt
  obtain ⟨T1, X1, e1, st1⟩ := getS2 X0 hx hZ hown (host := "") (Or.inl (hw _ (List.mem_of_getElem? (i := 66) rfl))) Via.refl e0 (S_w_EMPTY.ext O0.2) (g := (mkF m 0 #[.unset] [])) rfl (hb hby d10_0)
  refine Go.st (f' := (mkF m 3 #[.unset] [(.ref w_EMPTY)])) (fun _ k => st1 _ k) ?_
  refine Go.st (f' := (mkF m 4 #[rv w_EMPTY] [])) (fun _ k => XS.astoreN X1.here hx rfl (hb hby d10_3) rfl rfl (l' := #[rv w_EMPTY]) rfl k) ?_
  refine Go.st (f' := (mkF m 5 #[rv w_EMPTY] [(.ref w_EMPTY)])) (fun _ k => XS.aloadN X1.here hx rfl (hb hby d10_4) rfl rfl k) ?_
  refine Go.retV X1 hlk hx (t := (.object "java/util/Optional")) hret rfl (Or.inr (Or.inr (Or.inr (Or.inr ⟨rfl, rfl, rfl⟩)))) (hb hby d10_5) e1 ?_ (by decide) (by decide)
  show (some (.ref w_EMPTY) : Option Value) = some (emV w__VALUES w_TLS w_SIM w_TTLS w_AKA w_AKA_PRIME w_EMPTY k__VALUES) ∧ _
  exact ⟨by rw [emV], N0, rfl⟩
def numV (b : Int32) (w13 w18 w21 w23 w50 : Addr) : Value := if (13 : Int32) = b then .ref w13 else if (18 : Int32) = b then .ref w18 else if (21 : Int32) = b then .ref w21 else if (23 : Int32) = b then .ref w23 else if (50 : Int32) = b then .ref w50 else .null
theorem d2_0 : decode prog_11_method_6_code 0 = .ok (.invokestatic 46, 3) := by decide +kernel
theorem pd____Lcom_example_lapwing_lapwing_eap_EapMethod_ : parseMethodDescriptor "()[Lcom/example/lapwing/lapwing/eap/EapMethod;" = some ⟨[], some (.array (.object "com/example/lapwing/lapwing/eap/EapMethod"))⟩ := by decide +kernel
theorem d2_3 : decode prog_11_method_6_code 3 = .ok (.astore_n 1, 1) := by decide +kernel
theorem d2_4 : decode prog_11_method_6_code 4 = .ok (.aload_n 1, 1) := by decide +kernel
theorem d2_5 : decode prog_11_method_6_code 5 = .ok (.arraylength, 1) := by decide +kernel
theorem d2_6 : decode prog_11_method_6_code 6 = .ok (.istore_n 2, 1) := by decide +kernel
theorem d2_7 : decode prog_11_method_6_code 7 = .ok (.iconst 0, 1) := by decide +kernel
theorem d2_8 : decode prog_11_method_6_code 8 = .ok (.istore_n 3, 1) := by decide +kernel
theorem d2_9 : decode prog_11_method_6_code 9 = .ok (.iload_n 3, 1) := by decide +kernel
theorem d2_10 : decode prog_11_method_6_code 10 = .ok (.iload_n 2, 1) := by decide +kernel
theorem d2_11 : decode prog_11_method_6_code 11 = .ok (.if_icmp .ge 29, 3) := by decide +kernel
theorem d2_14 : decode prog_11_method_6_code 14 = .ok (.aload_n 1, 1) := by decide +kernel
theorem d2_15 : decode prog_11_method_6_code 15 = .ok (.iload_n 3, 1) := by decide +kernel
theorem d2_16 : decode prog_11_method_6_code 16 = .ok (.aaload, 1) := by decide +kernel
theorem d2_17 : decode prog_11_method_6_code 17 = .ok (.astore 4, 2) := by decide +kernel
theorem d2_19 : decode prog_11_method_6_code 19 = .ok (.aload 4, 2) := by decide +kernel
theorem d2_21 : decode prog_11_method_6_code 21 = .ok (.getfield 38, 3) := by decide +kernel
theorem d2_24 : decode prog_11_method_6_code 24 = .ok (.iload_n 0, 1) := by decide +kernel
theorem d2_25 : decode prog_11_method_6_code 25 = .ok (.if_icmp .ne 9, 3) := by decide +kernel
theorem d2_28 : decode prog_11_method_6_code 28 = .ok (.aload 4, 2) := by decide +kernel
theorem d2_30 : decode prog_11_method_6_code 30 = .ok (.invokestatic 50, 3) := by decide +kernel
theorem pd__Ljava_lang_Object__Ljava_util_Optional_ : parseMethodDescriptor "(Ljava/lang/Object;)Ljava/util/Optional;" = some ⟨[(.object "java/lang/Object")], some (.object "java/util/Optional")⟩ := by decide +kernel
theorem d2_33 : decode prog_11_method_6_code 33 = .ok (.areturn, 1) := by decide +kernel
theorem d2_34 : decode prog_11_method_6_code 34 = .ok (.iinc 3 1, 3) := by decide +kernel
theorem d2_37 : decode prog_11_method_6_code 37 = .ok (.goto (-28), 3) := by decide +kernel
theorem d2_40 : decode prog_11_method_6_code 40 = .ok (.invokestatic 56, 3) := by decide +kernel
theorem pd___Ljava_util_Optional_ : parseMethodDescriptor "()Ljava/util/Optional;" = some ⟨[], some (.object "java/util/Optional")⟩ := by decide +kernel
theorem d2_43 : decode prog_11_method_6_code 43 = .ok (.areturn, 1) := by decide +kernel
set_option maxRecDepth 65536 in
set_option maxHeartbeats 40000000 in
theorem rmN (l : Launch) (Z : State) (a0 : Array Value) (hw : ∀ d ∈ tables_1, d.before a0 Z = true) (ws : List Jvm.Cond) (p1 : Int32) (w__VALUES : Addr) (w_TLS : Addr) (w_SIM : Addr) (w_TTLS : Addr) (w_AKA : Addr) (w_AKA_PRIME : Addr) (w_EMPTY : Addr) (k__VALUES : ClassId) (h0 : Heap) (n0 : Nat) (O0 : Old Z n0 h0) (WW : World1 Z w__VALUES w_TLS w_SIM w_TTLS w_AKA w_AKA_PRIME w_EMPTY k__VALUES) :
    Con l Z (⟨"com/example/lapwing/lapwing/eap/EapMethod", "forNumber", "(I)Ljava/util/Optional;"⟩ : MethodName) prog_11_method_6_code 5 (some (.object "java/util/Optional")) ws ({ frames := 3, cells := 2, slots := 6, locals := 38 } : Room) #[(.int p1)] h0 (fun v h L => ∃ b : Addr, v = some (.ref b) ∧ Fr n0 L ∧ Keep h0 h [] ∧ Exa Z h b "java/util/Optional" ∧ Fld Z h b "java/util/Optional" "value" "Ljava/lang/Object;" (numV p1 w_TLS w_SIM w_TTLS w_AKA w_AKA_PRIME)) := by
  refine own_body (plainFor_of_name pn_com_example_lapwing_lapwing_eap_EapMethod) ?_
  intro p e s m below meth c s₁ hx hby hml hZ hown hnm hlk hret X0 e0
  have N0 := Fr.nil n0
  have K0 : Keep h0 h0 [] := Keep.refl _ _
  refine Go.st (T' := s₁) (f' := (mkF m 0 #[iv p1, .unset, .unset, .unset, .unset] [])) (fun _ k => castTop (by first | (simp [entryFrame, mkF, argsToLocals, Value.category]; done) | rfl) k) ?_
  have ⟨S_w__VALUES, E_w__VALUES, S_w_TLS, E_w_TLS, S_w_SIM, E_w_SIM, S_w_TTLS, E_w_TTLS, S_w_AKA, E_w_AKA, S_w_AKA_PRIME, E_w_AKA_PRIME, S_w_EMPTY, E_w_EMPTY, F_w_TLS_number, F_w_SIM_number, F_w_TTLS_number, F_w_AKA_number, F_w_AKA_PRIME_number, F_w_EMPTY_value, V_w__VALUES⟩ := WW
  have lt_w__VALUES := E_w__VALUES.lt
  have lt_w_TLS := E_w_TLS.lt
  have lt_w_SIM := E_w_SIM.lt
  have lt_w_TTLS := E_w_TTLS.lt
  have lt_w_AKA := E_w_AKA.lt
  have lt_w_AKA_PRIME := E_w_AKA_PRIME.lt
  have lt_w_EMPTY := E_w_EMPTY.lt
  obtain ⟨_, _, ⟨T1, L1, kk1, nn1⟩, -, X1, ⟨Lc1, hQ1, lq1, yq1, zz1⟩, st1⟩ := Jvm.LawKit.callS X0 hx (y := (⟨"com/example/lapwing/lapwing/eap/EapMethod", "values", "()[Lcom/example/lapwing/lapwing/eap/EapMethod;"⟩ : MethodName)) hown (mvT hZ (hw _ (List.mem_of_getElem? (i := 8) rfl))) (mvT hZ (hw _ (List.mem_of_getElem? (i := 9) rfl))) (mvT hZ (hw _ (List.mem_of_getElem? (i := 6) rfl))) (mvT hZ (hw _ (List.mem_of_getElem? (i := 10) rfl))) (by decide) (own_back (W := 0) (rmV l Z a0 hw [] w__VALUES w_TLS w_SIM w_TTLS w_AKA w_AKA_PRIME w_EMPTY k__VALUES h0 n0 O0 WW) hZ (hw _ (List.mem_of_getElem? (i := 10) rfl)) (hw _ (List.mem_of_getElem? (i := 6) rfl)) (by decide) (by decide)) (g := (mkF m 0 #[iv p1, .unset, .unset, .unset, .unset] [])) rfl (by rw [hml]; rfl) (argsL := []) (rest := []) (lenOf pd____Lcom_example_lapwing_lapwing_eap_EapMethod_ rfl) rfl (by show 2 * 0 + _ ≤ _; exact Nat.le_of_eq rfl) (hb hby d2_0) (fun _ _ => ⟨rfl, e0, (by decide : 0 + 1 ≤ _), (by decide : 0 + 5 ≤ _)⟩)
  dsimp only [Pt.U, Pt.locs, Pt.cells, Pt.slots] at X1 lq1 yq1 zz1 st1 hQ1
  subst lq1 yq1 zz1
  obtain ⟨b1, rfl, Nq1, zq1, kq1, vq1, eq1⟩ := hQ1
  have N1 := Fr.app N0 Nq1
  have ne_w__VALUES_b1 : w__VALUES ≠ b1 := Nat.ne_of_lt (Nat.lt_of_lt_of_le lt_w__VALUES (Nat.le_trans O0.2.1 zq1))
  have ne_w_TLS_b1 : w_TLS ≠ b1 := Nat.ne_of_lt (Nat.lt_of_lt_of_le lt_w_TLS (Nat.le_trans O0.2.1 zq1))
  have ne_w_SIM_b1 : w_SIM ≠ b1 := Nat.ne_of_lt (Nat.lt_of_lt_of_le lt_w_SIM (Nat.le_trans O0.2.1 zq1))
  have ne_w_TTLS_b1 : w_TTLS ≠ b1 := Nat.ne_of_lt (Nat.lt_of_lt_of_le lt_w_TTLS (Nat.le_trans O0.2.1 zq1))
  have ne_w_AKA_b1 : w_AKA ≠ b1 := Nat.ne_of_lt (Nat.lt_of_lt_of_le lt_w_AKA (Nat.le_trans O0.2.1 zq1))
  have ne_w_AKA_PRIME_b1 : w_AKA_PRIME ≠ b1 := Nat.ne_of_lt (Nat.lt_of_lt_of_le lt_w_AKA_PRIME (Nat.le_trans O0.2.1 zq1))
  have ne_w_EMPTY_b1 : w_EMPTY ≠ b1 := Nat.ne_of_lt (Nat.lt_of_lt_of_le lt_w_EMPTY (Nat.le_trans O0.2.1 zq1))
  have g_b1 : n0 ≤ b1 := Nat.le_trans (O0.1 ▸ O0.2.1) zq1
  have sz_b1 : h0.size ≤ b1 := Nat.le_trans K0.1 zq1
  have O1 : Old Z n0 T1.heap := O0.keep kq1 all0
  have K1 : Keep h0 T1.heap [] := K0.trans kq1 all0
  have lt_b1 := eq1.lt
  refine Go.st (f' := (mkF m 3 #[iv p1, .unset, .unset, .unset, .unset] [(.ref b1)])) (fun _ k => st1 _ k) ?_
  refine Go.st (f' := (mkF m 4 #[iv p1, rv b1, .unset, .unset, .unset] [])) (fun _ k => XS.astoreN X1.here hx rfl (hb hby d2_3) rfl rfl (l' := #[iv p1, rv b1, .unset, .unset, .unset]) rfl k) ?_
  refine Go.st (f' := (mkF m 5 #[iv p1, rv b1, .unset, .unset, .unset] [(.ref b1)])) (fun _ k => XS.aloadN X1.here hx rfl (hb hby d2_4) rfl rfl k) ?_
  obtain ⟨cl2, Ar2, -, S2, Nx2, -, -⟩ := id vq1
  refine Go.st (T' := T1) (f' := (mkF m 6 #[iv p1, rv b1, .unset, .unset, .unset] [(.int 5)])) (fun _ k => X1.arraylength hx Ar2.1 (State.isArrayOf_alike hZ.alike Ar2.2.1) (g := (mkF m 5 #[iv p1, rv b1, .unset, .unset, .unset] [(.ref b1)])) rfl rfl (hb hby d2_5) _ (by rw [len_of S2 Nx2]; exact k)) ?_
  refine Go.st (f' := (mkF m 7 #[iv p1, rv b1, iv 5, .unset, .unset] [])) (fun _ k => XS.istoreN X1.here hx rfl (hb hby d2_6) rfl (l' := #[iv p1, rv b1, iv 5, .unset, .unset]) rfl k) ?_
  refine Go.st (f' := (mkF m 8 #[iv p1, rv b1, iv 5, .unset, .unset] [(.int 0)])) (fun _ k => XS.iconst X1.here hx rfl (hb hby d2_7) k) ?_
  refine Go.st (f' := (mkF m 9 #[iv p1, rv b1, iv 5, iv 0, .unset] [])) (fun _ k => XS.istoreN X1.here hx rfl (hb hby d2_8) rfl (l' := #[iv p1, rv b1, iv 5, iv 0, .unset]) rfl k) ?_
  refine Go.st (f' := (mkF m 10 #[iv p1, rv b1, iv 5, iv 0, .unset] [(.int 0)])) (fun _ k => XS.iloadN X1.here hx rfl (hb hby d2_9) rfl k) ?_
  refine Go.st (f' := (mkF m 11 #[iv p1, rv b1, iv 5, iv 0, .unset] [(.int 5), (.int 0)])) (fun _ k => XS.iloadN X1.here hx rfl (hb hby d2_10) rfl k) ?_
  refine Go.st (f' := (mkF m 14 #[iv p1, rv b1, iv 5, iv 0, .unset] [])) (fun _ k => XS.icmpNo X1.here hx rfl (hb hby d2_11) rfl (by decide) k) ?_
  refine Go.st (f' := (mkF m 15 #[iv p1, rv b1, iv 5, iv 0, .unset] [(.ref b1)])) (fun _ k => XS.aloadN X1.here hx rfl (hb hby d2_14) rfl rfl k) ?_
  refine Go.st (f' := (mkF m 16 #[iv p1, rv b1, iv 5, iv 0, .unset] [(.int 0), (.ref b1)])) (fun _ k => XS.iloadN X1.here hx rfl (hb hby d2_15) rfl k) ?_
  obtain ⟨cl3, Ar3, -, S3, -, H3, -⟩ := id vq1
  have hin3 : ¬ ((0 : Int32) < 0 ∨ cl3.slots.size ≤ ((0 : Int32)).toNatClampNeg) := inb_of S3 ⟨by decide, by decide⟩
  have hat3 : cl3.slots[((0 : Int32)).toNatClampNeg]? = some (.ref w_TLS) := H3.at hin3 rfl
  refine Go.st (f' := (mkF m 17 #[iv p1, rv b1, iv 5, iv 0, .unset] [(.ref w_TLS)])) (fun _ k => X1.aaload hx (j := (0 : Int32)) (v := (.ref w_TLS)) Ar3.1 (State.isArrayOf_alike hZ.alike Ar3.2.1) rfl Ar3.2.2 hin3 hat3 (g := (mkF m 16 #[iv p1, rv b1, iv 5, iv 0, .unset] [(.int 0), (.ref b1)])) rfl rfl (hb hby d2_16) _ k) ?_
  refine Go.st (f' := (mkF m 19 #[iv p1, rv b1, iv 5, iv 0, rv w_TLS] [])) (fun _ k => XS.astore X1.here hx rfl (hb hby d2_17) rfl rfl (l' := #[iv p1, rv b1, iv 5, iv 0, rv w_TLS]) rfl k) ?_
  refine Go.st (f' := (mkF m 21 #[iv p1, rv b1, iv 5, iv 0, rv w_TLS] [(.ref w_TLS)])) (fun _ k => XS.aload X1.here hx rfl (hb hby d2_19) rfl rfl k) ?_
  obtain ⟨T4, X4, e4, st4⟩ := getF X1 hx hZ hown (host := "") (Or.inl (hw _ (List.mem_of_getElem? (i := 28) rfl))) Via.refl rfl (F_w_TLS_number.ext O1.2) (g := (mkF m 21 #[iv p1, rv b1, iv 5, iv 0, rv w_TLS] [(.ref w_TLS)])) rfl rfl (hb hby d2_21)
  refine Go.st (f' := (mkF m 24 #[iv p1, rv b1, iv 5, iv 0, rv w_TLS] [(.int 13)])) (fun _ k => st4 _ k) ?_
  refine Go.st (f' := (mkF m 25 #[iv p1, rv b1, iv 5, iv 0, rv w_TLS] [(.int p1), (.int 13)])) (fun _ k => XS.iloadN X4.here hx rfl (hb hby d2_24) rfl k) ?_
  by_cases cd5 : (13 : Int32) = p1
  · refine Go.st (f' := (mkF m 28 #[iv p1, rv b1, iv 5, iv 0, rv w_TLS] [])) (fun _ k => XS.icmpNo X4.here hx rfl (hb hby d2_25) rfl (teq cd5).2 k) ?_
    refine Go.st (f' := (mkF m 30 #[iv p1, rv b1, iv 5, iv 0, rv w_TLS] [(.ref w_TLS)])) (fun _ k => XS.aload X4.here hx rfl (hb hby d2_28) rfl rfl k) ?_
    obtain ⟨_, _, ⟨T6, L6, kk6, nn6⟩, -, X6, ⟨Lc6, hQ6, lq6, yq6, zz6⟩, st6⟩ := Jvm.LawKit.callS X4 hx (y := (⟨"java/util/Optional", "of", "(Ljava/lang/Object;)Ljava/util/Optional;"⟩ : MethodName)) hown (mvT hZ (hw _ (List.mem_of_getElem? (i := 30) rfl))) (mvT hZ (hw _ (List.mem_of_getElem? (i := 31) rfl))) (mvT hZ (hw _ (List.mem_of_getElem? (i := 32) rfl))) (mvT hZ (hw _ (List.mem_of_getElem? (i := 33) rfl))) (by decide) (own_back (W := 0) (rmO l Z a0 hw [] w_TLS T1.heap n0 O1) hZ (hw _ (List.mem_of_getElem? (i := 33) rfl)) (hw _ (List.mem_of_getElem? (i := 32) rfl)) (by decide) (by decide)) (g := (mkF m 30 #[iv p1, rv b1, iv 5, iv 0, rv w_TLS] [(.ref w_TLS)])) rfl (by rw [hml]; rfl) (argsL := [(.ref w_TLS)]) (rest := []) (lenOf pd__Ljava_lang_Object__Ljava_util_Optional_ rfl) rfl (by show 2 * 0 + _ ≤ _; exact Nat.le_of_eq rfl) (hb hby d2_30) (fun _ _ => ⟨rfl, e4, (by decide : 1 + 1 ≤ _), (by decide : 5 + 1 ≤ _)⟩)
    dsimp only [Pt.U, Pt.locs, Pt.cells, Pt.slots] at X6 lq6 yq6 zz6 st6 hQ6
    subst lq6 yq6 zz6
    obtain ⟨b6, rfl, Nq6, zq6, kq6, eq6, fq6⟩ := hQ6
    have N6 := Fr.app N1 Nq6
    have ne_b1_b6 : b1 ≠ b6 := Nat.ne_of_lt (Nat.lt_of_lt_of_le lt_b1 zq6)
    have ne_w__VALUES_b6 : w__VALUES ≠ b6 := Nat.ne_of_lt (Nat.lt_of_lt_of_le lt_w__VALUES (Nat.le_trans O1.2.1 zq6))
    have ne_w_TLS_b6 : w_TLS ≠ b6 := Nat.ne_of_lt (Nat.lt_of_lt_of_le lt_w_TLS (Nat.le_trans O1.2.1 zq6))
    have ne_w_SIM_b6 : w_SIM ≠ b6 := Nat.ne_of_lt (Nat.lt_of_lt_of_le lt_w_SIM (Nat.le_trans O1.2.1 zq6))
    have ne_w_TTLS_b6 : w_TTLS ≠ b6 := Nat.ne_of_lt (Nat.lt_of_lt_of_le lt_w_TTLS (Nat.le_trans O1.2.1 zq6))
    have ne_w_AKA_b6 : w_AKA ≠ b6 := Nat.ne_of_lt (Nat.lt_of_lt_of_le lt_w_AKA (Nat.le_trans O1.2.1 zq6))
    have ne_w_AKA_PRIME_b6 : w_AKA_PRIME ≠ b6 := Nat.ne_of_lt (Nat.lt_of_lt_of_le lt_w_AKA_PRIME (Nat.le_trans O1.2.1 zq6))
    have ne_w_EMPTY_b6 : w_EMPTY ≠ b6 := Nat.ne_of_lt (Nat.lt_of_lt_of_le lt_w_EMPTY (Nat.le_trans O1.2.1 zq6))
    have g_b6 : n0 ≤ b6 := Nat.le_trans (O1.1 ▸ O1.2.1) zq6
    have sz_b6 : h0.size ≤ b6 := Nat.le_trans K1.1 zq6
    have O6 : Old Z n0 T6.heap := O1.keep kq6 all0
    have K6 : Keep h0 T6.heap [] := K1.trans kq6 all0
    have lt_b6 := eq6.lt
    refine Go.st (f' := (mkF m 33 #[iv p1, rv b1, iv 5, iv 0, rv w_TLS] [(.ref b6)])) (fun _ k => st6 _ k) ?_
    refine Go.retV X6 hlk hx (t := (.object "java/util/Optional")) hret rfl (Or.inr (Or.inr (Or.inr (Or.inr ⟨rfl, rfl, rfl⟩)))) (hb hby d2_33) rfl ?_ (by decide) (by decide)
    have hv : (numV p1 w_TLS w_SIM w_TTLS w_AKA w_AKA_PRIME) = (.ref w_TLS) := by rw [numV, if_pos cd5]
    refine ⟨b6, rfl, N6, K6, eq6, ?_⟩
    rw [hv]; exact fq6
  · refine Go.st (f' := (mkF m 34 #[iv p1, rv b1, iv 5, iv 0, rv w_TLS] [])) (fun _ k => XS.icmpYes X4.here hx rfl (pc0 := 25) (pc' := 34) rfl (hb hby d2_25) rfl (feq cd5).2 (by decide) (by decide) k) ?_
    refine Go.st (f' := (mkF m 37 #[iv p1, rv b1, iv 5, iv 1, rv w_TLS] [])) (fun _ k => XS.iinc X4.here hx rfl (hb hby d2_34) rfl (l' := #[iv p1, rv b1, iv 5, iv 1, rv w_TLS]) rfl k) ?_
    refine Go.st (f' := (mkF m 9 #[iv p1, rv b1, iv 5, iv 1, rv w_TLS] [])) (fun _ k => XS.goto X4.here hx rfl (pc0 := 37) (pc' := 9) rfl (hb hby d2_37) (by decide) (by decide) k) ?_
    refine Go.st (f' := (mkF m 10 #[iv p1, rv b1, iv 5, iv 1, rv w_TLS] [(.int 1)])) (fun _ k => XS.iloadN X4.here hx rfl (hb hby d2_9) rfl k) ?_
    refine Go.st (f' := (mkF m 11 #[iv p1, rv b1, iv 5, iv 1, rv w_TLS] [(.int 5), (.int 1)])) (fun _ k => XS.iloadN X4.here hx rfl (hb hby d2_10) rfl k) ?_
    refine Go.st (f' := (mkF m 14 #[iv p1, rv b1, iv 5, iv 1, rv w_TLS] [])) (fun _ k => XS.icmpNo X4.here hx rfl (hb hby d2_11) rfl (by decide) k) ?_
    refine Go.st (f' := (mkF m 15 #[iv p1, rv b1, iv 5, iv 1, rv w_TLS] [(.ref b1)])) (fun _ k => XS.aloadN X4.here hx rfl (hb hby d2_14) rfl rfl k) ?_
    refine Go.st (f' := (mkF m 16 #[iv p1, rv b1, iv 5, iv 1, rv w_TLS] [(.int 1), (.ref b1)])) (fun _ k => XS.iloadN X4.here hx rfl (hb hby d2_15) rfl k) ?_
    obtain ⟨cl7, Ar7, -, S7, -, H7, -⟩ := id vq1
    have hin7 : ¬ ((1 : Int32) < 0 ∨ cl7.slots.size ≤ ((1 : Int32)).toNatClampNeg) := inb_of S7 ⟨by decide, by decide⟩
    have hat7 : cl7.slots[((1 : Int32)).toNatClampNeg]? = some (.ref w_SIM) := H7.at hin7 rfl
    refine Go.st (f' := (mkF m 17 #[iv p1, rv b1, iv 5, iv 1, rv w_TLS] [(.ref w_SIM)])) (fun _ k => X4.aaload hx (j := (1 : Int32)) (v := (.ref w_SIM)) (by rw [e4]; exact Ar7.1) (State.isArrayOf_alike hZ.alike Ar7.2.1) rfl Ar7.2.2 hin7 hat7 (g := (mkF m 16 #[iv p1, rv b1, iv 5, iv 1, rv w_TLS] [(.int 1), (.ref b1)])) rfl rfl (hb hby d2_16) _ k) ?_
    refine Go.st (f' := (mkF m 19 #[iv p1, rv b1, iv 5, iv 1, rv w_SIM] [])) (fun _ k => XS.astore X4.here hx rfl (hb hby d2_17) rfl rfl (l' := #[iv p1, rv b1, iv 5, iv 1, rv w_SIM]) rfl k) ?_
    refine Go.st (f' := (mkF m 21 #[iv p1, rv b1, iv 5, iv 1, rv w_SIM] [(.ref w_SIM)])) (fun _ k => XS.aload X4.here hx rfl (hb hby d2_19) rfl rfl k) ?_
    obtain ⟨T8, X8, e8, st8⟩ := getF X4 hx hZ hown (host := "") (Or.inl (hw _ (List.mem_of_getElem? (i := 28) rfl))) Via.refl e4 (F_w_SIM_number.ext O1.2) (g := (mkF m 21 #[iv p1, rv b1, iv 5, iv 1, rv w_SIM] [(.ref w_SIM)])) rfl rfl (hb hby d2_21)
    refine Go.st (f' := (mkF m 24 #[iv p1, rv b1, iv 5, iv 1, rv w_SIM] [(.int 18)])) (fun _ k => st8 _ k) ?_
    refine Go.st (f' := (mkF m 25 #[iv p1, rv b1, iv 5, iv 1, rv w_SIM] [(.int p1), (.int 18)])) (fun _ k => XS.iloadN X8.here hx rfl (hb hby d2_24) rfl k) ?_
    by_cases cd9 : (18 : Int32) = p1
    · refine Go.st (f' := (mkF m 28 #[iv p1, rv b1, iv 5, iv 1, rv w_SIM] [])) (fun _ k => XS.icmpNo X8.here hx rfl (hb hby d2_25) rfl (teq cd9).2 k) ?_
      refine Go.st (f' := (mkF m 30 #[iv p1, rv b1, iv 5, iv 1, rv w_SIM] [(.ref w_SIM)])) (fun _ k => XS.aload X8.here hx rfl (hb hby d2_28) rfl rfl k) ?_
      obtain ⟨_, _, ⟨T10, L10, kk10, nn10⟩, -, X10, ⟨Lc10, hQ10, lq10, yq10, zz10⟩, st10⟩ := Jvm.LawKit.callS X8 hx (y := (⟨"java/util/Optional", "of", "(Ljava/lang/Object;)Ljava/util/Optional;"⟩ : MethodName)) hown (mvT hZ (hw _ (List.mem_of_getElem? (i := 30) rfl))) (mvT hZ (hw _ (List.mem_of_getElem? (i := 31) rfl))) (mvT hZ (hw _ (List.mem_of_getElem? (i := 32) rfl))) (mvT hZ (hw _ (List.mem_of_getElem? (i := 33) rfl))) (by decide) (own_back (W := 0) (rmO l Z a0 hw [] w_SIM T1.heap n0 O1) hZ (hw _ (List.mem_of_getElem? (i := 33) rfl)) (hw _ (List.mem_of_getElem? (i := 32) rfl)) (by decide) (by decide)) (g := (mkF m 30 #[iv p1, rv b1, iv 5, iv 1, rv w_SIM] [(.ref w_SIM)])) rfl (by rw [hml]; rfl) (argsL := [(.ref w_SIM)]) (rest := []) (lenOf pd__Ljava_lang_Object__Ljava_util_Optional_ rfl) rfl (by show 2 * 0 + _ ≤ _; exact Nat.le_of_eq rfl) (hb hby d2_30) (fun _ _ => ⟨rfl, e8, (by decide : 1 + 1 ≤ _), (by decide : 5 + 1 ≤ _)⟩)
      dsimp only [Pt.U, Pt.locs, Pt.cells, Pt.slots] at X10 lq10 yq10 zz10 st10 hQ10
      subst lq10 yq10 zz10
      obtain ⟨b10, rfl, Nq10, zq10, kq10, eq10, fq10⟩ := hQ10
      have N10 := Fr.app N1 Nq10
      have ne_b1_b10 : b1 ≠ b10 := Nat.ne_of_lt (Nat.lt_of_lt_of_le lt_b1 zq10)
      have ne_w__VALUES_b10 : w__VALUES ≠ b10 := Nat.ne_of_lt (Nat.lt_of_lt_of_le lt_w__VALUES (Nat.le_trans O1.2.1 zq10))
      have ne_w_TLS_b10 : w_TLS ≠ b10 := Nat.ne_of_lt (Nat.lt_of_lt_of_le lt_w_TLS (Nat.le_trans O1.2.1 zq10))
      have ne_w_SIM_b10 : w_SIM ≠ b10 := Nat.ne_of_lt (Nat.lt_of_lt_of_le lt_w_SIM (Nat.le_trans O1.2.1 zq10))
      have ne_w_TTLS_b10 : w_TTLS ≠ b10 := Nat.ne_of_lt (Nat.lt_of_lt_of_le lt_w_TTLS (Nat.le_trans O1.2.1 zq10))
      have ne_w_AKA_b10 : w_AKA ≠ b10 := Nat.ne_of_lt (Nat.lt_of_lt_of_le lt_w_AKA (Nat.le_trans O1.2.1 zq10))
      have ne_w_AKA_PRIME_b10 : w_AKA_PRIME ≠ b10 := Nat.ne_of_lt (Nat.lt_of_lt_of_le lt_w_AKA_PRIME (Nat.le_trans O1.2.1 zq10))
      have ne_w_EMPTY_b10 : w_EMPTY ≠ b10 := Nat.ne_of_lt (Nat.lt_of_lt_of_le lt_w_EMPTY (Nat.le_trans O1.2.1 zq10))
      have g_b10 : n0 ≤ b10 := Nat.le_trans (O1.1 ▸ O1.2.1) zq10
      have sz_b10 : h0.size ≤ b10 := Nat.le_trans K1.1 zq10
      have O10 : Old Z n0 T10.heap := O1.keep kq10 all0
      have K10 : Keep h0 T10.heap [] := K1.trans kq10 all0
      have lt_b10 := eq10.lt
      refine Go.st (f' := (mkF m 33 #[iv p1, rv b1, iv 5, iv 1, rv w_SIM] [(.ref b10)])) (fun _ k => st10 _ k) ?_
      refine Go.retV X10 hlk hx (t := (.object "java/util/Optional")) hret rfl (Or.inr (Or.inr (Or.inr (Or.inr ⟨rfl, rfl, rfl⟩)))) (hb hby d2_33) rfl ?_ (by decide) (by decide)
      have hv : (numV p1 w_TLS w_SIM w_TTLS w_AKA w_AKA_PRIME) = (.ref w_SIM) := by rw [numV, if_neg cd5, if_pos cd9]
      refine ⟨b10, rfl, N10, K10, eq10, ?_⟩
      rw [hv]; exact fq10
    · refine Go.st (f' := (mkF m 34 #[iv p1, rv b1, iv 5, iv 1, rv w_SIM] [])) (fun _ k => XS.icmpYes X8.here hx rfl (pc0 := 25) (pc' := 34) rfl (hb hby d2_25) rfl (feq cd9).2 (by decide) (by decide) k) ?_
      refine Go.st (f' := (mkF m 37 #[iv p1, rv b1, iv 5, iv 2, rv w_SIM] [])) (fun _ k => XS.iinc X8.here hx rfl (hb hby d2_34) rfl (l' := #[iv p1, rv b1, iv 5, iv 2, rv w_SIM]) rfl k) ?_
      refine Go.st (f' := (mkF m 9 #[iv p1, rv b1, iv 5, iv 2, rv w_SIM] [])) (fun _ k => XS.goto X8.here hx rfl (pc0 := 37) (pc' := 9) rfl (hb hby d2_37) (by decide) (by decide) k) ?_
      refine Go.st (f' := (mkF m 10 #[iv p1, rv b1, iv 5, iv 2, rv w_SIM] [(.int 2)])) (fun _ k => XS.iloadN X8.here hx rfl (hb hby d2_9) rfl k) ?_
      refine Go.st (f' := (mkF m 11 #[iv p1, rv b1, iv 5, iv 2, rv w_SIM] [(.int 5), (.int 2)])) (fun _ k => XS.iloadN X8.here hx rfl (hb hby d2_10) rfl k) ?_
      refine Go.st (f' := (mkF m 14 #[iv p1, rv b1, iv 5, iv 2, rv w_SIM] [])) (fun _ k => XS.icmpNo X8.here hx rfl (hb hby d2_11) rfl (by decide) k) ?_
      refine Go.st (f' := (mkF m 15 #[iv p1, rv b1, iv 5, iv 2, rv w_SIM] [(.ref b1)])) (fun _ k => XS.aloadN X8.here hx rfl (hb hby d2_14) rfl rfl k) ?_
      refine Go.st (f' := (mkF m 16 #[iv p1, rv b1, iv 5, iv 2, rv w_SIM] [(.int 2), (.ref b1)])) (fun _ k => XS.iloadN X8.here hx rfl (hb hby d2_15) rfl k) ?_
      obtain ⟨cl11, Ar11, -, S11, -, H11, -⟩ := id vq1
      have hin11 : ¬ ((2 : Int32) < 0 ∨ cl11.slots.size ≤ ((2 : Int32)).toNatClampNeg) := inb_of S11 ⟨by decide, by decide⟩
      have hat11 : cl11.slots[((2 : Int32)).toNatClampNeg]? = some (.ref w_TTLS) := H11.at hin11 rfl
      refine Go.st (f' := (mkF m 17 #[iv p1, rv b1, iv 5, iv 2, rv w_SIM] [(.ref w_TTLS)])) (fun _ k => X8.aaload hx (j := (2 : Int32)) (v := (.ref w_TTLS)) (by rw [e8]; exact Ar11.1) (State.isArrayOf_alike hZ.alike Ar11.2.1) rfl Ar11.2.2 hin11 hat11 (g := (mkF m 16 #[iv p1, rv b1, iv 5, iv 2, rv w_SIM] [(.int 2), (.ref b1)])) rfl rfl (hb hby d2_16) _ k) ?_
      refine Go.st (f' := (mkF m 19 #[iv p1, rv b1, iv 5, iv 2, rv w_TTLS] [])) (fun _ k => XS.astore X8.here hx rfl (hb hby d2_17) rfl rfl (l' := #[iv p1, rv b1, iv 5, iv 2, rv w_TTLS]) rfl k) ?_
      refine Go.st (f' := (mkF m 21 #[iv p1, rv b1, iv 5, iv 2, rv w_TTLS] [(.ref w_TTLS)])) (fun _ k => XS.aload X8.here hx rfl (hb hby d2_19) rfl rfl k) ?_
      obtain ⟨T12, X12, e12, st12⟩ := getF X8 hx hZ hown (host := "") (Or.inl (hw _ (List.mem_of_getElem? (i := 28) rfl))) Via.refl e8 (F_w_TTLS_number.ext O1.2) (g := (mkF m 21 #[iv p1, rv b1, iv 5, iv 2, rv w_TTLS] [(.ref w_TTLS)])) rfl rfl (hb hby d2_21)
      refine Go.st (f' := (mkF m 24 #[iv p1, rv b1, iv 5, iv 2, rv w_TTLS] [(.int 21)])) (fun _ k => st12 _ k) ?_
      refine Go.st (f' := (mkF m 25 #[iv p1, rv b1, iv 5, iv 2, rv w_TTLS] [(.int p1), (.int 21)])) (fun _ k => XS.iloadN X12.here hx rfl (hb hby d2_24) rfl k) ?_
      by_cases cd13 : (21 : Int32) = p1
      · refine Go.st (f' := (mkF m 28 #[iv p1, rv b1, iv 5, iv 2, rv w_TTLS] [])) (fun _ k => XS.icmpNo X12.here hx rfl (hb hby d2_25) rfl (teq cd13).2 k) ?_
        refine Go.st (f' := (mkF m 30 #[iv p1, rv b1, iv 5, iv 2, rv w_TTLS] [(.ref w_TTLS)])) (fun _ k => XS.aload X12.here hx rfl (hb hby d2_28) rfl rfl k) ?_
        obtain ⟨_, _, ⟨T14, L14, kk14, nn14⟩, -, X14, ⟨Lc14, hQ14, lq14, yq14, zz14⟩, st14⟩ := Jvm.LawKit.callS X12 hx (y := (⟨"java/util/Optional", "of", "(Ljava/lang/Object;)Ljava/util/Optional;"⟩ : MethodName)) hown (mvT hZ (hw _ (List.mem_of_getElem? (i := 30) rfl))) (mvT hZ (hw _ (List.mem_of_getElem? (i := 31) rfl))) (mvT hZ (hw _ (List.mem_of_getElem? (i := 32) rfl))) (mvT hZ (hw _ (List.mem_of_getElem? (i := 33) rfl))) (by decide) (own_back (W := 0) (rmO l Z a0 hw [] w_TTLS T1.heap n0 O1) hZ (hw _ (List.mem_of_getElem? (i := 33) rfl)) (hw _ (List.mem_of_getElem? (i := 32) rfl)) (by decide) (by decide)) (g := (mkF m 30 #[iv p1, rv b1, iv 5, iv 2, rv w_TTLS] [(.ref w_TTLS)])) rfl (by rw [hml]; rfl) (argsL := [(.ref w_TTLS)]) (rest := []) (lenOf pd__Ljava_lang_Object__Ljava_util_Optional_ rfl) rfl (by show 2 * 0 + _ ≤ _; exact Nat.le_of_eq rfl) (hb hby d2_30) (fun _ _ => ⟨rfl, e12, (by decide : 1 + 1 ≤ _), (by decide : 5 + 1 ≤ _)⟩)
        dsimp only [Pt.U, Pt.locs, Pt.cells, Pt.slots] at X14 lq14 yq14 zz14 st14 hQ14
        subst lq14 yq14 zz14
        obtain ⟨b14, rfl, Nq14, zq14, kq14, eq14, fq14⟩ := hQ14
        have N14 := Fr.app N1 Nq14
        have ne_b1_b14 : b1 ≠ b14 := Nat.ne_of_lt (Nat.lt_of_lt_of_le lt_b1 zq14)
        have ne_w__VALUES_b14 : w__VALUES ≠ b14 := Nat.ne_of_lt (Nat.lt_of_lt_of_le lt_w__VALUES (Nat.le_trans O1.2.1 zq14))
        have ne_w_TLS_b14 : w_TLS ≠ b14 := Nat.ne_of_lt (Nat.lt_of_lt_of_le lt_w_TLS (Nat.le_trans O1.2.1 zq14))
        have ne_w_SIM_b14 : w_SIM ≠ b14 := Nat.ne_of_lt (Nat.lt_of_lt_of_le lt_w_SIM (Nat.le_trans O1.2.1 zq14))
        have ne_w_TTLS_b14 : w_TTLS ≠ b14 := Nat.ne_of_lt (Nat.lt_of_lt_of_le lt_w_TTLS (Nat.le_trans O1.2.1 zq14))
        have ne_w_AKA_b14 : w_AKA ≠ b14 := Nat.ne_of_lt (Nat.lt_of_lt_of_le lt_w_AKA (Nat.le_trans O1.2.1 zq14))
        have ne_w_AKA_PRIME_b14 : w_AKA_PRIME ≠ b14 := Nat.ne_of_lt (Nat.lt_of_lt_of_le lt_w_AKA_PRIME (Nat.le_trans O1.2.1 zq14))
        have ne_w_EMPTY_b14 : w_EMPTY ≠ b14 := Nat.ne_of_lt (Nat.lt_of_lt_of_le lt_w_EMPTY (Nat.le_trans O1.2.1 zq14))
        have g_b14 : n0 ≤ b14 := Nat.le_trans (O1.1 ▸ O1.2.1) zq14
        have sz_b14 : h0.size ≤ b14 := Nat.le_trans K1.1 zq14
        have O14 : Old Z n0 T14.heap := O1.keep kq14 all0
        have K14 : Keep h0 T14.heap [] := K1.trans kq14 all0
        have lt_b14 := eq14.lt
        refine Go.st (f' := (mkF m 33 #[iv p1, rv b1, iv 5, iv 2, rv w_TTLS] [(.ref b14)])) (fun _ k => st14 _ k) ?_
        refine Go.retV X14 hlk hx (t := (.object "java/util/Optional")) hret rfl (Or.inr (Or.inr (Or.inr (Or.inr ⟨rfl, rfl, rfl⟩)))) (hb hby d2_33) rfl ?_ (by decide) (by decide)
        have hv : (numV p1 w_TLS w_SIM w_TTLS w_AKA w_AKA_PRIME) = (.ref w_TTLS) := by rw [numV, if_neg cd5, if_neg cd9, if_pos cd13]
        refine ⟨b14, rfl, N14, K14, eq14, ?_⟩
        rw [hv]; exact fq14
      · refine Go.st (f' := (mkF m 34 #[iv p1, rv b1, iv 5, iv 2, rv w_TTLS] [])) (fun _ k => XS.icmpYes X12.here hx rfl (pc0 := 25) (pc' := 34) rfl (hb hby d2_25) rfl (feq cd13).2 (by decide) (by decide) k) ?_
        refine Go.st (f' := (mkF m 37 #[iv p1, rv b1, iv 5, iv 3, rv w_TTLS] [])) (fun _ k => XS.iinc X12.here hx rfl (hb hby d2_34) rfl (l' := #[iv p1, rv b1, iv 5, iv 3, rv w_TTLS]) rfl k) ?_
        refine Go.st (f' := (mkF m 9 #[iv p1, rv b1, iv 5, iv 3, rv w_TTLS] [])) (fun _ k => XS.goto X12.here hx rfl (pc0 := 37) (pc' := 9) rfl (hb hby d2_37) (by decide) (by decide) k) ?_
        refine Go.st (f' := (mkF m 10 #[iv p1, rv b1, iv 5, iv 3, rv w_TTLS] [(.int 3)])) (fun _ k => XS.iloadN X12.here hx rfl (hb hby d2_9) rfl k) ?_
        refine Go.st (f' := (mkF m 11 #[iv p1, rv b1, iv 5, iv 3, rv w_TTLS] [(.int 5), (.int 3)])) (fun _ k => XS.iloadN X12.here hx rfl (hb hby d2_10) rfl k) ?_
        refine Go.st (f' := (mkF m 14 #[iv p1, rv b1, iv 5, iv 3, rv w_TTLS] [])) (fun _ k => XS.icmpNo X12.here hx rfl (hb hby d2_11) rfl (by decide) k) ?_
        refine Go.st (f' := (mkF m 15 #[iv p1, rv b1, iv 5, iv 3, rv w_TTLS] [(.ref b1)])) (fun _ k => XS.aloadN X12.here hx rfl (hb hby d2_14) rfl rfl k) ?_
        refine Go.st (f' := (mkF m 16 #[iv p1, rv b1, iv 5, iv 3, rv w_TTLS] [(.int 3), (.ref b1)])) (fun _ k => XS.iloadN X12.here hx rfl (hb hby d2_15) rfl k) ?_
        obtain ⟨cl15, Ar15, -, S15, -, H15, -⟩ := id vq1
        have hin15 : ¬ ((3 : Int32) < 0 ∨ cl15.slots.size ≤ ((3 : Int32)).toNatClampNeg) := inb_of S15 ⟨by decide, by decide⟩
        have hat15 : cl15.slots[((3 : Int32)).toNatClampNeg]? = some (.ref w_AKA) := H15.at hin15 rfl
        refine Go.st (f' := (mkF m 17 #[iv p1, rv b1, iv 5, iv 3, rv w_TTLS] [(.ref w_AKA)])) (fun _ k => X12.aaload hx (j := (3 : Int32)) (v := (.ref w_AKA)) (by rw [e12]; exact Ar15.1) (State.isArrayOf_alike hZ.alike Ar15.2.1) rfl Ar15.2.2 hin15 hat15 (g := (mkF m 16 #[iv p1, rv b1, iv 5, iv 3, rv w_TTLS] [(.int 3), (.ref b1)])) rfl rfl (hb hby d2_16) _ k) ?_
        refine Go.st (f' := (mkF m 19 #[iv p1, rv b1, iv 5, iv 3, rv w_AKA] [])) (fun _ k => XS.astore X12.here hx rfl (hb hby d2_17) rfl rfl (l' := #[iv p1, rv b1, iv 5, iv 3, rv w_AKA]) rfl k) ?_
        refine Go.st (f' := (mkF m 21 #[iv p1, rv b1, iv 5, iv 3, rv w_AKA] [(.ref w_AKA)])) (fun _ k => XS.aload X12.here hx rfl (hb hby d2_19) rfl rfl k) ?_
        obtain ⟨T16, X16, e16, st16⟩ := getF X12 hx hZ hown (host := "") (Or.inl (hw _ (List.mem_of_getElem? (i := 28) rfl))) Via.refl e12 (F_w_AKA_number.ext O1.2) (g := (mkF m 21 #[iv p1, rv b1, iv 5, iv 3, rv w_AKA] [(.ref w_AKA)])) rfl rfl (hb hby d2_21)
        refine Go.st (f' := (mkF m 24 #[iv p1, rv b1, iv 5, iv 3, rv w_AKA] [(.int 23)])) (fun _ k => st16 _ k) ?_
        refine Go.st (f' := (mkF m 25 #[iv p1, rv b1, iv 5, iv 3, rv w_AKA] [(.int p1), (.int 23)])) (fun _ k => XS.iloadN X16.here hx rfl (hb hby d2_24) rfl k) ?_
        by_cases cd17 : (23 : Int32) = p1
        · refine Go.st (f' := (mkF m 28 #[iv p1, rv b1, iv 5, iv 3, rv w_AKA] [])) (fun _ k => XS.icmpNo X16.here hx rfl (hb hby d2_25) rfl (teq cd17).2 k) ?_
          refine Go.st (f' := (mkF m 30 #[iv p1, rv b1, iv 5, iv 3, rv w_AKA] [(.ref w_AKA)])) (fun _ k => XS.aload X16.here hx rfl (hb hby d2_28) rfl rfl k) ?_
          obtain ⟨_, _, ⟨T18, L18, kk18, nn18⟩, -, X18, ⟨Lc18, hQ18, lq18, yq18, zz18⟩, st18⟩ := Jvm.LawKit.callS X16 hx (y := (⟨"java/util/Optional", "of", "(Ljava/lang/Object;)Ljava/util/Optional;"⟩ : MethodName)) hown (mvT hZ (hw _ (List.mem_of_getElem? (i := 30) rfl))) (mvT hZ (hw _ (List.mem_of_getElem? (i := 31) rfl))) (mvT hZ (hw _ (List.mem_of_getElem? (i := 32) rfl))) (mvT hZ (hw _ (List.mem_of_getElem? (i := 33) rfl))) (by decide) (own_back (W := 0) (rmO l Z a0 hw [] w_AKA T1.heap n0 O1) hZ (hw _ (List.mem_of_getElem? (i := 33) rfl)) (hw _ (List.mem_of_getElem? (i := 32) rfl)) (by decide) (by decide)) (g := (mkF m 30 #[iv p1, rv b1, iv 5, iv 3, rv w_AKA] [(.ref w_AKA)])) rfl (by rw [hml]; rfl) (argsL := [(.ref w_AKA)]) (rest := []) (lenOf pd__Ljava_lang_Object__Ljava_util_Optional_ rfl) rfl (by show 2 * 0 + _ ≤ _; exact Nat.le_of_eq rfl) (hb hby d2_30) (fun _ _ => ⟨rfl, e16, (by decide : 1 + 1 ≤ _), (by decide : 5 + 1 ≤ _)⟩)
          dsimp only [Pt.U, Pt.locs, Pt.cells, Pt.slots] at X18 lq18 yq18 zz18 st18 hQ18
          subst lq18 yq18 zz18
          obtain ⟨b18, rfl, Nq18, zq18, kq18, eq18, fq18⟩ := hQ18
          have N18 := Fr.app N1 Nq18
          have ne_b1_b18 : b1 ≠ b18 := Nat.ne_of_lt (Nat.lt_of_lt_of_le lt_b1 zq18)
          have ne_w__VALUES_b18 : w__VALUES ≠ b18 := Nat.ne_of_lt (Nat.lt_of_lt_of_le lt_w__VALUES (Nat.le_trans O1.2.1 zq18))
          have ne_w_TLS_b18 : w_TLS ≠ b18 := Nat.ne_of_lt (Nat.lt_of_lt_of_le lt_w_TLS (Nat.le_trans O1.2.1 zq18))
          have ne_w_SIM_b18 : w_SIM ≠ b18 := Nat.ne_of_lt (Nat.lt_of_lt_of_le lt_w_SIM (Nat.le_trans O1.2.1 zq18))
          have ne_w_TTLS_b18 : w_TTLS ≠ b18 := Nat.ne_of_lt (Nat.lt_of_lt_of_le lt_w_TTLS (Nat.le_trans O1.2.1 zq18))
          have ne_w_AKA_b18 : w_AKA ≠ b18 := Nat.ne_of_lt (Nat.lt_of_lt_of_le lt_w_AKA (Nat.le_trans O1.2.1 zq18))
          have ne_w_AKA_PRIME_b18 : w_AKA_PRIME ≠ b18 := Nat.ne_of_lt (Nat.lt_of_lt_of_le lt_w_AKA_PRIME (Nat.le_trans O1.2.1 zq18))
          have ne_w_EMPTY_b18 : w_EMPTY ≠ b18 := Nat.ne_of_lt (Nat.lt_of_lt_of_le lt_w_EMPTY (Nat.le_trans O1.2.1 zq18))
          have g_b18 : n0 ≤ b18 := Nat.le_trans (O1.1 ▸ O1.2.1) zq18
          have sz_b18 : h0.size ≤ b18 := Nat.le_trans K1.1 zq18
          have O18 : Old Z n0 T18.heap := O1.keep kq18 all0
          have K18 : Keep h0 T18.heap [] := K1.trans kq18 all0
          have lt_b18 := eq18.lt
          refine Go.st (f' := (mkF m 33 #[iv p1, rv b1, iv 5, iv 3, rv w_AKA] [(.ref b18)])) (fun _ k => st18 _ k) ?_
          refine Go.retV X18 hlk hx (t := (.object "java/util/Optional")) hret rfl (Or.inr (Or.inr (Or.inr (Or.inr ⟨rfl, rfl, rfl⟩)))) (hb hby d2_33) rfl ?_ (by decide) (by decide)
          have hv : (numV p1 w_TLS w_SIM w_TTLS w_AKA w_AKA_PRIME) = (.ref w_AKA) := by rw [numV, if_neg cd5, if_neg cd9, if_neg cd13, if_pos cd17]
          refine ⟨b18, rfl, N18, K18, eq18, ?_⟩
          rw [hv]; exact fq18
        · refine Go.st (f' := (mkF m 34 #[iv p1, rv b1, iv 5, iv 3, rv w_AKA] [])) (fun _ k => XS.icmpYes X16.here hx rfl (pc0 := 25) (pc' := 34) rfl (hb hby d2_25) rfl (feq cd17).2 (by decide) (by decide) k) ?_
          refine Go.st (f' := (mkF m 37 #[iv p1, rv b1, iv 5, iv 4, rv w_AKA] [])) (fun _ k => XS.iinc X16.here hx rfl (hb hby d2_34) rfl (l' := #[iv p1, rv b1, iv 5, iv 4, rv w_AKA]) rfl k) ?_
          refine Go.st (f' := (mkF m 9 #[iv p1, rv b1, iv 5, iv 4, rv w_AKA] [])) (fun _ k => XS.goto X16.here hx rfl (pc0 := 37) (pc' := 9) rfl (hb hby d2_37) (by decide) (by decide) k) ?_
          refine Go.st (f' := (mkF m 10 #[iv p1, rv b1, iv 5, iv 4, rv w_AKA] [(.int 4)])) (fun _ k => XS.iloadN X16.here hx rfl (hb hby d2_9) rfl k) ?_
          refine Go.st (f' := (mkF m 11 #[iv p1, rv b1, iv 5, iv 4, rv w_AKA] [(.int 5), (.int 4)])) (fun _ k => XS.iloadN X16.here hx rfl (hb hby d2_10) rfl k) ?_
          refine Go.st (f' := (mkF m 14 #[iv p1, rv b1, iv 5, iv 4, rv w_AKA] [])) (fun _ k => XS.icmpNo X16.here hx rfl (hb hby d2_11) rfl (by decide) k) ?_
          refine Go.st (f' := (mkF m 15 #[iv p1, rv b1, iv 5, iv 4, rv w_AKA] [(.ref b1)])) (fun _ k => XS.aloadN X16.here hx rfl (hb hby d2_14) rfl rfl k) ?_
          refine Go.st (f' := (mkF m 16 #[iv p1, rv b1, iv 5, iv 4, rv w_AKA] [(.int 4), (.ref b1)])) (fun _ k => XS.iloadN X16.here hx rfl (hb hby d2_15) rfl k) ?_
          obtain ⟨cl19, Ar19, -, S19, -, H19, -⟩ := id vq1
          have hin19 : ¬ ((4 : Int32) < 0 ∨ cl19.slots.size ≤ ((4 : Int32)).toNatClampNeg) := inb_of S19 ⟨by decide, by decide⟩
          have hat19 : cl19.slots[((4 : Int32)).toNatClampNeg]? = some (.ref w_AKA_PRIME) := H19.at hin19 rfl
          refine Go.st (f' := (mkF m 17 #[iv p1, rv b1, iv 5, iv 4, rv w_AKA] [(.ref w_AKA_PRIME)])) (fun _ k => X16.aaload hx (j := (4 : Int32)) (v := (.ref w_AKA_PRIME)) (by rw [e16]; exact Ar19.1) (State.isArrayOf_alike hZ.alike Ar19.2.1) rfl Ar19.2.2 hin19 hat19 (g := (mkF m 16 #[iv p1, rv b1, iv 5, iv 4, rv w_AKA] [(.int 4), (.ref b1)])) rfl rfl (hb hby d2_16) _ k) ?_
          refine Go.st (f' := (mkF m 19 #[iv p1, rv b1, iv 5, iv 4, rv w_AKA_PRIME] [])) (fun _ k => XS.astore X16.here hx rfl (hb hby d2_17) rfl rfl (l' := #[iv p1, rv b1, iv 5, iv 4, rv w_AKA_PRIME]) rfl k) ?_
          refine Go.st (f' := (mkF m 21 #[iv p1, rv b1, iv 5, iv 4, rv w_AKA_PRIME] [(.ref w_AKA_PRIME)])) (fun _ k => XS.aload X16.here hx rfl (hb hby d2_19) rfl rfl k) ?_
          obtain ⟨T20, X20, e20, st20⟩ := getF X16 hx hZ hown (host := "") (Or.inl (hw _ (List.mem_of_getElem? (i := 28) rfl))) Via.refl e16 (F_w_AKA_PRIME_number.ext O1.2) (g := (mkF m 21 #[iv p1, rv b1, iv 5, iv 4, rv w_AKA_PRIME] [(.ref w_AKA_PRIME)])) rfl rfl (hb hby d2_21)
          refine Go.st (f' := (mkF m 24 #[iv p1, rv b1, iv 5, iv 4, rv w_AKA_PRIME] [(.int 50)])) (fun _ k => st20 _ k) ?_
          refine Go.st (f' := (mkF m 25 #[iv p1, rv b1, iv 5, iv 4, rv w_AKA_PRIME] [(.int p1), (.int 50)])) (fun _ k => XS.iloadN X20.here hx rfl (hb hby d2_24) rfl k) ?_
          by_cases cd21 : (50 : Int32) = p1
          · refine Go.st (f' := (mkF m 28 #[iv p1, rv b1, iv 5, iv 4, rv w_AKA_PRIME] [])) (fun _ k => XS.icmpNo X20.here hx rfl (hb hby d2_25) rfl (teq cd21).2 k) ?_
            refine Go.st (f' := (mkF m 30 #[iv p1, rv b1, iv 5, iv 4, rv w_AKA_PRIME] [(.ref w_AKA_PRIME)])) (fun _ k => XS.aload X20.here hx rfl (hb hby d2_28) rfl rfl k) ?_
            obtain ⟨_, _, ⟨T22, L22, kk22, nn22⟩, -, X22, ⟨Lc22, hQ22, lq22, yq22, zz22⟩, st22⟩ := Jvm.LawKit.callS X20 hx (y := (⟨"java/util/Optional", "of", "(Ljava/lang/Object;)Ljava/util/Optional;"⟩ : MethodName)) hown (mvT hZ (hw _ (List.mem_of_getElem? (i := 30) rfl))) (mvT hZ (hw _ (List.mem_of_getElem? (i := 31) rfl))) (mvT hZ (hw _ (List.mem_of_getElem? (i := 32) rfl))) (mvT hZ (hw _ (List.mem_of_getElem? (i := 33) rfl))) (by decide) (own_back (W := 0) (rmO l Z a0 hw [] w_AKA_PRIME T1.heap n0 O1) hZ (hw _ (List.mem_of_getElem? (i := 33) rfl)) (hw _ (List.mem_of_getElem? (i := 32) rfl)) (by decide) (by decide)) (g := (mkF m 30 #[iv p1, rv b1, iv 5, iv 4, rv w_AKA_PRIME] [(.ref w_AKA_PRIME)])) rfl (by rw [hml]; rfl) (argsL := [(.ref w_AKA_PRIME)]) (rest := []) (lenOf pd__Ljava_lang_Object__Ljava_util_Optional_ rfl) rfl (by show 2 * 0 + _ ≤ _; exact Nat.le_of_eq rfl) (hb hby d2_30) (fun _ _ => ⟨rfl, e20, (by decide : 1 + 1 ≤ _), (by decide : 5 + 1 ≤ _)⟩)
            dsimp only [Pt.U, Pt.locs, Pt.cells, Pt.slots] at X22 lq22 yq22 zz22 st22 hQ22
            subst lq22 yq22 zz22
            obtain ⟨b22, rfl, Nq22, zq22, kq22, eq22, fq22⟩ := hQ22
            have N22 := Fr.app N1 Nq22
            have ne_b1_b22 : b1 ≠ b22 := Nat.ne_of_lt (Nat.lt_of_lt_of_le lt_b1 zq22)
            have ne_w__VALUES_b22 : w__VALUES ≠ b22 := Nat.ne_of_lt (Nat.lt_of_lt_of_le lt_w__VALUES (Nat.le_trans O1.2.1 zq22))
            have ne_w_TLS_b22 : w_TLS ≠ b22 := Nat.ne_of_lt (Nat.lt_of_lt_of_le lt_w_TLS (Nat.le_trans O1.2.1 zq22))
            have ne_w_SIM_b22 : w_SIM ≠ b22 := Nat.ne_of_lt (Nat.lt_of_lt_of_le lt_w_SIM (Nat.le_trans O1.2.1 zq22))
            have ne_w_TTLS_b22 : w_TTLS ≠ b22 := Nat.ne_of_lt (Nat.lt_of_lt_of_le lt_w_TTLS (Nat.le_trans O1.2.1 zq22))
            have ne_w_AKA_b22 : w_AKA ≠ b22 := Nat.ne_of_lt (Nat.lt_of_lt_of_le lt_w_AKA (Nat.le_trans O1.2.1 zq22))
            have ne_w_AKA_PRIME_b22 : w_AKA_PRIME ≠ b22 := Nat.ne_of_lt (Nat.lt_of_lt_of_le lt_w_AKA_PRIME (Nat.le_trans O1.2.1 zq22))
            have ne_w_EMPTY_b22 : w_EMPTY ≠ b22 := Nat.ne_of_lt (Nat.lt_of_lt_of_le lt_w_EMPTY (Nat.le_trans O1.2.1 zq22))
            have g_b22 : n0 ≤ b22 := Nat.le_trans (O1.1 ▸ O1.2.1) zq22
            have sz_b22 : h0.size ≤ b22 := Nat.le_trans K1.1 zq22
            have O22 : Old Z n0 T22.heap := O1.keep kq22 all0
            have K22 : Keep h0 T22.heap [] := K1.trans kq22 all0
            have lt_b22 := eq22.lt
            refine Go.st (f' := (mkF m 33 #[iv p1, rv b1, iv 5, iv 4, rv w_AKA_PRIME] [(.ref b22)])) (fun _ k => st22 _ k) ?_
            refine Go.retV X22 hlk hx (t := (.object "java/util/Optional")) hret rfl (Or.inr (Or.inr (Or.inr (Or.inr ⟨rfl, rfl, rfl⟩)))) (hb hby d2_33) rfl ?_ (by decide) (by decide)
            have hv : (numV p1 w_TLS w_SIM w_TTLS w_AKA w_AKA_PRIME) = (.ref w_AKA_PRIME) := by rw [numV, if_neg cd5, if_neg cd9, if_neg cd13, if_neg cd17, if_pos cd21]
            refine ⟨b22, rfl, N22, K22, eq22, ?_⟩
            rw [hv]; exact fq22
          · refine Go.st (f' := (mkF m 34 #[iv p1, rv b1, iv 5, iv 4, rv w_AKA_PRIME] [])) (fun _ k => XS.icmpYes X20.here hx rfl (pc0 := 25) (pc' := 34) rfl (hb hby d2_25) rfl (feq cd21).2 (by decide) (by decide) k) ?_
            refine Go.st (f' := (mkF m 37 #[iv p1, rv b1, iv 5, iv 5, rv w_AKA_PRIME] [])) (fun _ k => XS.iinc X20.here hx rfl (hb hby d2_34) rfl (l' := #[iv p1, rv b1, iv 5, iv 5, rv w_AKA_PRIME]) rfl k) ?_
            refine Go.st (f' := (mkF m 9 #[iv p1, rv b1, iv 5, iv 5, rv w_AKA_PRIME] [])) (fun _ k => XS.goto X20.here hx rfl (pc0 := 37) (pc' := 9) rfl (hb hby d2_37) (by decide) (by decide) k) ?_
            refine Go.st (f' := (mkF m 10 #[iv p1, rv b1, iv 5, iv 5, rv w_AKA_PRIME] [(.int 5)])) (fun _ k => XS.iloadN X20.here hx rfl (hb hby d2_9) rfl k) ?_
            refine Go.st (f' := (mkF m 11 #[iv p1, rv b1, iv 5, iv 5, rv w_AKA_PRIME] [(.int 5), (.int 5)])) (fun _ k => XS.iloadN X20.here hx rfl (hb hby d2_10) rfl k) ?_
            refine Go.st (f' := (mkF m 40 #[iv p1, rv b1, iv 5, iv 5, rv w_AKA_PRIME] [])) (fun _ k => XS.icmpYes X20.here hx rfl (pc0 := 11) (pc' := 40) rfl (hb hby d2_11) rfl (by decide) (by decide) (by decide) k) ?_
            obtain ⟨_, _, ⟨T23, L23, kk23, nn23⟩, -, X23, ⟨Lc23, hQ23, lq23, yq23, zz23⟩, st23⟩ := Jvm.LawKit.callS X20 hx (y := (⟨"java/util/Optional", "empty", "()Ljava/util/Optional;"⟩ : MethodName)) hown (mvT hZ (hw _ (List.mem_of_getElem? (i := 63) rfl))) (mvT hZ (hw _ (List.mem_of_getElem? (i := 64) rfl))) (mvT hZ (hw _ (List.mem_of_getElem? (i := 32) rfl))) (mvT hZ (hw _ (List.mem_of_getElem? (i := 65) rfl))) (by decide) (own_back (W := 0) (rmM l Z a0 hw [] w__VALUES w_TLS w_SIM w_TTLS w_AKA w_AKA_PRIME w_EMPTY k__VALUES T1.heap n0 O1 WW) hZ (hw _ (List.mem_of_getElem? (i := 65) rfl)) (hw _ (List.mem_of_getElem? (i := 32) rfl)) (by decide) (by decide)) (g := (mkF m 40 #[iv p1, rv b1, iv 5, iv 5, rv w_AKA_PRIME] [])) rfl (by rw [hml]; rfl) (argsL := []) (rest := []) (lenOf pd___Ljava_util_Optional_ rfl) rfl (by show 2 * 0 + _ ≤ _; exact Nat.le_of_eq rfl) (hb hby d2_40) (fun _ _ => ⟨rfl, e20, (by decide : 1 + 0 ≤ _), (by decide : 5 + 0 ≤ _)⟩)
            dsimp only [Pt.U, Pt.locs, Pt.cells, Pt.slots] at X23 lq23 yq23 zz23 st23 hQ23
            subst lq23 yq23 zz23
            obtain ⟨rfl, Nq23, kq23⟩ := hQ23
            have N23 := Fr.app N1 Nq23
            rw [show emV w__VALUES w_TLS w_SIM w_TTLS w_AKA w_AKA_PRIME w_EMPTY k__VALUES = .ref w_EMPTY from rfl] at st23
            refine Go.st (f' := (mkF m 43 #[iv p1, rv b1, iv 5, iv 5, rv w_AKA_PRIME] [(.ref w_EMPTY)])) (fun _ k => st23 _ k) ?_
            refine Go.retV X23 hlk hx (t := (.object "java/util/Optional")) hret rfl (Or.inr (Or.inr (Or.inr (Or.inr ⟨rfl, rfl, rfl⟩)))) (hb hby d2_43) kq23 ?_ (by decide) (by decide)
            have hv : (numV p1 w_TLS w_SIM w_TTLS w_AKA w_AKA_PRIME) = .null := by rw [numV, if_neg cd5, if_neg cd9, if_neg cd13, if_neg cd17, if_neg cd21]
            refine ⟨w_EMPTY, rfl, N23, K1, (E_w_EMPTY.ext O1.2), ?_⟩
            rw [hv]; exact (F_w_EMPTY_value.ext O1.2)
theorem d8_0 : decode jdk_32_method_15_code 0 = .ok (.aload_n 0, 1) := by decide +kernel
theorem d8_1 : decode jdk_32_method_15_code 1 = .ok (.getfield 13, 3) := by decide +kernel
theorem d8_4 : decode jdk_32_method_15_code 4 = .ok (.ifnull 10, 3) := by decide +kernel
theorem d8_7 : decode jdk_32_method_15_code 7 = .ok (.aload_n 0, 1) := by decide +kernel
theorem d8_8 : decode jdk_32_method_15_code 8 = .ok (.getfield 13, 3) := by decide +kernel
theorem d8_11 : decode jdk_32_method_15_code 11 = .ok (.goto 4, 3) := by decide +kernel
theorem d8_15 : decode jdk_32_method_15_code 15 = .ok (.areturn, 1) := by decide +kernel
set_option maxRecDepth 65536 in
set_option maxHeartbeats 40000000 in
theorem rmOr (l : Launch) (Z : State) (a0 : Array Value) (hw : ∀ d ∈ tables_1, d.before a0 Z = true) (ws : List Jvm.Cond) (a1 : Addr) (f1 : Addr) (h0 : Heap) (n0 : Nat) (O0 : Old Z n0 h0) (E_a1 : Exa Z h0 a1 "java/util/Optional") (F_a1_value : Fld Z h0 a1 "java/util/Optional" "value" "Ljava/lang/Object;" (.ref f1)) :
    Con l Z (⟨"java/util/Optional", "orElse", "(Ljava/lang/Object;)Ljava/lang/Object;"⟩ : MethodName) jdk_32_method_15_code 2 (some (.object "java/lang/Object")) ws ({ frames := 0, cells := 0, slots := 0, locals := 0 } : Room) #[(.ref a1), .null] h0 (fun v h L => v = some (.ref f1) ∧ Fr n0 L ∧ h = h0) := by
  refine own_body (plainFor_of_name pn_java_util_Optional) ?_
  intro p e s m below meth c s₁ hx hby hml hZ hown hnm hlk hret X0 e0
  have N0 := Fr.nil n0
  refine Go.st (T' := s₁) (f' := (mkF m 0 #[rv a1, .val .null] [])) (fun _ k => castTop (by first | (simp [entryFrame, mkF, argsToLocals, Value.category]; done) | rfl) k) ?_
  have lt_a1 := E_a1.lt
  refine Go.st (f' := (mkF m 1 #[rv a1, .val .null] [(.ref a1)])) (fun _ k => XS.aloadN X0.here hx rfl (hb hby d8_0) rfl rfl k) ?_
  obtain ⟨T1, X1, e1, st1⟩ := getF X0 hx hZ hown (host := "") (Or.inl (hw _ (List.mem_of_getElem? (i := 47) rfl))) Via.refl e0 F_a1_value (g := (mkF m 1 #[rv a1, .val .null] [(.ref a1)])) rfl rfl (hb hby d8_1)
  refine Go.st (f' := (mkF m 4 #[rv a1, .val .null] [(.ref f1)])) (fun _ k => st1 _ k) ?_
  refine Go.st (f' := (mkF m 7 #[rv a1, .val .null] [])) (fun _ k => XS.ifnullNo X1.here hx rfl (hb hby d8_4) rfl k) ?_
  refine Go.st (f' := (mkF m 8 #[rv a1, .val .null] [(.ref a1)])) (fun _ k => XS.aloadN X1.here hx rfl (hb hby d8_7) rfl rfl k) ?_
  obtain ⟨T2, X2, e2, st2⟩ := getF X1 hx hZ hown (host := "") (Or.inl (hw _ (List.mem_of_getElem? (i := 47) rfl))) Via.refl e1 F_a1_value (g := (mkF m 8 #[rv a1, .val .null] [(.ref a1)])) rfl rfl (hb hby d8_8)
  refine Go.st (f' := (mkF m 11 #[rv a1, .val .null] [(.ref f1)])) (fun _ k => st2 _ k) ?_
  refine Go.st (f' := (mkF m 15 #[rv a1, .val .null] [(.ref f1)])) (fun _ k => XS.goto X2.here hx rfl (pc0 := 11) (pc' := 15) rfl (hb hby d8_11) (by decide) (by decide) k) ?_
  refine Go.retV X2 hlk hx (t := (.object "java/lang/Object")) hret rfl (Or.inr (Or.inr (Or.inr (Or.inr ⟨rfl, rfl, rfl⟩)))) (hb hby d8_15) e2 ?_ (by decide) (by decide)
  exact ⟨rfl, N0, rfl⟩
theorem d8_14 : decode jdk_32_method_15_code 14 = .ok (.aload_n 1, 1) := by decide +kernel
set_option maxRecDepth 65536 in
set_option maxHeartbeats 40000000 in
theorem rmOn (l : Launch) (Z : State) (a0 : Array Value) (hw : ∀ d ∈ tables_1, d.before a0 Z = true) (ws : List Jvm.Cond) (a1 : Addr) (h0 : Heap) (n0 : Nat) (O0 : Old Z n0 h0) (E_a1 : Exa Z h0 a1 "java/util/Optional") (F_a1_value : Fld Z h0 a1 "java/util/Optional" "value" "Ljava/lang/Object;" .null) :
    Con l Z (⟨"java/util/Optional", "orElse", "(Ljava/lang/Object;)Ljava/lang/Object;"⟩ : MethodName) jdk_32_method_15_code 2 (some (.object "java/lang/Object")) ws ({ frames := 0, cells := 0, slots := 0, locals := 0 } : Room) #[(.ref a1), .null] h0 (fun v h L => v = some .null ∧ Fr n0 L ∧ h = h0) := by
  refine own_body (plainFor_of_name pn_java_util_Optional) ?_
  intro p e s m below meth c s₁ hx hby hml hZ hown hnm hlk hret X0 e0
  have N0 := Fr.nil n0
  refine Go.st (T' := s₁) (f' := (mkF m 0 #[rv a1, .val .null] [])) (fun _ k => castTop (by first | (simp [entryFrame, mkF, argsToLocals, Value.category]; done) | rfl) k) ?_
  have lt_a1 := E_a1.lt
  refine Go.st (f' := (mkF m 1 #[rv a1, .val .null] [(.ref a1)])) (fun _ k => XS.aloadN X0.here hx rfl (hb hby d8_0) rfl rfl k) ?_
  obtain ⟨T1, X1, e1, st1⟩ := getF X0 hx hZ hown (host := "") (Or.inl (hw _ (List.mem_of_getElem? (i := 47) rfl))) Via.refl e0 F_a1_value (g := (mkF m 1 #[rv a1, .val .null] [(.ref a1)])) rfl rfl (hb hby d8_1)
  refine Go.st (f' := (mkF m 4 #[rv a1, .val .null] [.null])) (fun _ k => st1 _ k) ?_
  refine Go.st (f' := (mkF m 14 #[rv a1, .val .null] [])) (fun _ k => XS.ifnullYes X1.here hx rfl (pc0 := 4) (pc' := 14) rfl (hb hby d8_4) rfl (by decide) (by decide) k) ?_
  refine Go.st (f' := (mkF m 15 #[rv a1, .val .null] [.null])) (fun _ k => XS.aloadN X1.here hx rfl (hb hby d8_14) rfl rfl k) ?_
  refine Go.retV X1 hlk hx (t := (.object "java/lang/Object")) hret rfl (Or.inr (Or.inr (Or.inr (Or.inr ⟨rfl, rfl, rfl⟩)))) (hb hby d8_15) e1 ?_ (by decide) (by decide)
  exact ⟨rfl, N0, rfl⟩
theorem pd__II_I : parseMethodDescriptor "(II)I" = some ⟨[.int, .int], some .int⟩ := by decide +kernel
theorem pd__I_Ljava_util_Optional_ : parseMethodDescriptor "(I)Ljava/util/Optional;" = some ⟨[.int], some (.object "java/util/Optional")⟩ := by decide +kernel
theorem pd__I_Lcom_example_lapwing_lapwing_eap_EapMethod_ : parseMethodDescriptor "(I)Lcom/example/lapwing/lapwing/eap/EapMethod;" = some ⟨[.int], some (.object "com/example/lapwing/lapwing/eap/EapMethod")⟩ := by decide +kernel
set_option maxRecDepth 65536 in
set_option maxHeartbeats 40000000 in
theorem rm0 (l : Launch) (Z : State) (a0 : Array Value) (hw : ∀ d ∈ tables_1, d.before a0 Z = true) (ws : List Jvm.Cond) (p1 : Int32) (p2 : Int32) (w__VALUES : Addr) (w_TLS : Addr) (w_SIM : Addr) (w_TTLS : Addr) (w_AKA : Addr) (w_AKA_PRIME : Addr) (w_EMPTY : Addr) (k__VALUES : ClassId) (h0 : Heap) (n0 : Nat) (O0 : Old Z n0 h0) (WW : World1 Z w__VALUES w_TLS w_SIM w_TTLS w_AKA w_AKA_PRIME w_EMPTY k__VALUES) :
    MetFree l x (head1 (Jvm.Cond.code x code maxLocals ret :: ws) room_1) (fun a U => a = #[(.int p1), (.int p2)] ∧ Z.Warmed39 U.vm ∧ U.heap = h0) (fun _ _ _ _ _ => True) (fun _ U o U' => ∃ v L, o = .returned v ∧ (fun v h L => v = some (.int (1 : Int32)) ∧ Fr n0 L) v U'.heap L ∧ FrameEnd U o U' L 16 128) := by
  refine MetFree.of_bodySF (plainFor_of_name pn_com_example_lapwing_lapwing_eap_EapMethodForNumberPinLaw) hisR ?_
  intro p e s m args below meth c s₁ Bd hml0 hP hK
  obtain ⟨rfl, hZ, hh⟩ := hP
  have hx := Bd.exec
  have hby := Bd.bytes
  have hml : c.maxLocals = 4 := hml0
  have hlk := Bd.notSynchronized
  have hret := Bd.returns
  have hown : s.vm.findClass "com/example/lapwing/lapwing/eap/EapMethodForNumberPinLaw" = some m.cls := findClass_of_methodNamed Bd.named
  have hnm := (name_of_methodNamed Bd.named Bd.method).1
  have X0 : Stand p l e room_1 s m #[(.int p1), (.int p2)] below meth c s₁ [] 0 0 := Stand.of_body Bd
  have e0 : s₁.heap = h0 := by rw [← hh, Bd.state]; rfl
  show Go p e below (Done s (fun v h L => v = some (.int (1 : Int32)) ∧ Fr n0 L) 16 128) s₁ _
  have N0 := Fr.nil n0
  refine Go.st (T' := s₁) (f' := (mkF m 0 #[iv p1, iv p2, .unset, .unset] [])) (fun _ k => castTop (by first | (simp [entryFrame, mkF, argsToLocals, Value.category, maxLocals]; done) | rfl) k) ?_
  have ⟨S_w__VALUES, E_w__VALUES, S_w_TLS, E_w_TLS, S_w_SIM, E_w_SIM, S_w_TTLS, E_w_TTLS, S_w_AKA, E_w_AKA, S_w_AKA_PRIME, E_w_AKA_PRIME, S_w_EMPTY, E_w_EMPTY, F_w_TLS_number, F_w_SIM_number, F_w_TTLS_number, F_w_AKA_number, F_w_AKA_PRIME_number, F_w_EMPTY_value, V_w__VALUES⟩ := WW
  have lt_w__VALUES := E_w__VALUES.lt
  have lt_w_TLS := E_w_TLS.lt
  have lt_w_SIM := E_w_SIM.lt
  have lt_w_TTLS := E_w_TTLS.lt
  have lt_w_AKA := E_w_AKA.lt
  have lt_w_AKA_PRIME := E_w_AKA_PRIME.lt
  have lt_w_EMPTY := E_w_EMPTY.lt
  refine Go.st (f' := (mkF m 1 #[iv p1, iv p2, .unset, .unset] [(.int p1)])) (fun _ k => XS.iloadN X0.here hx rfl (hb hby at_0) rfl k) ?_
  refine Go.st (f' := (mkF m 2 #[iv p1, iv p2, .unset, .unset] [(.int p2), (.int p1)])) (fun _ k => XS.iloadN X0.here hx rfl (hb hby at_1) rfl k) ?_
  obtain ⟨_, _, ⟨T1, L1, kk1, nn1⟩, -, X1, ⟨Lc1, hQ1, lq1, yq1, zz1⟩, st1⟩ := Jvm.LawKit.callS X0 hx (y := (⟨"com/example/lapwing/lapwing/eap/EapMethodForNumberPinLaw", "pick", "(II)I"⟩ : MethodName)) hown (mvT hZ (hw _ (List.mem_of_getElem? (i := 0) rfl))) (mvT hZ (hw _ (List.mem_of_getElem? (i := 1) rfl))) (mvT hZ (hw _ (List.mem_of_getElem? (i := 2) rfl))) (mvT hZ (hw _ (List.mem_of_getElem? (i := 3) rfl))) (by decide) (own_back (W := 0) (rmP l Z a0 hw [] p1 p2 h0 n0 O0) hZ (hw _ (List.mem_of_getElem? (i := 3) rfl)) (hw _ (List.mem_of_getElem? (i := 2) rfl)) (by decide) (by decide)) (g := (mkF m 2 #[iv p1, iv p2, .unset, .unset] [(.int p2), (.int p1)])) rfl (by rw [hml]; rfl) (argsL := [(.int p1), (.int p2)]) (rest := []) (lenOf pd__II_I rfl) rfl (by show 2 * 0 + _ ≤ _; exact Nat.le_of_eq rfl) (hb hby at_2) (fun _ _ => ⟨rfl, e0, (by decide : 0 + 0 ≤ _), (by decide : 0 + 0 ≤ _)⟩)
  dsimp only [Pt.U, Pt.locs, Pt.cells, Pt.slots] at X1 lq1 yq1 zz1 st1 hQ1
  subst lq1 yq1 zz1
  obtain ⟨rfl, Nq1, kq1⟩ := hQ1
  have N1 := Fr.app N0 Nq1
  refine Go.st (f' := (mkF m 5 #[iv p1, iv p2, .unset, .unset] [(.int (pkI p1 p2))])) (fun _ k => st1 _ k) ?_
  refine Go.st (f' := (mkF m 6 #[iv p1, iv p2, .val (.int (pkI p1 p2)), .unset] [])) (fun _ k => XS.istoreN X1.here hx rfl (hb hby at_5) rfl (l' := #[iv p1, iv p2, .val (.int (pkI p1 p2)), .unset]) rfl k) ?_
  refine Go.st (f' := (mkF m 7 #[iv p1, iv p2, .val (.int (pkI p1 p2)), .unset] [(.int (pkI p1 p2))])) (fun _ k => XS.iloadN X1.here hx rfl (hb hby at_6) rfl k) ?_
  by_cases cd2 : (pkI p1 p2) = (13 : Int32)
  · obtain ⟨_, _, ⟨T3, L3, kk3, nn3⟩, -, X3, ⟨Lc3, hQ3, lq3, yq3, zz3⟩, st3⟩ := Jvm.LawKit.callS X1 hx (y := (⟨"com/example/lapwing/lapwing/eap/EapMethod", "forNumber", "(I)Ljava/util/Optional;"⟩ : MethodName)) hown (mvT hZ (hw _ (List.mem_of_getElem? (i := 4) rfl))) (mvT hZ (hw _ (List.mem_of_getElem? (i := 5) rfl))) (mvT hZ (hw _ (List.mem_of_getElem? (i := 6) rfl))) (mvT hZ (hw _ (List.mem_of_getElem? (i := 7) rfl))) (by decide) (own_back (W := 0) (rmN l Z a0 hw [] (pkI p1 p2) w__VALUES w_TLS w_SIM w_TTLS w_AKA w_AKA_PRIME w_EMPTY k__VALUES h0 n0 O0 WW) hZ (hw _ (List.mem_of_getElem? (i := 7) rfl)) (hw _ (List.mem_of_getElem? (i := 6) rfl)) (by decide) (by decide)) (g := (mkF m 7 #[iv p1, iv p2, .val (.int (pkI p1 p2)), .unset] [(.int (pkI p1 p2))])) rfl (by rw [hml]; rfl) (argsL := [(.int (pkI p1 p2))]) (rest := []) (lenOf pd__I_Ljava_util_Optional_ rfl) rfl (by show 2 * 0 + _ ≤ _; exact Nat.le_of_eq rfl) (hb hby at_7) (fun _ _ => ⟨rfl, kq1, (by decide : 0 + 2 ≤ _), (by decide : 0 + 6 ≤ _)⟩)
    dsimp only [Pt.U, Pt.locs, Pt.cells, Pt.slots] at X3 lq3 yq3 zz3 st3 hQ3
    subst lq3 yq3 zz3
    obtain ⟨b3, rfl, Nq3, kq3, eq3, fq3⟩ := hQ3
    have N3 := Fr.app N1 Nq3
    rw [show (numV (pkI p1 p2) w_TLS w_SIM w_TTLS w_AKA w_AKA_PRIME) = (.ref w_TLS) from by rw [numV, if_pos cd2.symm]] at fq3
    have O3 : Old Z n0 T3.heap := O0.keep kq3 all0
    refine Go.st (f' := (mkF m 10 #[iv p1, iv p2, .val (.int (pkI p1 p2)), .unset] [(.ref b3)])) (fun _ k => st3 _ k) ?_
    refine Go.st (f' := (mkF m 11 #[iv p1, iv p2, .val (.int (pkI p1 p2)), .unset] [.null, (.ref b3)])) (fun _ k => XS.aconstNull X3.here hx rfl (hb hby at_10) k) ?_
    obtain ⟨cq4, kq4, q4a, q4b, q4c⟩ := isOf hZ rfl eq3
    obtain ⟨_, _, ⟨T4, L4, kk4, nn4⟩, -, X4, ⟨Lc4, hQ4, lq4, yq4, zz4⟩, st4⟩ := X3.virtualBack hx (y := (⟨"java/util/Optional", "orElse", "(Ljava/lang/Object;)Ljava/lang/Object;"⟩ : MethodName)) (z := (⟨"java/util/Optional", "orElse", "(Ljava/lang/Object;)Ljava/lang/Object;"⟩ : MethodName)) hown (mvT hZ (hw _ (List.mem_of_getElem? (i := 49) rfl))) (mvT hZ (hw _ (List.mem_of_getElem? (i := 50) rfl))) (notFace_of_selects (args := #[]) (mvT hZ (hw _ (List.mem_of_getElem? (i := 52) rfl)))) (mvT hZ (hw _ (List.mem_of_getElem? (i := 52) rfl))) (mvT hZ (hw _ (List.mem_of_getElem? (i := 51) rfl))) (by decide) (own_back (W := 0) (rmOr l Z a0 hw [] b3 w_TLS T3.heap n0 O3 eq3 fq3) hZ (hw _ (List.mem_of_getElem? (i := 53) rfl)) (hw _ (List.mem_of_getElem? (i := 32) rfl)) (by decide) (by decide)) q4a q4c (g := (mkF m 11 #[iv p1, iv p2, .val (.int (pkI p1 p2)), .unset] [.null, (.ref b3)])) rfl (by rw [hml]; rfl) (Steps.refl _) (argsL := [.null]) (rest := []) (lenOf pd__Ljava_lang_Object__Ljava_lang_Object_ rfl) rfl (by show 2 * 0 + _ ≤ _; exact Nat.le_of_eq rfl) (hb hby at_11) (fun _ _ => ⟨rfl, rfl, (by decide : 2 + 0 ≤ _), (by decide : 6 + 0 ≤ _)⟩)
    dsimp only [Pt.U, Pt.locs, Pt.cells, Pt.slots] at X4 lq4 yq4 zz4 st4 hQ4
    subst lq4 yq4 zz4
    obtain ⟨rfl, Nq4, kq4⟩ := hQ4
    have N4 := Fr.app N3 Nq4
    refine Go.tr (f' := (mkF m 14 #[iv p1, iv p2, .val (.int (pkI p1 p2)), .unset] [(.ref w_TLS)])) st4 ?_
    obtain ⟨T5, X5, e5, st5⟩ := castY X4 hx hZ hown (hw _ (List.mem_of_getElem? (i := 54) rfl)) kq4 (Ins.self (E_w_TLS.ext O3.2)) (g := (mkF m 14 #[iv p1, iv p2, .val (.int (pkI p1 p2)), .unset] [(.ref w_TLS)])) rfl rfl (hb hby at_14)
    refine Go.st (f' := (mkF m 17 #[iv p1, iv p2, .val (.int (pkI p1 p2)), .unset] [(.ref w_TLS)])) (fun _ k => st5 _ k) ?_
    refine Go.st (f' := (mkF m 18 #[iv p1, iv p2, .val (.int (pkI p1 p2)), rv w_TLS] [])) (fun _ k => XS.astoreN X5.here hx rfl (hb hby at_17) rfl rfl (l' := #[iv p1, iv p2, .val (.int (pkI p1 p2)), rv w_TLS]) rfl k) ?_
    refine Go.st (f' := (mkF m 19 #[iv p1, iv p2, .val (.int (pkI p1 p2)), rv w_TLS] [(.ref w_TLS)])) (fun _ k => XS.aloadN X5.here hx rfl (hb hby at_18) rfl rfl k) ?_
    refine Go.st (f' := (mkF m 20 #[iv p1, iv p2, .val (.int (pkI p1 p2)), rv w_TLS] [(.int (pkI p1 p2)), (.ref w_TLS)])) (fun _ k => XS.iloadN X5.here hx rfl (hb hby at_19) rfl k) ?_
    obtain ⟨_, _, ⟨T6, L6, kk6, nn6⟩, -, X6, ⟨Lc6, hQ6, lq6, yq6, zz6⟩, st6⟩ := Jvm.LawKit.callS X5 hx (y := (⟨"com/example/lapwing/lapwing/eap/EapMethodForNumberPinLaw", "expected", "(I)Lcom/example/lapwing/lapwing/eap/EapMethod;"⟩ : MethodName)) hown (mvT hZ (hw _ (List.mem_of_getElem? (i := 56) rfl))) (mvT hZ (hw _ (List.mem_of_getElem? (i := 57) rfl))) (mvT hZ (hw _ (List.mem_of_getElem? (i := 2) rfl))) (mvT hZ (hw _ (List.mem_of_getElem? (i := 58) rfl))) (by decide) (own_back (W := 1) (rmX l Z a0 hw [] (pkI p1 p2) w__VALUES w_TLS w_SIM w_TTLS w_AKA w_AKA_PRIME w_EMPTY k__VALUES T3.heap n0 O3 WW) hZ (hw _ (List.mem_of_getElem? (i := 58) rfl)) (hw _ (List.mem_of_getElem? (i := 2) rfl)) (by decide) (by decide)) (g := (mkF m 20 #[iv p1, iv p2, .val (.int (pkI p1 p2)), rv w_TLS] [(.int (pkI p1 p2)), (.ref w_TLS)])) rfl (by rw [hml]; rfl) (argsL := [(.int (pkI p1 p2))]) (rest := [(.ref w_TLS)]) (lenOf pd__I_Lcom_example_lapwing_lapwing_eap_EapMethod_ rfl) rfl (by show 2 * 0 + _ ≤ _; exact Nat.le_of_eq rfl) (hb hby at_20) (fun _ _ => ⟨rfl, e5, (by decide : 2 + 0 ≤ _), (by decide : 6 + 0 ≤ _)⟩)
    dsimp only [Pt.U, Pt.locs, Pt.cells, Pt.slots] at X6 lq6 yq6 zz6 st6 hQ6
    subst lq6 yq6 zz6
    obtain ⟨rfl, Nq6, kq6⟩ := hQ6
    have N6 := Fr.app N4 Nq6
    rw [show expV (pkI p1 p2) w__VALUES w_TLS w_SIM w_TTLS w_AKA w_AKA_PRIME w_EMPTY k__VALUES = (.ref w_TLS) from (by rw [expV, if_pos cd2])] at st6
    refine Go.st (f' := (mkF m 23 #[iv p1, iv p2, .val (.int (pkI p1 p2)), rv w_TLS] [(.ref w_TLS), (.ref w_TLS)])) (fun _ k => st6 _ k) ?_
    refine Go.st (f' := (mkF m 26 #[iv p1, iv p2, .val (.int (pkI p1 p2)), rv w_TLS] [])) (fun _ k => Jvm.RoadKit.acmp (g := (mkF m 23 #[iv p1, iv p2, .val (.int (pkI p1 p2)), rv w_TLS] [(.ref w_TLS), (.ref w_TLS)])) X6 hx rfl rfl rfl (pc0 := 23) (pc' := 26) (same := true) rfl (hb hby at_23) rfl (decide_eq_true rfl) (by decide) (by decide) k) ?_
    refine Go.st (f' := (mkF m 27 #[iv p1, iv p2, .val (.int (pkI p1 p2)), rv w_TLS] [(.int 1)])) (fun _ k => XS.iconst X6.here hx rfl (hb hby at_26) k) ?_
    refine Go.st (f' := (mkF m 31 #[iv p1, iv p2, .val (.int (pkI p1 p2)), rv w_TLS] [(.int 1)])) (fun _ k => XS.goto X6.here hx rfl (pc0 := 27) (pc' := 31) rfl (hb hby at_27) (by decide) (by decide) k) ?_
    refine Go.retB X6 hlk hx (t := .boolean) hret (by simp) (hb hby at_31) kq6 ?_ (by decide) (by decide)
    exact ⟨rfl, N6⟩
  by_cases cd7 : (pkI p1 p2) = (18 : Int32)
  · obtain ⟨_, _, ⟨T8, L8, kk8, nn8⟩, -, X8, ⟨Lc8, hQ8, lq8, yq8, zz8⟩, st8⟩ := Jvm.LawKit.callS X1 hx (y := (⟨"com/example/lapwing/lapwing/eap/EapMethod", "forNumber", "(I)Ljava/util/Optional;"⟩ : MethodName)) hown (mvT hZ (hw _ (List.mem_of_getElem? (i := 4) rfl))) (mvT hZ (hw _ (List.mem_of_getElem? (i := 5) rfl))) (mvT hZ (hw _ (List.mem_of_getElem? (i := 6) rfl))) (mvT hZ (hw _ (List.mem_of_getElem? (i := 7) rfl))) (by decide) (own_back (W := 0) (rmN l Z a0 hw [] (pkI p1 p2) w__VALUES w_TLS w_SIM w_TTLS w_AKA w_AKA_PRIME w_EMPTY k__VALUES h0 n0 O0 WW) hZ (hw _ (List.mem_of_getElem? (i := 7) rfl)) (hw _ (List.mem_of_getElem? (i := 6) rfl)) (by decide) (by decide)) (g := (mkF m 7 #[iv p1, iv p2, .val (.int (pkI p1 p2)), .unset] [(.int (pkI p1 p2))])) rfl (by rw [hml]; rfl) (argsL := [(.int (pkI p1 p2))]) (rest := []) (lenOf pd__I_Ljava_util_Optional_ rfl) rfl (by show 2 * 0 + _ ≤ _; exact Nat.le_of_eq rfl) (hb hby at_7) (fun _ _ => ⟨rfl, kq1, (by decide : 0 + 2 ≤ _), (by decide : 0 + 6 ≤ _)⟩)
    dsimp only [Pt.U, Pt.locs, Pt.cells, Pt.slots] at X8 lq8 yq8 zz8 st8 hQ8
    subst lq8 yq8 zz8
    obtain ⟨b8, rfl, Nq8, kq8, eq8, fq8⟩ := hQ8
    have N8 := Fr.app N1 Nq8
    rw [show (numV (pkI p1 p2) w_TLS w_SIM w_TTLS w_AKA w_AKA_PRIME) = (.ref w_SIM) from by rw [numV, if_neg (Ne.symm cd2), if_pos cd7.symm]] at fq8
    have O8 : Old Z n0 T8.heap := O0.keep kq8 all0
    refine Go.st (f' := (mkF m 10 #[iv p1, iv p2, .val (.int (pkI p1 p2)), .unset] [(.ref b8)])) (fun _ k => st8 _ k) ?_
    refine Go.st (f' := (mkF m 11 #[iv p1, iv p2, .val (.int (pkI p1 p2)), .unset] [.null, (.ref b8)])) (fun _ k => XS.aconstNull X8.here hx rfl (hb hby at_10) k) ?_
    obtain ⟨cq9, kq9, q9a, q9b, q9c⟩ := isOf hZ rfl eq8
    obtain ⟨_, _, ⟨T9, L9, kk9, nn9⟩, -, X9, ⟨Lc9, hQ9, lq9, yq9, zz9⟩, st9⟩ := X8.virtualBack hx (y := (⟨"java/util/Optional", "orElse", "(Ljava/lang/Object;)Ljava/lang/Object;"⟩ : MethodName)) (z := (⟨"java/util/Optional", "orElse", "(Ljava/lang/Object;)Ljava/lang/Object;"⟩ : MethodName)) hown (mvT hZ (hw _ (List.mem_of_getElem? (i := 49) rfl))) (mvT hZ (hw _ (List.mem_of_getElem? (i := 50) rfl))) (notFace_of_selects (args := #[]) (mvT hZ (hw _ (List.mem_of_getElem? (i := 52) rfl)))) (mvT hZ (hw _ (List.mem_of_getElem? (i := 52) rfl))) (mvT hZ (hw _ (List.mem_of_getElem? (i := 51) rfl))) (by decide) (own_back (W := 0) (rmOr l Z a0 hw [] b8 w_SIM T8.heap n0 O8 eq8 fq8) hZ (hw _ (List.mem_of_getElem? (i := 53) rfl)) (hw _ (List.mem_of_getElem? (i := 32) rfl)) (by decide) (by decide)) q9a q9c (g := (mkF m 11 #[iv p1, iv p2, .val (.int (pkI p1 p2)), .unset] [.null, (.ref b8)])) rfl (by rw [hml]; rfl) (Steps.refl _) (argsL := [.null]) (rest := []) (lenOf pd__Ljava_lang_Object__Ljava_lang_Object_ rfl) rfl (by show 2 * 0 + _ ≤ _; exact Nat.le_of_eq rfl) (hb hby at_11) (fun _ _ => ⟨rfl, rfl, (by decide : 2 + 0 ≤ _), (by decide : 6 + 0 ≤ _)⟩)
    dsimp only [Pt.U, Pt.locs, Pt.cells, Pt.slots] at X9 lq9 yq9 zz9 st9 hQ9
    subst lq9 yq9 zz9
    obtain ⟨rfl, Nq9, kq9⟩ := hQ9
    have N9 := Fr.app N8 Nq9
    refine Go.tr (f' := (mkF m 14 #[iv p1, iv p2, .val (.int (pkI p1 p2)), .unset] [(.ref w_SIM)])) st9 ?_
    obtain ⟨T10, X10, e10, st10⟩ := castY X9 hx hZ hown (hw _ (List.mem_of_getElem? (i := 54) rfl)) kq9 (Ins.self (E_w_SIM.ext O8.2)) (g := (mkF m 14 #[iv p1, iv p2, .val (.int (pkI p1 p2)), .unset] [(.ref w_SIM)])) rfl rfl (hb hby at_14)
    refine Go.st (f' := (mkF m 17 #[iv p1, iv p2, .val (.int (pkI p1 p2)), .unset] [(.ref w_SIM)])) (fun _ k => st10 _ k) ?_
    refine Go.st (f' := (mkF m 18 #[iv p1, iv p2, .val (.int (pkI p1 p2)), rv w_SIM] [])) (fun _ k => XS.astoreN X10.here hx rfl (hb hby at_17) rfl rfl (l' := #[iv p1, iv p2, .val (.int (pkI p1 p2)), rv w_SIM]) rfl k) ?_
    refine Go.st (f' := (mkF m 19 #[iv p1, iv p2, .val (.int (pkI p1 p2)), rv w_SIM] [(.ref w_SIM)])) (fun _ k => XS.aloadN X10.here hx rfl (hb hby at_18) rfl rfl k) ?_
    refine Go.st (f' := (mkF m 20 #[iv p1, iv p2, .val (.int (pkI p1 p2)), rv w_SIM] [(.int (pkI p1 p2)), (.ref w_SIM)])) (fun _ k => XS.iloadN X10.here hx rfl (hb hby at_19) rfl k) ?_
    obtain ⟨_, _, ⟨T11, L11, kk11, nn11⟩, -, X11, ⟨Lc11, hQ11, lq11, yq11, zz11⟩, st11⟩ := Jvm.LawKit.callS X10 hx (y := (⟨"com/example/lapwing/lapwing/eap/EapMethodForNumberPinLaw", "expected", "(I)Lcom/example/lapwing/lapwing/eap/EapMethod;"⟩ : MethodName)) hown (mvT hZ (hw _ (List.mem_of_getElem? (i := 56) rfl))) (mvT hZ (hw _ (List.mem_of_getElem? (i := 57) rfl))) (mvT hZ (hw _ (List.mem_of_getElem? (i := 2) rfl))) (mvT hZ (hw _ (List.mem_of_getElem? (i := 58) rfl))) (by decide) (own_back (W := 1) (rmX l Z a0 hw [] (pkI p1 p2) w__VALUES w_TLS w_SIM w_TTLS w_AKA w_AKA_PRIME w_EMPTY k__VALUES T8.heap n0 O8 WW) hZ (hw _ (List.mem_of_getElem? (i := 58) rfl)) (hw _ (List.mem_of_getElem? (i := 2) rfl)) (by decide) (by decide)) (g := (mkF m 20 #[iv p1, iv p2, .val (.int (pkI p1 p2)), rv w_SIM] [(.int (pkI p1 p2)), (.ref w_SIM)])) rfl (by rw [hml]; rfl) (argsL := [(.int (pkI p1 p2))]) (rest := [(.ref w_SIM)]) (lenOf pd__I_Lcom_example_lapwing_lapwing_eap_EapMethod_ rfl) rfl (by show 2 * 0 + _ ≤ _; exact Nat.le_of_eq rfl) (hb hby at_20) (fun _ _ => ⟨rfl, e10, (by decide : 2 + 0 ≤ _), (by decide : 6 + 0 ≤ _)⟩)
    dsimp only [Pt.U, Pt.locs, Pt.cells, Pt.slots] at X11 lq11 yq11 zz11 st11 hQ11
    subst lq11 yq11 zz11
    obtain ⟨rfl, Nq11, kq11⟩ := hQ11
    have N11 := Fr.app N9 Nq11
    rw [show expV (pkI p1 p2) w__VALUES w_TLS w_SIM w_TTLS w_AKA w_AKA_PRIME w_EMPTY k__VALUES = (.ref w_SIM) from (by rw [expV, if_neg cd2, if_pos cd7])] at st11
    refine Go.st (f' := (mkF m 23 #[iv p1, iv p2, .val (.int (pkI p1 p2)), rv w_SIM] [(.ref w_SIM), (.ref w_SIM)])) (fun _ k => st11 _ k) ?_
    refine Go.st (f' := (mkF m 26 #[iv p1, iv p2, .val (.int (pkI p1 p2)), rv w_SIM] [])) (fun _ k => Jvm.RoadKit.acmp (g := (mkF m 23 #[iv p1, iv p2, .val (.int (pkI p1 p2)), rv w_SIM] [(.ref w_SIM), (.ref w_SIM)])) X11 hx rfl rfl rfl (pc0 := 23) (pc' := 26) (same := true) rfl (hb hby at_23) rfl (decide_eq_true rfl) (by decide) (by decide) k) ?_
    refine Go.st (f' := (mkF m 27 #[iv p1, iv p2, .val (.int (pkI p1 p2)), rv w_SIM] [(.int 1)])) (fun _ k => XS.iconst X11.here hx rfl (hb hby at_26) k) ?_
    refine Go.st (f' := (mkF m 31 #[iv p1, iv p2, .val (.int (pkI p1 p2)), rv w_SIM] [(.int 1)])) (fun _ k => XS.goto X11.here hx rfl (pc0 := 27) (pc' := 31) rfl (hb hby at_27) (by decide) (by decide) k) ?_
    refine Go.retB X11 hlk hx (t := .boolean) hret (by simp) (hb hby at_31) kq11 ?_ (by decide) (by decide)
    exact ⟨rfl, N11⟩
  by_cases cd12 : (pkI p1 p2) = (21 : Int32)
  · obtain ⟨_, _, ⟨T13, L13, kk13, nn13⟩, -, X13, ⟨Lc13, hQ13, lq13, yq13, zz13⟩, st13⟩ := Jvm.LawKit.callS X1 hx (y := (⟨"com/example/lapwing/lapwing/eap/EapMethod", "forNumber", "(I)Ljava/util/Optional;"⟩ : MethodName)) hown (mvT hZ (hw _ (List.mem_of_getElem? (i := 4) rfl))) (mvT hZ (hw _ (List.mem_of_getElem? (i := 5) rfl))) (mvT hZ (hw _ (List.mem_of_getElem? (i := 6) rfl))) (mvT hZ (hw _ (List.mem_of_getElem? (i := 7) rfl))) (by decide) (own_back (W := 0) (rmN l Z a0 hw [] (pkI p1 p2) w__VALUES w_TLS w_SIM w_TTLS w_AKA w_AKA_PRIME w_EMPTY k__VALUES h0 n0 O0 WW) hZ (hw _ (List.mem_of_getElem? (i := 7) rfl)) (hw _ (List.mem_of_getElem? (i := 6) rfl)) (by decide) (by decide)) (g := (mkF m 7 #[iv p1, iv p2, .val (.int (pkI p1 p2)), .unset] [(.int (pkI p1 p2))])) rfl (by rw [hml]; rfl) (argsL := [(.int (pkI p1 p2))]) (rest := []) (lenOf pd__I_Ljava_util_Optional_ rfl) rfl (by show 2 * 0 + _ ≤ _; exact Nat.le_of_eq rfl) (hb hby at_7) (fun _ _ => ⟨rfl, kq1, (by decide : 0 + 2 ≤ _), (by decide : 0 + 6 ≤ _)⟩)
    dsimp only [Pt.U, Pt.locs, Pt.cells, Pt.slots] at X13 lq13 yq13 zz13 st13 hQ13
    subst lq13 yq13 zz13
    obtain ⟨b13, rfl, Nq13, kq13, eq13, fq13⟩ := hQ13
    have N13 := Fr.app N1 Nq13
    rw [show (numV (pkI p1 p2) w_TLS w_SIM w_TTLS w_AKA w_AKA_PRIME) = (.ref w_TTLS) from by rw [numV, if_neg (Ne.symm cd2), if_neg (Ne.symm cd7), if_pos cd12.symm]] at fq13
    have O13 : Old Z n0 T13.heap := O0.keep kq13 all0
    refine Go.st (f' := (mkF m 10 #[iv p1, iv p2, .val (.int (pkI p1 p2)), .unset] [(.ref b13)])) (fun _ k => st13 _ k) ?_
    refine Go.st (f' := (mkF m 11 #[iv p1, iv p2, .val (.int (pkI p1 p2)), .unset] [.null, (.ref b13)])) (fun _ k => XS.aconstNull X13.here hx rfl (hb hby at_10) k) ?_
    obtain ⟨cq14, kq14, q14a, q14b, q14c⟩ := isOf hZ rfl eq13
    obtain ⟨_, _, ⟨T14, L14, kk14, nn14⟩, -, X14, ⟨Lc14, hQ14, lq14, yq14, zz14⟩, st14⟩ := X13.virtualBack hx (y := (⟨"java/util/Optional", "orElse", "(Ljava/lang/Object;)Ljava/lang/Object;"⟩ : MethodName)) (z := (⟨"java/util/Optional", "orElse", "(Ljava/lang/Object;)Ljava/lang/Object;"⟩ : MethodName)) hown (mvT hZ (hw _ (List.mem_of_getElem? (i := 49) rfl))) (mvT hZ (hw _ (List.mem_of_getElem? (i := 50) rfl))) (notFace_of_selects (args := #[]) (mvT hZ (hw _ (List.mem_of_getElem? (i := 52) rfl)))) (mvT hZ (hw _ (List.mem_of_getElem? (i := 52) rfl))) (mvT hZ (hw _ (List.mem_of_getElem? (i := 51) rfl))) (by decide) (own_back (W := 0) (rmOr l Z a0 hw [] b13 w_TTLS T13.heap n0 O13 eq13 fq13) hZ (hw _ (List.mem_of_getElem? (i := 53) rfl)) (hw _ (List.mem_of_getElem? (i := 32) rfl)) (by decide) (by decide)) q14a q14c (g := (mkF m 11 #[iv p1, iv p2, .val (.int (pkI p1 p2)), .unset] [.null, (.ref b13)])) rfl (by rw [hml]; rfl) (Steps.refl _) (argsL := [.null]) (rest := []) (lenOf pd__Ljava_lang_Object__Ljava_lang_Object_ rfl) rfl (by show 2 * 0 + _ ≤ _; exact Nat.le_of_eq rfl) (hb hby at_11) (fun _ _ => ⟨rfl, rfl, (by decide : 2 + 0 ≤ _), (by decide : 6 + 0 ≤ _)⟩)
    dsimp only [Pt.U, Pt.locs, Pt.cells, Pt.slots] at X14 lq14 yq14 zz14 st14 hQ14
    subst lq14 yq14 zz14
    obtain ⟨rfl, Nq14, kq14⟩ := hQ14
    have N14 := Fr.app N13 Nq14
    refine Go.tr (f' := (mkF m 14 #[iv p1, iv p2, .val (.int (pkI p1 p2)), .unset] [(.ref w_TTLS)])) st14 ?_
    obtain ⟨T15, X15, e15, st15⟩ := castY X14 hx hZ hown (hw _ (List.mem_of_getElem? (i := 54) rfl)) kq14 (Ins.self (E_w_TTLS.ext O13.2)) (g := (mkF m 14 #[iv p1, iv p2, .val (.int (pkI p1 p2)), .unset] [(.ref w_TTLS)])) rfl rfl (hb hby at_14)
    refine Go.st (f' := (mkF m 17 #[iv p1, iv p2, .val (.int (pkI p1 p2)), .unset] [(.ref w_TTLS)])) (fun _ k => st15 _ k) ?_
    refine Go.st (f' := (mkF m 18 #[iv p1, iv p2, .val (.int (pkI p1 p2)), rv w_TTLS] [])) (fun _ k => XS.astoreN X15.here hx rfl (hb hby at_17) rfl rfl (l' := #[iv p1, iv p2, .val (.int (pkI p1 p2)), rv w_TTLS]) rfl k) ?_
    refine Go.st (f' := (mkF m 19 #[iv p1, iv p2, .val (.int (pkI p1 p2)), rv w_TTLS] [(.ref w_TTLS)])) (fun _ k => XS.aloadN X15.here hx rfl (hb hby at_18) rfl rfl k) ?_
    refine Go.st (f' := (mkF m 20 #[iv p1, iv p2, .val (.int (pkI p1 p2)), rv w_TTLS] [(.int (pkI p1 p2)), (.ref w_TTLS)])) (fun _ k => XS.iloadN X15.here hx rfl (hb hby at_19) rfl k) ?_
    obtain ⟨_, _, ⟨T16, L16, kk16, nn16⟩, -, X16, ⟨Lc16, hQ16, lq16, yq16, zz16⟩, st16⟩ := Jvm.LawKit.callS X15 hx (y := (⟨"com/example/lapwing/lapwing/eap/EapMethodForNumberPinLaw", "expected", "(I)Lcom/example/lapwing/lapwing/eap/EapMethod;"⟩ : MethodName)) hown (mvT hZ (hw _ (List.mem_of_getElem? (i := 56) rfl))) (mvT hZ (hw _ (List.mem_of_getElem? (i := 57) rfl))) (mvT hZ (hw _ (List.mem_of_getElem? (i := 2) rfl))) (mvT hZ (hw _ (List.mem_of_getElem? (i := 58) rfl))) (by decide) (own_back (W := 1) (rmX l Z a0 hw [] (pkI p1 p2) w__VALUES w_TLS w_SIM w_TTLS w_AKA w_AKA_PRIME w_EMPTY k__VALUES T13.heap n0 O13 WW) hZ (hw _ (List.mem_of_getElem? (i := 58) rfl)) (hw _ (List.mem_of_getElem? (i := 2) rfl)) (by decide) (by decide)) (g := (mkF m 20 #[iv p1, iv p2, .val (.int (pkI p1 p2)), rv w_TTLS] [(.int (pkI p1 p2)), (.ref w_TTLS)])) rfl (by rw [hml]; rfl) (argsL := [(.int (pkI p1 p2))]) (rest := [(.ref w_TTLS)]) (lenOf pd__I_Lcom_example_lapwing_lapwing_eap_EapMethod_ rfl) rfl (by show 2 * 0 + _ ≤ _; exact Nat.le_of_eq rfl) (hb hby at_20) (fun _ _ => ⟨rfl, e15, (by decide : 2 + 0 ≤ _), (by decide : 6 + 0 ≤ _)⟩)
    dsimp only [Pt.U, Pt.locs, Pt.cells, Pt.slots] at X16 lq16 yq16 zz16 st16 hQ16
    subst lq16 yq16 zz16
    obtain ⟨rfl, Nq16, kq16⟩ := hQ16
    have N16 := Fr.app N14 Nq16
    rw [show expV (pkI p1 p2) w__VALUES w_TLS w_SIM w_TTLS w_AKA w_AKA_PRIME w_EMPTY k__VALUES = (.ref w_TTLS) from (by rw [expV, if_neg cd2, if_neg cd7, if_pos cd12])] at st16
    refine Go.st (f' := (mkF m 23 #[iv p1, iv p2, .val (.int (pkI p1 p2)), rv w_TTLS] [(.ref w_TTLS), (.ref w_TTLS)])) (fun _ k => st16 _ k) ?_
    refine Go.st (f' := (mkF m 26 #[iv p1, iv p2, .val (.int (pkI p1 p2)), rv w_TTLS] [])) (fun _ k => Jvm.RoadKit.acmp (g := (mkF m 23 #[iv p1, iv p2, .val (.int (pkI p1 p2)), rv w_TTLS] [(.ref w_TTLS), (.ref w_TTLS)])) X16 hx rfl rfl rfl (pc0 := 23) (pc' := 26) (same := true) rfl (hb hby at_23) rfl (decide_eq_true rfl) (by decide) (by decide) k) ?_
    refine Go.st (f' := (mkF m 27 #[iv p1, iv p2, .val (.int (pkI p1 p2)), rv w_TTLS] [(.int 1)])) (fun _ k => XS.iconst X16.here hx rfl (hb hby at_26) k) ?_
    refine Go.st (f' := (mkF m 31 #[iv p1, iv p2, .val (.int (pkI p1 p2)), rv w_TTLS] [(.int 1)])) (fun _ k => XS.goto X16.here hx rfl (pc0 := 27) (pc' := 31) rfl (hb hby at_27) (by decide) (by decide) k) ?_
    refine Go.retB X16 hlk hx (t := .boolean) hret (by simp) (hb hby at_31) kq16 ?_ (by decide) (by decide)
    exact ⟨rfl, N16⟩
  by_cases cd17 : (pkI p1 p2) = (23 : Int32)
  · obtain ⟨_, _, ⟨T18, L18, kk18, nn18⟩, -, X18, ⟨Lc18, hQ18, lq18, yq18, zz18⟩, st18⟩ := Jvm.LawKit.callS X1 hx (y := (⟨"com/example/lapwing/lapwing/eap/EapMethod", "forNumber", "(I)Ljava/util/Optional;"⟩ : MethodName)) hown (mvT hZ (hw _ (List.mem_of_getElem? (i := 4) rfl))) (mvT hZ (hw _ (List.mem_of_getElem? (i := 5) rfl))) (mvT hZ (hw _ (List.mem_of_getElem? (i := 6) rfl))) (mvT hZ (hw _ (List.mem_of_getElem? (i := 7) rfl))) (by decide) (own_back (W := 0) (rmN l Z a0 hw [] (pkI p1 p2) w__VALUES w_TLS w_SIM w_TTLS w_AKA w_AKA_PRIME w_EMPTY k__VALUES h0 n0 O0 WW) hZ (hw _ (List.mem_of_getElem? (i := 7) rfl)) (hw _ (List.mem_of_getElem? (i := 6) rfl)) (by decide) (by decide)) (g := (mkF m 7 #[iv p1, iv p2, .val (.int (pkI p1 p2)), .unset] [(.int (pkI p1 p2))])) rfl (by rw [hml]; rfl) (argsL := [(.int (pkI p1 p2))]) (rest := []) (lenOf pd__I_Ljava_util_Optional_ rfl) rfl (by show 2 * 0 + _ ≤ _; exact Nat.le_of_eq rfl) (hb hby at_7) (fun _ _ => ⟨rfl, kq1, (by decide : 0 + 2 ≤ _), (by decide : 0 + 6 ≤ _)⟩)
    dsimp only [Pt.U, Pt.locs, Pt.cells, Pt.slots] at X18 lq18 yq18 zz18 st18 hQ18
    subst lq18 yq18 zz18
    obtain ⟨b18, rfl, Nq18, kq18, eq18, fq18⟩ := hQ18
    have N18 := Fr.app N1 Nq18
    rw [show (numV (pkI p1 p2) w_TLS w_SIM w_TTLS w_AKA w_AKA_PRIME) = (.ref w_AKA) from by rw [numV, if_neg (Ne.symm cd2), if_neg (Ne.symm cd7), if_neg (Ne.symm cd12), if_pos cd17.symm]] at fq18
    have O18 : Old Z n0 T18.heap := O0.keep kq18 all0
    refine Go.st (f' := (mkF m 10 #[iv p1, iv p2, .val (.int (pkI p1 p2)), .unset] [(.ref b18)])) (fun _ k => st18 _ k) ?_
    refine Go.st (f' := (mkF m 11 #[iv p1, iv p2, .val (.int (pkI p1 p2)), .unset] [.null, (.ref b18)])) (fun _ k => XS.aconstNull X18.here hx rfl (hb hby at_10) k) ?_
    obtain ⟨cq19, kq19, q19a, q19b, q19c⟩ := isOf hZ rfl eq18
    obtain ⟨_, _, ⟨T19, L19, kk19, nn19⟩, -, X19, ⟨Lc19, hQ19, lq19, yq19, zz19⟩, st19⟩ := X18.virtualBack hx (y := (⟨"java/util/Optional", "orElse", "(Ljava/lang/Object;)Ljava/lang/Object;"⟩ : MethodName)) (z := (⟨"java/util/Optional", "orElse", "(Ljava/lang/Object;)Ljava/lang/Object;"⟩ : MethodName)) hown (mvT hZ (hw _ (List.mem_of_getElem? (i := 49) rfl))) (mvT hZ (hw _ (List.mem_of_getElem? (i := 50) rfl))) (notFace_of_selects (args := #[]) (mvT hZ (hw _ (List.mem_of_getElem? (i := 52) rfl)))) (mvT hZ (hw _ (List.mem_of_getElem? (i := 52) rfl))) (mvT hZ (hw _ (List.mem_of_getElem? (i := 51) rfl))) (by decide) (own_back (W := 0) (rmOr l Z a0 hw [] b18 w_AKA T18.heap n0 O18 eq18 fq18) hZ (hw _ (List.mem_of_getElem? (i := 53) rfl)) (hw _ (List.mem_of_getElem? (i := 32) rfl)) (by decide) (by decide)) q19a q19c (g := (mkF m 11 #[iv p1, iv p2, .val (.int (pkI p1 p2)), .unset] [.null, (.ref b18)])) rfl (by rw [hml]; rfl) (Steps.refl _) (argsL := [.null]) (rest := []) (lenOf pd__Ljava_lang_Object__Ljava_lang_Object_ rfl) rfl (by show 2 * 0 + _ ≤ _; exact Nat.le_of_eq rfl) (hb hby at_11) (fun _ _ => ⟨rfl, rfl, (by decide : 2 + 0 ≤ _), (by decide : 6 + 0 ≤ _)⟩)
    dsimp only [Pt.U, Pt.locs, Pt.cells, Pt.slots] at X19 lq19 yq19 zz19 st19 hQ19
    subst lq19 yq19 zz19
    obtain ⟨rfl, Nq19, kq19⟩ := hQ19
    have N19 := Fr.app N18 Nq19
    refine Go.tr (f' := (mkF m 14 #[iv p1, iv p2, .val (.int (pkI p1 p2)), .unset] [(.ref w_AKA)])) st19 ?_
    obtain ⟨T20, X20, e20, st20⟩ := castY X19 hx hZ hown (hw _ (List.mem_of_getElem? (i := 54) rfl)) kq19 (Ins.self (E_w_AKA.ext O18.2)) (g := (mkF m 14 #[iv p1, iv p2, .val (.int (pkI p1 p2)), .unset] [(.ref w_AKA)])) rfl rfl (hb hby at_14)
    refine Go.st (f' := (mkF m 17 #[iv p1, iv p2, .val (.int (pkI p1 p2)), .unset] [(.ref w_AKA)])) (fun _ k => st20 _ k) ?_
    refine Go.st (f' := (mkF m 18 #[iv p1, iv p2, .val (.int (pkI p1 p2)), rv w_AKA] [])) (fun _ k => XS.astoreN X20.here hx rfl (hb hby at_17) rfl rfl (l' := #[iv p1, iv p2, .val (.int (pkI p1 p2)), rv w_AKA]) rfl k) ?_
    refine Go.st (f' := (mkF m 19 #[iv p1, iv p2, .val (.int (pkI p1 p2)), rv w_AKA] [(.ref w_AKA)])) (fun _ k => XS.aloadN X20.here hx rfl (hb hby at_18) rfl rfl k) ?_
    refine Go.st (f' := (mkF m 20 #[iv p1, iv p2, .val (.int (pkI p1 p2)), rv w_AKA] [(.int (pkI p1 p2)), (.ref w_AKA)])) (fun _ k => XS.iloadN X20.here hx rfl (hb hby at_19) rfl k) ?_
    obtain ⟨_, _, ⟨T21, L21, kk21, nn21⟩, -, X21, ⟨Lc21, hQ21, lq21, yq21, zz21⟩, st21⟩ := Jvm.LawKit.callS X20 hx (y := (⟨"com/example/lapwing/lapwing/eap/EapMethodForNumberPinLaw", "expected", "(I)Lcom/example/lapwing/lapwing/eap/EapMethod;"⟩ : MethodName)) hown (mvT hZ (hw _ (List.mem_of_getElem? (i := 56) rfl))) (mvT hZ (hw _ (List.mem_of_getElem? (i := 57) rfl))) (mvT hZ (hw _ (List.mem_of_getElem? (i := 2) rfl))) (mvT hZ (hw _ (List.mem_of_getElem? (i := 58) rfl))) (by decide) (own_back (W := 1) (rmX l Z a0 hw [] (pkI p1 p2) w__VALUES w_TLS w_SIM w_TTLS w_AKA w_AKA_PRIME w_EMPTY k__VALUES T18.heap n0 O18 WW) hZ (hw _ (List.mem_of_getElem? (i := 58) rfl)) (hw _ (List.mem_of_getElem? (i := 2) rfl)) (by decide) (by decide)) (g := (mkF m 20 #[iv p1, iv p2, .val (.int (pkI p1 p2)), rv w_AKA] [(.int (pkI p1 p2)), (.ref w_AKA)])) rfl (by rw [hml]; rfl) (argsL := [(.int (pkI p1 p2))]) (rest := [(.ref w_AKA)]) (lenOf pd__I_Lcom_example_lapwing_lapwing_eap_EapMethod_ rfl) rfl (by show 2 * 0 + _ ≤ _; exact Nat.le_of_eq rfl) (hb hby at_20) (fun _ _ => ⟨rfl, e20, (by decide : 2 + 0 ≤ _), (by decide : 6 + 0 ≤ _)⟩)
    dsimp only [Pt.U, Pt.locs, Pt.cells, Pt.slots] at X21 lq21 yq21 zz21 st21 hQ21
    subst lq21 yq21 zz21
    obtain ⟨rfl, Nq21, kq21⟩ := hQ21
    have N21 := Fr.app N19 Nq21
    rw [show expV (pkI p1 p2) w__VALUES w_TLS w_SIM w_TTLS w_AKA w_AKA_PRIME w_EMPTY k__VALUES = (.ref w_AKA) from (by rw [expV, if_neg cd2, if_neg cd7, if_neg cd12, if_pos cd17])] at st21
    refine Go.st (f' := (mkF m 23 #[iv p1, iv p2, .val (.int (pkI p1 p2)), rv w_AKA] [(.ref w_AKA), (.ref w_AKA)])) (fun _ k => st21 _ k) ?_
    refine Go.st (f' := (mkF m 26 #[iv p1, iv p2, .val (.int (pkI p1 p2)), rv w_AKA] [])) (fun _ k => Jvm.RoadKit.acmp (g := (mkF m 23 #[iv p1, iv p2, .val (.int (pkI p1 p2)), rv w_AKA] [(.ref w_AKA), (.ref w_AKA)])) X21 hx rfl rfl rfl (pc0 := 23) (pc' := 26) (same := true) rfl (hb hby at_23) rfl (decide_eq_true rfl) (by decide) (by decide) k) ?_
    refine Go.st (f' := (mkF m 27 #[iv p1, iv p2, .val (.int (pkI p1 p2)), rv w_AKA] [(.int 1)])) (fun _ k => XS.iconst X21.here hx rfl (hb hby at_26) k) ?_
    refine Go.st (f' := (mkF m 31 #[iv p1, iv p2, .val (.int (pkI p1 p2)), rv w_AKA] [(.int 1)])) (fun _ k => XS.goto X21.here hx rfl (pc0 := 27) (pc' := 31) rfl (hb hby at_27) (by decide) (by decide) k) ?_
    refine Go.retB X21 hlk hx (t := .boolean) hret (by simp) (hb hby at_31) kq21 ?_ (by decide) (by decide)
    exact ⟨rfl, N21⟩
  by_cases cd22 : (pkI p1 p2) = (50 : Int32)
  · obtain ⟨_, _, ⟨T23, L23, kk23, nn23⟩, -, X23, ⟨Lc23, hQ23, lq23, yq23, zz23⟩, st23⟩ := Jvm.LawKit.callS X1 hx (y := (⟨"com/example/lapwing/lapwing/eap/EapMethod", "forNumber", "(I)Ljava/util/Optional;"⟩ : MethodName)) hown (mvT hZ (hw _ (List.mem_of_getElem? (i := 4) rfl))) (mvT hZ (hw _ (List.mem_of_getElem? (i := 5) rfl))) (mvT hZ (hw _ (List.mem_of_getElem? (i := 6) rfl))) (mvT hZ (hw _ (List.mem_of_getElem? (i := 7) rfl))) (by decide) (own_back (W := 0) (rmN l Z a0 hw [] (pkI p1 p2) w__VALUES w_TLS w_SIM w_TTLS w_AKA w_AKA_PRIME w_EMPTY k__VALUES h0 n0 O0 WW) hZ (hw _ (List.mem_of_getElem? (i := 7) rfl)) (hw _ (List.mem_of_getElem? (i := 6) rfl)) (by decide) (by decide)) (g := (mkF m 7 #[iv p1, iv p2, .val (.int (pkI p1 p2)), .unset] [(.int (pkI p1 p2))])) rfl (by rw [hml]; rfl) (argsL := [(.int (pkI p1 p2))]) (rest := []) (lenOf pd__I_Ljava_util_Optional_ rfl) rfl (by show 2 * 0 + _ ≤ _; exact Nat.le_of_eq rfl) (hb hby at_7) (fun _ _ => ⟨rfl, kq1, (by decide : 0 + 2 ≤ _), (by decide : 0 + 6 ≤ _)⟩)
    dsimp only [Pt.U, Pt.locs, Pt.cells, Pt.slots] at X23 lq23 yq23 zz23 st23 hQ23
    subst lq23 yq23 zz23
    obtain ⟨b23, rfl, Nq23, kq23, eq23, fq23⟩ := hQ23
    have N23 := Fr.app N1 Nq23
    rw [show (numV (pkI p1 p2) w_TLS w_SIM w_TTLS w_AKA w_AKA_PRIME) = (.ref w_AKA_PRIME) from by rw [numV, if_neg (Ne.symm cd2), if_neg (Ne.symm cd7), if_neg (Ne.symm cd12), if_neg (Ne.symm cd17), if_pos cd22.symm]] at fq23
    have O23 : Old Z n0 T23.heap := O0.keep kq23 all0
    refine Go.st (f' := (mkF m 10 #[iv p1, iv p2, .val (.int (pkI p1 p2)), .unset] [(.ref b23)])) (fun _ k => st23 _ k) ?_
    refine Go.st (f' := (mkF m 11 #[iv p1, iv p2, .val (.int (pkI p1 p2)), .unset] [.null, (.ref b23)])) (fun _ k => XS.aconstNull X23.here hx rfl (hb hby at_10) k) ?_
    obtain ⟨cq24, kq24, q24a, q24b, q24c⟩ := isOf hZ rfl eq23
    obtain ⟨_, _, ⟨T24, L24, kk24, nn24⟩, -, X24, ⟨Lc24, hQ24, lq24, yq24, zz24⟩, st24⟩ := X23.virtualBack hx (y := (⟨"java/util/Optional", "orElse", "(Ljava/lang/Object;)Ljava/lang/Object;"⟩ : MethodName)) (z := (⟨"java/util/Optional", "orElse", "(Ljava/lang/Object;)Ljava/lang/Object;"⟩ : MethodName)) hown (mvT hZ (hw _ (List.mem_of_getElem? (i := 49) rfl))) (mvT hZ (hw _ (List.mem_of_getElem? (i := 50) rfl))) (notFace_of_selects (args := #[]) (mvT hZ (hw _ (List.mem_of_getElem? (i := 52) rfl)))) (mvT hZ (hw _ (List.mem_of_getElem? (i := 52) rfl))) (mvT hZ (hw _ (List.mem_of_getElem? (i := 51) rfl))) (by decide) (own_back (W := 0) (rmOr l Z a0 hw [] b23 w_AKA_PRIME T23.heap n0 O23 eq23 fq23) hZ (hw _ (List.mem_of_getElem? (i := 53) rfl)) (hw _ (List.mem_of_getElem? (i := 32) rfl)) (by decide) (by decide)) q24a q24c (g := (mkF m 11 #[iv p1, iv p2, .val (.int (pkI p1 p2)), .unset] [.null, (.ref b23)])) rfl (by rw [hml]; rfl) (Steps.refl _) (argsL := [.null]) (rest := []) (lenOf pd__Ljava_lang_Object__Ljava_lang_Object_ rfl) rfl (by show 2 * 0 + _ ≤ _; exact Nat.le_of_eq rfl) (hb hby at_11) (fun _ _ => ⟨rfl, rfl, (by decide : 2 + 0 ≤ _), (by decide : 6 + 0 ≤ _)⟩)
    dsimp only [Pt.U, Pt.locs, Pt.cells, Pt.slots] at X24 lq24 yq24 zz24 st24 hQ24
    subst lq24 yq24 zz24
    obtain ⟨rfl, Nq24, kq24⟩ := hQ24
    have N24 := Fr.app N23 Nq24
    refine Go.tr (f' := (mkF m 14 #[iv p1, iv p2, .val (.int (pkI p1 p2)), .unset] [(.ref w_AKA_PRIME)])) st24 ?_
    obtain ⟨T25, X25, e25, st25⟩ := castY X24 hx hZ hown (hw _ (List.mem_of_getElem? (i := 54) rfl)) kq24 (Ins.self (E_w_AKA_PRIME.ext O23.2)) (g := (mkF m 14 #[iv p1, iv p2, .val (.int (pkI p1 p2)), .unset] [(.ref w_AKA_PRIME)])) rfl rfl (hb hby at_14)
    refine Go.st (f' := (mkF m 17 #[iv p1, iv p2, .val (.int (pkI p1 p2)), .unset] [(.ref w_AKA_PRIME)])) (fun _ k => st25 _ k) ?_
    refine Go.st (f' := (mkF m 18 #[iv p1, iv p2, .val (.int (pkI p1 p2)), rv w_AKA_PRIME] [])) (fun _ k => XS.astoreN X25.here hx rfl (hb hby at_17) rfl rfl (l' := #[iv p1, iv p2, .val (.int (pkI p1 p2)), rv w_AKA_PRIME]) rfl k) ?_
    refine Go.st (f' := (mkF m 19 #[iv p1, iv p2, .val (.int (pkI p1 p2)), rv w_AKA_PRIME] [(.ref w_AKA_PRIME)])) (fun _ k => XS.aloadN X25.here hx rfl (hb hby at_18) rfl rfl k) ?_
    refine Go.st (f' := (mkF m 20 #[iv p1, iv p2, .val (.int (pkI p1 p2)), rv w_AKA_PRIME] [(.int (pkI p1 p2)), (.ref w_AKA_PRIME)])) (fun _ k => XS.iloadN X25.here hx rfl (hb hby at_19) rfl k) ?_
    obtain ⟨_, _, ⟨T26, L26, kk26, nn26⟩, -, X26, ⟨Lc26, hQ26, lq26, yq26, zz26⟩, st26⟩ := Jvm.LawKit.callS X25 hx (y := (⟨"com/example/lapwing/lapwing/eap/EapMethodForNumberPinLaw", "expected", "(I)Lcom/example/lapwing/lapwing/eap/EapMethod;"⟩ : MethodName)) hown (mvT hZ (hw _ (List.mem_of_getElem? (i := 56) rfl))) (mvT hZ (hw _ (List.mem_of_getElem? (i := 57) rfl))) (mvT hZ (hw _ (List.mem_of_getElem? (i := 2) rfl))) (mvT hZ (hw _ (List.mem_of_getElem? (i := 58) rfl))) (by decide) (own_back (W := 1) (rmX l Z a0 hw [] (pkI p1 p2) w__VALUES w_TLS w_SIM w_TTLS w_AKA w_AKA_PRIME w_EMPTY k__VALUES T23.heap n0 O23 WW) hZ (hw _ (List.mem_of_getElem? (i := 58) rfl)) (hw _ (List.mem_of_getElem? (i := 2) rfl)) (by decide) (by decide)) (g := (mkF m 20 #[iv p1, iv p2, .val (.int (pkI p1 p2)), rv w_AKA_PRIME] [(.int (pkI p1 p2)), (.ref w_AKA_PRIME)])) rfl (by rw [hml]; rfl) (argsL := [(.int (pkI p1 p2))]) (rest := [(.ref w_AKA_PRIME)]) (lenOf pd__I_Lcom_example_lapwing_lapwing_eap_EapMethod_ rfl) rfl (by show 2 * 0 + _ ≤ _; exact Nat.le_of_eq rfl) (hb hby at_20) (fun _ _ => ⟨rfl, e25, (by decide : 2 + 0 ≤ _), (by decide : 6 + 0 ≤ _)⟩)
    dsimp only [Pt.U, Pt.locs, Pt.cells, Pt.slots] at X26 lq26 yq26 zz26 st26 hQ26
    subst lq26 yq26 zz26
    obtain ⟨rfl, Nq26, kq26⟩ := hQ26
    have N26 := Fr.app N24 Nq26
    rw [show expV (pkI p1 p2) w__VALUES w_TLS w_SIM w_TTLS w_AKA w_AKA_PRIME w_EMPTY k__VALUES = (.ref w_AKA_PRIME) from (by rw [expV, if_neg cd2, if_neg cd7, if_neg cd12, if_neg cd17, if_pos cd22])] at st26
    refine Go.st (f' := (mkF m 23 #[iv p1, iv p2, .val (.int (pkI p1 p2)), rv w_AKA_PRIME] [(.ref w_AKA_PRIME), (.ref w_AKA_PRIME)])) (fun _ k => st26 _ k) ?_
    refine Go.st (f' := (mkF m 26 #[iv p1, iv p2, .val (.int (pkI p1 p2)), rv w_AKA_PRIME] [])) (fun _ k => Jvm.RoadKit.acmp (g := (mkF m 23 #[iv p1, iv p2, .val (.int (pkI p1 p2)), rv w_AKA_PRIME] [(.ref w_AKA_PRIME), (.ref w_AKA_PRIME)])) X26 hx rfl rfl rfl (pc0 := 23) (pc' := 26) (same := true) rfl (hb hby at_23) rfl (decide_eq_true rfl) (by decide) (by decide) k) ?_
    refine Go.st (f' := (mkF m 27 #[iv p1, iv p2, .val (.int (pkI p1 p2)), rv w_AKA_PRIME] [(.int 1)])) (fun _ k => XS.iconst X26.here hx rfl (hb hby at_26) k) ?_
    refine Go.st (f' := (mkF m 31 #[iv p1, iv p2, .val (.int (pkI p1 p2)), rv w_AKA_PRIME] [(.int 1)])) (fun _ k => XS.goto X26.here hx rfl (pc0 := 27) (pc' := 31) rfl (hb hby at_27) (by decide) (by decide) k) ?_
    refine Go.retB X26 hlk hx (t := .boolean) hret (by simp) (hb hby at_31) kq26 ?_ (by decide) (by decide)
    exact ⟨rfl, N26⟩
  obtain ⟨_, _, ⟨T27, L27, kk27, nn27⟩, -, X27, ⟨Lc27, hQ27, lq27, yq27, zz27⟩, st27⟩ := Jvm.LawKit.callS X1 hx (y := (⟨"com/example/lapwing/lapwing/eap/EapMethod", "forNumber", "(I)Ljava/util/Optional;"⟩ : MethodName)) hown (mvT hZ (hw _ (List.mem_of_getElem? (i := 4) rfl))) (mvT hZ (hw _ (List.mem_of_getElem? (i := 5) rfl))) (mvT hZ (hw _ (List.mem_of_getElem? (i := 6) rfl))) (mvT hZ (hw _ (List.mem_of_getElem? (i := 7) rfl))) (by decide) (own_back (W := 0) (rmN l Z a0 hw [] (pkI p1 p2) w__VALUES w_TLS w_SIM w_TTLS w_AKA w_AKA_PRIME w_EMPTY k__VALUES h0 n0 O0 WW) hZ (hw _ (List.mem_of_getElem? (i := 7) rfl)) (hw _ (List.mem_of_getElem? (i := 6) rfl)) (by decide) (by decide)) (g := (mkF m 7 #[iv p1, iv p2, .val (.int (pkI p1 p2)), .unset] [(.int (pkI p1 p2))])) rfl (by rw [hml]; rfl) (argsL := [(.int (pkI p1 p2))]) (rest := []) (lenOf pd__I_Ljava_util_Optional_ rfl) rfl (by show 2 * 0 + _ ≤ _; exact Nat.le_of_eq rfl) (hb hby at_7) (fun _ _ => ⟨rfl, kq1, (by decide : 0 + 2 ≤ _), (by decide : 0 + 6 ≤ _)⟩)
  dsimp only [Pt.U, Pt.locs, Pt.cells, Pt.slots] at X27 lq27 yq27 zz27 st27 hQ27
  subst lq27 yq27 zz27
  obtain ⟨b27, rfl, Nq27, kq27, eq27, fq27⟩ := hQ27
  have N27 := Fr.app N1 Nq27
  rw [show (numV (pkI p1 p2) w_TLS w_SIM w_TTLS w_AKA w_AKA_PRIME) = .null from by rw [numV, if_neg (Ne.symm cd2), if_neg (Ne.symm cd7), if_neg (Ne.symm cd12), if_neg (Ne.symm cd17), if_neg (Ne.symm cd22)]] at fq27
  have O27 : Old Z n0 T27.heap := O0.keep kq27 all0
  refine Go.st (f' := (mkF m 10 #[iv p1, iv p2, .val (.int (pkI p1 p2)), .unset] [(.ref b27)])) (fun _ k => st27 _ k) ?_
  refine Go.st (f' := (mkF m 11 #[iv p1, iv p2, .val (.int (pkI p1 p2)), .unset] [.null, (.ref b27)])) (fun _ k => XS.aconstNull X27.here hx rfl (hb hby at_10) k) ?_
  obtain ⟨cq28, kq28, q28a, q28b, q28c⟩ := isOf hZ rfl eq27
  obtain ⟨_, _, ⟨T28, L28, kk28, nn28⟩, -, X28, ⟨Lc28, hQ28, lq28, yq28, zz28⟩, st28⟩ := X27.virtualBack hx (y := (⟨"java/util/Optional", "orElse", "(Ljava/lang/Object;)Ljava/lang/Object;"⟩ : MethodName)) (z := (⟨"java/util/Optional", "orElse", "(Ljava/lang/Object;)Ljava/lang/Object;"⟩ : MethodName)) hown (mvT hZ (hw _ (List.mem_of_getElem? (i := 49) rfl))) (mvT hZ (hw _ (List.mem_of_getElem? (i := 50) rfl))) (notFace_of_selects (args := #[]) (mvT hZ (hw _ (List.mem_of_getElem? (i := 52) rfl)))) (mvT hZ (hw _ (List.mem_of_getElem? (i := 52) rfl))) (mvT hZ (hw _ (List.mem_of_getElem? (i := 51) rfl))) (by decide) (own_back (W := 0) (rmOn l Z a0 hw [] b27 T27.heap n0 O27 eq27 fq27) hZ (hw _ (List.mem_of_getElem? (i := 53) rfl)) (hw _ (List.mem_of_getElem? (i := 32) rfl)) (by decide) (by decide)) q28a q28c (g := (mkF m 11 #[iv p1, iv p2, .val (.int (pkI p1 p2)), .unset] [.null, (.ref b27)])) rfl (by rw [hml]; rfl) (Steps.refl _) (argsL := [.null]) (rest := []) (lenOf pd__Ljava_lang_Object__Ljava_lang_Object_ rfl) rfl (by show 2 * 0 + _ ≤ _; exact Nat.le_of_eq rfl) (hb hby at_11) (fun _ _ => ⟨rfl, rfl, (by decide : 2 + 0 ≤ _), (by decide : 6 + 0 ≤ _)⟩)
  dsimp only [Pt.U, Pt.locs, Pt.cells, Pt.slots] at X28 lq28 yq28 zz28 st28 hQ28
  subst lq28 yq28 zz28
  obtain ⟨rfl, Nq28, kq28⟩ := hQ28
  have N28 := Fr.app N27 Nq28
  refine Go.tr (f' := (mkF m 14 #[iv p1, iv p2, .val (.int (pkI p1 p2)), .unset] [.null])) st28 ?_
  refine Go.st (f' := (mkF m 17 #[iv p1, iv p2, .val (.int (pkI p1 p2)), .unset] [.null])) (fun _ k => X28.checkcastNull hx (g := (mkF m 14 #[iv p1, iv p2, .val (.int (pkI p1 p2)), .unset] [.null])) rfl rfl (hb hby at_14) _ k) ?_
  refine Go.st (f' := (mkF m 18 #[iv p1, iv p2, .val (.int (pkI p1 p2)), .val .null] [])) (fun _ k => XS.astoreN X28.here hx rfl (hb hby at_17) rfl rfl (l' := #[iv p1, iv p2, .val (.int (pkI p1 p2)), .val .null]) rfl k) ?_
  refine Go.st (f' := (mkF m 19 #[iv p1, iv p2, .val (.int (pkI p1 p2)), .val .null] [.null])) (fun _ k => XS.aloadN X28.here hx rfl (hb hby at_18) rfl rfl k) ?_
  refine Go.st (f' := (mkF m 20 #[iv p1, iv p2, .val (.int (pkI p1 p2)), .val .null] [(.int (pkI p1 p2)), .null])) (fun _ k => XS.iloadN X28.here hx rfl (hb hby at_19) rfl k) ?_
  obtain ⟨_, _, ⟨T29, L29, kk29, nn29⟩, -, X29, ⟨Lc29, hQ29, lq29, yq29, zz29⟩, st29⟩ := Jvm.LawKit.callS X28 hx (y := (⟨"com/example/lapwing/lapwing/eap/EapMethodForNumberPinLaw", "expected", "(I)Lcom/example/lapwing/lapwing/eap/EapMethod;"⟩ : MethodName)) hown (mvT hZ (hw _ (List.mem_of_getElem? (i := 56) rfl))) (mvT hZ (hw _ (List.mem_of_getElem? (i := 57) rfl))) (mvT hZ (hw _ (List.mem_of_getElem? (i := 2) rfl))) (mvT hZ (hw _ (List.mem_of_getElem? (i := 58) rfl))) (by decide) (own_back (W := 1) (rmX l Z a0 hw [] (pkI p1 p2) w__VALUES w_TLS w_SIM w_TTLS w_AKA w_AKA_PRIME w_EMPTY k__VALUES T27.heap n0 O27 WW) hZ (hw _ (List.mem_of_getElem? (i := 58) rfl)) (hw _ (List.mem_of_getElem? (i := 2) rfl)) (by decide) (by decide)) (g := (mkF m 20 #[iv p1, iv p2, .val (.int (pkI p1 p2)), .val .null] [(.int (pkI p1 p2)), .null])) rfl (by rw [hml]; rfl) (argsL := [(.int (pkI p1 p2))]) (rest := [.null]) (lenOf pd__I_Lcom_example_lapwing_lapwing_eap_EapMethod_ rfl) rfl (by show 2 * 0 + _ ≤ _; exact Nat.le_of_eq rfl) (hb hby at_20) (fun _ _ => ⟨rfl, kq28, (by decide : 2 + 0 ≤ _), (by decide : 6 + 0 ≤ _)⟩)
  dsimp only [Pt.U, Pt.locs, Pt.cells, Pt.slots] at X29 lq29 yq29 zz29 st29 hQ29
  subst lq29 yq29 zz29
  obtain ⟨rfl, Nq29, kq29⟩ := hQ29
  have N29 := Fr.app N28 Nq29
  rw [show expV (pkI p1 p2) w__VALUES w_TLS w_SIM w_TTLS w_AKA w_AKA_PRIME w_EMPTY k__VALUES = .null from (by rw [expV, if_neg cd2, if_neg cd7, if_neg cd12, if_neg cd17, if_neg cd22])] at st29
  refine Go.st (f' := (mkF m 23 #[iv p1, iv p2, .val (.int (pkI p1 p2)), .val .null] [.null, .null])) (fun _ k => st29 _ k) ?_
  refine Go.st (f' := (mkF m 26 #[iv p1, iv p2, .val (.int (pkI p1 p2)), .val .null] [])) (fun _ k => Jvm.RoadKit.acmp (g := (mkF m 23 #[iv p1, iv p2, .val (.int (pkI p1 p2)), .val .null] [.null, .null])) X29 hx rfl rfl rfl (pc0 := 23) (pc' := 26) (same := true) rfl (hb hby at_23) rfl (decide_eq_true rfl) (by decide) (by decide) k) ?_
  refine Go.st (f' := (mkF m 27 #[iv p1, iv p2, .val (.int (pkI p1 p2)), .val .null] [(.int 1)])) (fun _ k => XS.iconst X29.here hx rfl (hb hby at_26) k) ?_
  refine Go.st (f' := (mkF m 31 #[iv p1, iv p2, .val (.int (pkI p1 p2)), .val .null] [(.int 1)])) (fun _ k => XS.goto X29.here hx rfl (pc0 := 27) (pc' := 31) rfl (hb hby at_27) (by decide) (by decide) k) ?_
  refine Go.retB X29 hlk hx (t := .boolean) hret (by simp) (hb hby at_31) kq29 ?_ (by decide) (by decide)
  exact ⟨rfl, N29⟩
set_option maxRecDepth 65536 in
set_option maxHeartbeats 40000000 in
theorem comes_1 {Post : Tables → Env → Array Value → State → Outcome → State → Prop} (hpost : ∀ tb e args s v u, (limb_1_1.after args s (.returned v) u = true ∧ limb_1_2.after args s (.returned v) u = true ∧ True) → FrameEnd s (.returned v) u (Jvm.fieldLocs frame_1_writes args s ++ Jvm.arrayLocs frame_1_arrays args s ++ Jvm.staticLocs frame_1_statics s) 16 128 → Post tb e args s (.returned v) u) :
    ArmFor flags0 classFile x code maxLocals ret World_1 tables_1 room_1 Calls_1 rest_1 Pre_1 Post := by
  intro l hfl _ _ p e ha hc hk s m args below hf hA hF happ hP
  obtain ⟨hcalls, hrest, hpre⟩ := hP
  obtain ⟨-, -, -, hnamed, -, -, -, hat⟩ := (Spec.applies_iff hf).mp happ
  obtain ⟨hg, hn⟩ := and_e (Cond.before_iff.mp (show (Jvm.Cond.and given_1 narrow_1).before args s = true from hpre))
  obtain ⟨g1, g2⟩ := and_e hg
  obtain ⟨g3, g4⟩ := and_e g2
  obtain ⟨v0, v1, rfl⟩ : ∃ v0 v1 : Value, args = #[v0, v1] := by
    have hs : args.size = 2 := by simpa [Cond.value, given_1] using g1
    obtain ⟨L⟩ := args
    match L, hs with
    | [v0, v1], _ => exact ⟨v0, v1, rfl⟩
  have hw := fun d (hd : d ∈ tables_1) => atoms_spec (ws := Jvm.Cond.code x code maxLocals ret :: tables_1) hat d (List.mem_cons_of_mem _ hd)
  have hfit : Fit s := fun {y c} hc i hi => by
    obtain ⟨ha, rfl⟩ := Array.getElem?_eq_some_iff.mp hc
    have q := List.all_eq_true.mp ((Array.all_eq_true_iff_forall_mem.mp hF) _ (Array.getElem_mem ha)) i (List.mem_range.mpr hi)
    simpa [Array.getElem?_eq_getElem hi] using q
  obtain ⟨hsets, hown0⟩ := atoms_of _ (rest_1_c_eq ▸ (show rest_1_c.before _ s = true from hrest))
  have hr0 := Cond.before_iff.mp hown0
  obtain ⟨i0, ei0⟩ := is_v g3
  obtain rfl : v0 = (.int i0) := Option.some.inj ei0
  obtain ⟨i1, ei1⟩ := is_v g4
  obtain rfl : v1 = (.int i1) := Option.some.inj ei1
  obtain ⟨q1, q2⟩ := and_e hn
  obtain ⟨q3, q4⟩ := and_e q2
  obtain ⟨q5, q6⟩ := and_e q4
  obtain ⟨q7, q8⟩ := and_e q6
  obtain ⟨q9, q10⟩ := and_e q8
  obtain ⟨q11, q12⟩ := and_e q10
  obtain ⟨q13, q14⟩ := and_e q12
  obtain ⟨q15, q16⟩ := and_e q14
  obtain ⟨q17, q18⟩ := and_e q16
  obtain ⟨q19, q20⟩ := and_e q18
  obtain ⟨q21, q22⟩ := and_e q20
  obtain ⟨q23, q24⟩ := and_e q22
  obtain ⟨q25, q26⟩ := and_e q24
  obtain ⟨q27, q28⟩ := and_e q26
  obtain ⟨q29, q30⟩ := and_e q28
  obtain ⟨q31, q32⟩ := and_e q30
  obtain ⟨q33, q34⟩ := and_e q32
  obtain ⟨w__VALUES, ev_w__VALUES⟩ := exa_v q3
  obtain ⟨w_TLS, ev_w_TLS⟩ := exa_v q7
  obtain ⟨w_SIM, ev_w_SIM⟩ := exa_v q11
  obtain ⟨w_TTLS, ev_w_TTLS⟩ := exa_v q15
  obtain ⟨w_AKA, ev_w_AKA⟩ := exa_v q19
  obtain ⟨w_AKA_PRIME, ev_w_AKA_PRIME⟩ := exa_v q23
  obtain ⟨w_EMPTY, ev_w_EMPTY⟩ := exa_v (Cond.before_iff.mp (hsets _ (List.mem_of_getElem? (i := 2) rfl)))
  have S_w__VALUES := Sta.start ev_w__VALUES (Or.inl (hw _ (List.mem_of_getElem? (i := 25) rfl)))
  have E_w__VALUES := Exa.start ev_w__VALUES q3
  have S_w_TLS := Sta.start ev_w_TLS (Or.inr ⟨hw _ (List.mem_of_getElem? (i := 6) rfl), hw _ (List.mem_of_getElem? (i := 20) rfl)⟩)
  have E_w_TLS := Exa.start ev_w_TLS q7
  have S_w_SIM := Sta.start ev_w_SIM (Or.inr ⟨hw _ (List.mem_of_getElem? (i := 6) rfl), hw _ (List.mem_of_getElem? (i := 21) rfl)⟩)
  have E_w_SIM := Exa.start ev_w_SIM q11
  have S_w_TTLS := Sta.start ev_w_TTLS (Or.inr ⟨hw _ (List.mem_of_getElem? (i := 6) rfl), hw _ (List.mem_of_getElem? (i := 22) rfl)⟩)
  have E_w_TTLS := Exa.start ev_w_TTLS q15
  have S_w_AKA := Sta.start ev_w_AKA (Or.inr ⟨hw _ (List.mem_of_getElem? (i := 6) rfl), hw _ (List.mem_of_getElem? (i := 23) rfl)⟩)
  have E_w_AKA := Exa.start ev_w_AKA q19
  have S_w_AKA_PRIME := Sta.start ev_w_AKA_PRIME (Or.inr ⟨hw _ (List.mem_of_getElem? (i := 6) rfl), hw _ (List.mem_of_getElem? (i := 24) rfl)⟩)
  have E_w_AKA_PRIME := Exa.start ev_w_AKA_PRIME q23
  have S_w_EMPTY := Sta.start ev_w_EMPTY (Or.inl (hsets _ (List.mem_of_getElem? (i := 1) rfl)))
  have E_w_EMPTY := Exa.start ev_w_EMPTY (Cond.before_iff.mp (hsets _ (List.mem_of_getElem? (i := 2) rfl)))
  have F_w_EMPTY_value : Fld s s.heap w_EMPTY "java/util/Optional" "value" "Ljava/lang/Object;" .null := Fld.start (by rw [← fld_at ev_w_EMPTY]; exact null_v (Cond.before_iff.mp (hsets _ (List.mem_of_getElem? (i := 3) rfl))))
  have F_w_TLS_number := own_fld q27 ev_w_TLS
  have F_w_SIM_number := own_fld q29 ev_w_SIM
  have F_w_TTLS_number := own_fld q31 ev_w_TTLS
  have F_w_AKA_number := own_fld q33 ev_w_AKA
  have F_w_AKA_PRIME_number := own_fld q34 ev_w_AKA_PRIME
  obtain ⟨cl_w__VALUES, Ar_w__VALUES⟩ := Arr.start ev_w__VALUES q1
  obtain ⟨z_w__VALUES, y_w__VALUES⟩ := own_len (own_eq_int q5) ev_w__VALUES Ar_w__VALUES.1
  have V_w__VALUES : Arv s s.heap w__VALUES cl_w__VALUES.cls (Jvm.ClassFile.FieldType.object "com/example/lapwing/lapwing/eap/EapMethod") (5 : Int32) [(.ref w_TLS), (.ref w_SIM), (.ref w_TTLS), (.ref w_AKA), (.ref w_AKA_PRIME)] .null := Arv.start hfit Ar_w__VALUES z_w__VALUES y_w__VALUES (by decide) rfl ⟨own_elem q9 ev_w_TLS ev_w__VALUES Ar_w__VALUES.1 rfl, own_elem q13 ev_w_SIM ev_w__VALUES Ar_w__VALUES.1 rfl, own_elem q17 ev_w_TTLS ev_w__VALUES Ar_w__VALUES.1 rfl, own_elem q21 ev_w_AKA ev_w__VALUES Ar_w__VALUES.1 rfl, own_elem q25 ev_w_AKA_PRIME ev_w__VALUES Ar_w__VALUES.1 rfl, trivial⟩
  have WW : World1 s w__VALUES w_TLS w_SIM w_TTLS w_AKA w_AKA_PRIME w_EMPTY cl_w__VALUES.cls   := ⟨S_w__VALUES, E_w__VALUES, S_w_TLS, E_w_TLS, S_w_SIM, E_w_SIM, S_w_TTLS, E_w_TTLS, S_w_AKA, E_w_AKA, S_w_AKA_PRIME, E_w_AKA_PRIME, S_w_EMPTY, E_w_EMPTY, F_w_TLS_number, F_w_SIM_number, F_w_TTLS_number, F_w_AKA_number, F_w_AKA_PRIME_number, F_w_EMPTY_value, V_w__VALUES⟩
  obtain ⟨n, o, h1, h2, h3, _, L, rfl, ⟨rfl, N⟩, hq⟩ := rm0 l s _ hw tables_1 i0 i1 w__VALUES w_TLS w_SIM w_TTLS w_AKA w_AKA_PRIME w_EMPTY cl_w__VALUES.cls   s.heap s.heap.size (Old.start s) WW  p e ha hc hk s m _ below hf ((Spec.applies_iff_loose hf).mp happ).1 ⟨rfl, State.Warmed39.refl s, rfl⟩ trivial
  refine ⟨n, _, h1, h2, h3, hpost _ _ _ _ _ _ ⟨Cond.after_iff.mpr rfl, Cond.after_iff.mpr (eq_i res_at (Term.int_eval (1)) rfl), trivial⟩ ⟨hq.1, hq.2.1, (hq.2.2.sift fun y hy => Or.inr (N y hy)).mono (by decide) (by decide)⟩⟩
theorem main_1_1 : Claimed_1_1 := comes_1 fun _ _ _ _ _ _ h hF => ⟨h.1, hF⟩
theorem main_1_2 : Claimed_1_2 := comes_1 fun _ _ _ _ _ _ h hF => ⟨h.2.1, hF⟩
end Jvm.Pilot.@@N@@
namespace Jvm.Pilot.@@N@@
open Jvm Jvm.ClassFile Sem Op Lib Jvm.Free Jvm.Stand Jvm.Pilot.@@N@@.Jvm.D
/-! MADE BY PROGRAM (witnessworld.py) out of the Statement's table words and the real class files: 15 classes; the members and pool entries that the words name. The judged class is class 1, her method 3. -/
namespace start1
open Jvm.ClassFile
def u (s : String) : CpInfo := .utf8 (stringToUtf16 s)
/-- a pool by its gaps: so many unusable entries, then the entry; so many at the end -/
def gap : Nat → List CpInfo → List CpInfo
  | 0, r => r
  | n + 1, r => .unusable :: gap n r
def poolList (es : List (Nat × CpInfo)) (last : Nat) : List CpInfo := es.foldr (fun e r => gap e.1 (e.2 :: r)) (gap last [])
def pool (es : List (Nat × CpInfo)) (last : Nat) : Array CpInfo := ⟨poolList es last⟩
def fileOf (pool : Array CpInfo) (this : Nat) (attrs : Array Attribute := #[]) (ms : Array MethodInfo := #[]) (fl : Nat := 33) (sup : Nat := 0) (ifs : Array Nat := #[]) (fds : Array FieldInfo := #[]) : ClassFile where
  minorVersion := 0
  majorVersion := 65
  constantPool := pool
  accessFlags := fl
  thisClass := this
  superClass := sup
  interfaces := ifs
  fields := fds
  methods := ms
  attributes := attrs
def plain (name : String) (sup : Option ClassId) : Class where
  name := name
  kind := .ordinary
  loader := none
  accessFlags := 33
  super := sup
  interfaces := #[]
  cf := none
  fields := #[]
  methods := #[]
  instanceTypes := #[]
  staticTypes := #[]
  resolved := #[]
  callSites := []
  init := .initialized
  statics := none
  mirror := none

def pool0 : Array CpInfo := pool [(5, u "<init>"), (0, u "()V"), (1, .class_ 10), (1, u "java/lang/Object"), (85, u "clone"), (0, u "()Ljava/lang/Object;")] 26

def k0c0 : Code := { maxStack := 0, maxLocals := 1, code := object_method_1_code, exceptionTable := #[], attributes := #[] }
def k0m0 : Method := { name := "<init>", desc := "()V", sig := { parameters := [], returnType := none }, accessFlags := 1, code := some k0c0 }
def k0m1 : Method := { name := "clone", desc := "()Ljava/lang/Object;", sig := { parameters := [], returnType := some (.object "java/lang/Object") }, accessFlags := 260, code := none }
/-- java/lang/Object -/
def k0 : Class := { plain "java/lang/Object" none with
  accessFlags := 33
  interfaces := #[]
  cf := some (fileOf pool0 8 #[] #[{ accessFlags := 1, nameIndex := 5, descriptorIndex := 6, attributes := #[] }, { accessFlags := 260, nameIndex := 96, descriptorIndex := 97, attributes := #[] }] 33 0 #[] #[])
  fields := #[]
  methods := #[k0m0, k0m1]
  instanceTypes := #[]
  staticTypes := #[]
  resolved := Array.replicate 124 none
  statics := none }

def pool1 : Array CpInfo := pool [(2, .class_ 4), (1, u "java/lang/Object"), (0, u "<init>"), (0, u "()V"), (0, .fieldref 8 9), (0, .class_ 10), (0, .nameAndType 11 12), (0, u "com/example/lapwing/lapwing/eap/EapMethod"), (0, u "TLS"), (0, u "Lcom/example/lapwing/lapwing/eap/EapMethod;"), (0, .fieldref 8 14), (0, .nameAndType 15 12), (0, u "SIM"), (0, .fieldref 8 17), (0, .nameAndType 18 12), (0, u "TTLS"), (0, .fieldref 8 20), (0, .nameAndType 21 12), (0, u "AKA"), (0, .fieldref 8 23), (0, .nameAndType 24 12), (0, u "AKA_PRIME"), (0, .methodref 26 27), (0, .class_ 28), (0, .nameAndType 29 30), (0, u "com/example/lapwing/lapwing/eap/EapMethodForNumberPinLaw"), (0, u "pick"), (0, u "(II)I"), (0, .methodref 8 32), (0, .nameAndType 33 34), (0, u "forNumber"), (0, u "(I)Ljava/util/Optional;"), (0, .methodref 36 37), (0, .class_ 38), (0, .nameAndType 39 40), (0, u "java/util/Optional"), (0, u "orElse"), (0, u "(Ljava/lang/Object;)Ljava/lang/Object;"), (0, .methodref 26 42), (0, .nameAndType 43 44), (0, u "expected"), (0, u "(I)Lcom/example/lapwing/lapwing/eap/EapMethod;"), (3, u "law"), (0, u "(II)Z")] 2

def k1m0 : Method := { name := "<init>", desc := "()V", sig := { parameters := [], returnType := none }, accessFlags := 2, code := none }
def k1c1 : Code := { maxStack := 2, maxLocals := 1, code := method_2_code, exceptionTable := #[], attributes := #[] }
def k1m1 : Method := { name := "expected", desc := "(I)Lcom/example/lapwing/lapwing/eap/EapMethod;", sig := { parameters := [.int], returnType := some (.object "com/example/lapwing/lapwing/eap/EapMethod") }, accessFlags := 10, code := some k1c1 }
def k1c2 : Code := { maxStack := 2, maxLocals := 3, code := method_3_code, exceptionTable := #[], attributes := #[] }
def k1m2 : Method := { name := "pick", desc := "(II)I", sig := { parameters := [.int, .int], returnType := some .int }, accessFlags := 10, code := some k1c2 }
def k1c3 : Code := { maxStack := 2, maxLocals := 4, code := code, exceptionTable := #[], attributes := #[] }
def k1m3 : Method := { name := "law", desc := "(II)Z", sig := { parameters := [.int, .int], returnType := some .boolean }, accessFlags := 9, code := some k1c3 }
/-- com/example/lapwing/lapwing/eap/EapMethodForNumberPinLaw -/
def k1 : Class := { plain "com/example/lapwing/lapwing/eap/EapMethodForNumberPinLaw" (some 0) with
  accessFlags := 49
  interfaces := #[]
  cf := some (fileOf pool1 26 #[] #[{ accessFlags := 2, nameIndex := 5, descriptorIndex := 6, attributes := #[] }, { accessFlags := 10, nameIndex := 43, descriptorIndex := 44, attributes := #[] }, { accessFlags := 10, nameIndex := 29, descriptorIndex := 30, attributes := #[] }, { accessFlags := 9, nameIndex := 48, descriptorIndex := 49, attributes := #[] }] 49 2 #[] #[])
  fields := #[]
  methods := #[k1m0, k1m1, k1m2, k1m3]
  instanceTypes := #[]
  staticTypes := #[]
  resolved := Array.replicate 52 none
  statics := none }

def pool2 : Array CpInfo := pool [(1, .class_ 2), (0, u "java/lang/constant/Constable"), (0, .class_ 4), (0, u "java/lang/Object")] 6

/-- java/lang/constant/Constable -/
def k2 : Class := { plain "java/lang/constant/Constable" (some 0) with
  accessFlags := 1537
  interfaces := #[]
  cf := some (fileOf pool2 1 #[] #[] 1537 3 #[] #[])
  fields := #[]
  methods := #[]
  instanceTypes := #[]
  staticTypes := #[]
  resolved := Array.replicate 11 none
  statics := none }

def pool3 : Array CpInfo := pool [(1, .class_ 2), (0, u "java/lang/Comparable"), (0, .class_ 4), (0, u "java/lang/Object")] 7

/-- java/lang/Comparable -/
def k3 : Class := { plain "java/lang/Comparable" (some 0) with
  accessFlags := 1537
  interfaces := #[]
  cf := some (fileOf pool3 1 #[] #[] 1537 3 #[] #[])
  fields := #[]
  methods := #[]
  instanceTypes := #[]
  staticTypes := #[]
  resolved := Array.replicate 12 none
  statics := none }

def pool4 : Array CpInfo := pool [(1, .class_ 2), (0, u "java/io/Serializable"), (0, .class_ 4), (0, u "java/lang/Object")] 2

/-- java/io/Serializable -/
def k4 : Class := { plain "java/io/Serializable" (some 0) with
  accessFlags := 1537
  interfaces := #[]
  cf := some (fileOf pool4 1 #[] #[] 1537 3 #[] #[])
  fields := #[]
  methods := #[]
  instanceTypes := #[]
  staticTypes := #[]
  resolved := Array.replicate 7 none
  statics := none }

def pool5 : Array CpInfo := pool [(2, .class_ 4), (1, u "java/lang/Enum"), (0, u "name"), (0, u "Ljava/lang/String;"), (2, u "ordinal"), (0, u "I"), (1, .class_ 14), (1, u "java/lang/Object"), (4, u "hash"), (86, .class_ 108), (1, u "java/lang/Enum$EnumDesc"), (2, .class_ 112), (0, u "java/lang/constant/Constable"), (0, .class_ 114), (0, u "java/lang/Comparable"), (0, .class_ 116), (0, u "java/io/Serializable")] 87

/-- java/lang/Enum -/
def k5 : Class := { plain "java/lang/Enum" (some 0) with
  accessFlags := 1057
  interfaces := #[2, 3, 4]
  cf := some (fileOf pool5 2 #[.nestMembers #[106]] #[] 1057 12 #[111, 113, 115] #[{ accessFlags := 18, nameIndex := 5, descriptorIndex := 6, attributes := #[] }, { accessFlags := 18, nameIndex := 9, descriptorIndex := 10, attributes := #[] }, { accessFlags := 2, nameIndex := 19, descriptorIndex := 10, attributes := #[] }])
  fields := #[{ name := "name", type := (.object "java/lang/String"), accessFlags := 18, slot := 0, constantValue := 0 }, { name := "ordinal", type := .int, accessFlags := 18, slot := 1, constantValue := 0 }, { name := "hash", type := .int, accessFlags := 2, slot := 2, constantValue := 0 }]
  methods := #[]
  instanceTypes := #[(.object "java/lang/String"), .int, .int]
  staticTypes := #[]
  resolved := Array.replicate 204 none
  statics := none }

def pool6 : Array CpInfo := pool [(1, .class_ 2), (0, u "com/example/lapwing/lapwing/eap/EapMethod"), (2, u "TLS"), (0, u "Lcom/example/lapwing/lapwing/eap/EapMethod;"), (2, u "SIM"), (2, u "TTLS"), (2, u "AKA"), (2, u "AKA_PRIME"), (0, .fieldref 1 20), (0, .nameAndType 21 22), (0, u "$VALUES"), (0, u "[Lcom/example/lapwing/lapwing/eap/EapMethod;"), (0, .methodref 24 25), (0, .class_ 22), (0, .nameAndType 26 27), (0, u "clone"), (0, u "()Ljava/lang/Object;"), (1, .class_ 31), (1, u "java/lang/Enum"), (6, .fieldref 1 39), (0, .nameAndType 40 41), (0, u "number"), (0, u "I"), (2, u "label"), (0, u "Ljava/lang/String;"), (0, .methodref 1 47), (0, .nameAndType 48 49), (0, u "values"), (0, u "()[Lcom/example/lapwing/lapwing/eap/EapMethod;"), (0, .methodref 51 52), (0, .class_ 53), (0, .nameAndType 54 55), (0, u "java/util/Optional"), (0, u "of"), (0, u "(Ljava/lang/Object;)Ljava/util/Optional;"), (0, .methodref 51 57), (0, .nameAndType 58 59), (0, u "empty"), (0, u "()Ljava/util/Optional;"), (2, u "DECIMAL"), (0, u "Ljava/util/regex/Pattern;"), (20, u "forNumber"), (0, u "(I)Ljava/util/Optional;")] 47

def k6c0 : Code := { maxStack := 1, maxLocals := 0, code := prog_11_method_1_code, exceptionTable := #[], attributes := #[] }
def k6m0 : Method := { name := "values", desc := "()[Lcom/example/lapwing/lapwing/eap/EapMethod;", sig := { parameters := [], returnType := some (.array (.object "com/example/lapwing/lapwing/eap/EapMethod")) }, accessFlags := 9, code := some k6c0 }
def k6c1 : Code := { maxStack := 2, maxLocals := 5, code := prog_11_method_6_code, exceptionTable := #[], attributes := #[] }
def k6m1 : Method := { name := "forNumber", desc := "(I)Ljava/util/Optional;", sig := { parameters := [.int], returnType := some (.object "java/util/Optional") }, accessFlags := 9, code := some k6c1 }
/-- com/example/lapwing/lapwing/eap/EapMethod -/
def k6 : Class := { plain "com/example/lapwing/lapwing/eap/EapMethod" (some 5) with
  accessFlags := 16433
  interfaces := #[]
  cf := some (fileOf pool6 1 #[] #[{ accessFlags := 9, nameIndex := 48, descriptorIndex := 49, attributes := #[] }, { accessFlags := 9, nameIndex := 84, descriptorIndex := 85, attributes := #[] }] 16433 29 #[] #[{ accessFlags := 16409, nameIndex := 5, descriptorIndex := 6, attributes := #[] }, { accessFlags := 16409, nameIndex := 9, descriptorIndex := 6, attributes := #[] }, { accessFlags := 16409, nameIndex := 12, descriptorIndex := 6, attributes := #[] }, { accessFlags := 16409, nameIndex := 15, descriptorIndex := 6, attributes := #[] }, { accessFlags := 16409, nameIndex := 18, descriptorIndex := 6, attributes := #[] }, { accessFlags := 26, nameIndex := 62, descriptorIndex := 63, attributes := #[] }, { accessFlags := 18, nameIndex := 40, descriptorIndex := 41, attributes := #[] }, { accessFlags := 18, nameIndex := 44, descriptorIndex := 45, attributes := #[] }, { accessFlags := 4122, nameIndex := 21, descriptorIndex := 22, attributes := #[] }])
  fields := #[{ name := "TLS", type := (.object "com/example/lapwing/lapwing/eap/EapMethod"), accessFlags := 16409, slot := 0, constantValue := 0 }, { name := "SIM", type := (.object "com/example/lapwing/lapwing/eap/EapMethod"), accessFlags := 16409, slot := 1, constantValue := 0 }, { name := "TTLS", type := (.object "com/example/lapwing/lapwing/eap/EapMethod"), accessFlags := 16409, slot := 2, constantValue := 0 }, { name := "AKA", type := (.object "com/example/lapwing/lapwing/eap/EapMethod"), accessFlags := 16409, slot := 3, constantValue := 0 }, { name := "AKA_PRIME", type := (.object "com/example/lapwing/lapwing/eap/EapMethod"), accessFlags := 16409, slot := 4, constantValue := 0 }, { name := "DECIMAL", type := (.object "java/util/regex/Pattern"), accessFlags := 26, slot := 5, constantValue := 0 }, { name := "number", type := .int, accessFlags := 18, slot := 3, constantValue := 0 }, { name := "label", type := (.object "java/lang/String"), accessFlags := 18, slot := 4, constantValue := 0 }, { name := "$VALUES", type := (.array (.object "com/example/lapwing/lapwing/eap/EapMethod")), accessFlags := 4122, slot := 6, constantValue := 0 }]
  methods := #[k6m0, k6m1]
  instanceTypes := #[(.object "java/lang/String"), .int, .int, .int, (.object "java/lang/String")]
  staticTypes := #[(.object "com/example/lapwing/lapwing/eap/EapMethod"), (.object "com/example/lapwing/lapwing/eap/EapMethod"), (.object "com/example/lapwing/lapwing/eap/EapMethod"), (.object "com/example/lapwing/lapwing/eap/EapMethod"), (.object "com/example/lapwing/lapwing/eap/EapMethod"), (.object "java/util/regex/Pattern"), (.array (.object "com/example/lapwing/lapwing/eap/EapMethod"))]
  resolved := Array.replicate 133 none
  statics := some 0 }

def pool7 : Array CpInfo := pool [(1, .class_ 2), (0, u "java/lang/Cloneable"), (0, .class_ 4), (0, u "java/lang/Object")] 2

/-- java/lang/Cloneable -/
def k7 : Class := { plain "java/lang/Cloneable" (some 0) with
  accessFlags := 1537
  interfaces := #[]
  cf := some (fileOf pool7 1 #[] #[] 1537 3 #[] #[])
  fields := #[]
  methods := #[]
  instanceTypes := #[]
  staticTypes := #[]
  resolved := Array.replicate 7 none
  statics := none }

def pool8 : Array CpInfo := pool [(1, .fieldref 2 3), (0, .class_ 4), (0, .nameAndType 5 6), (0, u "java/util/Optional"), (0, u "EMPTY"), (0, u "Ljava/util/Optional;"), (0, .methodref 8 9), (0, .class_ 10), (0, .nameAndType 11 12), (0, u "java/lang/Object"), (0, u "<init>"), (0, u "()V"), (0, .fieldref 2 14), (0, .nameAndType 15 16), (0, u "value"), (0, u "Ljava/lang/Object;"), (0, .methodref 18 19), (0, .class_ 20), (0, .nameAndType 21 22), (0, u "java/util/Objects"), (0, u "requireNonNull"), (0, u "(Ljava/lang/Object;)Ljava/lang/Object;"), (0, .methodref 2 24), (0, .nameAndType 11 25), (0, u "(Ljava/lang/Object;)V"), (29, u "empty"), (0, u "()Ljava/util/Optional;"), (8, u "(Ljava/lang/Object;)Ljava/util/Optional;"), (16, u "of"), (82, u "orElse")] 21

def k8c0 : Code := { maxStack := 1, maxLocals := 1, code := jdk_32_method_1_code, exceptionTable := #[], attributes := #[] }
def k8m0 : Method := { name := "empty", desc := "()Ljava/util/Optional;", sig := { parameters := [], returnType := some (.object "java/util/Optional") }, accessFlags := 9, code := some k8c0 }
def k8c1 : Code := { maxStack := 2, maxLocals := 2, code := jdk_32_method_2_code, exceptionTable := #[], attributes := #[] }
def k8m1 : Method := { name := "<init>", desc := "(Ljava/lang/Object;)V", sig := { parameters := [(.object "java/lang/Object")], returnType := none }, accessFlags := 2, code := some k8c1 }
def k8c2 : Code := { maxStack := 3, maxLocals := 1, code := jdk_32_method_3_code, exceptionTable := #[], attributes := #[] }
def k8m2 : Method := { name := "of", desc := "(Ljava/lang/Object;)Ljava/util/Optional;", sig := { parameters := [(.object "java/lang/Object")], returnType := some (.object "java/util/Optional") }, accessFlags := 9, code := some k8c2 }
def k8c3 : Code := { maxStack := 1, maxLocals := 2, code := jdk_32_method_15_code, exceptionTable := #[], attributes := #[] }
def k8m3 : Method := { name := "orElse", desc := "(Ljava/lang/Object;)Ljava/lang/Object;", sig := { parameters := [(.object "java/lang/Object")], returnType := some (.object "java/lang/Object") }, accessFlags := 1, code := some k8c3 }
/-- java/util/Optional -/
def k8 : Class := { plain "java/util/Optional" (some 0) with
  accessFlags := 49
  interfaces := #[]
  cf := some (fileOf pool8 2 #[] #[{ accessFlags := 9, nameIndex := 55, descriptorIndex := 56, attributes := #[] }, { accessFlags := 2, nameIndex := 11, descriptorIndex := 25, attributes := #[] }, { accessFlags := 9, nameIndex := 82, descriptorIndex := 65, attributes := #[] }, { accessFlags := 1, nameIndex := 165, descriptorIndex := 22, attributes := #[] }] 49 8 #[] #[{ accessFlags := 26, nameIndex := 5, descriptorIndex := 6, attributes := #[] }, { accessFlags := 18, nameIndex := 15, descriptorIndex := 16, attributes := #[] }])
  fields := #[{ name := "EMPTY", type := (.object "java/util/Optional"), accessFlags := 26, slot := 0, constantValue := 0 }, { name := "value", type := (.object "java/lang/Object"), accessFlags := 18, slot := 0, constantValue := 0 }]
  methods := #[k8m0, k8m1, k8m2, k8m3]
  instanceTypes := #[(.object "java/lang/Object")]
  staticTypes := #[(.object "java/util/Optional")]
  resolved := Array.replicate 187 none
  statics := some 1 }

def pool9 : Array CpInfo := pool [(2, .class_ 4), (1, u "java/lang/Object"), (0, u "<init>"), (0, u "()V"), (35, .class_ 44), (1, u "java/util/Objects"), (0, u "requireNonNull"), (0, u "(Ljava/lang/Object;)Ljava/lang/Object;")] 137

def k9m0 : Method := { name := "<init>", desc := "()V", sig := { parameters := [], returnType := none }, accessFlags := 2, code := none }
def k9c1 : Code := { maxStack := 2, maxLocals := 1, code := jdk_31_method_10_code, exceptionTable := #[], attributes := #[] }
def k9m1 : Method := { name := "requireNonNull", desc := "(Ljava/lang/Object;)Ljava/lang/Object;", sig := { parameters := [(.object "java/lang/Object")], returnType := some (.object "java/lang/Object") }, accessFlags := 9, code := some k9c1 }
/-- java/util/Objects -/
def k9 : Class := { plain "java/util/Objects" (some 0) with
  accessFlags := 49
  interfaces := #[]
  cf := some (fileOf pool9 42 #[] #[{ accessFlags := 2, nameIndex := 5, descriptorIndex := 6, attributes := #[] }, { accessFlags := 9, nameIndex := 45, descriptorIndex := 46, attributes := #[] }] 49 2 #[] #[])
  fields := #[]
  methods := #[k9m0, k9m1]
  instanceTypes := #[]
  staticTypes := #[]
  resolved := Array.replicate 184 none
  statics := none }

/-- the primitive byte -/
def k10 : Class := { plain "byte" none with kind := .primitive 'B', accessFlags := 0x411 }
/-- [B -/
def k11 : Class := { plain "[B" (some 0) with kind := .array 10 .byte, interfaces := #[7, 4], accessFlags := 1041 }

/-- the primitive int -/
def k12 : Class := { plain "int" none with kind := .primitive 'I', accessFlags := 0x411 }
/-- [I -/
def k13 : Class := { plain "[I" (some 0) with kind := .array 12 .int, interfaces := #[7, 4], accessFlags := 1041 }

/-- [Lcom/example/lapwing/lapwing/eap/EapMethod; -/
def k14 : Class := { plain "[Lcom/example/lapwing/lapwing/eap/EapMethod;" (some 0) with kind := .array 6 (.object "com/example/lapwing/lapwing/eap/EapMethod"), interfaces := #[7, 4], accessFlags := 1041 }

def heap : Heap := #[{ cls := 6, slots := #[.ref 3, .ref 4, .ref 5, .ref 6, .ref 7, .null, .ref 2], vm := .statics 6 },
  { cls := 8, slots := #[.ref 8], vm := .statics 8 },
  { cls := 14, slots := #[.ref 3, .ref 4, .ref 5, .ref 6, .ref 7], vm := .none },
  { cls := 6, slots := #[.null, .int 0, .int 0, .int 13, .null], vm := .none },
  { cls := 6, slots := #[.null, .int 0, .int 0, .int 18, .null], vm := .none },
  { cls := 6, slots := #[.null, .int 0, .int 0, .int 21, .null], vm := .none },
  { cls := 6, slots := #[.null, .int 0, .int 0, .int 23, .null], vm := .none },
  { cls := 6, slots := #[.null, .int 0, .int 0, .int 50, .null], vm := .none },
  { cls := 8, slots := #[.null], vm := .none }]
def classes : Array Class := #[k0, k1, k2, k3, k4, k5, k6, k7, k8, k9, k10, k11, k12, k13, k14]
def interned : List (Array UInt16 × Addr) := []
def slotsUsed : Nat := 39
def theMethod : MethodId := ⟨1, 3⟩
def args0 : Array Value := #[.int 1, .int 2]
def aboutOver (below : List Frame) : State where
  vm := { classes := classes, interned := interned.toArray }
  heap := heap
  slotsUsed := slotsUsed
  threads := #[{ frames := .invoking theMethod args0 :: below }]
def below0 : List Frame := [.native { method := ⟨0, 0⟩, args := #[] }]
def about1 : State := aboutOver below0
def p0 : Program := .bare "" "" ""
def e0 : Env := launch0.env 0 0 0
theorem w_frames : about1.frames = Frame.invoking theMethod args0 :: below0 := rfl
set_option maxRecDepth 65536 in
theorem w_args : argsFit about1.vm theMethod args0 = true := by decide +kernel
set_option maxRecDepth 65536 in
theorem w_heap : heapFits about1 = true := by decide +kernel
set_option maxRecDepth 65536 in
theorem w_runnable : about1.curStatus? = some .runnable := by decide +kernel
set_option maxRecDepth 65536 in
theorem w_alone : about1.alone = true := by decide +kernel
set_option maxRecDepth 65536 in
theorem w_named : about1.methodNamed? x = some theMethod := by decide +kernel
set_option maxRecDepth 65536 in
theorem w_hears : about1.hears theMethod below0 = true := by decide +kernel
set_option maxRecDepth 65536 in
theorem w_ripe : about1.ripe theMethod args0 below0 = true := by decide +kernel
theorem w_running : about1.status = .running := rfl
set_option maxRecDepth 65536 in
theorem w_room : about1.hasRoom e0.platform room_1 = true :=
  launch0.hasRoom_least _ room_1 (by decide +kernel) (by decide +kernel) (by decide +kernel) (by decide +kernel) (by decide +kernel) (by decide +kernel)
theorem allAtoms_all (ts : List Jvm.Cond) (a : Array Jvm.Value) (st : Jvm.State) : (allAtoms ts).before a st = ts.all (fun c => c.before a st) := by
  induction ts with
  | nil => rfl
  | cons c t ih =>
    show (Jvm.Cond.and c (allAtoms t)).before a st = _
    rw [Jvm.Cond.before_and, ih, List.all_cons]
def words1 : List Jvm.Cond := Jvm.Cond.code x code maxLocals ret :: tables_1
/-- a 'code' word, met by the world's own term for the bytes: nothing is compared byte by byte -/
theorem code_word {y : MethodName} {bytes : ByteArray} {mx : Nat} {rt : Option FieldType} {a : Array Value} {s : State} {m : MethodId} {meth : Method} {c : Code} (h1 : s.methodNamed? y = some m) (h2 : s.vm.method? m = some meth) (h3 : meth.code = some c) (h4 : c.code = bytes)
    (h5 : (c.maxLocals == mx && c.exceptionTable.isEmpty && decide (c.maxStack ≤ mostOperands) && decide (meth.sig.returnType = rt) && !meth.locks && decide (parseMethodDescriptor y.desc = some meth.sig)) = true) : (Jvm.Cond.code y bytes mx rt).before a s = true := by
  simp only [Bool.and_eq_true, beq_iff_eq, Bool.not_eq_true', decide_eq_true_eq] at h5
  obtain ⟨⟨⟨⟨⟨g1, g2⟩, g3⟩, g4⟩, g5⟩, g6⟩ := h5
  simp [Cond.before, Cond.holds, Cond.value, h1, h2, h3, h4, g1, g2, g3, g4, g5, g6]
def isCode : Jvm.Cond → Bool
  | .code _ _ _ _ => true
  | _ => false
theorem all_split {L : List Jvm.Cond} {P : Jvm.Cond → Bool} (h1 : L.all (fun c => isCode c || P c) = true) (h2 : ∀ c ∈ L.filter isCode, P c = true) : L.all P = true := by
  refine List.all_eq_true.mpr fun c hc => ?_
  have h := List.all_eq_true.mp h1 c hc
  rcases Bool.eq_false_or_eq_true (isCode c) with hi | hi
  · exact h2 c (List.mem_filter.mpr ⟨hc, hi⟩)
  · simpa [hi] using h
set_option maxRecDepth 65536 in
theorem w_c0 : (Jvm.Cond.code x code maxLocals ret).before args0 about1 = true := code_word (m := ⟨1, 3⟩) (meth := k1m3) (c := k1c3) (by decide +kernel) rfl rfl rfl (by decide +kernel)
set_option maxRecDepth 65536 in
theorem w_c1 : (Jvm.Cond.code ({ cls := "com/example/lapwing/lapwing/eap/EapMethodForNumberPinLaw", name := "pick", desc := "(II)I" } : Jvm.MethodName) method_3_code (3 : Nat) (Option.some Jvm.ClassFile.FieldType.int)).before args0 about1 = true := code_word (m := ⟨1, 2⟩) (meth := k1m2) (c := k1c2) (by decide +kernel) rfl rfl rfl (by decide +kernel)
set_option maxRecDepth 65536 in
theorem w_c2 : (Jvm.Cond.code ({ cls := "com/example/lapwing/lapwing/eap/EapMethod", name := "forNumber", desc := "(I)Ljava/util/Optional;" } : Jvm.MethodName) prog_11_method_6_code (5 : Nat) (Option.some (Jvm.ClassFile.FieldType.object "java/util/Optional"))).before args0 about1 = true := code_word (m := ⟨6, 1⟩) (meth := k6m1) (c := k6c1) (by decide +kernel) rfl rfl rfl (by decide +kernel)
set_option maxRecDepth 65536 in
theorem w_c3 : (Jvm.Cond.code ({ cls := "com/example/lapwing/lapwing/eap/EapMethod", name := "values", desc := "()[Lcom/example/lapwing/lapwing/eap/EapMethod;" } : Jvm.MethodName) prog_11_method_1_code (0 : Nat) (Option.some (Jvm.ClassFile.FieldType.array (Jvm.ClassFile.FieldType.object "com/example/lapwing/lapwing/eap/EapMethod")))).before args0 about1 = true := code_word (m := ⟨6, 0⟩) (meth := k6m0) (c := k6c0) (by decide +kernel) rfl rfl rfl (by decide +kernel)
set_option maxRecDepth 65536 in
theorem w_c4 : (Jvm.Cond.code ({ cls := "java/util/Optional", name := "of", desc := "(Ljava/lang/Object;)Ljava/util/Optional;" } : Jvm.MethodName) jdk_32_method_3_code (1 : Nat) (Option.some (Jvm.ClassFile.FieldType.object "java/util/Optional"))).before args0 about1 = true := code_word (m := ⟨8, 2⟩) (meth := k8m2) (c := k8c2) (by decide +kernel) rfl rfl rfl (by decide +kernel)
set_option maxRecDepth 65536 in
theorem w_c5 : (Jvm.Cond.code ({ cls := "java/util/Objects", name := "requireNonNull", desc := "(Ljava/lang/Object;)Ljava/lang/Object;" } : Jvm.MethodName) jdk_31_method_10_code (1 : Nat) (Option.some (Jvm.ClassFile.FieldType.object "java/lang/Object"))).before args0 about1 = true := code_word (m := ⟨9, 1⟩) (meth := k9m1) (c := k9c1) (by decide +kernel) rfl rfl rfl (by decide +kernel)
set_option maxRecDepth 65536 in
theorem w_c6 : (Jvm.Cond.code ({ cls := "java/util/Optional", name := "<init>", desc := "(Ljava/lang/Object;)V" } : Jvm.MethodName) jdk_32_method_2_code (2 : Nat) (Option.none : Option Jvm.ClassFile.FieldType)).before args0 about1 = true := code_word (m := ⟨8, 1⟩) (meth := k8m1) (c := k8c1) (by decide +kernel) rfl rfl rfl (by decide +kernel)
set_option maxRecDepth 65536 in
theorem w_c7 : (Jvm.Cond.code ({ cls := "java/lang/Object", name := "<init>", desc := "()V" } : Jvm.MethodName) object_method_1_code (1 : Nat) (Option.none : Option Jvm.ClassFile.FieldType)).before args0 about1 = true := code_word (m := ⟨0, 0⟩) (meth := k0m0) (c := k0c0) (by decide +kernel) rfl rfl rfl (by decide +kernel)
set_option maxRecDepth 65536 in
theorem w_c8 : (Jvm.Cond.code ({ cls := "java/util/Optional", name := "orElse", desc := "(Ljava/lang/Object;)Ljava/lang/Object;" } : Jvm.MethodName) jdk_32_method_15_code (2 : Nat) (Option.some (Jvm.ClassFile.FieldType.object "java/lang/Object"))).before args0 about1 = true := code_word (m := ⟨8, 3⟩) (meth := k8m3) (c := k8c3) (by decide +kernel) rfl rfl rfl (by decide +kernel)
set_option maxRecDepth 65536 in
theorem w_c9 : (Jvm.Cond.code ({ cls := "com/example/lapwing/lapwing/eap/EapMethodForNumberPinLaw", name := "expected", desc := "(I)Lcom/example/lapwing/lapwing/eap/EapMethod;" } : Jvm.MethodName) method_2_code (1 : Nat) (Option.some (Jvm.ClassFile.FieldType.object "com/example/lapwing/lapwing/eap/EapMethod"))).before args0 about1 = true := code_word (m := ⟨1, 1⟩) (meth := k1m1) (c := k1c1) (by decide +kernel) rfl rfl rfl (by decide +kernel)
set_option maxRecDepth 65536 in
theorem w_c10 : (Jvm.Cond.code ({ cls := "java/util/Optional", name := "empty", desc := "()Ljava/util/Optional;" } : Jvm.MethodName) jdk_32_method_1_code (1 : Nat) (Option.some (Jvm.ClassFile.FieldType.object "java/util/Optional"))).before args0 about1 = true := code_word (m := ⟨8, 0⟩) (meth := k8m0) (c := k8c0) (by decide +kernel) rfl rfl rfl (by decide +kernel)
def codes1 : List Jvm.Cond := [Jvm.Cond.code x code maxLocals ret, Jvm.Cond.code ({ cls := "com/example/lapwing/lapwing/eap/EapMethodForNumberPinLaw", name := "pick", desc := "(II)I" } : Jvm.MethodName) method_3_code (3 : Nat) (Option.some Jvm.ClassFile.FieldType.int), Jvm.Cond.code ({ cls := "com/example/lapwing/lapwing/eap/EapMethod", name := "forNumber", desc := "(I)Ljava/util/Optional;" } : Jvm.MethodName) prog_11_method_6_code (5 : Nat) (Option.some (Jvm.ClassFile.FieldType.object "java/util/Optional")), Jvm.Cond.code ({ cls := "com/example/lapwing/lapwing/eap/EapMethod", name := "values", desc := "()[Lcom/example/lapwing/lapwing/eap/EapMethod;" } : Jvm.MethodName) prog_11_method_1_code (0 : Nat) (Option.some (Jvm.ClassFile.FieldType.array (Jvm.ClassFile.FieldType.object "com/example/lapwing/lapwing/eap/EapMethod"))), Jvm.Cond.code ({ cls := "java/util/Optional", name := "of", desc := "(Ljava/lang/Object;)Ljava/util/Optional;" } : Jvm.MethodName) jdk_32_method_3_code (1 : Nat) (Option.some (Jvm.ClassFile.FieldType.object "java/util/Optional")), Jvm.Cond.code ({ cls := "java/util/Objects", name := "requireNonNull", desc := "(Ljava/lang/Object;)Ljava/lang/Object;" } : Jvm.MethodName) jdk_31_method_10_code (1 : Nat) (Option.some (Jvm.ClassFile.FieldType.object "java/lang/Object")), Jvm.Cond.code ({ cls := "java/util/Optional", name := "<init>", desc := "(Ljava/lang/Object;)V" } : Jvm.MethodName) jdk_32_method_2_code (2 : Nat) (Option.none : Option Jvm.ClassFile.FieldType), Jvm.Cond.code ({ cls := "java/lang/Object", name := "<init>", desc := "()V" } : Jvm.MethodName) object_method_1_code (1 : Nat) (Option.none : Option Jvm.ClassFile.FieldType), Jvm.Cond.code ({ cls := "java/util/Optional", name := "orElse", desc := "(Ljava/lang/Object;)Ljava/lang/Object;" } : Jvm.MethodName) jdk_32_method_15_code (2 : Nat) (Option.some (Jvm.ClassFile.FieldType.object "java/lang/Object")), Jvm.Cond.code ({ cls := "com/example/lapwing/lapwing/eap/EapMethodForNumberPinLaw", name := "expected", desc := "(I)Lcom/example/lapwing/lapwing/eap/EapMethod;" } : Jvm.MethodName) method_2_code (1 : Nat) (Option.some (Jvm.ClassFile.FieldType.object "com/example/lapwing/lapwing/eap/EapMethod")), Jvm.Cond.code ({ cls := "java/util/Optional", name := "empty", desc := "()Ljava/util/Optional;" } : Jvm.MethodName) jdk_32_method_1_code (1 : Nat) (Option.some (Jvm.ClassFile.FieldType.object "java/util/Optional"))]
set_option maxRecDepth 65536 in
theorem codes_eq : words1.filter isCode = codes1 := rfl
theorem w_codes : ∀ c ∈ words1.filter isCode, c.before args0 about1 = true := by
  rw [codes_eq]
  intro c hc
  simp only [codes1, List.mem_cons, List.not_mem_nil, or_false] at hc
  rcases hc with rfl | rfl | rfl | rfl | rfl | rfl | rfl | rfl | rfl | rfl | rfl
  · exact w_c0
  · exact w_c1
  · exact w_c2
  · exact w_c3
  · exact w_c4
  · exact w_c5
  · exact w_c6
  · exact w_c7
  · exact w_c8
  · exact w_c9
  · exact w_c10
set_option maxRecDepth 65536 in
theorem w_t1 : (words1.take 24).all (fun c => isCode c || c.before args0 about1) = true := by decide +kernel
set_option maxRecDepth 65536 in
theorem w_t2 : ((words1.drop 24).take 24).all (fun c => isCode c || c.before args0 about1) = true := by decide +kernel
set_option maxRecDepth 65536 in
theorem w_t3 : ((words1.drop 24).drop 24).all (fun c => isCode c || c.before args0 about1) = true := by decide +kernel
theorem w_tables : (allAtoms (Jvm.Cond.code x code maxLocals ret :: tables_1)).before args0 about1 = true := by
  rw [allAtoms_all]
  show words1.all (fun c => c.before args0 about1) = true
  refine all_split ?_ w_codes
  rw [← List.take_append_drop 24 words1, List.all_append, w_t1, ← List.take_append_drop 24 (words1.drop 24), List.all_append, w_t2, w_t3]
  rfl
set_option maxRecDepth 65536 in
theorem w_rest : rest_1_c.before args0 about1 = true := by decide +kernel
set_option maxRecDepth 65536 in
theorem w_case : (Jvm.Cond.and given_1 narrow_1).before args0 about1 = true := by decide +kernel
theorem w_applies : (headSpec (Jvm.Cond.code x code maxLocals ret :: tables_1) room_1).applies x e0.platform about1 = true :=
  (Spec.applies_iff w_frames).mpr ⟨w_running, w_runnable, w_alone, w_named, w_hears, w_ripe, w_room, w_tables⟩
theorem atStart : AtStart classFile x code maxLocals ret World_1 tables_1 room_1 Calls_1 rest_1 Pre_1 launch0 p0 e0 about1 theMethod args0 below0 :=
  ⟨lists_1, trivial, launch0.admits_env _ _ _, launch0.least_env, fairChoices_fair.cas, fairChoices_fair.clock, w_frames, w_args, w_heap, w_applies, trivial, w_rest, w_case⟩
end start1
theorem witness_1 : WitnessClaimed_1 := ⟨start1.p0, start1.e0, start1.about1, start1.theMethod, start1.args0, start1.below0, start1.atStart⟩
end Jvm.Pilot.@@N@@
