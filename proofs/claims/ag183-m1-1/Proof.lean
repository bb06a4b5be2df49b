import JvmDerived
import JvmDerived.Pilot.@@N@@Statement
import JvmDerived.Pilot.@@N@@Code
set_option linter.unusedVariables false
set_option linter.unusedSimpArgs false
namespace Jvm.Pilot.@@N@@
open Jvm Jvm.ClassFile Sem Op Lib Jvm.Free Jvm.Stand Jvm.LawKit Jvm.RoadKit Bundle Jvm.Pilot.@@N@@.Jvm.D

/-- the run that stands at T with the top frame f ends, and its end is as P says -/
def Go (p : Program) (e : Env) (below : List Frame) (P : Outcome → State → Prop) (T : State) (f : JFrame) : Prop :=
  ∃ s₂ o, Steps p.tables e below (T.setTop f) s₂ ∧ s₂.status = .running ∧ Ended s₂ below o ∧ P o s₂
theorem Go.st {p : Program} {e : Env} {below : List Frame} {P : Outcome → State → Prop} {T T' : State} {f f' : JFrame}
    (h : ∀ t, Steps p.tables e below (T'.setTop f') t → Steps p.tables e below (T.setTop f) t) (k : Go p e below P T' f') : Go p e below P T f := by
  obtain ⟨s₂, o, a, b⟩ := k
  exact ⟨s₂, o, h _ a, b⟩
theorem Go.tr {p : Program} {e : Env} {below : List Frame} {P : Outcome → State → Prop} {T T' : State} {f f' : JFrame}
    (h : Steps p.tables e below (T.setTop f) (T'.setTop f')) (k : Go p e below P T' f') : Go p e below P T f := by
  obtain ⟨s₂, o, a, b⟩ := k
  exact ⟨s₂, o, h.trans a, b⟩
/-- what a contract says of the end -/
abbrev Done (s : State) (Q : Option Value → Heap → List Loc → Prop) (C S : Nat) (o : Outcome) (U' : State) : Prop :=
  ∃ v L, o = .returned v ∧ Q v U'.heap L ∧ FrameEnd s o U' L C S
theorem Go.ret {p : Program} {l : Launch} {e : Env} {R : Room} {s : State} {m : MethodId} {args : Array Value} {below : List Frame} {meth : Method} {c : Code} {T : State} {locs : List Loc} {cells slots : Nat} {h : Heap}
    {Q : Option Value → Heap → List Loc → Prop} {C S : Nat} {v : Option Value} {f : JFrame}
    (X : Stand p l e R s m args below meth c T locs cells slots) (hlk : meth.locks = false) (hv : meth.sig.returnType = none → v = none)
    (hs : ∀ fs, (∀ (f : JFrame) (acts : List Action), f.method = m → f.locked = none → f.entered = [] → (doReturn e (T.setTop f) acts v).1 = T.setFrames fs) → Steps p.tables e below (T.setTop f) (T.setFrames fs))
    (eT : T.heap = h) (hQ : Q v h locs) (hc : cells ≤ C) (hl : slots ≤ S) : Go p e below (Done s Q C S) T f := by
  obtain ⟨fs, hr, hrun, hended, hW, hsame⟩ := X.leave (v := v) hv hlk
  refine ⟨_, _, hs fs hr, hrun, hended, v, locs, rfl, ?_, ⟨_, rfl⟩, hW, hsame.mono hc hl⟩
  show Q v T.heap locs
  rw [eT]; exact hQ
theorem Go.retB {p : Program} {l : Launch} {e : Env} {R : Room} {s : State} {m : MethodId} {args : Array Value} {below : List Frame} {meth : Method} {c : Code} {T : State} {locs : List Loc} {cells slots : Nat} {h : Heap}
    {Q : Option Value → Heap → List Loc → Prop} {C S : Nat} {pc : Nat} {Ls : Array Slot} {z : Int32} {rest : List Value} {t : FieldType}
    (X : Stand p l e R s m args below meth c T locs cells slots) (hlk : meth.locks = false) (hx : p.tables.exec = Jvm.exec) (hret : meth.sig.returnType = some t) (ht : t = .boolean ∨ t = .byte ∨ t = .char ∨ t = .short)
    (hd : decode c.code pc = .ok (.ireturn, 1)) (eT : T.heap = h) (hQ : Q (some (.int (nar t z))) h locs) (hc : cells ≤ C) (hl : slots ≤ S) : Go p e below (Done s Q C S) T (mkF m pc Ls (.int z :: rest)) :=
  Go.ret X hlk (fun h => by rw [hret] at h; cases h) (fun _ hr => retN X hx hret ht hd hr) eT hQ hc hl
theorem Go.retV {p : Program} {l : Launch} {e : Env} {R : Room} {s : State} {m : MethodId} {args : Array Value} {below : List Frame} {meth : Method} {c : Code} {T : State} {locs : List Loc} {cells slots : Nat} {h : Heap}
    {Q : Option Value → Heap → List Loc → Prop} {C S : Nat} {pc : Nat} {Ls : Array Slot} {w : Value} {rest : List Value} {t : FieldType} {i : Instr}
    (X : Stand p l e R s m args below meth c T locs cells slots) (hlk : meth.locks = false) (hx : p.tables.exec = Jvm.exec) (hret : meth.sig.returnType = some t) (hn : narrow t w = w)
    (hi : (i = .ireturn ∧ (t = .int ∨ t = .boolean ∨ t = .byte ∨ t = .char ∨ t = .short) ∧ ∃ z, w = .int z) ∨ (i = .lreturn ∧ t = .long ∧ ∃ z, w = .long z) ∨ (i = .dreturn ∧ t = .double ∧ ∃ z, w = .double z) ∨ (i = .freturn ∧ t = .float ∧ ∃ z, w = .float z) ∨ (i = .areturn ∧ t.isReference = true ∧ w.isRef = true))
    (hd : decode c.code pc = .ok (i, 1)) (eT : T.heap = h) (hQ : Q (some w) h locs) (hc : cells ≤ C) (hl : slots ≤ S) : Go p e below (Done s Q C S) T (mkF m pc Ls (w :: rest)) :=
  Go.ret X hlk (fun h => by rw [hret] at h; cases h) (fun _ hr => retOut X hx hret hn hi hd hr) eT hQ hc hl
theorem Go.ret0 {p : Program} {l : Launch} {e : Env} {R : Room} {s : State} {m : MethodId} {args : Array Value} {below : List Frame} {meth : Method} {c : Code} {T : State} {locs : List Loc} {cells slots : Nat} {h : Heap}
    {Q : Option Value → Heap → List Loc → Prop} {C S : Nat} {pc : Nat} {Ls : Array Slot}
    (X : Stand p l e R s m args below meth c T locs cells slots) (hlk : meth.locks = false) (hx : p.tables.exec = Jvm.exec) (hret : meth.sig.returnType = none)
    (hd : decode c.code pc = .ok (.return_, 1)) (eT : T.heap = h) (hQ : Q none h locs) (hc : cells ≤ C) (hl : slots ≤ S) : Go p e below (Done s Q C S) T (mkF m pc Ls []) :=
  Go.ret X hlk (fun _ => rfl) (fun _ hr => X.returnOut hx hret hd hr) eT hQ hc hl
/-- an entry that stands resolved stays so, also where String constants are loaded -/
theorem own_fieldRef {Z : State} {vm1 : Vm} {a0 : Array Value} {own O n d : String} {index : Nat} (hW : Z.Warmed39 vm1) (w : (Cond.fieldRef own index O n d).before a0 Z = true) : (Cond.fieldRef own index O n d).before a0 (Z.setVm vm1) = true := by
  simp only [Cond.before, Cond.holds, Cond.value, State.vm_setVm, hW.alike.findClass, State.names_setVm hW.alike] at w ⊢
  cases q1 : Z.vm.findClass own with
  | none => rw [q1] at w; simp at w
  | some cO =>
    cases q2 : Z.fieldFound? O n d with
    | none => rw [q1, q2] at w; simp at w
    | some z =>
      obtain ⟨c1, k1, i1, f1⟩ := z
      obtain ⟨k2, q3, -⟩ := State.fieldFound?_setVm hW.alike q2
      rw [q1, q2] at w
      rw [q3]
      cases q4 : Z.resolvedAt? own index with
      | none => rw [q4] at w; simp at w
      | some r => rw [State.resolvedAt?_warmed39 hW q4]; rw [q4] at w; exact w
/-- getfield through an entry that stands resolved at the start (the word fieldRef) -/
theorem own_getR {p : Program} {l : Launch} {e : Env} {R : Room} {s : State} {m : MethodId} {args : Array Value} {below : List Frame} {meth : Method} {c : Code} {T : State} {locs : List Loc} {cells slots : Nat} {Z : State} {a0 : Array Value} {h : Heap}
    (X : Stand p l e R s m args below meth c T locs cells slots) (hx : p.tables.exec = Jvm.exec) (hZ : Z.Warmed39 s.vm) {own O n d : String} {index : Nat} (hown : s.vm.findClass own = some m.cls) (w : (Cond.fieldRef own index O n d).before a0 Z = true)
    (eT : T.heap = h) {a : Addr} {v : Value} (F : Fld Z h a O n d v) {g : JFrame} (hg : g.method = m) {rest : List Value} (hs : g.stack = .ref a :: rest) (hd : decode c.code g.pc = .ok (.getfield index, 3)) :
    ∃ T', Stand p l e R s m args below meth c T' locs cells slots ∧ T'.heap = h ∧ ∀ target, Steps p.tables e below (T'.setTop { g with pc := g.pc + 3, stack := v :: rest }) target → Steps p.tables e below (T.setTop g) target := by
  obtain ⟨cell, cf, k, i, f, h1, h2, h3, h4, -, -, h7⟩ := F
  have w1 : (Cond.fieldRef own index O n d).before args s = true := (own_fieldRef hZ w : (Cond.fieldRef own index O n d).before a0 (Z.setVm s.vm) = true)
  have w2 := Cond.fieldRef_warmed X.warmed w1
  obtain ⟨k1, r1, -⟩ := State.fieldFound?_setVm (s := Z) hZ.alike h2
  obtain ⟨k2, r2, -⟩ := State.fieldFound?_setVm (s := s) X.warmed.alike (show s.fieldFound? O n d = _ from r1)
  obtain ⟨c', k', i', f', q1, q2⟩ := Cond.fieldRef_spec (s := s.setVm T.vm) (cur := m.cls) (by rw [State.vm_setVm, X.warmed.alike.findClass]; exact hown) w2
  cases q1.symm.trans r2
  exact ⟨T, X, eT, fun target k => (X.getfieldR hx hg q2 h3 hs (by rw [eT]; exact h1) h4 h7 hd (Steps.refl _)).trans k⟩
/-- the form of every contract here -/
def Con (l : Launch) (Z : State) (y : MethodName) (bytes : ByteArray) (ml : Nat) (ret : Option FieldType) (ws : List Jvm.Cond) (room : Room) (A : Array Value) (h0 : Heap) (Q : Option Value → Heap → List Loc → Prop) : Prop :=
  MetFree l y (head1 (Jvm.Cond.code y bytes ml ret :: ws) room) (fun a U => a = A ∧ Z.Warmed39 U.vm ∧ U.heap = h0) (fun _ _ _ _ _ => True) (fun _ U o U' => ∃ v L, o = .returned v ∧ Q v U'.heap L ∧ FrameEnd U o U' L room.cells room.slots)
theorem own_body {l : Launch} {Z : State} {y : MethodName} {bytes : ByteArray} {ml : Nat} {ret : Option FieldType} {ws : List Jvm.Cond} {room : Room} {A : Array Value} {h0 : Heap} {Q : Option Value → Heap → List Loc → Prop} (hpn : plainFor y = true)
    (body : ∀ (p : Program) (e : Env) (s : State) (m : MethodId) (below : List Frame) (meth : Method) (c : Code) (s₁ : State), p.tables.exec = Jvm.exec → c.code = bytes → c.maxLocals = ml → Z.Warmed39 s.vm → s.vm.findClass y.cls = some m.cls → meth.name = y.name → meth.locks = false → meth.sig.returnType = ret →
      Stand p l e room s m A below meth c s₁ [] 0 0 → s₁.heap = h0 → Go p e below (Done s Q room.cells room.slots) s₁ (entryFrame m A ml)) : Con l Z y bytes ml ret ws room A h0 Q := by
  refine MetFree.of_bodySF hpn hisR ?_
  intro p e s m args below meth c s₁ Bd hml0 hP hK
  obtain ⟨rfl, hZ, hh⟩ := hP
  exact body p e s m below meth c s₁ Bd.exec Bd.bytes hml0 hZ (findClass_of_methodNamed Bd.named) (name_of_methodNamed Bd.named Bd.method).1 Bd.notSynchronized Bd.returns (Stand.of_body Bd) (by rw [← hh, Bd.state]; rfl)
theorem own_back {l : Launch} {R : Room} {p : Program} {e : Env} {below : List Frame} {s Z : State} {args a0 : Array Value} {h : Heap} {y : MethodName} {bytes : ByteArray} {maxL : Nat} {ret : Option FieldType} {rm : Room} {len W : Nat} {as' : Array Value} {Q : Option Value → Heap → List Loc → Prop}
    (hM : Con l Z y bytes maxL ret [] rm as' h Q) (hZ : Z.Warmed39 s.vm) (wc : (Cond.code y bytes maxL ret).before a0 Z = true) (wz : (Cond.initialized y.cls).before a0 Z = true) (hf : rm.frames + 1 ≤ R.frames) (hl : W + (maxL + 11) + rm.locals ≤ R.locals) :
    Back l R p e below s args y len W (fun A a => a = as' ∧ A.U.heap = h ∧ A.cells + rm.cells ≤ R.cells ∧ A.slots + rm.slots ≤ R.slots)
      (fun A _ v B => ∃ L, Q v B.U.heap L ∧ B.locs = A.locs ++ L ∧ B.cells = A.cells + rm.cells ∧ B.slots = A.slots + rm.slots) := backOf (Q := Q) hM hZ wc wz hf hl
theorem Con.weaken {l : Launch} {Z : State} {y : MethodName} {bytes : ByteArray} {ml : Nat} {ret : Option FieldType} {ws : List Jvm.Cond} {room : Room} {A : Array Value} {h0 : Heap} {Q Q' : Option Value → Heap → List Loc → Prop} (h : Con l Z y bytes ml ret ws room A h0 Q) (hq : ∀ v h L, Q v h L → Q' v h L) : Con l Z y bytes ml ret ws room A h0 Q' := fun p e h1 h2 h3 s m args below hf happ hP hK => by
  obtain ⟨n, o, a, b, c, v, L, d, e, f⟩ := h p e h1 h2 h3 s m args below hf happ hP hK
  exact ⟨n, o, a, b, c, v, L, d, hq _ _ _ e, f⟩
theorem own_cat {v : Value} (h : v.isRef = true) : v.category = 1 := by cases v <;> first | rfl | (simp [Value.isRef] at h)
theorem acYes {c : ClassFile.ACond} {x y : Value} (h : x = y) : acV c (decide (x = y)) = acV c true := by rw [decide_eq_true h]

theorem own_weaken {l : Launch} {x : MethodName} {S : Spec} {P : Array Value → State → Prop} {K : Program → Env → List Frame → State → Array Value → Prop} {Q Q' : Array Value → State → Outcome → State → Prop} (h : MetFree l x S P K Q) (hq : ∀ a s o t, Q a s o t → Q' a s o t) : MetFree l x S P K Q' := fun p e h1 h2 h3 s m args below hf happ hP hK => by
  obtain ⟨n, o, a, b, c, d⟩ := h p e h1 h2 h3 s m args below hf happ hP hK
  exact ⟨n, o, a, b, c, hq _ _ _ _ d⟩
section Start
variable {args : Array Value} {first s : State} {o : Option Outcome} {idx : List Nat} {t u : Term}
theorem own_eq_int {k : Int32} (h : (Jvm.Cond.eq t (.int k)).value args first o s idx = some true) : t.eval args first o idx s = some (.int k) := by
  simp only [Cond.value, Term.eval] at h
  cases ht : t.eval args first o idx s with
  | none => simp [ht] at h
  | some x => cases x <;> simp [ht] at h ⊢ <;> exact h
theorem own_eq_ref {a : Addr} (h : (Jvm.Cond.eq t u).value args first o s idx = some true) (hu : u.eval args first o idx s = some (.ref a)) : t.eval args first o idx s = some (.ref a) := by
  simp only [Cond.value] at h
  rw [hu] at h
  cases ht : t.eval args first o idx s with
  | none => simp [ht] at h
  | some x => cases x <;> simp [ht] at h ⊢ <;> exact h
theorem own_len {a : Addr} {cl : Cell} {z : Int32} (h : (Term.length t).eval args first o idx s = some (.int z)) (ht : t.eval args first o idx s = some (.ref a)) (hc : s.heap[a]? = some cl) : cl.slots.size < 2 ^ 31 ∧ cl.slots.size.toInt32 = z := by
  obtain ⟨a', cell, e1, e2, e3⟩ := Term.length_spec h
  cases ht.symm.trans e1
  have e4 := (State.arrayAt?_spec e2).1
  cases hc.symm.trans e4
  refine ⟨?_, (Value.int.inj e3).symm⟩
  by_cases hn : cl.slots.size < 2147483648
  · exact hn
  · simp only [Term.eval, Option.bind_eq_bind, ht, Option.bind_some, e2] at h
    rw [if_neg hn] at h; cases h
theorem own_ne_int {z : Int32} (h : (Jvm.Cond.not (Jvm.Cond.eq t (.int 0))).value args first o s idx = some true) (ht : t.eval args first o idx s = some (.int z)) : ¬ z = 0 := by
  have h1 := not_v h
  intro e
  subst e
  simp [Cond.value, Term.eval, ht] at h1
theorem own_fld {a : Addr} {C n d : String} {k : Int32} (h : (Jvm.Cond.eq (Term.field t C n d) (.int k)).value args s none s [] = some true) (ht : t.eval args s none [] s = some (.ref a)) : Fld s s.heap a C n d (.int k) :=
  Fld.start (by rw [← fld_at ht]; exact own_eq_int h)
theorem own_elem {a : Addr} {cl : Cell} {w : Addr} {j : Int32} {i : Nat} (h : (Jvm.Cond.eq (Term.elem t (.int j)) u).value args s none s [] = some true) (hu : u.eval args s none [] s = some (.ref w)) (ht : t.eval args s none [] s = some (.ref a)) (hc : s.heap[a]? = some cl) (hj : j.toNatClampNeg = i) : cl.slots[i]? = some (.ref w) := by
  subst hj
  exact (elem_in (own_eq_ref h hu) ht rfl hc).2
end Start

theorem ww {a0 : Array Value} {Z : State} (hw : ∀ d ∈ tables_1, d.before a0 Z = true) (i : Nat) {d : Jvm.Cond} (h : tables_1[i]? = some d) : d.before a0 Z = true := hw d (List.mem_of_getElem? h)
def World1 (Z : State)  : Prop :=
  True
theorem own_neArv {Z : State} {h : Heap} {a b : Addr} {k1 k2 : ClassId} {t1 t2 : FieldType} {z1 z2 : Int32} {v1 v2 : List Value} {d1 d2 : Value} (A : Arv Z h a k1 t1 z1 v1 d1) (B : Arv Z h b k2 t2 z2 v2 d2) (q : t1 ≠ t2) : a ≠ b := fun e => by
  subst e
  obtain ⟨c, ⟨c1, ⟨-, k, c2, comp, c3⟩, -⟩, -⟩ := A
  obtain ⟨c', ⟨d1, ⟨-, k', d2, comp', d3⟩, -⟩, -⟩ := B
  cases c1.symm.trans d1
  cases c2.symm.trans d2
  have := c3.symm.trans d3
  injection this with _ e
  exact q e

theorem own_lw (a b : Int64) : (lcmpW a b < (0 : Int32) ↔ a.toInt < b.toInt) ∧ ((0 : Int32) < lcmpW a b ↔ b.toInt < a.toInt) := by
  unfold lcmpW
  simp only [Int64.lt_iff_toInt_lt, ← Int64.toInt_inj]
  by_cases h1 : a.toInt < b.toInt
  · have h2 : ¬ b.toInt < a.toInt := by omega
    have h3 : ¬ a.toInt = b.toInt := by omega
    simp [h1, h2, h3] <;> decide
  · by_cases h2 : b.toInt < a.toInt
    · have h3 : ¬ a.toInt = b.toInt := by omega
      simp [h1, h2, h3] <;> decide
    · have h3 : a.toInt = b.toInt := by omega
      simp [h3] <;> decide
theorem pn_com_example_kinetic_city_kineticcity_engine_CostQueue : plainName "com/example/kinetic_city/kineticcity/engine/CostQueue" = true := by first | (simp [plainName, overriddenIn]; done) | decide +kernel
theorem d1_0 : decode prog_5_method_1_code 0 = .ok (.aload_n 0, 1) := by decide +kernel
theorem d1_1 : decode prog_5_method_1_code 1 = .ok (.invokespecial 1, 3) := by decide +kernel
theorem d1_4 : decode prog_5_method_1_code 4 = .ok (.aload_n 0, 1) := by decide +kernel
theorem d1_5 : decode prog_5_method_1_code 5 = .ok (.bipush 16, 2) := by decide +kernel
theorem d1_7 : decode prog_5_method_1_code 7 = .ok (.newarray .double, 2) := by decide +kernel
theorem d1_9 : decode prog_5_method_1_code 9 = .ok (.putfield 7, 3) := by decide +kernel
theorem d1_12 : decode prog_5_method_1_code 12 = .ok (.aload_n 0, 1) := by decide +kernel
theorem d1_13 : decode prog_5_method_1_code 13 = .ok (.bipush 16, 2) := by decide +kernel
theorem d1_15 : decode prog_5_method_1_code 15 = .ok (.newarray .int, 2) := by decide +kernel
theorem d1_17 : decode prog_5_method_1_code 17 = .ok (.putfield 13, 3) := by decide +kernel
theorem d1_20 : decode prog_5_method_1_code 20 = .ok (.return_, 1) := by decide +kernel
set_option maxRecDepth 65536 in
set_option maxHeartbeats 40000000 in
theorem rmI (l : Launch) (Z : State) (a0 : Array Value) (hw : ∀ d ∈ tables_1, d.before a0 Z = true) (ws : List Jvm.Cond) (a1 : Addr) (h0 : Heap) (n0 : Nat) (O0 : Old Z n0 h0) (g_a1 : n0 ≤ a1) (E_a1 : Exa Z h0 a1 "com/example/kinetic_city/kineticcity/engine/CostQueue") (F_a1_size : Fld Z h0 a1 "com/example/kinetic_city/kineticcity/engine/CostQueue" "size" "I" (.int 0)) (F_a1_items : Fld Z h0 a1 "com/example/kinetic_city/kineticcity/engine/CostQueue" "items" "[I" .null) (F_a1_costs : Fld Z h0 a1 "com/example/kinetic_city/kineticcity/engine/CostQueue" "costs" "[D" .null) :
    Con l Z (⟨"com/example/kinetic_city/kineticcity/engine/CostQueue", "<init>", "()V"⟩ : MethodName) prog_5_method_1_code 1 none ws ({ frames := 1, cells := 2, slots := 32, locals := 12 } : Room) #[(.ref a1)] h0 (fun v h L => v = none ∧ Fr n0 L ∧ Keep h0 h [a1] ∧ ∃ (cA nA : Addr) (kA kN : ClassId), h0.size ≤ cA ∧ h0.size ≤ nA ∧ Exa Z h a1 "com/example/kinetic_city/kineticcity/engine/CostQueue" ∧ Fld Z h a1 "com/example/kinetic_city/kineticcity/engine/CostQueue" "size" "I" (.int 0) ∧ Fld Z h a1 "com/example/kinetic_city/kineticcity/engine/CostQueue" "items" "[I" (.ref nA) ∧ Fld Z h a1 "com/example/kinetic_city/kineticcity/engine/CostQueue" "costs" "[D" (.ref cA) ∧ Arv Z h cA kA .double (16 : Int32) [(.double (FP.l2d 0)), (.double (FP.l2d 0)), (.double (FP.l2d 0)), (.double (FP.l2d 0)), (.double (FP.l2d 0))] (.double (FP.l2d 0)) ∧ Arv Z h nA kN .int 16 [(.int 0), (.int 0), (.int 0), (.int 0), (.int 0)] (.int 0)) := by
  refine own_body (plainFor_of_name pn_com_example_kinetic_city_kineticcity_engine_CostQueue) ?_
  intro p e s m below meth c s₁ hx hby hml hZ hown hnm hlk hret X0 e0
  have N0 := Fr.nil n0
  have K0 : Keep h0 h0 [a1] := Keep.refl _ _
  refine Go.st (T' := s₁) (f' := (mkF m 0 #[rv a1] [])) (fun _ k => castTop (by first | (simp [entryFrame, mkF, argsToLocals, Value.category]; done) | rfl) k) ?_
  have lt_a1 := E_a1.lt
  refine Go.st (f' := (mkF m 1 #[rv a1] [(.ref a1)])) (fun _ k => XS.aloadN X0.here hx rfl (hb hby d1_0) rfl rfl k) ?_
  obtain ⟨T1, X1, e1, st1⟩ := initO X0 hx hZ hown (ww hw 7 rfl) (ww hw 8 rfl) (ww hw 9 rfl) e0 (g := (mkF m 1 #[rv a1] [(.ref a1)])) rfl (by rw [hml]; rfl) rfl (hb hby d1_1) (by decide) (W := 0) (by show 2 * 0 + _ ≤ _; exact Nat.le_of_eq rfl) (by decide)
  refine Go.st (f' := (mkF m 4 #[rv a1] [])) (fun _ k => st1 _ k) ?_
  refine Go.st (f' := (mkF m 5 #[rv a1] [(.ref a1)])) (fun _ k => XS.aloadN X1.here hx rfl (hb hby d1_4) rfl rfl k) ?_
  refine Go.st (f' := (mkF m 7 #[rv a1] [(.int 16), (.ref a1)])) (fun _ k => XS.bipush X1.here hx rfl (hb hby d1_5) k) ?_
  obtain ⟨T2, h2, kc2, X2, e2, E2, A2, st2⟩ := newP X1 hx hZ (ww hw 0 rfl) e1 (g := (mkF m 7 #[rv a1] [(.int 16), (.ref a1)])) rfl (hb hby d1_7) rfl (by decide) (cap := 16) (by decide) (by decide) (by decide) (by decide)
  obtain ⟨b2, g2⟩ : ∃ z, z = h0.size := ⟨_, rfl⟩
  rw [← g2] at A2 st2
  have ne_a1_b2 : a1 ≠ b2 := Nat.ne_of_lt (Nat.lt_of_lt_of_eq lt_a1 g2.symm)
  have g_b2 : n0 ≤ b2 := Nat.le_trans (O0.1 ▸ O0.2.1) (Nat.le_of_eq g2.symm)
  have O2 : Old Z n0 h2 := O0.ext E2
  have sz_b2 : h0.size ≤ b2 := Nat.le_trans K0.1 (Nat.le_of_eq g2.symm)
  have K2 : Keep h0 h2 [a1] := K0.ext E2
  have V_b2 : Arv Z h2 b2 kc2 .double (16 : Int32) [(.double (FP.l2d 0)), (.double (FP.l2d 0)), (.double (FP.l2d 0)), (.double (FP.l2d 0)), (.double (FP.l2d 0))] (.double (FP.l2d 0)) := (Arv.newD A2 (by decide)).pad (pad_rep [] (.double (FP.l2d 0)) 5)
  have lt_b2 := V_b2.lt
  refine Go.st (f' := (mkF m 9 #[rv a1] [(.ref b2), (.ref a1)])) (fun _ k => st2 _ k) ?_
  have ft3 := (E_a1.ext E2)
  have ft4 := (F_a1_costs.ext E2)
  obtain ⟨T5, h5, X5, e5, W5, st5⟩ := putF X2 hx hZ hown (host := "") (Or.inl (ww hw 10 rfl)) Via.refl e2 ft4 ft3 (Or.inl (ww hw 11 rfl)) (ww hw 2 rfl) (ty := (.array .double)) (by decide) rfl rfl (g := (mkF m 9 #[rv a1] [(.ref b2), (.ref a1)])) rfl rfl (hb hby d1_9)
  have N5 := Fr.snoc X5 N0 g_a1
  have O5 : Old Z n0 h5 := O2.wr W5 g_a1
  have K5 : Keep h0 h5 [a1] := K2.wr W5 (Or.inl (List.mem_of_getElem? (i := 0) rfl))
  have Fw5 := ft4.same W5
  refine Go.st (f' := (mkF m 12 #[rv a1] [])) (fun _ k => st5 _ k) ?_
  refine Go.st (f' := (mkF m 13 #[rv a1] [(.ref a1)])) (fun _ k => XS.aloadN X5.here hx rfl (hb hby d1_12) rfl rfl k) ?_
  refine Go.st (f' := (mkF m 15 #[rv a1] [(.int 16), (.ref a1)])) (fun _ k => XS.bipush X5.here hx rfl (hb hby d1_13) k) ?_
  obtain ⟨T6, h6, kc6, X6, e6, E6, A6, st6⟩ := newP X5 hx hZ (ww hw 12 rfl) e5 (g := (mkF m 15 #[rv a1] [(.int 16), (.ref a1)])) rfl (hb hby d1_15) rfl (by decide) (cap := 16) (by decide) (by decide) (by decide) (by decide)
  obtain ⟨b6, g6⟩ : ∃ z, z = h5.size := ⟨_, rfl⟩
  rw [← g6] at A6 st6
  have ft7 := (Nat.lt_of_lt_of_eq (Nat.lt_of_lt_of_le lt_a1 E2.1) W5.size.symm)
  have ne_a1_b6 : a1 ≠ b6 := Nat.ne_of_lt (Nat.lt_of_lt_of_eq ft7 g6.symm)
  have ft8 := (Nat.lt_of_lt_of_eq lt_b2 W5.size.symm)
  have ne_b2_b6 : b2 ≠ b6 := Nat.ne_of_lt (Nat.lt_of_lt_of_eq ft8 g6.symm)
  have g_b6 : n0 ≤ b6 := Nat.le_trans (O5.1 ▸ O5.2.1) (Nat.le_of_eq g6.symm)
  have O6 : Old Z n0 h6 := O5.ext E6
  have sz_b6 : h0.size ≤ b6 := Nat.le_trans K5.1 (Nat.le_of_eq g6.symm)
  have K6 : Keep h0 h6 [a1] := K5.ext E6
  have V_b6 : Arv Z h6 b6 kc6 .int (16 : Int32) [(.int (0 : Int32)), (.int (0 : Int32)), (.int (0 : Int32)), (.int (0 : Int32)), (.int (0 : Int32))] (.int (0 : Int32)) := (Arv.new A6 (by decide)).pad (pad_rep [] (.int (0 : Int32)) 5)
  have lt_b6 := V_b6.lt
  refine Go.st (f' := (mkF m 17 #[rv a1] [(.ref b6), (.ref a1)])) (fun _ k => st6 _ k) ?_
  have ft9 := ((ft3.wr W5).ext E6)
  have ft10 := (((F_a1_items.ext E2).other W5 (Or.inr (slot_ne (Or.inl (ww hw 14 rfl)) (Or.inl (ww hw 11 rfl)) (by decide) (t := (.array .int)) (t' := (.array .double)) (by decide) (by decide)))).ext E6)
  obtain ⟨T11, h11, X11, e11, W11, st11⟩ := putF X6 hx hZ hown (host := "") (Or.inl (ww hw 13 rfl)) Via.refl e6 ft10 ft9 (Or.inl (ww hw 14 rfl)) (ww hw 2 rfl) (ty := (.array .int)) (by decide) rfl rfl (g := (mkF m 17 #[rv a1] [(.ref b6), (.ref a1)])) rfl rfl (hb hby d1_17)
  have N11 := Fr.snoc X11 N5 g_a1
  have O11 : Old Z n0 h11 := O6.wr W11 g_a1
  have K11 : Keep h0 h11 [a1] := K6.wr W11 (Or.inl (List.mem_of_getElem? (i := 0) rfl))
  have Fw11 := ft10.same W11
  refine Go.st (f' := (mkF m 20 #[rv a1] [])) (fun _ k => st11 _ k) ?_
  refine Go.ret0 X11 hlk hx hret (hb hby d1_20) e11 ?_ (by decide) (by decide)
  have ft12 := (ft9.wr W11)
  have ft13 := ((((F_a1_size.ext E2).other W5 (Or.inr (slot_ne (Or.inl (ww hw 21 rfl)) (Or.inl (ww hw 11 rfl)) (by decide) (t := .int) (t' := (.array .double)) (by decide) (by decide)))).ext E6).other W11 (Or.inr (slot_ne (Or.inl (ww hw 21 rfl)) (Or.inl (ww hw 14 rfl)) (by decide) (t := .int) (t' := (.array .int)) (by decide) (by decide))))
  have ft14 := ((Fw5.ext E6).other W11 (Or.inr (slot_ne (Or.inl (ww hw 11 rfl)) (Or.inl (ww hw 14 rfl)) (by decide) (t := (.array .double)) (t' := (.array .int)) (by decide) (by decide))))
  have ft15 := (((V_b2.other W5 (Ne.symm ne_a1_b2)).ext E6).other W11 (Ne.symm ne_a1_b2))
  have ft16 := (V_b6.other W11 (Ne.symm ne_a1_b6))
  exact ⟨rfl, N11, K11, b2, b6, kc2, kc6, sz_b2, sz_b6, ft12, ft13, Fw11, ft14, ft15, ft16⟩
theorem d3_0 : decode prog_5_method_3_code 0 = .ok (.aload_n 0, 1) := by decide +kernel
theorem d3_1 : decode prog_5_method_3_code 1 = .ok (.getfield 17, 3) := by decide +kernel
theorem d3_4 : decode prog_5_method_3_code 4 = .ok (.aload_n 0, 1) := by decide +kernel
theorem d3_5 : decode prog_5_method_3_code 5 = .ok (.getfield 7, 3) := by decide +kernel
theorem d3_8 : decode prog_5_method_3_code 8 = .ok (.arraylength, 1) := by decide +kernel
theorem d3_9 : decode prog_5_method_3_code 9 = .ok (.if_icmp .ne 37, 3) := by decide +kernel
theorem d3_46 : decode prog_5_method_3_code 46 = .ok (.aload_n 0, 1) := by decide +kernel
theorem d3_47 : decode prog_5_method_3_code 47 = .ok (.getfield 17, 3) := by decide +kernel
theorem d3_50 : decode prog_5_method_3_code 50 = .ok (.istore 4, 2) := by decide +kernel
theorem d3_52 : decode prog_5_method_3_code 52 = .ok (.aload_n 0, 1) := by decide +kernel
theorem d3_53 : decode prog_5_method_3_code 53 = .ok (.dup, 1) := by decide +kernel
theorem d3_54 : decode prog_5_method_3_code 54 = .ok (.getfield 17, 3) := by decide +kernel
theorem d3_57 : decode prog_5_method_3_code 57 = .ok (.iconst 1, 1) := by decide +kernel
theorem d3_58 : decode prog_5_method_3_code 58 = .ok (.iadd, 1) := by decide +kernel
theorem d3_59 : decode prog_5_method_3_code 59 = .ok (.putfield 17, 3) := by decide +kernel
theorem d3_62 : decode prog_5_method_3_code 62 = .ok (.iload 4, 2) := by decide +kernel
theorem d3_64 : decode prog_5_method_3_code 64 = .ok (.ifCond .le 62, 3) := by decide +kernel
theorem d3_126 : decode prog_5_method_3_code 126 = .ok (.aload_n 0, 1) := by decide +kernel
theorem d3_127 : decode prog_5_method_3_code 127 = .ok (.getfield 7, 3) := by decide +kernel
theorem d3_130 : decode prog_5_method_3_code 130 = .ok (.iload 4, 2) := by decide +kernel
theorem d3_132 : decode prog_5_method_3_code 132 = .ok (.dload_n 2, 1) := by decide +kernel
theorem d3_133 : decode prog_5_method_3_code 133 = .ok (.dastore, 1) := by decide +kernel
theorem d3_134 : decode prog_5_method_3_code 134 = .ok (.aload_n 0, 1) := by decide +kernel
theorem d3_135 : decode prog_5_method_3_code 135 = .ok (.getfield 13, 3) := by decide +kernel
theorem d3_138 : decode prog_5_method_3_code 138 = .ok (.iload 4, 2) := by decide +kernel
theorem d3_140 : decode prog_5_method_3_code 140 = .ok (.iload_n 1, 1) := by decide +kernel
theorem d3_141 : decode prog_5_method_3_code 141 = .ok (.iastore, 1) := by decide +kernel
theorem d3_142 : decode prog_5_method_3_code 142 = .ok (.return_, 1) := by decide +kernel
set_option maxRecDepth 65536 in
set_option maxHeartbeats 40000000 in
theorem rmAdd0 (l : Launch) (Z : State) (a0 : Array Value) (hw : ∀ d ∈ tables_1, d.before a0 Z = true) (ws : List Jvm.Cond) (a1 : Addr) (cA : Addr) (nA : Addr) (kA : ClassId) (kN : ClassId) (N : Int32 → Int32) (F : Int32 → Int64) (i : Int32) (h0 : Heap) (n0 : Nat) (O0 : Old Z n0 h0) (hF : ∀ i, B53 (F i)) (g_a1 : n0 ≤ a1) (g_cA : n0 ≤ cA) (g_nA : n0 ≤ nA) (E_a1 : Exa Z h0 a1 "com/example/kinetic_city/kineticcity/engine/CostQueue") (F_a1_size : Fld Z h0 a1 "com/example/kinetic_city/kineticcity/engine/CostQueue" "size" "I" (.int 0)) (F_a1_items : Fld Z h0 a1 "com/example/kinetic_city/kineticcity/engine/CostQueue" "items" "[I" (.ref nA)) (F_a1_costs : Fld Z h0 a1 "com/example/kinetic_city/kineticcity/engine/CostQueue" "costs" "[D" (.ref cA)) (V_cA : Arv Z h0 cA kA .double (16 : Int32) [(.double (FP.l2d 0)), (.double (FP.l2d 0)), (.double (FP.l2d 0)), (.double (FP.l2d 0)), (.double (FP.l2d 0))] (.double (FP.l2d 0))) (V_nA : Arv Z h0 nA kN .int 16 [(.int 0), (.int 0), (.int 0), (.int 0), (.int 0)] (.int 0)) :
    Con l Z (⟨"com/example/kinetic_city/kineticcity/engine/CostQueue", "add", "(ID)V"⟩ : MethodName) prog_5_method_3_code 6 none ws ({ frames := 0, cells := 0, slots := 0, locals := 0 } : Room) #[(.ref a1), (.int (N i)), (.double (FP.l2d (F i)))] h0 (fun v h L => v = none ∧ Fr n0 L ∧ Keep h0 h [a1, cA, nA] ∧ Exa Z h a1 "com/example/kinetic_city/kineticcity/engine/CostQueue" ∧ Fld Z h a1 "com/example/kinetic_city/kineticcity/engine/CostQueue" "size" "I" (.int 1) ∧ Fld Z h a1 "com/example/kinetic_city/kineticcity/engine/CostQueue" "items" "[I" (.ref nA) ∧ Fld Z h a1 "com/example/kinetic_city/kineticcity/engine/CostQueue" "costs" "[D" (.ref cA) ∧ ∃ j0 : Int32, (∀ w : Int32 → Int, w j0 = w i) ∧ Arv Z h cA kA .double (16 : Int32) [(.double (FP.l2d (F j0))), (.double (FP.l2d 0)), (.double (FP.l2d 0)), (.double (FP.l2d 0)), (.double (FP.l2d 0))] (.double (FP.l2d 0)) ∧ Arv Z h nA kN .int 16 [(.int (N j0)), (.int 0), (.int 0), (.int 0), (.int 0)] (.int 0)) := by
  refine own_body (plainFor_of_name pn_com_example_kinetic_city_kineticcity_engine_CostQueue) ?_
  intro p e s m below meth c s₁ hx hby hml hZ hown hnm hlk hret X0 e0
  have N0 := Fr.nil n0
  have K0 : Keep h0 h0 [a1, cA, nA] := Keep.refl _ _
  refine Go.st (T' := s₁) (f' := (mkF m 0 #[rv a1, .val (.int (N i)), .val (.double (FP.l2d (F i))), .second, .unset, .unset] [])) (fun _ k => castTop (by first | (simp [entryFrame, mkF, argsToLocals, Value.category]; done) | rfl) k) ?_
  have lt_a1 := E_a1.lt
  have lt_cA := V_cA.lt
  have lt_nA := V_nA.lt
  have nn : cA ≠ nA := own_neArv V_cA V_nA (by decide)
  have nt_a1_cA : a1 ≠ cA := Exa.neArv E_a1 V_cA (ww hw 2 rfl)
  have nt_a1_nA : a1 ≠ nA := Exa.neArv E_a1 V_nA (ww hw 2 rfl)
  refine Go.st (f' := (mkF m 1 #[rv a1, .val (.int (N i)), .val (.double (FP.l2d (F i))), .second, .unset, .unset] [(.ref a1)])) (fun _ k => XS.aloadN X0.here hx rfl (hb hby d3_0) rfl rfl k) ?_
  obtain ⟨T1, X1, e1, st1⟩ := getF X0 hx hZ hown (host := "") (Or.inl (ww hw 20 rfl)) Via.refl e0 F_a1_size (g := (mkF m 1 #[rv a1, .val (.int (N i)), .val (.double (FP.l2d (F i))), .second, .unset, .unset] [(.ref a1)])) rfl rfl (hb hby d3_1)
  refine Go.st (f' := (mkF m 4 #[rv a1, .val (.int (N i)), .val (.double (FP.l2d (F i))), .second, .unset, .unset] [(.int 0)])) (fun _ k => st1 _ k) ?_
  refine Go.st (f' := (mkF m 5 #[rv a1, .val (.int (N i)), .val (.double (FP.l2d (F i))), .second, .unset, .unset] [(.ref a1), (.int 0)])) (fun _ k => XS.aloadN X1.here hx rfl (hb hby d3_4) rfl rfl k) ?_
  obtain ⟨T2, X2, e2, st2⟩ := getF X1 hx hZ hown (host := "") (Or.inl (ww hw 10 rfl)) Via.refl e1 F_a1_costs (g := (mkF m 5 #[rv a1, .val (.int (N i)), .val (.double (FP.l2d (F i))), .second, .unset, .unset] [(.ref a1), (.int 0)])) rfl rfl (hb hby d3_5)
  refine Go.st (f' := (mkF m 8 #[rv a1, .val (.int (N i)), .val (.double (FP.l2d (F i))), .second, .unset, .unset] [(.ref cA), (.int 0)])) (fun _ k => st2 _ k) ?_
  obtain ⟨cl3, Ar3, -, S3, Nx3, -, -⟩ := id V_cA
  refine Go.st (T' := T2) (f' := (mkF m 9 #[rv a1, .val (.int (N i)), .val (.double (FP.l2d (F i))), .second, .unset, .unset] [(.int 16), (.int 0)])) (fun _ k => X2.arraylength hx (by rw [e2]; exact Ar3.1) (State.isArrayOf_alike hZ.alike Ar3.2.1) (g := (mkF m 8 #[rv a1, .val (.int (N i)), .val (.double (FP.l2d (F i))), .second, .unset, .unset] [(.ref cA), (.int 0)])) rfl rfl (hb hby d3_8) _ (by rw [len_of S3 Nx3]; exact k)) ?_
  refine Go.st (f' := (mkF m 46 #[rv a1, .val (.int (N i)), .val (.double (FP.l2d (F i))), .second, .unset, .unset] [])) (fun _ k => XS.icmpYes X2.here hx rfl (pc0 := 9) (pc' := 46) rfl (hb hby d3_9) rfl (by decide) (by decide) (by decide) k) ?_
  refine Go.st (f' := (mkF m 47 #[rv a1, .val (.int (N i)), .val (.double (FP.l2d (F i))), .second, .unset, .unset] [(.ref a1)])) (fun _ k => XS.aloadN X2.here hx rfl (hb hby d3_46) rfl rfl k) ?_
  obtain ⟨T4, X4, e4, st4⟩ := getF X2 hx hZ hown (host := "") (Or.inl (ww hw 20 rfl)) Via.refl e2 F_a1_size (g := (mkF m 47 #[rv a1, .val (.int (N i)), .val (.double (FP.l2d (F i))), .second, .unset, .unset] [(.ref a1)])) rfl rfl (hb hby d3_47)
  refine Go.st (f' := (mkF m 50 #[rv a1, .val (.int (N i)), .val (.double (FP.l2d (F i))), .second, .unset, .unset] [(.int 0)])) (fun _ k => st4 _ k) ?_
  refine Go.st (f' := (mkF m 52 #[rv a1, .val (.int (N i)), .val (.double (FP.l2d (F i))), .second, iv 0, .unset] [])) (fun _ k => XS.istore X4.here hx rfl (hb hby d3_50) rfl (l' := #[rv a1, .val (.int (N i)), .val (.double (FP.l2d (F i))), .second, iv 0, .unset]) rfl k) ?_
  refine Go.st (f' := (mkF m 53 #[rv a1, .val (.int (N i)), .val (.double (FP.l2d (F i))), .second, iv 0, .unset] [(.ref a1)])) (fun _ k => XS.aloadN X4.here hx rfl (hb hby d3_52) rfl rfl k) ?_
  refine Go.st (f' := (mkF m 54 #[rv a1, .val (.int (N i)), .val (.double (FP.l2d (F i))), .second, iv 0, .unset] [(.ref a1), (.ref a1)])) (fun _ k => XS.dup X4.here hx rfl (hb hby d3_53) rfl rfl k) ?_
  obtain ⟨T5, X5, e5, st5⟩ := getF X4 hx hZ hown (host := "") (Or.inl (ww hw 20 rfl)) Via.refl e4 F_a1_size (g := (mkF m 54 #[rv a1, .val (.int (N i)), .val (.double (FP.l2d (F i))), .second, iv 0, .unset] [(.ref a1), (.ref a1)])) rfl rfl (hb hby d3_54)
  refine Go.st (f' := (mkF m 57 #[rv a1, .val (.int (N i)), .val (.double (FP.l2d (F i))), .second, iv 0, .unset] [(.int 0), (.ref a1)])) (fun _ k => st5 _ k) ?_
  refine Go.st (f' := (mkF m 58 #[rv a1, .val (.int (N i)), .val (.double (FP.l2d (F i))), .second, iv 0, .unset] [(.int 1), (.int 0), (.ref a1)])) (fun _ k => XS.iconst X5.here hx rfl (hb hby d3_57) k) ?_
  refine Go.st (f' := (mkF m 59 #[rv a1, .val (.int (N i)), .val (.double (FP.l2d (F i))), .second, iv 0, .unset] [(.int 1), (.ref a1)])) (fun _ k => XS.iadd X5.here hx rfl (hb hby d3_58) rfl k) ?_
  obtain ⟨T6, h6, X6, e6, W6, st6⟩ := putF X5 hx hZ hown (host := "") (Or.inl (ww hw 20 rfl)) Via.refl e5 F_a1_size E_a1 (Or.inl (ww hw 21 rfl)) (ww hw 2 rfl) (ty := .int) (by decide) rfl rfl (g := (mkF m 59 #[rv a1, .val (.int (N i)), .val (.double (FP.l2d (F i))), .second, iv 0, .unset] [(.int 1), (.ref a1)])) rfl rfl (hb hby d3_59)
  have N6 := Fr.snoc X6 N0 g_a1
  have O6 : Old Z n0 h6 := O0.wr W6 g_a1
  have K6 : Keep h0 h6 [a1, cA, nA] := K0.wr W6 (Or.inl (List.mem_of_getElem? (i := 0) rfl))
  have Fw6 := F_a1_size.same W6
  refine Go.st (f' := (mkF m 62 #[rv a1, .val (.int (N i)), .val (.double (FP.l2d (F i))), .second, iv 0, .unset] [])) (fun _ k => st6 _ k) ?_
  refine Go.st (f' := (mkF m 64 #[rv a1, .val (.int (N i)), .val (.double (FP.l2d (F i))), .second, iv 0, .unset] [(.int 0)])) (fun _ k => XS.iload X6.here hx rfl (hb hby d3_62) rfl k) ?_
  refine Go.st (f' := (mkF m 126 #[rv a1, .val (.int (N i)), .val (.double (FP.l2d (F i))), .second, iv 0, .unset] [])) (fun _ k => XS.ifYes X6.here hx rfl (pc0 := 64) (pc' := 126) rfl (hb hby d3_64) rfl (by decide) (by decide) (by decide) k) ?_
  refine Go.st (f' := (mkF m 127 #[rv a1, .val (.int (N i)), .val (.double (FP.l2d (F i))), .second, iv 0, .unset] [(.ref a1)])) (fun _ k => XS.aloadN X6.here hx rfl (hb hby d3_126) rfl rfl k) ?_
  have ft7 := (F_a1_costs.other W6 (Or.inr (slot_ne (Or.inl (ww hw 11 rfl)) (Or.inl (ww hw 21 rfl)) (by decide) (t := (.array .double)) (t' := .int) (by decide) (by decide))))
  obtain ⟨T8, X8, e8, st8⟩ := getF X6 hx hZ hown (host := "") (Or.inl (ww hw 10 rfl)) Via.refl e6 ft7 (g := (mkF m 127 #[rv a1, .val (.int (N i)), .val (.double (FP.l2d (F i))), .second, iv 0, .unset] [(.ref a1)])) rfl rfl (hb hby d3_127)
  refine Go.st (f' := (mkF m 130 #[rv a1, .val (.int (N i)), .val (.double (FP.l2d (F i))), .second, iv 0, .unset] [(.ref cA)])) (fun _ k => st8 _ k) ?_
  refine Go.st (f' := (mkF m 132 #[rv a1, .val (.int (N i)), .val (.double (FP.l2d (F i))), .second, iv 0, .unset] [(.int 0), (.ref cA)])) (fun _ k => XS.iload X8.here hx rfl (hb hby d3_130) rfl k) ?_
  refine Go.st (f' := (mkF m 133 #[rv a1, .val (.int (N i)), .val (.double (FP.l2d (F i))), .second, iv 0, .unset] [(.double (FP.l2d (F i))), (.int 0), (.ref cA)])) (fun _ k => XS.dloadN X8.here hx rfl (hb hby d3_132) rfl k) ?_
  have ft9 := (V_cA.other W6 (Ne.symm nt_a1_cA))
  obtain ⟨cl10, Ar10, q10, S10, Nx10, H10, G10⟩ := id ft9
  have hin10 : ¬ ((0 : Int32) < 0 ∨ cl10.slots.size ≤ ((0 : Int32)).toNatClampNeg) := inb_of S10 ⟨by decide, by decide⟩
  obtain ⟨T11, h11, X11, e11, W11, st11⟩ := stD X8 hx hZ e8 Ar10 (j := (0 : Int32)) hin10 (g := (mkF m 133 #[rv a1, .val (.int (N i)), .val (.double (FP.l2d (F i))), .second, iv 0, .unset] [(.double (FP.l2d (F i))), (.int 0), (.ref cA)])) rfl rfl (hb hby d3_133)
  have V_cA_11 : Arv Z h11 cA kA .double (16 : Int32) [(.double (FP.l2d (F i))), (.double (FP.l2d 0)), (.double (FP.l2d 0)), (.double (FP.l2d 0)), (.double (FP.l2d 0))] (.double (FP.l2d 0)) := Arv.set Ar10 q10 S10 Nx10 H10 G10 rfl W11 0 rfl (Nat.le_of_ble_eq_true rfl)
  have N11 := Fr.snoc X11 N6 g_cA
  have O11 : Old Z n0 h11 := O6.wr W11 g_cA
  have K11 : Keep h0 h11 [a1, cA, nA] := K6.wr W11 (Or.inl (List.mem_of_getElem? (i := 1) rfl))
  refine Go.st (f' := (mkF m 134 #[rv a1, .val (.int (N i)), .val (.double (FP.l2d (F i))), .second, iv 0, .unset] [])) (fun _ k => st11 _ k) ?_
  refine Go.st (f' := (mkF m 135 #[rv a1, .val (.int (N i)), .val (.double (FP.l2d (F i))), .second, iv 0, .unset] [(.ref a1)])) (fun _ k => XS.aloadN X11.here hx rfl (hb hby d3_134) rfl rfl k) ?_
  have ft12 := ((F_a1_items.other W6 (Or.inr (slot_ne (Or.inl (ww hw 14 rfl)) (Or.inl (ww hw 21 rfl)) (by decide) (t := (.array .int)) (t' := .int) (by decide) (by decide)))).other W11 (Or.inl nt_a1_cA))
  obtain ⟨T13, X13, e13, st13⟩ := getF X11 hx hZ hown (host := "") (Or.inl (ww hw 13 rfl)) Via.refl e11 ft12 (g := (mkF m 135 #[rv a1, .val (.int (N i)), .val (.double (FP.l2d (F i))), .second, iv 0, .unset] [(.ref a1)])) rfl rfl (hb hby d3_135)
  refine Go.st (f' := (mkF m 138 #[rv a1, .val (.int (N i)), .val (.double (FP.l2d (F i))), .second, iv 0, .unset] [(.ref nA)])) (fun _ k => st13 _ k) ?_
  refine Go.st (f' := (mkF m 140 #[rv a1, .val (.int (N i)), .val (.double (FP.l2d (F i))), .second, iv 0, .unset] [(.int 0), (.ref nA)])) (fun _ k => XS.iload X13.here hx rfl (hb hby d3_138) rfl k) ?_
  refine Go.st (f' := (mkF m 141 #[rv a1, .val (.int (N i)), .val (.double (FP.l2d (F i))), .second, iv 0, .unset] [(.int (N i)), (.int 0), (.ref nA)])) (fun _ k => XS.iloadN X13.here hx rfl (hb hby d3_140) rfl k) ?_
  have ft14 := ((V_nA.other W6 (Ne.symm nt_a1_nA)).other W11 (Ne.symm nn))
  obtain ⟨cl15, Ar15, q15, S15, Nx15, H15, G15⟩ := id ft14
  have hin15 : ¬ ((0 : Int32) < 0 ∨ cl15.slots.size ≤ ((0 : Int32)).toNatClampNeg) := inb_of S15 ⟨by decide, by decide⟩
  obtain ⟨T16, h16, X16, e16, W16, st16⟩ := stI X13 hx hZ e13 Ar15 (j := (0 : Int32)) hin15 (g := (mkF m 141 #[rv a1, .val (.int (N i)), .val (.double (FP.l2d (F i))), .second, iv 0, .unset] [(.int (N i)), (.int 0), (.ref nA)])) rfl rfl (hb hby d3_141)
  have V_nA_16 : Arv Z h16 nA kN .int (16 : Int32) [(.int (N i)), (.int (0 : Int32)), (.int (0 : Int32)), (.int (0 : Int32)), (.int (0 : Int32))] (.int (0 : Int32)) := Arv.set Ar15 q15 S15 Nx15 H15 G15 rfl W16 0 rfl (Nat.le_of_ble_eq_true rfl)
  have N16 := Fr.snoc X16 N11 g_nA
  have O16 : Old Z n0 h16 := O11.wr W16 g_nA
  have K16 : Keep h0 h16 [a1, cA, nA] := K11.wr W16 (Or.inl (List.mem_of_getElem? (i := 2) rfl))
  refine Go.st (f' := (mkF m 142 #[rv a1, .val (.int (N i)), .val (.double (FP.l2d (F i))), .second, iv 0, .unset] [])) (fun _ k => st16 _ k) ?_
  refine Go.ret0 X16 hlk hx hret (hb hby d3_142) e16 ?_ (by decide) (by decide)
  have ft17 := (((E_a1.wr W6).wr W11).wr W16)
  have ft18 := ((Fw6.other W11 (Or.inl nt_a1_cA)).other W16 (Or.inl nt_a1_nA))
  have ft19 := (ft12.other W16 (Or.inl nt_a1_nA))
  have ft20 := ((ft7.other W11 (Or.inl nt_a1_cA)).other W16 (Or.inl nt_a1_nA))
  have ft21 := (V_cA_11.other W16 nn)
  exact ⟨rfl, N16, K16, ft17, ft18, ft19, ft20, i, fun w => by omega, ft21, V_nA_16⟩
theorem rmA0 (l : Launch) (Z : State) (a0 : Array Value) (hw : ∀ d ∈ tables_1, d.before a0 Z = true) (ws : List Jvm.Cond) (a1 : Addr) (cA : Addr) (nA : Addr) (kA : ClassId) (kN : ClassId) (N : Int32 → Int32) (F : Int32 → Int64) (i : Int32) (nd : Int32) (x : Int64) (h0 : Heap) (n0 : Nat) (O0 : Old Z n0 h0) (en : nd = N i) (ex : x = F i) (hF : ∀ i, B53 (F i)) (g_a1 : n0 ≤ a1) (g_cA : n0 ≤ cA) (g_nA : n0 ≤ nA) (E_a1 : Exa Z h0 a1 "com/example/kinetic_city/kineticcity/engine/CostQueue") (F_a1_size : Fld Z h0 a1 "com/example/kinetic_city/kineticcity/engine/CostQueue" "size" "I" (.int 0)) (F_a1_items : Fld Z h0 a1 "com/example/kinetic_city/kineticcity/engine/CostQueue" "items" "[I" (.ref nA)) (F_a1_costs : Fld Z h0 a1 "com/example/kinetic_city/kineticcity/engine/CostQueue" "costs" "[D" (.ref cA)) (V_cA : Arv Z h0 cA kA .double (16 : Int32) [(.double (FP.l2d 0)), (.double (FP.l2d 0)), (.double (FP.l2d 0)), (.double (FP.l2d 0)), (.double (FP.l2d 0))] (.double (FP.l2d 0))) (V_nA : Arv Z h0 nA kN .int 16 [(.int 0), (.int 0), (.int 0), (.int 0), (.int 0)] (.int 0)) :
    Con l Z (⟨"com/example/kinetic_city/kineticcity/engine/CostQueue", "add", "(ID)V"⟩ : MethodName) prog_5_method_3_code 6 none ws ({ frames := 0, cells := 0, slots := 0, locals := 0 } : Room) #[(.ref a1), (.int nd), (.double (FP.l2d x))] h0 (fun v h L => v = none ∧ Fr n0 L ∧ Keep h0 h [a1, cA, nA] ∧ Exa Z h a1 "com/example/kinetic_city/kineticcity/engine/CostQueue" ∧ Fld Z h a1 "com/example/kinetic_city/kineticcity/engine/CostQueue" "size" "I" (.int 1) ∧ Fld Z h a1 "com/example/kinetic_city/kineticcity/engine/CostQueue" "items" "[I" (.ref nA) ∧ Fld Z h a1 "com/example/kinetic_city/kineticcity/engine/CostQueue" "costs" "[D" (.ref cA) ∧ ∃ j0 : Int32, (∀ w : Int32 → Int, w j0 = w i) ∧ Arv Z h cA kA .double (16 : Int32) [(.double (FP.l2d (F j0))), (.double (FP.l2d 0)), (.double (FP.l2d 0)), (.double (FP.l2d 0)), (.double (FP.l2d 0))] (.double (FP.l2d 0)) ∧ Arv Z h nA kN .int 16 [(.int (N j0)), (.int 0), (.int 0), (.int 0), (.int 0)] (.int 0)) := by
  subst en ex
  exact rmAdd0 l Z a0 hw ws a1 cA nA kA kN N F i h0 n0 O0 hF g_a1 g_cA g_nA E_a1 F_a1_size F_a1_items F_a1_costs V_cA V_nA
theorem d3_67 : decode prog_5_method_3_code 67 = .ok (.aload_n 0, 1) := by decide +kernel
theorem d3_68 : decode prog_5_method_3_code 68 = .ok (.getfield 7, 3) := by decide +kernel
theorem d3_71 : decode prog_5_method_3_code 71 = .ok (.iload 4, 2) := by decide +kernel
theorem d3_73 : decode prog_5_method_3_code 73 = .ok (.iconst 1, 1) := by decide +kernel
theorem d3_74 : decode prog_5_method_3_code 74 = .ok (.isub, 1) := by decide +kernel
theorem d3_75 : decode prog_5_method_3_code 75 = .ok (.iconst 2, 1) := by decide +kernel
theorem d3_76 : decode prog_5_method_3_code 76 = .ok (.idiv, 1) := by decide +kernel
theorem d3_77 : decode prog_5_method_3_code 77 = .ok (.daload, 1) := by decide +kernel
theorem d3_78 : decode prog_5_method_3_code 78 = .ok (.dload_n 2, 1) := by decide +kernel
theorem d3_79 : decode prog_5_method_3_code 79 = .ok (.dcmp .l, 1) := by decide +kernel
theorem d3_80 : decode prog_5_method_3_code 80 = .ok (.ifCond .le 46, 3) := by decide +kernel
theorem d3_83 : decode prog_5_method_3_code 83 = .ok (.iload 4, 2) := by decide +kernel
theorem d3_85 : decode prog_5_method_3_code 85 = .ok (.iconst 1, 1) := by decide +kernel
theorem d3_86 : decode prog_5_method_3_code 86 = .ok (.isub, 1) := by decide +kernel
theorem d3_87 : decode prog_5_method_3_code 87 = .ok (.iconst 2, 1) := by decide +kernel
theorem d3_88 : decode prog_5_method_3_code 88 = .ok (.idiv, 1) := by decide +kernel
theorem d3_89 : decode prog_5_method_3_code 89 = .ok (.istore 5, 2) := by decide +kernel
theorem d3_91 : decode prog_5_method_3_code 91 = .ok (.aload_n 0, 1) := by decide +kernel
theorem d3_92 : decode prog_5_method_3_code 92 = .ok (.getfield 7, 3) := by decide +kernel
theorem d3_95 : decode prog_5_method_3_code 95 = .ok (.iload 4, 2) := by decide +kernel
theorem d3_97 : decode prog_5_method_3_code 97 = .ok (.aload_n 0, 1) := by decide +kernel
theorem d3_98 : decode prog_5_method_3_code 98 = .ok (.getfield 7, 3) := by decide +kernel
theorem d3_101 : decode prog_5_method_3_code 101 = .ok (.iload 5, 2) := by decide +kernel
theorem d3_103 : decode prog_5_method_3_code 103 = .ok (.daload, 1) := by decide +kernel
theorem d3_104 : decode prog_5_method_3_code 104 = .ok (.dastore, 1) := by decide +kernel
theorem d3_105 : decode prog_5_method_3_code 105 = .ok (.aload_n 0, 1) := by decide +kernel
theorem d3_106 : decode prog_5_method_3_code 106 = .ok (.getfield 13, 3) := by decide +kernel
theorem d3_109 : decode prog_5_method_3_code 109 = .ok (.iload 4, 2) := by decide +kernel
theorem d3_111 : decode prog_5_method_3_code 111 = .ok (.aload_n 0, 1) := by decide +kernel
theorem d3_112 : decode prog_5_method_3_code 112 = .ok (.getfield 13, 3) := by decide +kernel
theorem d3_115 : decode prog_5_method_3_code 115 = .ok (.iload 5, 2) := by decide +kernel
theorem d3_117 : decode prog_5_method_3_code 117 = .ok (.iaload, 1) := by decide +kernel
theorem d3_118 : decode prog_5_method_3_code 118 = .ok (.iastore, 1) := by decide +kernel
theorem d3_119 : decode prog_5_method_3_code 119 = .ok (.iload 5, 2) := by decide +kernel
theorem d3_121 : decode prog_5_method_3_code 121 = .ok (.istore 4, 2) := by decide +kernel
theorem d3_123 : decode prog_5_method_3_code 123 = .ok (.goto (-61), 3) := by decide +kernel
set_option maxRecDepth 65536 in
set_option maxHeartbeats 40000000 in
theorem rmAdd1 (l : Launch) (Z : State) (a0 : Array Value) (hw : ∀ d ∈ tables_1, d.before a0 Z = true) (ws : List Jvm.Cond) (a1 : Addr) (cA : Addr) (nA : Addr) (kA : ClassId) (kN : ClassId) (N : Int32 → Int32) (F : Int32 → Int64) (i0 : Int32) (i : Int32) (h0 : Heap) (n0 : Nat) (O0 : Old Z n0 h0) (hF : ∀ i, B53 (F i)) (g_a1 : n0 ≤ a1) (g_cA : n0 ≤ cA) (g_nA : n0 ≤ nA) (E_a1 : Exa Z h0 a1 "com/example/kinetic_city/kineticcity/engine/CostQueue") (F_a1_size : Fld Z h0 a1 "com/example/kinetic_city/kineticcity/engine/CostQueue" "size" "I" (.int 1)) (F_a1_items : Fld Z h0 a1 "com/example/kinetic_city/kineticcity/engine/CostQueue" "items" "[I" (.ref nA)) (F_a1_costs : Fld Z h0 a1 "com/example/kinetic_city/kineticcity/engine/CostQueue" "costs" "[D" (.ref cA)) (V_cA : Arv Z h0 cA kA .double (16 : Int32) [(.double (FP.l2d (F i0))), (.double (FP.l2d 0)), (.double (FP.l2d 0)), (.double (FP.l2d 0)), (.double (FP.l2d 0))] (.double (FP.l2d 0))) (V_nA : Arv Z h0 nA kN .int 16 [(.int (N i0)), (.int 0), (.int 0), (.int 0), (.int 0)] (.int 0)) :
    Con l Z (⟨"com/example/kinetic_city/kineticcity/engine/CostQueue", "add", "(ID)V"⟩ : MethodName) prog_5_method_3_code 6 none ws ({ frames := 0, cells := 0, slots := 0, locals := 0 } : Room) #[(.ref a1), (.int (N i)), (.double (FP.l2d (F i)))] h0 (fun v h L => v = none ∧ Fr n0 L ∧ Keep h0 h [a1, cA, nA] ∧ Exa Z h a1 "com/example/kinetic_city/kineticcity/engine/CostQueue" ∧ Fld Z h a1 "com/example/kinetic_city/kineticcity/engine/CostQueue" "size" "I" (.int 2) ∧ Fld Z h a1 "com/example/kinetic_city/kineticcity/engine/CostQueue" "items" "[I" (.ref nA) ∧ Fld Z h a1 "com/example/kinetic_city/kineticcity/engine/CostQueue" "costs" "[D" (.ref cA) ∧ ∃ j0 j1 : Int32, (∀ w : Int32 → Int, w j0 + w j1 = w i0 + w i) ∧ (F j0).toInt ≤ (F j1).toInt ∧ Arv Z h cA kA .double (16 : Int32) [(.double (FP.l2d (F j0))), (.double (FP.l2d (F j1))), (.double (FP.l2d 0)), (.double (FP.l2d 0)), (.double (FP.l2d 0))] (.double (FP.l2d 0)) ∧ Arv Z h nA kN .int 16 [(.int (N j0)), (.int (N j1)), (.int 0), (.int 0), (.int 0)] (.int 0)) := by
  refine own_body (plainFor_of_name pn_com_example_kinetic_city_kineticcity_engine_CostQueue) ?_
  intro p e s m below meth c s₁ hx hby hml hZ hown hnm hlk hret X0 e0
  have N0 := Fr.nil n0
  have K0 : Keep h0 h0 [a1, cA, nA] := Keep.refl _ _
  refine Go.st (T' := s₁) (f' := (mkF m 0 #[rv a1, .val (.int (N i)), .val (.double (FP.l2d (F i))), .second, .unset, .unset] [])) (fun _ k => castTop (by first | (simp [entryFrame, mkF, argsToLocals, Value.category]; done) | rfl) k) ?_
  have lt_a1 := E_a1.lt
  have lt_cA := V_cA.lt
  have lt_nA := V_nA.lt
  have nn : cA ≠ nA := own_neArv V_cA V_nA (by decide)
  have nt_a1_cA : a1 ≠ cA := Exa.neArv E_a1 V_cA (ww hw 2 rfl)
  have nt_a1_nA : a1 ≠ nA := Exa.neArv E_a1 V_nA (ww hw 2 rfl)
  refine Go.st (f' := (mkF m 1 #[rv a1, .val (.int (N i)), .val (.double (FP.l2d (F i))), .second, .unset, .unset] [(.ref a1)])) (fun _ k => XS.aloadN X0.here hx rfl (hb hby d3_0) rfl rfl k) ?_
  obtain ⟨T1, X1, e1, st1⟩ := getF X0 hx hZ hown (host := "") (Or.inl (ww hw 20 rfl)) Via.refl e0 F_a1_size (g := (mkF m 1 #[rv a1, .val (.int (N i)), .val (.double (FP.l2d (F i))), .second, .unset, .unset] [(.ref a1)])) rfl rfl (hb hby d3_1)
  refine Go.st (f' := (mkF m 4 #[rv a1, .val (.int (N i)), .val (.double (FP.l2d (F i))), .second, .unset, .unset] [(.int 1)])) (fun _ k => st1 _ k) ?_
  refine Go.st (f' := (mkF m 5 #[rv a1, .val (.int (N i)), .val (.double (FP.l2d (F i))), .second, .unset, .unset] [(.ref a1), (.int 1)])) (fun _ k => XS.aloadN X1.here hx rfl (hb hby d3_4) rfl rfl k) ?_
  obtain ⟨T2, X2, e2, st2⟩ := getF X1 hx hZ hown (host := "") (Or.inl (ww hw 10 rfl)) Via.refl e1 F_a1_costs (g := (mkF m 5 #[rv a1, .val (.int (N i)), .val (.double (FP.l2d (F i))), .second, .unset, .unset] [(.ref a1), (.int 1)])) rfl rfl (hb hby d3_5)
  refine Go.st (f' := (mkF m 8 #[rv a1, .val (.int (N i)), .val (.double (FP.l2d (F i))), .second, .unset, .unset] [(.ref cA), (.int 1)])) (fun _ k => st2 _ k) ?_
  obtain ⟨cl3, Ar3, -, S3, Nx3, -, -⟩ := id V_cA
  refine Go.st (T' := T2) (f' := (mkF m 9 #[rv a1, .val (.int (N i)), .val (.double (FP.l2d (F i))), .second, .unset, .unset] [(.int 16), (.int 1)])) (fun _ k => X2.arraylength hx (by rw [e2]; exact Ar3.1) (State.isArrayOf_alike hZ.alike Ar3.2.1) (g := (mkF m 8 #[rv a1, .val (.int (N i)), .val (.double (FP.l2d (F i))), .second, .unset, .unset] [(.ref cA), (.int 1)])) rfl rfl (hb hby d3_8) _ (by rw [len_of S3 Nx3]; exact k)) ?_
  refine Go.st (f' := (mkF m 46 #[rv a1, .val (.int (N i)), .val (.double (FP.l2d (F i))), .second, .unset, .unset] [])) (fun _ k => XS.icmpYes X2.here hx rfl (pc0 := 9) (pc' := 46) rfl (hb hby d3_9) rfl (by decide) (by decide) (by decide) k) ?_
  refine Go.st (f' := (mkF m 47 #[rv a1, .val (.int (N i)), .val (.double (FP.l2d (F i))), .second, .unset, .unset] [(.ref a1)])) (fun _ k => XS.aloadN X2.here hx rfl (hb hby d3_46) rfl rfl k) ?_
  obtain ⟨T4, X4, e4, st4⟩ := getF X2 hx hZ hown (host := "") (Or.inl (ww hw 20 rfl)) Via.refl e2 F_a1_size (g := (mkF m 47 #[rv a1, .val (.int (N i)), .val (.double (FP.l2d (F i))), .second, .unset, .unset] [(.ref a1)])) rfl rfl (hb hby d3_47)
  refine Go.st (f' := (mkF m 50 #[rv a1, .val (.int (N i)), .val (.double (FP.l2d (F i))), .second, .unset, .unset] [(.int 1)])) (fun _ k => st4 _ k) ?_
  refine Go.st (f' := (mkF m 52 #[rv a1, .val (.int (N i)), .val (.double (FP.l2d (F i))), .second, iv 1, .unset] [])) (fun _ k => XS.istore X4.here hx rfl (hb hby d3_50) rfl (l' := #[rv a1, .val (.int (N i)), .val (.double (FP.l2d (F i))), .second, iv 1, .unset]) rfl k) ?_
  refine Go.st (f' := (mkF m 53 #[rv a1, .val (.int (N i)), .val (.double (FP.l2d (F i))), .second, iv 1, .unset] [(.ref a1)])) (fun _ k => XS.aloadN X4.here hx rfl (hb hby d3_52) rfl rfl k) ?_
  refine Go.st (f' := (mkF m 54 #[rv a1, .val (.int (N i)), .val (.double (FP.l2d (F i))), .second, iv 1, .unset] [(.ref a1), (.ref a1)])) (fun _ k => XS.dup X4.here hx rfl (hb hby d3_53) rfl rfl k) ?_
  obtain ⟨T5, X5, e5, st5⟩ := getF X4 hx hZ hown (host := "") (Or.inl (ww hw 20 rfl)) Via.refl e4 F_a1_size (g := (mkF m 54 #[rv a1, .val (.int (N i)), .val (.double (FP.l2d (F i))), .second, iv 1, .unset] [(.ref a1), (.ref a1)])) rfl rfl (hb hby d3_54)
  refine Go.st (f' := (mkF m 57 #[rv a1, .val (.int (N i)), .val (.double (FP.l2d (F i))), .second, iv 1, .unset] [(.int 1), (.ref a1)])) (fun _ k => st5 _ k) ?_
  refine Go.st (f' := (mkF m 58 #[rv a1, .val (.int (N i)), .val (.double (FP.l2d (F i))), .second, iv 1, .unset] [(.int 1), (.int 1), (.ref a1)])) (fun _ k => XS.iconst X5.here hx rfl (hb hby d3_57) k) ?_
  refine Go.st (f' := (mkF m 59 #[rv a1, .val (.int (N i)), .val (.double (FP.l2d (F i))), .second, iv 1, .unset] [(.int 2), (.ref a1)])) (fun _ k => XS.iadd X5.here hx rfl (hb hby d3_58) rfl k) ?_
  obtain ⟨T6, h6, X6, e6, W6, st6⟩ := putF X5 hx hZ hown (host := "") (Or.inl (ww hw 20 rfl)) Via.refl e5 F_a1_size E_a1 (Or.inl (ww hw 21 rfl)) (ww hw 2 rfl) (ty := .int) (by decide) rfl rfl (g := (mkF m 59 #[rv a1, .val (.int (N i)), .val (.double (FP.l2d (F i))), .second, iv 1, .unset] [(.int 2), (.ref a1)])) rfl rfl (hb hby d3_59)
  have N6 := Fr.snoc X6 N0 g_a1
  have O6 : Old Z n0 h6 := O0.wr W6 g_a1
  have K6 : Keep h0 h6 [a1, cA, nA] := K0.wr W6 (Or.inl (List.mem_of_getElem? (i := 0) rfl))
  have Fw6 := F_a1_size.same W6
  refine Go.st (f' := (mkF m 62 #[rv a1, .val (.int (N i)), .val (.double (FP.l2d (F i))), .second, iv 1, .unset] [])) (fun _ k => st6 _ k) ?_
  refine Go.st (f' := (mkF m 64 #[rv a1, .val (.int (N i)), .val (.double (FP.l2d (F i))), .second, iv 1, .unset] [(.int 1)])) (fun _ k => XS.iload X6.here hx rfl (hb hby d3_62) rfl k) ?_
  refine Go.st (f' := (mkF m 67 #[rv a1, .val (.int (N i)), .val (.double (FP.l2d (F i))), .second, iv 1, .unset] [])) (fun _ k => XS.ifNo X6.here hx rfl (hb hby d3_64) rfl (by decide) k) ?_
  refine Go.st (f' := (mkF m 68 #[rv a1, .val (.int (N i)), .val (.double (FP.l2d (F i))), .second, iv 1, .unset] [(.ref a1)])) (fun _ k => XS.aloadN X6.here hx rfl (hb hby d3_67) rfl rfl k) ?_
  have ft7 := (F_a1_costs.other W6 (Or.inr (slot_ne (Or.inl (ww hw 11 rfl)) (Or.inl (ww hw 21 rfl)) (by decide) (t := (.array .double)) (t' := .int) (by decide) (by decide))))
  obtain ⟨T8, X8, e8, st8⟩ := getF X6 hx hZ hown (host := "") (Or.inl (ww hw 10 rfl)) Via.refl e6 ft7 (g := (mkF m 68 #[rv a1, .val (.int (N i)), .val (.double (FP.l2d (F i))), .second, iv 1, .unset] [(.ref a1)])) rfl rfl (hb hby d3_68)
  refine Go.st (f' := (mkF m 71 #[rv a1, .val (.int (N i)), .val (.double (FP.l2d (F i))), .second, iv 1, .unset] [(.ref cA)])) (fun _ k => st8 _ k) ?_
  refine Go.st (f' := (mkF m 73 #[rv a1, .val (.int (N i)), .val (.double (FP.l2d (F i))), .second, iv 1, .unset] [(.int 1), (.ref cA)])) (fun _ k => XS.iload X8.here hx rfl (hb hby d3_71) rfl k) ?_
  refine Go.st (f' := (mkF m 74 #[rv a1, .val (.int (N i)), .val (.double (FP.l2d (F i))), .second, iv 1, .unset] [(.int 1), (.int 1), (.ref cA)])) (fun _ k => XS.iconst X8.here hx rfl (hb hby d3_73) k) ?_
  refine Go.st (f' := (mkF m 75 #[rv a1, .val (.int (N i)), .val (.double (FP.l2d (F i))), .second, iv 1, .unset] [(.int 0), (.ref cA)])) (fun _ k => XS.isub X8.here hx rfl (hb hby d3_74) rfl k) ?_
  refine Go.st (f' := (mkF m 76 #[rv a1, .val (.int (N i)), .val (.double (FP.l2d (F i))), .second, iv 1, .unset] [(.int 2), (.int 0), (.ref cA)])) (fun _ k => XS.iconst X8.here hx rfl (hb hby d3_75) k) ?_
  refine Go.st (f' := (mkF m 77 #[rv a1, .val (.int (N i)), .val (.double (FP.l2d (F i))), .second, iv 1, .unset] [(.int 0), (.ref cA)])) (fun _ k => XS.idiv X8.here hx rfl (hb hby d3_76) rfl (by decide) k) ?_
  have ft10 := (V_cA.other W6 (Ne.symm nt_a1_cA))
  obtain ⟨cl9, Ar9, -, S9, -, H9, -⟩ := id ft10
  have hin9 : ¬ ((0 : Int32) < 0 ∨ cl9.slots.size ≤ ((0 : Int32)).toNatClampNeg) := inb_of S9 ⟨by decide, by decide⟩
  have hat9 : cl9.slots[((0 : Int32)).toNatClampNeg]? = some (.double (FP.l2d (F i0))) := H9.at hin9 rfl
  refine Go.st (f' := (mkF m 78 #[rv a1, .val (.int (N i)), .val (.double (FP.l2d (F i))), .second, iv 1, .unset] [(.double (FP.l2d (F i0)))])) (fun _ k => X8.daload hx (j := (0 : Int32)) (v := (.double (FP.l2d (F i0)))) (by rw [e8]; exact Ar9.1) (State.isArrayOf_alike hZ.alike Ar9.2.1) Ar9.2.2 hin9 hat9 (g := (mkF m 77 #[rv a1, .val (.int (N i)), .val (.double (FP.l2d (F i))), .second, iv 1, .unset] [(.int 0), (.ref cA)])) rfl rfl (hb hby d3_77) _ k) ?_
  refine Go.st (f' := (mkF m 79 #[rv a1, .val (.int (N i)), .val (.double (FP.l2d (F i))), .second, iv 1, .unset] [(.double (FP.l2d (F i))), (.double (FP.l2d (F i0)))])) (fun _ k => XS.dloadN X8.here hx rfl (hb hby d3_78) rfl k) ?_
  refine Go.st (f' := (mkF m 80 #[rv a1, .val (.int (N i)), .val (.double (FP.l2d (F i))), .second, iv 1, .unset] [(.int (lcmpW (F i0) (F i)))])) (fun _ k => XS.dcmpS X8.here hx rfl (hb hby d3_79) rfl (dcmpV_w (hF _) (hF _) _) k) ?_
  by_cases cd11 : (0 : Int32) < (lcmpW (F i0) (F i))
  · refine Go.st (f' := (mkF m 83 #[rv a1, .val (.int (N i)), .val (.double (FP.l2d (F i))), .second, iv 1, .unset] [])) (fun _ k => XS.ifNo X8.here hx rfl (hb hby d3_80) rfl ((if0 _ _).trans (tlt cd11).2.2.2) k) ?_
    refine Go.st (f' := (mkF m 85 #[rv a1, .val (.int (N i)), .val (.double (FP.l2d (F i))), .second, iv 1, .unset] [(.int 1)])) (fun _ k => XS.iload X8.here hx rfl (hb hby d3_83) rfl k) ?_
    refine Go.st (f' := (mkF m 86 #[rv a1, .val (.int (N i)), .val (.double (FP.l2d (F i))), .second, iv 1, .unset] [(.int 1), (.int 1)])) (fun _ k => XS.iconst X8.here hx rfl (hb hby d3_85) k) ?_
    refine Go.st (f' := (mkF m 87 #[rv a1, .val (.int (N i)), .val (.double (FP.l2d (F i))), .second, iv 1, .unset] [(.int 0)])) (fun _ k => XS.isub X8.here hx rfl (hb hby d3_86) rfl k) ?_
    refine Go.st (f' := (mkF m 88 #[rv a1, .val (.int (N i)), .val (.double (FP.l2d (F i))), .second, iv 1, .unset] [(.int 2), (.int 0)])) (fun _ k => XS.iconst X8.here hx rfl (hb hby d3_87) k) ?_
    refine Go.st (f' := (mkF m 89 #[rv a1, .val (.int (N i)), .val (.double (FP.l2d (F i))), .second, iv 1, .unset] [(.int 0)])) (fun _ k => XS.idiv X8.here hx rfl (hb hby d3_88) rfl (by decide) k) ?_
    refine Go.st (f' := (mkF m 91 #[rv a1, .val (.int (N i)), .val (.double (FP.l2d (F i))), .second, iv 1, iv 0] [])) (fun _ k => XS.istore X8.here hx rfl (hb hby d3_89) rfl (l' := #[rv a1, .val (.int (N i)), .val (.double (FP.l2d (F i))), .second, iv 1, iv 0]) rfl k) ?_
    refine Go.st (f' := (mkF m 92 #[rv a1, .val (.int (N i)), .val (.double (FP.l2d (F i))), .second, iv 1, iv 0] [(.ref a1)])) (fun _ k => XS.aloadN X8.here hx rfl (hb hby d3_91) rfl rfl k) ?_
    obtain ⟨T12, X12, e12, st12⟩ := getF X8 hx hZ hown (host := "") (Or.inl (ww hw 10 rfl)) Via.refl e8 ft7 (g := (mkF m 92 #[rv a1, .val (.int (N i)), .val (.double (FP.l2d (F i))), .second, iv 1, iv 0] [(.ref a1)])) rfl rfl (hb hby d3_92)
    refine Go.st (f' := (mkF m 95 #[rv a1, .val (.int (N i)), .val (.double (FP.l2d (F i))), .second, iv 1, iv 0] [(.ref cA)])) (fun _ k => st12 _ k) ?_
    refine Go.st (f' := (mkF m 97 #[rv a1, .val (.int (N i)), .val (.double (FP.l2d (F i))), .second, iv 1, iv 0] [(.int 1), (.ref cA)])) (fun _ k => XS.iload X12.here hx rfl (hb hby d3_95) rfl k) ?_
    refine Go.st (f' := (mkF m 98 #[rv a1, .val (.int (N i)), .val (.double (FP.l2d (F i))), .second, iv 1, iv 0] [(.ref a1), (.int 1), (.ref cA)])) (fun _ k => XS.aloadN X12.here hx rfl (hb hby d3_97) rfl rfl k) ?_
    obtain ⟨T13, X13, e13, st13⟩ := getF X12 hx hZ hown (host := "") (Or.inl (ww hw 10 rfl)) Via.refl e12 ft7 (g := (mkF m 98 #[rv a1, .val (.int (N i)), .val (.double (FP.l2d (F i))), .second, iv 1, iv 0] [(.ref a1), (.int 1), (.ref cA)])) rfl rfl (hb hby d3_98)
    refine Go.st (f' := (mkF m 101 #[rv a1, .val (.int (N i)), .val (.double (FP.l2d (F i))), .second, iv 1, iv 0] [(.ref cA), (.int 1), (.ref cA)])) (fun _ k => st13 _ k) ?_
    refine Go.st (f' := (mkF m 103 #[rv a1, .val (.int (N i)), .val (.double (FP.l2d (F i))), .second, iv 1, iv 0] [(.int 0), (.ref cA), (.int 1), (.ref cA)])) (fun _ k => XS.iload X13.here hx rfl (hb hby d3_101) rfl k) ?_
    obtain ⟨cl14, Ar14, -, S14, -, H14, -⟩ := id ft10
    have hin14 : ¬ ((0 : Int32) < 0 ∨ cl14.slots.size ≤ ((0 : Int32)).toNatClampNeg) := inb_of S14 ⟨by decide, by decide⟩
    have hat14 : cl14.slots[((0 : Int32)).toNatClampNeg]? = some (.double (FP.l2d (F i0))) := H14.at hin14 rfl
    refine Go.st (f' := (mkF m 104 #[rv a1, .val (.int (N i)), .val (.double (FP.l2d (F i))), .second, iv 1, iv 0] [(.double (FP.l2d (F i0))), (.int 1), (.ref cA)])) (fun _ k => X13.daload hx (j := (0 : Int32)) (v := (.double (FP.l2d (F i0)))) (by rw [e13]; exact Ar14.1) (State.isArrayOf_alike hZ.alike Ar14.2.1) Ar14.2.2 hin14 hat14 (g := (mkF m 103 #[rv a1, .val (.int (N i)), .val (.double (FP.l2d (F i))), .second, iv 1, iv 0] [(.int 0), (.ref cA), (.int 1), (.ref cA)])) rfl rfl (hb hby d3_103) _ k) ?_
    obtain ⟨cl15, Ar15, q15, S15, Nx15, H15, G15⟩ := id ft10
    have hin15 : ¬ ((1 : Int32) < 0 ∨ cl15.slots.size ≤ ((1 : Int32)).toNatClampNeg) := inb_of S15 ⟨by decide, by decide⟩
    obtain ⟨T16, h16, X16, e16, W16, st16⟩ := stD X13 hx hZ e13 Ar15 (j := (1 : Int32)) hin15 (g := (mkF m 104 #[rv a1, .val (.int (N i)), .val (.double (FP.l2d (F i))), .second, iv 1, iv 0] [(.double (FP.l2d (F i0))), (.int 1), (.ref cA)])) rfl rfl (hb hby d3_104)
    have V_cA_16 : Arv Z h16 cA kA .double (16 : Int32) [(.double (FP.l2d (F i0))), (.double (FP.l2d (F i0))), (.double (FP.l2d 0)), (.double (FP.l2d 0)), (.double (FP.l2d 0))] (.double (FP.l2d 0)) := Arv.set Ar15 q15 S15 Nx15 H15 G15 rfl W16 1 rfl (Nat.le_of_ble_eq_true rfl)
    have N16 := Fr.snoc X16 N6 g_cA
    have O16 : Old Z n0 h16 := O6.wr W16 g_cA
    have K16 : Keep h0 h16 [a1, cA, nA] := K6.wr W16 (Or.inl (List.mem_of_getElem? (i := 1) rfl))
    refine Go.st (f' := (mkF m 105 #[rv a1, .val (.int (N i)), .val (.double (FP.l2d (F i))), .second, iv 1, iv 0] [])) (fun _ k => st16 _ k) ?_
    refine Go.st (f' := (mkF m 106 #[rv a1, .val (.int (N i)), .val (.double (FP.l2d (F i))), .second, iv 1, iv 0] [(.ref a1)])) (fun _ k => XS.aloadN X16.here hx rfl (hb hby d3_105) rfl rfl k) ?_
    have ft17 := ((F_a1_items.other W6 (Or.inr (slot_ne (Or.inl (ww hw 14 rfl)) (Or.inl (ww hw 21 rfl)) (by decide) (t := (.array .int)) (t' := .int) (by decide) (by decide)))).other W16 (Or.inl nt_a1_cA))
    obtain ⟨T18, X18, e18, st18⟩ := getF X16 hx hZ hown (host := "") (Or.inl (ww hw 13 rfl)) Via.refl e16 ft17 (g := (mkF m 106 #[rv a1, .val (.int (N i)), .val (.double (FP.l2d (F i))), .second, iv 1, iv 0] [(.ref a1)])) rfl rfl (hb hby d3_106)
    refine Go.st (f' := (mkF m 109 #[rv a1, .val (.int (N i)), .val (.double (FP.l2d (F i))), .second, iv 1, iv 0] [(.ref nA)])) (fun _ k => st18 _ k) ?_
    refine Go.st (f' := (mkF m 111 #[rv a1, .val (.int (N i)), .val (.double (FP.l2d (F i))), .second, iv 1, iv 0] [(.int 1), (.ref nA)])) (fun _ k => XS.iload X18.here hx rfl (hb hby d3_109) rfl k) ?_
    refine Go.st (f' := (mkF m 112 #[rv a1, .val (.int (N i)), .val (.double (FP.l2d (F i))), .second, iv 1, iv 0] [(.ref a1), (.int 1), (.ref nA)])) (fun _ k => XS.aloadN X18.here hx rfl (hb hby d3_111) rfl rfl k) ?_
    obtain ⟨T19, X19, e19, st19⟩ := getF X18 hx hZ hown (host := "") (Or.inl (ww hw 13 rfl)) Via.refl e18 ft17 (g := (mkF m 112 #[rv a1, .val (.int (N i)), .val (.double (FP.l2d (F i))), .second, iv 1, iv 0] [(.ref a1), (.int 1), (.ref nA)])) rfl rfl (hb hby d3_112)
    refine Go.st (f' := (mkF m 115 #[rv a1, .val (.int (N i)), .val (.double (FP.l2d (F i))), .second, iv 1, iv 0] [(.ref nA), (.int 1), (.ref nA)])) (fun _ k => st19 _ k) ?_
    refine Go.st (f' := (mkF m 117 #[rv a1, .val (.int (N i)), .val (.double (FP.l2d (F i))), .second, iv 1, iv 0] [(.int 0), (.ref nA), (.int 1), (.ref nA)])) (fun _ k => XS.iload X19.here hx rfl (hb hby d3_115) rfl k) ?_
    have ft21 := ((V_nA.other W6 (Ne.symm nt_a1_nA)).other W16 (Ne.symm nn))
    obtain ⟨cl20, Ar20, -, S20, -, H20, -⟩ := id ft21
    have hin20 : ¬ ((0 : Int32) < 0 ∨ cl20.slots.size ≤ ((0 : Int32)).toNatClampNeg) := inb_of S20 ⟨by decide, by decide⟩
    have hat20 : cl20.slots[((0 : Int32)).toNatClampNeg]? = some (.int (N i0)) := H20.at hin20 rfl
    refine Go.st (f' := (mkF m 118 #[rv a1, .val (.int (N i)), .val (.double (FP.l2d (F i))), .second, iv 1, iv 0] [(.int (N i0)), (.int 1), (.ref nA)])) (fun _ k => X19.iaload hx (j := (0 : Int32)) (v := (.int (N i0))) (by rw [e19]; exact Ar20.1) (State.isArrayOf_alike hZ.alike Ar20.2.1) Ar20.2.2 hin20 hat20 (g := (mkF m 117 #[rv a1, .val (.int (N i)), .val (.double (FP.l2d (F i))), .second, iv 1, iv 0] [(.int 0), (.ref nA), (.int 1), (.ref nA)])) rfl rfl (hb hby d3_117) _ k) ?_
    obtain ⟨cl22, Ar22, q22, S22, Nx22, H22, G22⟩ := id ft21
    have hin22 : ¬ ((1 : Int32) < 0 ∨ cl22.slots.size ≤ ((1 : Int32)).toNatClampNeg) := inb_of S22 ⟨by decide, by decide⟩
    obtain ⟨T23, h23, X23, e23, W23, st23⟩ := stI X19 hx hZ e19 Ar22 (j := (1 : Int32)) hin22 (g := (mkF m 118 #[rv a1, .val (.int (N i)), .val (.double (FP.l2d (F i))), .second, iv 1, iv 0] [(.int (N i0)), (.int 1), (.ref nA)])) rfl rfl (hb hby d3_118)
    have V_nA_23 : Arv Z h23 nA kN .int (16 : Int32) [(.int (N i0)), (.int (N i0)), (.int (0 : Int32)), (.int (0 : Int32)), (.int (0 : Int32))] (.int (0 : Int32)) := Arv.set Ar22 q22 S22 Nx22 H22 G22 rfl W23 1 rfl (Nat.le_of_ble_eq_true rfl)
    have N23 := Fr.snoc X23 N16 g_nA
    have O23 : Old Z n0 h23 := O16.wr W23 g_nA
    have K23 : Keep h0 h23 [a1, cA, nA] := K16.wr W23 (Or.inl (List.mem_of_getElem? (i := 2) rfl))
    refine Go.st (f' := (mkF m 119 #[rv a1, .val (.int (N i)), .val (.double (FP.l2d (F i))), .second, iv 1, iv 0] [])) (fun _ k => st23 _ k) ?_
    refine Go.st (f' := (mkF m 121 #[rv a1, .val (.int (N i)), .val (.double (FP.l2d (F i))), .second, iv 1, iv 0] [(.int 0)])) (fun _ k => XS.iload X23.here hx rfl (hb hby d3_119) rfl k) ?_
    refine Go.st (f' := (mkF m 123 #[rv a1, .val (.int (N i)), .val (.double (FP.l2d (F i))), .second, iv 0, iv 0] [])) (fun _ k => XS.istore X23.here hx rfl (hb hby d3_121) rfl (l' := #[rv a1, .val (.int (N i)), .val (.double (FP.l2d (F i))), .second, iv 0, iv 0]) rfl k) ?_
    refine Go.st (f' := (mkF m 62 #[rv a1, .val (.int (N i)), .val (.double (FP.l2d (F i))), .second, iv 0, iv 0] [])) (fun _ k => XS.goto X23.here hx rfl (pc0 := 123) (pc' := 62) rfl (hb hby d3_123) (by decide) (by decide) k) ?_
    refine Go.st (f' := (mkF m 64 #[rv a1, .val (.int (N i)), .val (.double (FP.l2d (F i))), .second, iv 0, iv 0] [(.int 0)])) (fun _ k => XS.iload X23.here hx rfl (hb hby d3_62) rfl k) ?_
    refine Go.st (f' := (mkF m 126 #[rv a1, .val (.int (N i)), .val (.double (FP.l2d (F i))), .second, iv 0, iv 0] [])) (fun _ k => XS.ifYes X23.here hx rfl (pc0 := 64) (pc' := 126) rfl (hb hby d3_64) rfl (by decide) (by decide) (by decide) k) ?_
    refine Go.st (f' := (mkF m 127 #[rv a1, .val (.int (N i)), .val (.double (FP.l2d (F i))), .second, iv 0, iv 0] [(.ref a1)])) (fun _ k => XS.aloadN X23.here hx rfl (hb hby d3_126) rfl rfl k) ?_
    have ft24 := ((ft7.other W16 (Or.inl nt_a1_cA)).other W23 (Or.inl nt_a1_nA))
    obtain ⟨T25, X25, e25, st25⟩ := getF X23 hx hZ hown (host := "") (Or.inl (ww hw 10 rfl)) Via.refl e23 ft24 (g := (mkF m 127 #[rv a1, .val (.int (N i)), .val (.double (FP.l2d (F i))), .second, iv 0, iv 0] [(.ref a1)])) rfl rfl (hb hby d3_127)
    refine Go.st (f' := (mkF m 130 #[rv a1, .val (.int (N i)), .val (.double (FP.l2d (F i))), .second, iv 0, iv 0] [(.ref cA)])) (fun _ k => st25 _ k) ?_
    refine Go.st (f' := (mkF m 132 #[rv a1, .val (.int (N i)), .val (.double (FP.l2d (F i))), .second, iv 0, iv 0] [(.int 0), (.ref cA)])) (fun _ k => XS.iload X25.here hx rfl (hb hby d3_130) rfl k) ?_
    refine Go.st (f' := (mkF m 133 #[rv a1, .val (.int (N i)), .val (.double (FP.l2d (F i))), .second, iv 0, iv 0] [(.double (FP.l2d (F i))), (.int 0), (.ref cA)])) (fun _ k => XS.dloadN X25.here hx rfl (hb hby d3_132) rfl k) ?_
    have ft26 := (V_cA_16.other W23 nn)
    obtain ⟨cl27, Ar27, q27, S27, Nx27, H27, G27⟩ := id ft26
    have hin27 : ¬ ((0 : Int32) < 0 ∨ cl27.slots.size ≤ ((0 : Int32)).toNatClampNeg) := inb_of S27 ⟨by decide, by decide⟩
    obtain ⟨T28, h28, X28, e28, W28, st28⟩ := stD X25 hx hZ e25 Ar27 (j := (0 : Int32)) hin27 (g := (mkF m 133 #[rv a1, .val (.int (N i)), .val (.double (FP.l2d (F i))), .second, iv 0, iv 0] [(.double (FP.l2d (F i))), (.int 0), (.ref cA)])) rfl rfl (hb hby d3_133)
    have V_cA_28 : Arv Z h28 cA kA .double (16 : Int32) [(.double (FP.l2d (F i))), (.double (FP.l2d (F i0))), (.double (FP.l2d 0)), (.double (FP.l2d 0)), (.double (FP.l2d 0))] (.double (FP.l2d 0)) := Arv.set Ar27 q27 S27 Nx27 H27 G27 rfl W28 0 rfl (Nat.le_of_ble_eq_true rfl)
    have N28 := Fr.snoc X28 N23 g_cA
    have O28 : Old Z n0 h28 := O23.wr W28 g_cA
    have K28 : Keep h0 h28 [a1, cA, nA] := K23.wr W28 (Or.inl (List.mem_of_getElem? (i := 1) rfl))
    refine Go.st (f' := (mkF m 134 #[rv a1, .val (.int (N i)), .val (.double (FP.l2d (F i))), .second, iv 0, iv 0] [])) (fun _ k => st28 _ k) ?_
    refine Go.st (f' := (mkF m 135 #[rv a1, .val (.int (N i)), .val (.double (FP.l2d (F i))), .second, iv 0, iv 0] [(.ref a1)])) (fun _ k => XS.aloadN X28.here hx rfl (hb hby d3_134) rfl rfl k) ?_
    have ft29 := ((ft17.other W23 (Or.inl nt_a1_nA)).other W28 (Or.inl nt_a1_cA))
    obtain ⟨T30, X30, e30, st30⟩ := getF X28 hx hZ hown (host := "") (Or.inl (ww hw 13 rfl)) Via.refl e28 ft29 (g := (mkF m 135 #[rv a1, .val (.int (N i)), .val (.double (FP.l2d (F i))), .second, iv 0, iv 0] [(.ref a1)])) rfl rfl (hb hby d3_135)
    refine Go.st (f' := (mkF m 138 #[rv a1, .val (.int (N i)), .val (.double (FP.l2d (F i))), .second, iv 0, iv 0] [(.ref nA)])) (fun _ k => st30 _ k) ?_
    refine Go.st (f' := (mkF m 140 #[rv a1, .val (.int (N i)), .val (.double (FP.l2d (F i))), .second, iv 0, iv 0] [(.int 0), (.ref nA)])) (fun _ k => XS.iload X30.here hx rfl (hb hby d3_138) rfl k) ?_
    refine Go.st (f' := (mkF m 141 #[rv a1, .val (.int (N i)), .val (.double (FP.l2d (F i))), .second, iv 0, iv 0] [(.int (N i)), (.int 0), (.ref nA)])) (fun _ k => XS.iloadN X30.here hx rfl (hb hby d3_140) rfl k) ?_
    have ft31 := (V_nA_23.other W28 (Ne.symm nn))
    obtain ⟨cl32, Ar32, q32, S32, Nx32, H32, G32⟩ := id ft31
    have hin32 : ¬ ((0 : Int32) < 0 ∨ cl32.slots.size ≤ ((0 : Int32)).toNatClampNeg) := inb_of S32 ⟨by decide, by decide⟩
    obtain ⟨T33, h33, X33, e33, W33, st33⟩ := stI X30 hx hZ e30 Ar32 (j := (0 : Int32)) hin32 (g := (mkF m 141 #[rv a1, .val (.int (N i)), .val (.double (FP.l2d (F i))), .second, iv 0, iv 0] [(.int (N i)), (.int 0), (.ref nA)])) rfl rfl (hb hby d3_141)
    have V_nA_33 : Arv Z h33 nA kN .int (16 : Int32) [(.int (N i)), (.int (N i0)), (.int (0 : Int32)), (.int (0 : Int32)), (.int (0 : Int32))] (.int (0 : Int32)) := Arv.set Ar32 q32 S32 Nx32 H32 G32 rfl W33 0 rfl (Nat.le_of_ble_eq_true rfl)
    have N33 := Fr.snoc X33 N28 g_nA
    have O33 : Old Z n0 h33 := O28.wr W33 g_nA
    have K33 : Keep h0 h33 [a1, cA, nA] := K28.wr W33 (Or.inl (List.mem_of_getElem? (i := 2) rfl))
    refine Go.st (f' := (mkF m 142 #[rv a1, .val (.int (N i)), .val (.double (FP.l2d (F i))), .second, iv 0, iv 0] [])) (fun _ k => st33 _ k) ?_
    refine Go.ret0 X33 hlk hx hret (hb hby d3_142) e33 ?_ (by decide) (by decide)
    have c_cd11 :=  (own_lw (F i0) (F i)).2.mp cd11
    have ft34 := (((((E_a1.wr W6).wr W16).wr W23).wr W28).wr W33)
    have ft35 := ((((Fw6.other W16 (Or.inl nt_a1_cA)).other W23 (Or.inl nt_a1_nA)).other W28 (Or.inl nt_a1_cA)).other W33 (Or.inl nt_a1_nA))
    have ft36 := (ft29.other W33 (Or.inl nt_a1_nA))
    have ft37 := ((ft24.other W28 (Or.inl nt_a1_cA)).other W33 (Or.inl nt_a1_nA))
    have ft38 := (V_cA_28.other W33 nn)
    exact ⟨rfl, N33, K33, ft34, ft35, ft36, ft37, i, i0, fun w => by omega, by omega, ft38, V_nA_33⟩
  · refine Go.st (f' := (mkF m 126 #[rv a1, .val (.int (N i)), .val (.double (FP.l2d (F i))), .second, iv 1, .unset] [])) (fun _ k => XS.ifYes X8.here hx rfl (pc0 := 80) (pc' := 126) rfl (hb hby d3_80) rfl ((if0 _ _).trans (flt cd11).2.2.2) (by decide) (by decide) k) ?_
    refine Go.st (f' := (mkF m 127 #[rv a1, .val (.int (N i)), .val (.double (FP.l2d (F i))), .second, iv 1, .unset] [(.ref a1)])) (fun _ k => XS.aloadN X8.here hx rfl (hb hby d3_126) rfl rfl k) ?_
    obtain ⟨T39, X39, e39, st39⟩ := getF X8 hx hZ hown (host := "") (Or.inl (ww hw 10 rfl)) Via.refl e8 ft7 (g := (mkF m 127 #[rv a1, .val (.int (N i)), .val (.double (FP.l2d (F i))), .second, iv 1, .unset] [(.ref a1)])) rfl rfl (hb hby d3_127)
    refine Go.st (f' := (mkF m 130 #[rv a1, .val (.int (N i)), .val (.double (FP.l2d (F i))), .second, iv 1, .unset] [(.ref cA)])) (fun _ k => st39 _ k) ?_
    refine Go.st (f' := (mkF m 132 #[rv a1, .val (.int (N i)), .val (.double (FP.l2d (F i))), .second, iv 1, .unset] [(.int 1), (.ref cA)])) (fun _ k => XS.iload X39.here hx rfl (hb hby d3_130) rfl k) ?_
    refine Go.st (f' := (mkF m 133 #[rv a1, .val (.int (N i)), .val (.double (FP.l2d (F i))), .second, iv 1, .unset] [(.double (FP.l2d (F i))), (.int 1), (.ref cA)])) (fun _ k => XS.dloadN X39.here hx rfl (hb hby d3_132) rfl k) ?_
    obtain ⟨cl40, Ar40, q40, S40, Nx40, H40, G40⟩ := id ft10
    have hin40 : ¬ ((1 : Int32) < 0 ∨ cl40.slots.size ≤ ((1 : Int32)).toNatClampNeg) := inb_of S40 ⟨by decide, by decide⟩
    obtain ⟨T41, h41, X41, e41, W41, st41⟩ := stD X39 hx hZ e39 Ar40 (j := (1 : Int32)) hin40 (g := (mkF m 133 #[rv a1, .val (.int (N i)), .val (.double (FP.l2d (F i))), .second, iv 1, .unset] [(.double (FP.l2d (F i))), (.int 1), (.ref cA)])) rfl rfl (hb hby d3_133)
    have V_cA_41 : Arv Z h41 cA kA .double (16 : Int32) [(.double (FP.l2d (F i0))), (.double (FP.l2d (F i))), (.double (FP.l2d 0)), (.double (FP.l2d 0)), (.double (FP.l2d 0))] (.double (FP.l2d 0)) := Arv.set Ar40 q40 S40 Nx40 H40 G40 rfl W41 1 rfl (Nat.le_of_ble_eq_true rfl)
    have N41 := Fr.snoc X41 N6 g_cA
    have O41 : Old Z n0 h41 := O6.wr W41 g_cA
    have K41 : Keep h0 h41 [a1, cA, nA] := K6.wr W41 (Or.inl (List.mem_of_getElem? (i := 1) rfl))
    refine Go.st (f' := (mkF m 134 #[rv a1, .val (.int (N i)), .val (.double (FP.l2d (F i))), .second, iv 1, .unset] [])) (fun _ k => st41 _ k) ?_
    refine Go.st (f' := (mkF m 135 #[rv a1, .val (.int (N i)), .val (.double (FP.l2d (F i))), .second, iv 1, .unset] [(.ref a1)])) (fun _ k => XS.aloadN X41.here hx rfl (hb hby d3_134) rfl rfl k) ?_
    have ft42 := ((F_a1_items.other W6 (Or.inr (slot_ne (Or.inl (ww hw 14 rfl)) (Or.inl (ww hw 21 rfl)) (by decide) (t := (.array .int)) (t' := .int) (by decide) (by decide)))).other W41 (Or.inl nt_a1_cA))
    obtain ⟨T43, X43, e43, st43⟩ := getF X41 hx hZ hown (host := "") (Or.inl (ww hw 13 rfl)) Via.refl e41 ft42 (g := (mkF m 135 #[rv a1, .val (.int (N i)), .val (.double (FP.l2d (F i))), .second, iv 1, .unset] [(.ref a1)])) rfl rfl (hb hby d3_135)
    refine Go.st (f' := (mkF m 138 #[rv a1, .val (.int (N i)), .val (.double (FP.l2d (F i))), .second, iv 1, .unset] [(.ref nA)])) (fun _ k => st43 _ k) ?_
    refine Go.st (f' := (mkF m 140 #[rv a1, .val (.int (N i)), .val (.double (FP.l2d (F i))), .second, iv 1, .unset] [(.int 1), (.ref nA)])) (fun _ k => XS.iload X43.here hx rfl (hb hby d3_138) rfl k) ?_
    refine Go.st (f' := (mkF m 141 #[rv a1, .val (.int (N i)), .val (.double (FP.l2d (F i))), .second, iv 1, .unset] [(.int (N i)), (.int 1), (.ref nA)])) (fun _ k => XS.iloadN X43.here hx rfl (hb hby d3_140) rfl k) ?_
    have ft44 := ((V_nA.other W6 (Ne.symm nt_a1_nA)).other W41 (Ne.symm nn))
    obtain ⟨cl45, Ar45, q45, S45, Nx45, H45, G45⟩ := id ft44
    have hin45 : ¬ ((1 : Int32) < 0 ∨ cl45.slots.size ≤ ((1 : Int32)).toNatClampNeg) := inb_of S45 ⟨by decide, by decide⟩
    obtain ⟨T46, h46, X46, e46, W46, st46⟩ := stI X43 hx hZ e43 Ar45 (j := (1 : Int32)) hin45 (g := (mkF m 141 #[rv a1, .val (.int (N i)), .val (.double (FP.l2d (F i))), .second, iv 1, .unset] [(.int (N i)), (.int 1), (.ref nA)])) rfl rfl (hb hby d3_141)
    have V_nA_46 : Arv Z h46 nA kN .int (16 : Int32) [(.int (N i0)), (.int (N i)), (.int (0 : Int32)), (.int (0 : Int32)), (.int (0 : Int32))] (.int (0 : Int32)) := Arv.set Ar45 q45 S45 Nx45 H45 G45 rfl W46 1 rfl (Nat.le_of_ble_eq_true rfl)
    have N46 := Fr.snoc X46 N41 g_nA
    have O46 : Old Z n0 h46 := O41.wr W46 g_nA
    have K46 : Keep h0 h46 [a1, cA, nA] := K41.wr W46 (Or.inl (List.mem_of_getElem? (i := 2) rfl))
    refine Go.st (f' := (mkF m 142 #[rv a1, .val (.int (N i)), .val (.double (FP.l2d (F i))), .second, iv 1, .unset] [])) (fun _ k => st46 _ k) ?_
    refine Go.ret0 X46 hlk hx hret (hb hby d3_142) e46 ?_ (by decide) (by decide)
    have c_cd11 := (not_congr (own_lw (F i0) (F i)).2).mp cd11
    have ft47 := (((E_a1.wr W6).wr W41).wr W46)
    have ft48 := ((Fw6.other W41 (Or.inl nt_a1_cA)).other W46 (Or.inl nt_a1_nA))
    have ft49 := (ft42.other W46 (Or.inl nt_a1_nA))
    have ft50 := ((ft7.other W41 (Or.inl nt_a1_cA)).other W46 (Or.inl nt_a1_nA))
    have ft51 := (V_cA_41.other W46 nn)
    exact ⟨rfl, N46, K46, ft47, ft48, ft49, ft50, i0, i, fun w => by omega, by omega, ft51, V_nA_46⟩
theorem rmA1 (l : Launch) (Z : State) (a0 : Array Value) (hw : ∀ d ∈ tables_1, d.before a0 Z = true) (ws : List Jvm.Cond) (a1 : Addr) (cA : Addr) (nA : Addr) (kA : ClassId) (kN : ClassId) (N : Int32 → Int32) (F : Int32 → Int64) (i0 : Int32) (i : Int32) (nd : Int32) (x : Int64) (h0 : Heap) (n0 : Nat) (O0 : Old Z n0 h0) (en : nd = N i) (ex : x = F i) (hF : ∀ i, B53 (F i)) (g_a1 : n0 ≤ a1) (g_cA : n0 ≤ cA) (g_nA : n0 ≤ nA) (E_a1 : Exa Z h0 a1 "com/example/kinetic_city/kineticcity/engine/CostQueue") (F_a1_size : Fld Z h0 a1 "com/example/kinetic_city/kineticcity/engine/CostQueue" "size" "I" (.int 1)) (F_a1_items : Fld Z h0 a1 "com/example/kinetic_city/kineticcity/engine/CostQueue" "items" "[I" (.ref nA)) (F_a1_costs : Fld Z h0 a1 "com/example/kinetic_city/kineticcity/engine/CostQueue" "costs" "[D" (.ref cA)) (V_cA : Arv Z h0 cA kA .double (16 : Int32) [(.double (FP.l2d (F i0))), (.double (FP.l2d 0)), (.double (FP.l2d 0)), (.double (FP.l2d 0)), (.double (FP.l2d 0))] (.double (FP.l2d 0))) (V_nA : Arv Z h0 nA kN .int 16 [(.int (N i0)), (.int 0), (.int 0), (.int 0), (.int 0)] (.int 0)) :
    Con l Z (⟨"com/example/kinetic_city/kineticcity/engine/CostQueue", "add", "(ID)V"⟩ : MethodName) prog_5_method_3_code 6 none ws ({ frames := 0, cells := 0, slots := 0, locals := 0 } : Room) #[(.ref a1), (.int nd), (.double (FP.l2d x))] h0 (fun v h L => v = none ∧ Fr n0 L ∧ Keep h0 h [a1, cA, nA] ∧ Exa Z h a1 "com/example/kinetic_city/kineticcity/engine/CostQueue" ∧ Fld Z h a1 "com/example/kinetic_city/kineticcity/engine/CostQueue" "size" "I" (.int 2) ∧ Fld Z h a1 "com/example/kinetic_city/kineticcity/engine/CostQueue" "items" "[I" (.ref nA) ∧ Fld Z h a1 "com/example/kinetic_city/kineticcity/engine/CostQueue" "costs" "[D" (.ref cA) ∧ ∃ j0 j1 : Int32, (∀ w : Int32 → Int, w j0 + w j1 = w i0 + w i) ∧ (F j0).toInt ≤ (F j1).toInt ∧ Arv Z h cA kA .double (16 : Int32) [(.double (FP.l2d (F j0))), (.double (FP.l2d (F j1))), (.double (FP.l2d 0)), (.double (FP.l2d 0)), (.double (FP.l2d 0))] (.double (FP.l2d 0)) ∧ Arv Z h nA kN .int 16 [(.int (N j0)), (.int (N j1)), (.int 0), (.int 0), (.int 0)] (.int 0)) := by
  subst en ex
  exact rmAdd1 l Z a0 hw ws a1 cA nA kA kN N F i0 i h0 n0 O0 hF g_a1 g_cA g_nA E_a1 F_a1_size F_a1_items F_a1_costs V_cA V_nA
set_option maxRecDepth 65536 in
set_option maxHeartbeats 40000000 in
theorem rmAdd2 (l : Launch) (Z : State) (a0 : Array Value) (hw : ∀ d ∈ tables_1, d.before a0 Z = true) (ws : List Jvm.Cond) (a1 : Addr) (cA : Addr) (nA : Addr) (kA : ClassId) (kN : ClassId) (N : Int32 → Int32) (F : Int32 → Int64) (i0 : Int32) (i1 : Int32) (i : Int32) (h0 : Heap) (n0 : Nat) (O0 : Old Z n0 h0) (hF : ∀ i, B53 (F i)) (g_a1 : n0 ≤ a1) (g_cA : n0 ≤ cA) (g_nA : n0 ≤ nA) (hp1 : (F i0).toInt ≤ (F i1).toInt) (E_a1 : Exa Z h0 a1 "com/example/kinetic_city/kineticcity/engine/CostQueue") (F_a1_size : Fld Z h0 a1 "com/example/kinetic_city/kineticcity/engine/CostQueue" "size" "I" (.int 2)) (F_a1_items : Fld Z h0 a1 "com/example/kinetic_city/kineticcity/engine/CostQueue" "items" "[I" (.ref nA)) (F_a1_costs : Fld Z h0 a1 "com/example/kinetic_city/kineticcity/engine/CostQueue" "costs" "[D" (.ref cA)) (V_cA : Arv Z h0 cA kA .double (16 : Int32) [(.double (FP.l2d (F i0))), (.double (FP.l2d (F i1))), (.double (FP.l2d 0)), (.double (FP.l2d 0)), (.double (FP.l2d 0))] (.double (FP.l2d 0))) (V_nA : Arv Z h0 nA kN .int 16 [(.int (N i0)), (.int (N i1)), (.int 0), (.int 0), (.int 0)] (.int 0)) :
    Con l Z (⟨"com/example/kinetic_city/kineticcity/engine/CostQueue", "add", "(ID)V"⟩ : MethodName) prog_5_method_3_code 6 none ws ({ frames := 0, cells := 0, slots := 0, locals := 0 } : Room) #[(.ref a1), (.int (N i)), (.double (FP.l2d (F i)))] h0 (fun v h L => v = none ∧ Fr n0 L ∧ Keep h0 h [a1, cA, nA] ∧ Exa Z h a1 "com/example/kinetic_city/kineticcity/engine/CostQueue" ∧ Fld Z h a1 "com/example/kinetic_city/kineticcity/engine/CostQueue" "size" "I" (.int 3) ∧ Fld Z h a1 "com/example/kinetic_city/kineticcity/engine/CostQueue" "items" "[I" (.ref nA) ∧ Fld Z h a1 "com/example/kinetic_city/kineticcity/engine/CostQueue" "costs" "[D" (.ref cA) ∧ ∃ j0 j1 j2 : Int32, (∀ w : Int32 → Int, w j0 + w j1 + w j2 = w i0 + w i1 + w i) ∧ (F j0).toInt ≤ (F j1).toInt ∧ (F j0).toInt ≤ (F j2).toInt ∧ Arv Z h cA kA .double (16 : Int32) [(.double (FP.l2d (F j0))), (.double (FP.l2d (F j1))), (.double (FP.l2d (F j2))), (.double (FP.l2d 0)), (.double (FP.l2d 0))] (.double (FP.l2d 0)) ∧ Arv Z h nA kN .int 16 [(.int (N j0)), (.int (N j1)), (.int (N j2)), (.int 0), (.int 0)] (.int 0)) := by
  refine own_body (plainFor_of_name pn_com_example_kinetic_city_kineticcity_engine_CostQueue) ?_
  intro p e s m below meth c s₁ hx hby hml hZ hown hnm hlk hret X0 e0
  have N0 := Fr.nil n0
  have K0 : Keep h0 h0 [a1, cA, nA] := Keep.refl _ _
  refine Go.st (T' := s₁) (f' := (mkF m 0 #[rv a1, .val (.int (N i)), .val (.double (FP.l2d (F i))), .second, .unset, .unset] [])) (fun _ k => castTop (by first | (simp [entryFrame, mkF, argsToLocals, Value.category]; done) | rfl) k) ?_
  have lt_a1 := E_a1.lt
  have lt_cA := V_cA.lt
  have lt_nA := V_nA.lt
  have nn : cA ≠ nA := own_neArv V_cA V_nA (by decide)
  have nt_a1_cA : a1 ≠ cA := Exa.neArv E_a1 V_cA (ww hw 2 rfl)
  have nt_a1_nA : a1 ≠ nA := Exa.neArv E_a1 V_nA (ww hw 2 rfl)
  refine Go.st (f' := (mkF m 1 #[rv a1, .val (.int (N i)), .val (.double (FP.l2d (F i))), .second, .unset, .unset] [(.ref a1)])) (fun _ k => XS.aloadN X0.here hx rfl (hb hby d3_0) rfl rfl k) ?_
  obtain ⟨T1, X1, e1, st1⟩ := getF X0 hx hZ hown (host := "") (Or.inl (ww hw 20 rfl)) Via.refl e0 F_a1_size (g := (mkF m 1 #[rv a1, .val (.int (N i)), .val (.double (FP.l2d (F i))), .second, .unset, .unset] [(.ref a1)])) rfl rfl (hb hby d3_1)
  refine Go.st (f' := (mkF m 4 #[rv a1, .val (.int (N i)), .val (.double (FP.l2d (F i))), .second, .unset, .unset] [(.int 2)])) (fun _ k => st1 _ k) ?_
  refine Go.st (f' := (mkF m 5 #[rv a1, .val (.int (N i)), .val (.double (FP.l2d (F i))), .second, .unset, .unset] [(.ref a1), (.int 2)])) (fun _ k => XS.aloadN X1.here hx rfl (hb hby d3_4) rfl rfl k) ?_
  obtain ⟨T2, X2, e2, st2⟩ := getF X1 hx hZ hown (host := "") (Or.inl (ww hw 10 rfl)) Via.refl e1 F_a1_costs (g := (mkF m 5 #[rv a1, .val (.int (N i)), .val (.double (FP.l2d (F i))), .second, .unset, .unset] [(.ref a1), (.int 2)])) rfl rfl (hb hby d3_5)
  refine Go.st (f' := (mkF m 8 #[rv a1, .val (.int (N i)), .val (.double (FP.l2d (F i))), .second, .unset, .unset] [(.ref cA), (.int 2)])) (fun _ k => st2 _ k) ?_
  obtain ⟨cl3, Ar3, -, S3, Nx3, -, -⟩ := id V_cA
  refine Go.st (T' := T2) (f' := (mkF m 9 #[rv a1, .val (.int (N i)), .val (.double (FP.l2d (F i))), .second, .unset, .unset] [(.int 16), (.int 2)])) (fun _ k => X2.arraylength hx (by rw [e2]; exact Ar3.1) (State.isArrayOf_alike hZ.alike Ar3.2.1) (g := (mkF m 8 #[rv a1, .val (.int (N i)), .val (.double (FP.l2d (F i))), .second, .unset, .unset] [(.ref cA), (.int 2)])) rfl rfl (hb hby d3_8) _ (by rw [len_of S3 Nx3]; exact k)) ?_
  refine Go.st (f' := (mkF m 46 #[rv a1, .val (.int (N i)), .val (.double (FP.l2d (F i))), .second, .unset, .unset] [])) (fun _ k => XS.icmpYes X2.here hx rfl (pc0 := 9) (pc' := 46) rfl (hb hby d3_9) rfl (by decide) (by decide) (by decide) k) ?_
  refine Go.st (f' := (mkF m 47 #[rv a1, .val (.int (N i)), .val (.double (FP.l2d (F i))), .second, .unset, .unset] [(.ref a1)])) (fun _ k => XS.aloadN X2.here hx rfl (hb hby d3_46) rfl rfl k) ?_
  obtain ⟨T4, X4, e4, st4⟩ := getF X2 hx hZ hown (host := "") (Or.inl (ww hw 20 rfl)) Via.refl e2 F_a1_size (g := (mkF m 47 #[rv a1, .val (.int (N i)), .val (.double (FP.l2d (F i))), .second, .unset, .unset] [(.ref a1)])) rfl rfl (hb hby d3_47)
  refine Go.st (f' := (mkF m 50 #[rv a1, .val (.int (N i)), .val (.double (FP.l2d (F i))), .second, .unset, .unset] [(.int 2)])) (fun _ k => st4 _ k) ?_
  refine Go.st (f' := (mkF m 52 #[rv a1, .val (.int (N i)), .val (.double (FP.l2d (F i))), .second, iv 2, .unset] [])) (fun _ k => XS.istore X4.here hx rfl (hb hby d3_50) rfl (l' := #[rv a1, .val (.int (N i)), .val (.double (FP.l2d (F i))), .second, iv 2, .unset]) rfl k) ?_
  refine Go.st (f' := (mkF m 53 #[rv a1, .val (.int (N i)), .val (.double (FP.l2d (F i))), .second, iv 2, .unset] [(.ref a1)])) (fun _ k => XS.aloadN X4.here hx rfl (hb hby d3_52) rfl rfl k) ?_
  refine Go.st (f' := (mkF m 54 #[rv a1, .val (.int (N i)), .val (.double (FP.l2d (F i))), .second, iv 2, .unset] [(.ref a1), (.ref a1)])) (fun _ k => XS.dup X4.here hx rfl (hb hby d3_53) rfl rfl k) ?_
  obtain ⟨T5, X5, e5, st5⟩ := getF X4 hx hZ hown (host := "") (Or.inl (ww hw 20 rfl)) Via.refl e4 F_a1_size (g := (mkF m 54 #[rv a1, .val (.int (N i)), .val (.double (FP.l2d (F i))), .second, iv 2, .unset] [(.ref a1), (.ref a1)])) rfl rfl (hb hby d3_54)
  refine Go.st (f' := (mkF m 57 #[rv a1, .val (.int (N i)), .val (.double (FP.l2d (F i))), .second, iv 2, .unset] [(.int 2), (.ref a1)])) (fun _ k => st5 _ k) ?_
  refine Go.st (f' := (mkF m 58 #[rv a1, .val (.int (N i)), .val (.double (FP.l2d (F i))), .second, iv 2, .unset] [(.int 1), (.int 2), (.ref a1)])) (fun _ k => XS.iconst X5.here hx rfl (hb hby d3_57) k) ?_
  refine Go.st (f' := (mkF m 59 #[rv a1, .val (.int (N i)), .val (.double (FP.l2d (F i))), .second, iv 2, .unset] [(.int 3), (.ref a1)])) (fun _ k => XS.iadd X5.here hx rfl (hb hby d3_58) rfl k) ?_
  obtain ⟨T6, h6, X6, e6, W6, st6⟩ := putF X5 hx hZ hown (host := "") (Or.inl (ww hw 20 rfl)) Via.refl e5 F_a1_size E_a1 (Or.inl (ww hw 21 rfl)) (ww hw 2 rfl) (ty := .int) (by decide) rfl rfl (g := (mkF m 59 #[rv a1, .val (.int (N i)), .val (.double (FP.l2d (F i))), .second, iv 2, .unset] [(.int 3), (.ref a1)])) rfl rfl (hb hby d3_59)
  have N6 := Fr.snoc X6 N0 g_a1
  have O6 : Old Z n0 h6 := O0.wr W6 g_a1
  have K6 : Keep h0 h6 [a1, cA, nA] := K0.wr W6 (Or.inl (List.mem_of_getElem? (i := 0) rfl))
  have Fw6 := F_a1_size.same W6
  refine Go.st (f' := (mkF m 62 #[rv a1, .val (.int (N i)), .val (.double (FP.l2d (F i))), .second, iv 2, .unset] [])) (fun _ k => st6 _ k) ?_
  refine Go.st (f' := (mkF m 64 #[rv a1, .val (.int (N i)), .val (.double (FP.l2d (F i))), .second, iv 2, .unset] [(.int 2)])) (fun _ k => XS.iload X6.here hx rfl (hb hby d3_62) rfl k) ?_
  refine Go.st (f' := (mkF m 67 #[rv a1, .val (.int (N i)), .val (.double (FP.l2d (F i))), .second, iv 2, .unset] [])) (fun _ k => XS.ifNo X6.here hx rfl (hb hby d3_64) rfl (by decide) k) ?_
  refine Go.st (f' := (mkF m 68 #[rv a1, .val (.int (N i)), .val (.double (FP.l2d (F i))), .second, iv 2, .unset] [(.ref a1)])) (fun _ k => XS.aloadN X6.here hx rfl (hb hby d3_67) rfl rfl k) ?_
  have ft7 := (F_a1_costs.other W6 (Or.inr (slot_ne (Or.inl (ww hw 11 rfl)) (Or.inl (ww hw 21 rfl)) (by decide) (t := (.array .double)) (t' := .int) (by decide) (by decide))))
  obtain ⟨T8, X8, e8, st8⟩ := getF X6 hx hZ hown (host := "") (Or.inl (ww hw 10 rfl)) Via.refl e6 ft7 (g := (mkF m 68 #[rv a1, .val (.int (N i)), .val (.double (FP.l2d (F i))), .second, iv 2, .unset] [(.ref a1)])) rfl rfl (hb hby d3_68)
  refine Go.st (f' := (mkF m 71 #[rv a1, .val (.int (N i)), .val (.double (FP.l2d (F i))), .second, iv 2, .unset] [(.ref cA)])) (fun _ k => st8 _ k) ?_
  refine Go.st (f' := (mkF m 73 #[rv a1, .val (.int (N i)), .val (.double (FP.l2d (F i))), .second, iv 2, .unset] [(.int 2), (.ref cA)])) (fun _ k => XS.iload X8.here hx rfl (hb hby d3_71) rfl k) ?_
  refine Go.st (f' := (mkF m 74 #[rv a1, .val (.int (N i)), .val (.double (FP.l2d (F i))), .second, iv 2, .unset] [(.int 1), (.int 2), (.ref cA)])) (fun _ k => XS.iconst X8.here hx rfl (hb hby d3_73) k) ?_
  refine Go.st (f' := (mkF m 75 #[rv a1, .val (.int (N i)), .val (.double (FP.l2d (F i))), .second, iv 2, .unset] [(.int 1), (.ref cA)])) (fun _ k => XS.isub X8.here hx rfl (hb hby d3_74) rfl k) ?_
  refine Go.st (f' := (mkF m 76 #[rv a1, .val (.int (N i)), .val (.double (FP.l2d (F i))), .second, iv 2, .unset] [(.int 2), (.int 1), (.ref cA)])) (fun _ k => XS.iconst X8.here hx rfl (hb hby d3_75) k) ?_
  refine Go.st (f' := (mkF m 77 #[rv a1, .val (.int (N i)), .val (.double (FP.l2d (F i))), .second, iv 2, .unset] [(.int 0), (.ref cA)])) (fun _ k => XS.idiv X8.here hx rfl (hb hby d3_76) rfl (by decide) k) ?_
  have ft10 := (V_cA.other W6 (Ne.symm nt_a1_cA))
  obtain ⟨cl9, Ar9, -, S9, -, H9, -⟩ := id ft10
  have hin9 : ¬ ((0 : Int32) < 0 ∨ cl9.slots.size ≤ ((0 : Int32)).toNatClampNeg) := inb_of S9 ⟨by decide, by decide⟩
  have hat9 : cl9.slots[((0 : Int32)).toNatClampNeg]? = some (.double (FP.l2d (F i0))) := H9.at hin9 rfl
  refine Go.st (f' := (mkF m 78 #[rv a1, .val (.int (N i)), .val (.double (FP.l2d (F i))), .second, iv 2, .unset] [(.double (FP.l2d (F i0)))])) (fun _ k => X8.daload hx (j := (0 : Int32)) (v := (.double (FP.l2d (F i0)))) (by rw [e8]; exact Ar9.1) (State.isArrayOf_alike hZ.alike Ar9.2.1) Ar9.2.2 hin9 hat9 (g := (mkF m 77 #[rv a1, .val (.int (N i)), .val (.double (FP.l2d (F i))), .second, iv 2, .unset] [(.int 0), (.ref cA)])) rfl rfl (hb hby d3_77) _ k) ?_
  refine Go.st (f' := (mkF m 79 #[rv a1, .val (.int (N i)), .val (.double (FP.l2d (F i))), .second, iv 2, .unset] [(.double (FP.l2d (F i))), (.double (FP.l2d (F i0)))])) (fun _ k => XS.dloadN X8.here hx rfl (hb hby d3_78) rfl k) ?_
  refine Go.st (f' := (mkF m 80 #[rv a1, .val (.int (N i)), .val (.double (FP.l2d (F i))), .second, iv 2, .unset] [(.int (lcmpW (F i0) (F i)))])) (fun _ k => XS.dcmpS X8.here hx rfl (hb hby d3_79) rfl (dcmpV_w (hF _) (hF _) _) k) ?_
  by_cases cd11 : (0 : Int32) < (lcmpW (F i0) (F i))
  · refine Go.st (f' := (mkF m 83 #[rv a1, .val (.int (N i)), .val (.double (FP.l2d (F i))), .second, iv 2, .unset] [])) (fun _ k => XS.ifNo X8.here hx rfl (hb hby d3_80) rfl ((if0 _ _).trans (tlt cd11).2.2.2) k) ?_
    refine Go.st (f' := (mkF m 85 #[rv a1, .val (.int (N i)), .val (.double (FP.l2d (F i))), .second, iv 2, .unset] [(.int 2)])) (fun _ k => XS.iload X8.here hx rfl (hb hby d3_83) rfl k) ?_
    refine Go.st (f' := (mkF m 86 #[rv a1, .val (.int (N i)), .val (.double (FP.l2d (F i))), .second, iv 2, .unset] [(.int 1), (.int 2)])) (fun _ k => XS.iconst X8.here hx rfl (hb hby d3_85) k) ?_
    refine Go.st (f' := (mkF m 87 #[rv a1, .val (.int (N i)), .val (.double (FP.l2d (F i))), .second, iv 2, .unset] [(.int 1)])) (fun _ k => XS.isub X8.here hx rfl (hb hby d3_86) rfl k) ?_
    refine Go.st (f' := (mkF m 88 #[rv a1, .val (.int (N i)), .val (.double (FP.l2d (F i))), .second, iv 2, .unset] [(.int 2), (.int 1)])) (fun _ k => XS.iconst X8.here hx rfl (hb hby d3_87) k) ?_
    refine Go.st (f' := (mkF m 89 #[rv a1, .val (.int (N i)), .val (.double (FP.l2d (F i))), .second, iv 2, .unset] [(.int 0)])) (fun _ k => XS.idiv X8.here hx rfl (hb hby d3_88) rfl (by decide) k) ?_
    refine Go.st (f' := (mkF m 91 #[rv a1, .val (.int (N i)), .val (.double (FP.l2d (F i))), .second, iv 2, iv 0] [])) (fun _ k => XS.istore X8.here hx rfl (hb hby d3_89) rfl (l' := #[rv a1, .val (.int (N i)), .val (.double (FP.l2d (F i))), .second, iv 2, iv 0]) rfl k) ?_
    refine Go.st (f' := (mkF m 92 #[rv a1, .val (.int (N i)), .val (.double (FP.l2d (F i))), .second, iv 2, iv 0] [(.ref a1)])) (fun _ k => XS.aloadN X8.here hx rfl (hb hby d3_91) rfl rfl k) ?_
    obtain ⟨T12, X12, e12, st12⟩ := getF X8 hx hZ hown (host := "") (Or.inl (ww hw 10 rfl)) Via.refl e8 ft7 (g := (mkF m 92 #[rv a1, .val (.int (N i)), .val (.double (FP.l2d (F i))), .second, iv 2, iv 0] [(.ref a1)])) rfl rfl (hb hby d3_92)
    refine Go.st (f' := (mkF m 95 #[rv a1, .val (.int (N i)), .val (.double (FP.l2d (F i))), .second, iv 2, iv 0] [(.ref cA)])) (fun _ k => st12 _ k) ?_
    refine Go.st (f' := (mkF m 97 #[rv a1, .val (.int (N i)), .val (.double (FP.l2d (F i))), .second, iv 2, iv 0] [(.int 2), (.ref cA)])) (fun _ k => XS.iload X12.here hx rfl (hb hby d3_95) rfl k) ?_
    refine Go.st (f' := (mkF m 98 #[rv a1, .val (.int (N i)), .val (.double (FP.l2d (F i))), .second, iv 2, iv 0] [(.ref a1), (.int 2), (.ref cA)])) (fun _ k => XS.aloadN X12.here hx rfl (hb hby d3_97) rfl rfl k) ?_
    obtain ⟨T13, X13, e13, st13⟩ := getF X12 hx hZ hown (host := "") (Or.inl (ww hw 10 rfl)) Via.refl e12 ft7 (g := (mkF m 98 #[rv a1, .val (.int (N i)), .val (.double (FP.l2d (F i))), .second, iv 2, iv 0] [(.ref a1), (.int 2), (.ref cA)])) rfl rfl (hb hby d3_98)
    refine Go.st (f' := (mkF m 101 #[rv a1, .val (.int (N i)), .val (.double (FP.l2d (F i))), .second, iv 2, iv 0] [(.ref cA), (.int 2), (.ref cA)])) (fun _ k => st13 _ k) ?_
    refine Go.st (f' := (mkF m 103 #[rv a1, .val (.int (N i)), .val (.double (FP.l2d (F i))), .second, iv 2, iv 0] [(.int 0), (.ref cA), (.int 2), (.ref cA)])) (fun _ k => XS.iload X13.here hx rfl (hb hby d3_101) rfl k) ?_
    obtain ⟨cl14, Ar14, -, S14, -, H14, -⟩ := id ft10
    have hin14 : ¬ ((0 : Int32) < 0 ∨ cl14.slots.size ≤ ((0 : Int32)).toNatClampNeg) := inb_of S14 ⟨by decide, by decide⟩
    have hat14 : cl14.slots[((0 : Int32)).toNatClampNeg]? = some (.double (FP.l2d (F i0))) := H14.at hin14 rfl
    refine Go.st (f' := (mkF m 104 #[rv a1, .val (.int (N i)), .val (.double (FP.l2d (F i))), .second, iv 2, iv 0] [(.double (FP.l2d (F i0))), (.int 2), (.ref cA)])) (fun _ k => X13.daload hx (j := (0 : Int32)) (v := (.double (FP.l2d (F i0)))) (by rw [e13]; exact Ar14.1) (State.isArrayOf_alike hZ.alike Ar14.2.1) Ar14.2.2 hin14 hat14 (g := (mkF m 103 #[rv a1, .val (.int (N i)), .val (.double (FP.l2d (F i))), .second, iv 2, iv 0] [(.int 0), (.ref cA), (.int 2), (.ref cA)])) rfl rfl (hb hby d3_103) _ k) ?_
    obtain ⟨cl15, Ar15, q15, S15, Nx15, H15, G15⟩ := id ft10
    have hin15 : ¬ ((2 : Int32) < 0 ∨ cl15.slots.size ≤ ((2 : Int32)).toNatClampNeg) := inb_of S15 ⟨by decide, by decide⟩
    obtain ⟨T16, h16, X16, e16, W16, st16⟩ := stD X13 hx hZ e13 Ar15 (j := (2 : Int32)) hin15 (g := (mkF m 104 #[rv a1, .val (.int (N i)), .val (.double (FP.l2d (F i))), .second, iv 2, iv 0] [(.double (FP.l2d (F i0))), (.int 2), (.ref cA)])) rfl rfl (hb hby d3_104)
    have V_cA_16 : Arv Z h16 cA kA .double (16 : Int32) [(.double (FP.l2d (F i0))), (.double (FP.l2d (F i1))), (.double (FP.l2d (F i0))), (.double (FP.l2d 0)), (.double (FP.l2d 0))] (.double (FP.l2d 0)) := Arv.set Ar15 q15 S15 Nx15 H15 G15 rfl W16 2 rfl (Nat.le_of_ble_eq_true rfl)
    have N16 := Fr.snoc X16 N6 g_cA
    have O16 : Old Z n0 h16 := O6.wr W16 g_cA
    have K16 : Keep h0 h16 [a1, cA, nA] := K6.wr W16 (Or.inl (List.mem_of_getElem? (i := 1) rfl))
    refine Go.st (f' := (mkF m 105 #[rv a1, .val (.int (N i)), .val (.double (FP.l2d (F i))), .second, iv 2, iv 0] [])) (fun _ k => st16 _ k) ?_
    refine Go.st (f' := (mkF m 106 #[rv a1, .val (.int (N i)), .val (.double (FP.l2d (F i))), .second, iv 2, iv 0] [(.ref a1)])) (fun _ k => XS.aloadN X16.here hx rfl (hb hby d3_105) rfl rfl k) ?_
    have ft17 := ((F_a1_items.other W6 (Or.inr (slot_ne (Or.inl (ww hw 14 rfl)) (Or.inl (ww hw 21 rfl)) (by decide) (t := (.array .int)) (t' := .int) (by decide) (by decide)))).other W16 (Or.inl nt_a1_cA))
    obtain ⟨T18, X18, e18, st18⟩ := getF X16 hx hZ hown (host := "") (Or.inl (ww hw 13 rfl)) Via.refl e16 ft17 (g := (mkF m 106 #[rv a1, .val (.int (N i)), .val (.double (FP.l2d (F i))), .second, iv 2, iv 0] [(.ref a1)])) rfl rfl (hb hby d3_106)
    refine Go.st (f' := (mkF m 109 #[rv a1, .val (.int (N i)), .val (.double (FP.l2d (F i))), .second, iv 2, iv 0] [(.ref nA)])) (fun _ k => st18 _ k) ?_
    refine Go.st (f' := (mkF m 111 #[rv a1, .val (.int (N i)), .val (.double (FP.l2d (F i))), .second, iv 2, iv 0] [(.int 2), (.ref nA)])) (fun _ k => XS.iload X18.here hx rfl (hb hby d3_109) rfl k) ?_
    refine Go.st (f' := (mkF m 112 #[rv a1, .val (.int (N i)), .val (.double (FP.l2d (F i))), .second, iv 2, iv 0] [(.ref a1), (.int 2), (.ref nA)])) (fun _ k => XS.aloadN X18.here hx rfl (hb hby d3_111) rfl rfl k) ?_
    obtain ⟨T19, X19, e19, st19⟩ := getF X18 hx hZ hown (host := "") (Or.inl (ww hw 13 rfl)) Via.refl e18 ft17 (g := (mkF m 112 #[rv a1, .val (.int (N i)), .val (.double (FP.l2d (F i))), .second, iv 2, iv 0] [(.ref a1), (.int 2), (.ref nA)])) rfl rfl (hb hby d3_112)
    refine Go.st (f' := (mkF m 115 #[rv a1, .val (.int (N i)), .val (.double (FP.l2d (F i))), .second, iv 2, iv 0] [(.ref nA), (.int 2), (.ref nA)])) (fun _ k => st19 _ k) ?_
    refine Go.st (f' := (mkF m 117 #[rv a1, .val (.int (N i)), .val (.double (FP.l2d (F i))), .second, iv 2, iv 0] [(.int 0), (.ref nA), (.int 2), (.ref nA)])) (fun _ k => XS.iload X19.here hx rfl (hb hby d3_115) rfl k) ?_
    have ft21 := ((V_nA.other W6 (Ne.symm nt_a1_nA)).other W16 (Ne.symm nn))
    obtain ⟨cl20, Ar20, -, S20, -, H20, -⟩ := id ft21
    have hin20 : ¬ ((0 : Int32) < 0 ∨ cl20.slots.size ≤ ((0 : Int32)).toNatClampNeg) := inb_of S20 ⟨by decide, by decide⟩
    have hat20 : cl20.slots[((0 : Int32)).toNatClampNeg]? = some (.int (N i0)) := H20.at hin20 rfl
    refine Go.st (f' := (mkF m 118 #[rv a1, .val (.int (N i)), .val (.double (FP.l2d (F i))), .second, iv 2, iv 0] [(.int (N i0)), (.int 2), (.ref nA)])) (fun _ k => X19.iaload hx (j := (0 : Int32)) (v := (.int (N i0))) (by rw [e19]; exact Ar20.1) (State.isArrayOf_alike hZ.alike Ar20.2.1) Ar20.2.2 hin20 hat20 (g := (mkF m 117 #[rv a1, .val (.int (N i)), .val (.double (FP.l2d (F i))), .second, iv 2, iv 0] [(.int 0), (.ref nA), (.int 2), (.ref nA)])) rfl rfl (hb hby d3_117) _ k) ?_
    obtain ⟨cl22, Ar22, q22, S22, Nx22, H22, G22⟩ := id ft21
    have hin22 : ¬ ((2 : Int32) < 0 ∨ cl22.slots.size ≤ ((2 : Int32)).toNatClampNeg) := inb_of S22 ⟨by decide, by decide⟩
    obtain ⟨T23, h23, X23, e23, W23, st23⟩ := stI X19 hx hZ e19 Ar22 (j := (2 : Int32)) hin22 (g := (mkF m 118 #[rv a1, .val (.int (N i)), .val (.double (FP.l2d (F i))), .second, iv 2, iv 0] [(.int (N i0)), (.int 2), (.ref nA)])) rfl rfl (hb hby d3_118)
    have V_nA_23 : Arv Z h23 nA kN .int (16 : Int32) [(.int (N i0)), (.int (N i1)), (.int (N i0)), (.int (0 : Int32)), (.int (0 : Int32))] (.int (0 : Int32)) := Arv.set Ar22 q22 S22 Nx22 H22 G22 rfl W23 2 rfl (Nat.le_of_ble_eq_true rfl)
    have N23 := Fr.snoc X23 N16 g_nA
    have O23 : Old Z n0 h23 := O16.wr W23 g_nA
    have K23 : Keep h0 h23 [a1, cA, nA] := K16.wr W23 (Or.inl (List.mem_of_getElem? (i := 2) rfl))
    refine Go.st (f' := (mkF m 119 #[rv a1, .val (.int (N i)), .val (.double (FP.l2d (F i))), .second, iv 2, iv 0] [])) (fun _ k => st23 _ k) ?_
    refine Go.st (f' := (mkF m 121 #[rv a1, .val (.int (N i)), .val (.double (FP.l2d (F i))), .second, iv 2, iv 0] [(.int 0)])) (fun _ k => XS.iload X23.here hx rfl (hb hby d3_119) rfl k) ?_
    refine Go.st (f' := (mkF m 123 #[rv a1, .val (.int (N i)), .val (.double (FP.l2d (F i))), .second, iv 0, iv 0] [])) (fun _ k => XS.istore X23.here hx rfl (hb hby d3_121) rfl (l' := #[rv a1, .val (.int (N i)), .val (.double (FP.l2d (F i))), .second, iv 0, iv 0]) rfl k) ?_
    refine Go.st (f' := (mkF m 62 #[rv a1, .val (.int (N i)), .val (.double (FP.l2d (F i))), .second, iv 0, iv 0] [])) (fun _ k => XS.goto X23.here hx rfl (pc0 := 123) (pc' := 62) rfl (hb hby d3_123) (by decide) (by decide) k) ?_
    refine Go.st (f' := (mkF m 64 #[rv a1, .val (.int (N i)), .val (.double (FP.l2d (F i))), .second, iv 0, iv 0] [(.int 0)])) (fun _ k => XS.iload X23.here hx rfl (hb hby d3_62) rfl k) ?_
    refine Go.st (f' := (mkF m 126 #[rv a1, .val (.int (N i)), .val (.double (FP.l2d (F i))), .second, iv 0, iv 0] [])) (fun _ k => XS.ifYes X23.here hx rfl (pc0 := 64) (pc' := 126) rfl (hb hby d3_64) rfl (by decide) (by decide) (by decide) k) ?_
    refine Go.st (f' := (mkF m 127 #[rv a1, .val (.int (N i)), .val (.double (FP.l2d (F i))), .second, iv 0, iv 0] [(.ref a1)])) (fun _ k => XS.aloadN X23.here hx rfl (hb hby d3_126) rfl rfl k) ?_
    have ft24 := ((ft7.other W16 (Or.inl nt_a1_cA)).other W23 (Or.inl nt_a1_nA))
    obtain ⟨T25, X25, e25, st25⟩ := getF X23 hx hZ hown (host := "") (Or.inl (ww hw 10 rfl)) Via.refl e23 ft24 (g := (mkF m 127 #[rv a1, .val (.int (N i)), .val (.double (FP.l2d (F i))), .second, iv 0, iv 0] [(.ref a1)])) rfl rfl (hb hby d3_127)
    refine Go.st (f' := (mkF m 130 #[rv a1, .val (.int (N i)), .val (.double (FP.l2d (F i))), .second, iv 0, iv 0] [(.ref cA)])) (fun _ k => st25 _ k) ?_
    refine Go.st (f' := (mkF m 132 #[rv a1, .val (.int (N i)), .val (.double (FP.l2d (F i))), .second, iv 0, iv 0] [(.int 0), (.ref cA)])) (fun _ k => XS.iload X25.here hx rfl (hb hby d3_130) rfl k) ?_
    refine Go.st (f' := (mkF m 133 #[rv a1, .val (.int (N i)), .val (.double (FP.l2d (F i))), .second, iv 0, iv 0] [(.double (FP.l2d (F i))), (.int 0), (.ref cA)])) (fun _ k => XS.dloadN X25.here hx rfl (hb hby d3_132) rfl k) ?_
    have ft26 := (V_cA_16.other W23 nn)
    obtain ⟨cl27, Ar27, q27, S27, Nx27, H27, G27⟩ := id ft26
    have hin27 : ¬ ((0 : Int32) < 0 ∨ cl27.slots.size ≤ ((0 : Int32)).toNatClampNeg) := inb_of S27 ⟨by decide, by decide⟩
    obtain ⟨T28, h28, X28, e28, W28, st28⟩ := stD X25 hx hZ e25 Ar27 (j := (0 : Int32)) hin27 (g := (mkF m 133 #[rv a1, .val (.int (N i)), .val (.double (FP.l2d (F i))), .second, iv 0, iv 0] [(.double (FP.l2d (F i))), (.int 0), (.ref cA)])) rfl rfl (hb hby d3_133)
    have V_cA_28 : Arv Z h28 cA kA .double (16 : Int32) [(.double (FP.l2d (F i))), (.double (FP.l2d (F i1))), (.double (FP.l2d (F i0))), (.double (FP.l2d 0)), (.double (FP.l2d 0))] (.double (FP.l2d 0)) := Arv.set Ar27 q27 S27 Nx27 H27 G27 rfl W28 0 rfl (Nat.le_of_ble_eq_true rfl)
    have N28 := Fr.snoc X28 N23 g_cA
    have O28 : Old Z n0 h28 := O23.wr W28 g_cA
    have K28 : Keep h0 h28 [a1, cA, nA] := K23.wr W28 (Or.inl (List.mem_of_getElem? (i := 1) rfl))
    refine Go.st (f' := (mkF m 134 #[rv a1, .val (.int (N i)), .val (.double (FP.l2d (F i))), .second, iv 0, iv 0] [])) (fun _ k => st28 _ k) ?_
    refine Go.st (f' := (mkF m 135 #[rv a1, .val (.int (N i)), .val (.double (FP.l2d (F i))), .second, iv 0, iv 0] [(.ref a1)])) (fun _ k => XS.aloadN X28.here hx rfl (hb hby d3_134) rfl rfl k) ?_
    have ft29 := ((ft17.other W23 (Or.inl nt_a1_nA)).other W28 (Or.inl nt_a1_cA))
    obtain ⟨T30, X30, e30, st30⟩ := getF X28 hx hZ hown (host := "") (Or.inl (ww hw 13 rfl)) Via.refl e28 ft29 (g := (mkF m 135 #[rv a1, .val (.int (N i)), .val (.double (FP.l2d (F i))), .second, iv 0, iv 0] [(.ref a1)])) rfl rfl (hb hby d3_135)
    refine Go.st (f' := (mkF m 138 #[rv a1, .val (.int (N i)), .val (.double (FP.l2d (F i))), .second, iv 0, iv 0] [(.ref nA)])) (fun _ k => st30 _ k) ?_
    refine Go.st (f' := (mkF m 140 #[rv a1, .val (.int (N i)), .val (.double (FP.l2d (F i))), .second, iv 0, iv 0] [(.int 0), (.ref nA)])) (fun _ k => XS.iload X30.here hx rfl (hb hby d3_138) rfl k) ?_
    refine Go.st (f' := (mkF m 141 #[rv a1, .val (.int (N i)), .val (.double (FP.l2d (F i))), .second, iv 0, iv 0] [(.int (N i)), (.int 0), (.ref nA)])) (fun _ k => XS.iloadN X30.here hx rfl (hb hby d3_140) rfl k) ?_
    have ft31 := (V_nA_23.other W28 (Ne.symm nn))
    obtain ⟨cl32, Ar32, q32, S32, Nx32, H32, G32⟩ := id ft31
    have hin32 : ¬ ((0 : Int32) < 0 ∨ cl32.slots.size ≤ ((0 : Int32)).toNatClampNeg) := inb_of S32 ⟨by decide, by decide⟩
    obtain ⟨T33, h33, X33, e33, W33, st33⟩ := stI X30 hx hZ e30 Ar32 (j := (0 : Int32)) hin32 (g := (mkF m 141 #[rv a1, .val (.int (N i)), .val (.double (FP.l2d (F i))), .second, iv 0, iv 0] [(.int (N i)), (.int 0), (.ref nA)])) rfl rfl (hb hby d3_141)
    have V_nA_33 : Arv Z h33 nA kN .int (16 : Int32) [(.int (N i)), (.int (N i1)), (.int (N i0)), (.int (0 : Int32)), (.int (0 : Int32))] (.int (0 : Int32)) := Arv.set Ar32 q32 S32 Nx32 H32 G32 rfl W33 0 rfl (Nat.le_of_ble_eq_true rfl)
    have N33 := Fr.snoc X33 N28 g_nA
    have O33 : Old Z n0 h33 := O28.wr W33 g_nA
    have K33 : Keep h0 h33 [a1, cA, nA] := K28.wr W33 (Or.inl (List.mem_of_getElem? (i := 2) rfl))
    refine Go.st (f' := (mkF m 142 #[rv a1, .val (.int (N i)), .val (.double (FP.l2d (F i))), .second, iv 0, iv 0] [])) (fun _ k => st33 _ k) ?_
    refine Go.ret0 X33 hlk hx hret (hb hby d3_142) e33 ?_ (by decide) (by decide)
    have c_cd11 :=  (own_lw (F i0) (F i)).2.mp cd11
    have ft34 := (((((E_a1.wr W6).wr W16).wr W23).wr W28).wr W33)
    have ft35 := ((((Fw6.other W16 (Or.inl nt_a1_cA)).other W23 (Or.inl nt_a1_nA)).other W28 (Or.inl nt_a1_cA)).other W33 (Or.inl nt_a1_nA))
    have ft36 := (ft29.other W33 (Or.inl nt_a1_nA))
    have ft37 := ((ft24.other W28 (Or.inl nt_a1_cA)).other W33 (Or.inl nt_a1_nA))
    have ft38 := (V_cA_28.other W33 nn)
    exact ⟨rfl, N33, K33, ft34, ft35, ft36, ft37, i, i1, i0, fun w => by omega, by omega, by omega, ft38, V_nA_33⟩
  · refine Go.st (f' := (mkF m 126 #[rv a1, .val (.int (N i)), .val (.double (FP.l2d (F i))), .second, iv 2, .unset] [])) (fun _ k => XS.ifYes X8.here hx rfl (pc0 := 80) (pc' := 126) rfl (hb hby d3_80) rfl ((if0 _ _).trans (flt cd11).2.2.2) (by decide) (by decide) k) ?_
    refine Go.st (f' := (mkF m 127 #[rv a1, .val (.int (N i)), .val (.double (FP.l2d (F i))), .second, iv 2, .unset] [(.ref a1)])) (fun _ k => XS.aloadN X8.here hx rfl (hb hby d3_126) rfl rfl k) ?_
    obtain ⟨T39, X39, e39, st39⟩ := getF X8 hx hZ hown (host := "") (Or.inl (ww hw 10 rfl)) Via.refl e8 ft7 (g := (mkF m 127 #[rv a1, .val (.int (N i)), .val (.double (FP.l2d (F i))), .second, iv 2, .unset] [(.ref a1)])) rfl rfl (hb hby d3_127)
    refine Go.st (f' := (mkF m 130 #[rv a1, .val (.int (N i)), .val (.double (FP.l2d (F i))), .second, iv 2, .unset] [(.ref cA)])) (fun _ k => st39 _ k) ?_
    refine Go.st (f' := (mkF m 132 #[rv a1, .val (.int (N i)), .val (.double (FP.l2d (F i))), .second, iv 2, .unset] [(.int 2), (.ref cA)])) (fun _ k => XS.iload X39.here hx rfl (hb hby d3_130) rfl k) ?_
    refine Go.st (f' := (mkF m 133 #[rv a1, .val (.int (N i)), .val (.double (FP.l2d (F i))), .second, iv 2, .unset] [(.double (FP.l2d (F i))), (.int 2), (.ref cA)])) (fun _ k => XS.dloadN X39.here hx rfl (hb hby d3_132) rfl k) ?_
    obtain ⟨cl40, Ar40, q40, S40, Nx40, H40, G40⟩ := id ft10
    have hin40 : ¬ ((2 : Int32) < 0 ∨ cl40.slots.size ≤ ((2 : Int32)).toNatClampNeg) := inb_of S40 ⟨by decide, by decide⟩
    obtain ⟨T41, h41, X41, e41, W41, st41⟩ := stD X39 hx hZ e39 Ar40 (j := (2 : Int32)) hin40 (g := (mkF m 133 #[rv a1, .val (.int (N i)), .val (.double (FP.l2d (F i))), .second, iv 2, .unset] [(.double (FP.l2d (F i))), (.int 2), (.ref cA)])) rfl rfl (hb hby d3_133)
    have V_cA_41 : Arv Z h41 cA kA .double (16 : Int32) [(.double (FP.l2d (F i0))), (.double (FP.l2d (F i1))), (.double (FP.l2d (F i))), (.double (FP.l2d 0)), (.double (FP.l2d 0))] (.double (FP.l2d 0)) := Arv.set Ar40 q40 S40 Nx40 H40 G40 rfl W41 2 rfl (Nat.le_of_ble_eq_true rfl)
    have N41 := Fr.snoc X41 N6 g_cA
    have O41 : Old Z n0 h41 := O6.wr W41 g_cA
    have K41 : Keep h0 h41 [a1, cA, nA] := K6.wr W41 (Or.inl (List.mem_of_getElem? (i := 1) rfl))
    refine Go.st (f' := (mkF m 134 #[rv a1, .val (.int (N i)), .val (.double (FP.l2d (F i))), .second, iv 2, .unset] [])) (fun _ k => st41 _ k) ?_
    refine Go.st (f' := (mkF m 135 #[rv a1, .val (.int (N i)), .val (.double (FP.l2d (F i))), .second, iv 2, .unset] [(.ref a1)])) (fun _ k => XS.aloadN X41.here hx rfl (hb hby d3_134) rfl rfl k) ?_
    have ft42 := ((F_a1_items.other W6 (Or.inr (slot_ne (Or.inl (ww hw 14 rfl)) (Or.inl (ww hw 21 rfl)) (by decide) (t := (.array .int)) (t' := .int) (by decide) (by decide)))).other W41 (Or.inl nt_a1_cA))
    obtain ⟨T43, X43, e43, st43⟩ := getF X41 hx hZ hown (host := "") (Or.inl (ww hw 13 rfl)) Via.refl e41 ft42 (g := (mkF m 135 #[rv a1, .val (.int (N i)), .val (.double (FP.l2d (F i))), .second, iv 2, .unset] [(.ref a1)])) rfl rfl (hb hby d3_135)
    refine Go.st (f' := (mkF m 138 #[rv a1, .val (.int (N i)), .val (.double (FP.l2d (F i))), .second, iv 2, .unset] [(.ref nA)])) (fun _ k => st43 _ k) ?_
    refine Go.st (f' := (mkF m 140 #[rv a1, .val (.int (N i)), .val (.double (FP.l2d (F i))), .second, iv 2, .unset] [(.int 2), (.ref nA)])) (fun _ k => XS.iload X43.here hx rfl (hb hby d3_138) rfl k) ?_
    refine Go.st (f' := (mkF m 141 #[rv a1, .val (.int (N i)), .val (.double (FP.l2d (F i))), .second, iv 2, .unset] [(.int (N i)), (.int 2), (.ref nA)])) (fun _ k => XS.iloadN X43.here hx rfl (hb hby d3_140) rfl k) ?_
    have ft44 := ((V_nA.other W6 (Ne.symm nt_a1_nA)).other W41 (Ne.symm nn))
    obtain ⟨cl45, Ar45, q45, S45, Nx45, H45, G45⟩ := id ft44
    have hin45 : ¬ ((2 : Int32) < 0 ∨ cl45.slots.size ≤ ((2 : Int32)).toNatClampNeg) := inb_of S45 ⟨by decide, by decide⟩
    obtain ⟨T46, h46, X46, e46, W46, st46⟩ := stI X43 hx hZ e43 Ar45 (j := (2 : Int32)) hin45 (g := (mkF m 141 #[rv a1, .val (.int (N i)), .val (.double (FP.l2d (F i))), .second, iv 2, .unset] [(.int (N i)), (.int 2), (.ref nA)])) rfl rfl (hb hby d3_141)
    have V_nA_46 : Arv Z h46 nA kN .int (16 : Int32) [(.int (N i0)), (.int (N i1)), (.int (N i)), (.int (0 : Int32)), (.int (0 : Int32))] (.int (0 : Int32)) := Arv.set Ar45 q45 S45 Nx45 H45 G45 rfl W46 2 rfl (Nat.le_of_ble_eq_true rfl)
    have N46 := Fr.snoc X46 N41 g_nA
    have O46 : Old Z n0 h46 := O41.wr W46 g_nA
    have K46 : Keep h0 h46 [a1, cA, nA] := K41.wr W46 (Or.inl (List.mem_of_getElem? (i := 2) rfl))
    refine Go.st (f' := (mkF m 142 #[rv a1, .val (.int (N i)), .val (.double (FP.l2d (F i))), .second, iv 2, .unset] [])) (fun _ k => st46 _ k) ?_
    refine Go.ret0 X46 hlk hx hret (hb hby d3_142) e46 ?_ (by decide) (by decide)
    have c_cd11 := (not_congr (own_lw (F i0) (F i)).2).mp cd11
    have ft47 := (((E_a1.wr W6).wr W41).wr W46)
    have ft48 := ((Fw6.other W41 (Or.inl nt_a1_cA)).other W46 (Or.inl nt_a1_nA))
    have ft49 := (ft42.other W46 (Or.inl nt_a1_nA))
    have ft50 := ((ft7.other W41 (Or.inl nt_a1_cA)).other W46 (Or.inl nt_a1_nA))
    have ft51 := (V_cA_41.other W46 nn)
    exact ⟨rfl, N46, K46, ft47, ft48, ft49, ft50, i0, i1, i, fun w => by omega, by omega, by omega, ft51, V_nA_46⟩
theorem rmA2 (l : Launch) (Z : State) (a0 : Array Value) (hw : ∀ d ∈ tables_1, d.before a0 Z = true) (ws : List Jvm.Cond) (a1 : Addr) (cA : Addr) (nA : Addr) (kA : ClassId) (kN : ClassId) (N : Int32 → Int32) (F : Int32 → Int64) (i0 : Int32) (i1 : Int32) (i : Int32) (nd : Int32) (x : Int64) (h0 : Heap) (n0 : Nat) (O0 : Old Z n0 h0) (en : nd = N i) (ex : x = F i) (hF : ∀ i, B53 (F i)) (g_a1 : n0 ≤ a1) (g_cA : n0 ≤ cA) (g_nA : n0 ≤ nA) (hp1 : (F i0).toInt ≤ (F i1).toInt) (E_a1 : Exa Z h0 a1 "com/example/kinetic_city/kineticcity/engine/CostQueue") (F_a1_size : Fld Z h0 a1 "com/example/kinetic_city/kineticcity/engine/CostQueue" "size" "I" (.int 2)) (F_a1_items : Fld Z h0 a1 "com/example/kinetic_city/kineticcity/engine/CostQueue" "items" "[I" (.ref nA)) (F_a1_costs : Fld Z h0 a1 "com/example/kinetic_city/kineticcity/engine/CostQueue" "costs" "[D" (.ref cA)) (V_cA : Arv Z h0 cA kA .double (16 : Int32) [(.double (FP.l2d (F i0))), (.double (FP.l2d (F i1))), (.double (FP.l2d 0)), (.double (FP.l2d 0)), (.double (FP.l2d 0))] (.double (FP.l2d 0))) (V_nA : Arv Z h0 nA kN .int 16 [(.int (N i0)), (.int (N i1)), (.int 0), (.int 0), (.int 0)] (.int 0)) :
    Con l Z (⟨"com/example/kinetic_city/kineticcity/engine/CostQueue", "add", "(ID)V"⟩ : MethodName) prog_5_method_3_code 6 none ws ({ frames := 0, cells := 0, slots := 0, locals := 0 } : Room) #[(.ref a1), (.int nd), (.double (FP.l2d x))] h0 (fun v h L => v = none ∧ Fr n0 L ∧ Keep h0 h [a1, cA, nA] ∧ Exa Z h a1 "com/example/kinetic_city/kineticcity/engine/CostQueue" ∧ Fld Z h a1 "com/example/kinetic_city/kineticcity/engine/CostQueue" "size" "I" (.int 3) ∧ Fld Z h a1 "com/example/kinetic_city/kineticcity/engine/CostQueue" "items" "[I" (.ref nA) ∧ Fld Z h a1 "com/example/kinetic_city/kineticcity/engine/CostQueue" "costs" "[D" (.ref cA) ∧ ∃ j0 j1 j2 : Int32, (∀ w : Int32 → Int, w j0 + w j1 + w j2 = w i0 + w i1 + w i) ∧ (F j0).toInt ≤ (F j1).toInt ∧ (F j0).toInt ≤ (F j2).toInt ∧ Arv Z h cA kA .double (16 : Int32) [(.double (FP.l2d (F j0))), (.double (FP.l2d (F j1))), (.double (FP.l2d (F j2))), (.double (FP.l2d 0)), (.double (FP.l2d 0))] (.double (FP.l2d 0)) ∧ Arv Z h nA kN .int 16 [(.int (N j0)), (.int (N j1)), (.int (N j2)), (.int 0), (.int 0)] (.int 0)) := by
  subst en ex
  exact rmAdd2 l Z a0 hw ws a1 cA nA kA kN N F i0 i1 i h0 n0 O0 hF g_a1 g_cA g_nA hp1 E_a1 F_a1_size F_a1_items F_a1_costs V_cA V_nA
set_option maxRecDepth 65536 in
set_option maxHeartbeats 40000000 in
theorem rmAdd3 (l : Launch) (Z : State) (a0 : Array Value) (hw : ∀ d ∈ tables_1, d.before a0 Z = true) (ws : List Jvm.Cond) (a1 : Addr) (cA : Addr) (nA : Addr) (kA : ClassId) (kN : ClassId) (N : Int32 → Int32) (F : Int32 → Int64) (i0 : Int32) (i1 : Int32) (i2 : Int32) (i : Int32) (h0 : Heap) (n0 : Nat) (O0 : Old Z n0 h0) (hF : ∀ i, B53 (F i)) (g_a1 : n0 ≤ a1) (g_cA : n0 ≤ cA) (g_nA : n0 ≤ nA) (hp1 : (F i0).toInt ≤ (F i1).toInt) (hp2 : (F i0).toInt ≤ (F i2).toInt) (E_a1 : Exa Z h0 a1 "com/example/kinetic_city/kineticcity/engine/CostQueue") (F_a1_size : Fld Z h0 a1 "com/example/kinetic_city/kineticcity/engine/CostQueue" "size" "I" (.int 3)) (F_a1_items : Fld Z h0 a1 "com/example/kinetic_city/kineticcity/engine/CostQueue" "items" "[I" (.ref nA)) (F_a1_costs : Fld Z h0 a1 "com/example/kinetic_city/kineticcity/engine/CostQueue" "costs" "[D" (.ref cA)) (V_cA : Arv Z h0 cA kA .double (16 : Int32) [(.double (FP.l2d (F i0))), (.double (FP.l2d (F i1))), (.double (FP.l2d (F i2))), (.double (FP.l2d 0)), (.double (FP.l2d 0))] (.double (FP.l2d 0))) (V_nA : Arv Z h0 nA kN .int 16 [(.int (N i0)), (.int (N i1)), (.int (N i2)), (.int 0), (.int 0)] (.int 0)) :
    Con l Z (⟨"com/example/kinetic_city/kineticcity/engine/CostQueue", "add", "(ID)V"⟩ : MethodName) prog_5_method_3_code 6 none ws ({ frames := 0, cells := 0, slots := 0, locals := 0 } : Room) #[(.ref a1), (.int (N i)), (.double (FP.l2d (F i)))] h0 (fun v h L => v = none ∧ Fr n0 L ∧ Keep h0 h [a1, cA, nA] ∧ Exa Z h a1 "com/example/kinetic_city/kineticcity/engine/CostQueue" ∧ Fld Z h a1 "com/example/kinetic_city/kineticcity/engine/CostQueue" "size" "I" (.int 4) ∧ Fld Z h a1 "com/example/kinetic_city/kineticcity/engine/CostQueue" "items" "[I" (.ref nA) ∧ Fld Z h a1 "com/example/kinetic_city/kineticcity/engine/CostQueue" "costs" "[D" (.ref cA) ∧ ∃ j0 j1 j2 j3 : Int32, (∀ w : Int32 → Int, w j0 + w j1 + w j2 + w j3 = w i0 + w i1 + w i2 + w i) ∧ (F j0).toInt ≤ (F j1).toInt ∧ (F j0).toInt ≤ (F j2).toInt ∧ (F j1).toInt ≤ (F j3).toInt ∧ Arv Z h cA kA .double (16 : Int32) [(.double (FP.l2d (F j0))), (.double (FP.l2d (F j1))), (.double (FP.l2d (F j2))), (.double (FP.l2d (F j3))), (.double (FP.l2d 0))] (.double (FP.l2d 0)) ∧ Arv Z h nA kN .int 16 [(.int (N j0)), (.int (N j1)), (.int (N j2)), (.int (N j3)), (.int 0)] (.int 0)) := by
  refine own_body (plainFor_of_name pn_com_example_kinetic_city_kineticcity_engine_CostQueue) ?_
  intro p e s m below meth c s₁ hx hby hml hZ hown hnm hlk hret X0 e0
  have N0 := Fr.nil n0
  have K0 : Keep h0 h0 [a1, cA, nA] := Keep.refl _ _
  refine Go.st (T' := s₁) (f' := (mkF m 0 #[rv a1, .val (.int (N i)), .val (.double (FP.l2d (F i))), .second, .unset, .unset] [])) (fun _ k => castTop (by first | (simp [entryFrame, mkF, argsToLocals, Value.category]; done) | rfl) k) ?_
  have lt_a1 := E_a1.lt
  have lt_cA := V_cA.lt
  have lt_nA := V_nA.lt
  have nn : cA ≠ nA := own_neArv V_cA V_nA (by decide)
  have nt_a1_cA : a1 ≠ cA := Exa.neArv E_a1 V_cA (ww hw 2 rfl)
  have nt_a1_nA : a1 ≠ nA := Exa.neArv E_a1 V_nA (ww hw 2 rfl)
  refine Go.st (f' := (mkF m 1 #[rv a1, .val (.int (N i)), .val (.double (FP.l2d (F i))), .second, .unset, .unset] [(.ref a1)])) (fun _ k => XS.aloadN X0.here hx rfl (hb hby d3_0) rfl rfl k) ?_
  obtain ⟨T1, X1, e1, st1⟩ := getF X0 hx hZ hown (host := "") (Or.inl (ww hw 20 rfl)) Via.refl e0 F_a1_size (g := (mkF m 1 #[rv a1, .val (.int (N i)), .val (.double (FP.l2d (F i))), .second, .unset, .unset] [(.ref a1)])) rfl rfl (hb hby d3_1)
  refine Go.st (f' := (mkF m 4 #[rv a1, .val (.int (N i)), .val (.double (FP.l2d (F i))), .second, .unset, .unset] [(.int 3)])) (fun _ k => st1 _ k) ?_
  refine Go.st (f' := (mkF m 5 #[rv a1, .val (.int (N i)), .val (.double (FP.l2d (F i))), .second, .unset, .unset] [(.ref a1), (.int 3)])) (fun _ k => XS.aloadN X1.here hx rfl (hb hby d3_4) rfl rfl k) ?_
  obtain ⟨T2, X2, e2, st2⟩ := getF X1 hx hZ hown (host := "") (Or.inl (ww hw 10 rfl)) Via.refl e1 F_a1_costs (g := (mkF m 5 #[rv a1, .val (.int (N i)), .val (.double (FP.l2d (F i))), .second, .unset, .unset] [(.ref a1), (.int 3)])) rfl rfl (hb hby d3_5)
  refine Go.st (f' := (mkF m 8 #[rv a1, .val (.int (N i)), .val (.double (FP.l2d (F i))), .second, .unset, .unset] [(.ref cA), (.int 3)])) (fun _ k => st2 _ k) ?_
  obtain ⟨cl3, Ar3, -, S3, Nx3, -, -⟩ := id V_cA
  refine Go.st (T' := T2) (f' := (mkF m 9 #[rv a1, .val (.int (N i)), .val (.double (FP.l2d (F i))), .second, .unset, .unset] [(.int 16), (.int 3)])) (fun _ k => X2.arraylength hx (by rw [e2]; exact Ar3.1) (State.isArrayOf_alike hZ.alike Ar3.2.1) (g := (mkF m 8 #[rv a1, .val (.int (N i)), .val (.double (FP.l2d (F i))), .second, .unset, .unset] [(.ref cA), (.int 3)])) rfl rfl (hb hby d3_8) _ (by rw [len_of S3 Nx3]; exact k)) ?_
  refine Go.st (f' := (mkF m 46 #[rv a1, .val (.int (N i)), .val (.double (FP.l2d (F i))), .second, .unset, .unset] [])) (fun _ k => XS.icmpYes X2.here hx rfl (pc0 := 9) (pc' := 46) rfl (hb hby d3_9) rfl (by decide) (by decide) (by decide) k) ?_
  refine Go.st (f' := (mkF m 47 #[rv a1, .val (.int (N i)), .val (.double (FP.l2d (F i))), .second, .unset, .unset] [(.ref a1)])) (fun _ k => XS.aloadN X2.here hx rfl (hb hby d3_46) rfl rfl k) ?_
  obtain ⟨T4, X4, e4, st4⟩ := getF X2 hx hZ hown (host := "") (Or.inl (ww hw 20 rfl)) Via.refl e2 F_a1_size (g := (mkF m 47 #[rv a1, .val (.int (N i)), .val (.double (FP.l2d (F i))), .second, .unset, .unset] [(.ref a1)])) rfl rfl (hb hby d3_47)
  refine Go.st (f' := (mkF m 50 #[rv a1, .val (.int (N i)), .val (.double (FP.l2d (F i))), .second, .unset, .unset] [(.int 3)])) (fun _ k => st4 _ k) ?_
  refine Go.st (f' := (mkF m 52 #[rv a1, .val (.int (N i)), .val (.double (FP.l2d (F i))), .second, iv 3, .unset] [])) (fun _ k => XS.istore X4.here hx rfl (hb hby d3_50) rfl (l' := #[rv a1, .val (.int (N i)), .val (.double (FP.l2d (F i))), .second, iv 3, .unset]) rfl k) ?_
  refine Go.st (f' := (mkF m 53 #[rv a1, .val (.int (N i)), .val (.double (FP.l2d (F i))), .second, iv 3, .unset] [(.ref a1)])) (fun _ k => XS.aloadN X4.here hx rfl (hb hby d3_52) rfl rfl k) ?_
  refine Go.st (f' := (mkF m 54 #[rv a1, .val (.int (N i)), .val (.double (FP.l2d (F i))), .second, iv 3, .unset] [(.ref a1), (.ref a1)])) (fun _ k => XS.dup X4.here hx rfl (hb hby d3_53) rfl rfl k) ?_
  obtain ⟨T5, X5, e5, st5⟩ := getF X4 hx hZ hown (host := "") (Or.inl (ww hw 20 rfl)) Via.refl e4 F_a1_size (g := (mkF m 54 #[rv a1, .val (.int (N i)), .val (.double (FP.l2d (F i))), .second, iv 3, .unset] [(.ref a1), (.ref a1)])) rfl rfl (hb hby d3_54)
  refine Go.st (f' := (mkF m 57 #[rv a1, .val (.int (N i)), .val (.double (FP.l2d (F i))), .second, iv 3, .unset] [(.int 3), (.ref a1)])) (fun _ k => st5 _ k) ?_
  refine Go.st (f' := (mkF m 58 #[rv a1, .val (.int (N i)), .val (.double (FP.l2d (F i))), .second, iv 3, .unset] [(.int 1), (.int 3), (.ref a1)])) (fun _ k => XS.iconst X5.here hx rfl (hb hby d3_57) k) ?_
  refine Go.st (f' := (mkF m 59 #[rv a1, .val (.int (N i)), .val (.double (FP.l2d (F i))), .second, iv 3, .unset] [(.int 4), (.ref a1)])) (fun _ k => XS.iadd X5.here hx rfl (hb hby d3_58) rfl k) ?_
  obtain ⟨T6, h6, X6, e6, W6, st6⟩ := putF X5 hx hZ hown (host := "") (Or.inl (ww hw 20 rfl)) Via.refl e5 F_a1_size E_a1 (Or.inl (ww hw 21 rfl)) (ww hw 2 rfl) (ty := .int) (by decide) rfl rfl (g := (mkF m 59 #[rv a1, .val (.int (N i)), .val (.double (FP.l2d (F i))), .second, iv 3, .unset] [(.int 4), (.ref a1)])) rfl rfl (hb hby d3_59)
  have N6 := Fr.snoc X6 N0 g_a1
  have O6 : Old Z n0 h6 := O0.wr W6 g_a1
  have K6 : Keep h0 h6 [a1, cA, nA] := K0.wr W6 (Or.inl (List.mem_of_getElem? (i := 0) rfl))
  have Fw6 := F_a1_size.same W6
  refine Go.st (f' := (mkF m 62 #[rv a1, .val (.int (N i)), .val (.double (FP.l2d (F i))), .second, iv 3, .unset] [])) (fun _ k => st6 _ k) ?_
  refine Go.st (f' := (mkF m 64 #[rv a1, .val (.int (N i)), .val (.double (FP.l2d (F i))), .second, iv 3, .unset] [(.int 3)])) (fun _ k => XS.iload X6.here hx rfl (hb hby d3_62) rfl k) ?_
  refine Go.st (f' := (mkF m 67 #[rv a1, .val (.int (N i)), .val (.double (FP.l2d (F i))), .second, iv 3, .unset] [])) (fun _ k => XS.ifNo X6.here hx rfl (hb hby d3_64) rfl (by decide) k) ?_
  refine Go.st (f' := (mkF m 68 #[rv a1, .val (.int (N i)), .val (.double (FP.l2d (F i))), .second, iv 3, .unset] [(.ref a1)])) (fun _ k => XS.aloadN X6.here hx rfl (hb hby d3_67) rfl rfl k) ?_
  have ft7 := (F_a1_costs.other W6 (Or.inr (slot_ne (Or.inl (ww hw 11 rfl)) (Or.inl (ww hw 21 rfl)) (by decide) (t := (.array .double)) (t' := .int) (by decide) (by decide))))
  obtain ⟨T8, X8, e8, st8⟩ := getF X6 hx hZ hown (host := "") (Or.inl (ww hw 10 rfl)) Via.refl e6 ft7 (g := (mkF m 68 #[rv a1, .val (.int (N i)), .val (.double (FP.l2d (F i))), .second, iv 3, .unset] [(.ref a1)])) rfl rfl (hb hby d3_68)
  refine Go.st (f' := (mkF m 71 #[rv a1, .val (.int (N i)), .val (.double (FP.l2d (F i))), .second, iv 3, .unset] [(.ref cA)])) (fun _ k => st8 _ k) ?_
  refine Go.st (f' := (mkF m 73 #[rv a1, .val (.int (N i)), .val (.double (FP.l2d (F i))), .second, iv 3, .unset] [(.int 3), (.ref cA)])) (fun _ k => XS.iload X8.here hx rfl (hb hby d3_71) rfl k) ?_
  refine Go.st (f' := (mkF m 74 #[rv a1, .val (.int (N i)), .val (.double (FP.l2d (F i))), .second, iv 3, .unset] [(.int 1), (.int 3), (.ref cA)])) (fun _ k => XS.iconst X8.here hx rfl (hb hby d3_73) k) ?_
  refine Go.st (f' := (mkF m 75 #[rv a1, .val (.int (N i)), .val (.double (FP.l2d (F i))), .second, iv 3, .unset] [(.int 2), (.ref cA)])) (fun _ k => XS.isub X8.here hx rfl (hb hby d3_74) rfl k) ?_
  refine Go.st (f' := (mkF m 76 #[rv a1, .val (.int (N i)), .val (.double (FP.l2d (F i))), .second, iv 3, .unset] [(.int 2), (.int 2), (.ref cA)])) (fun _ k => XS.iconst X8.here hx rfl (hb hby d3_75) k) ?_
  refine Go.st (f' := (mkF m 77 #[rv a1, .val (.int (N i)), .val (.double (FP.l2d (F i))), .second, iv 3, .unset] [(.int 1), (.ref cA)])) (fun _ k => XS.idiv X8.here hx rfl (hb hby d3_76) rfl (by decide) k) ?_
  have ft10 := (V_cA.other W6 (Ne.symm nt_a1_cA))
  obtain ⟨cl9, Ar9, -, S9, -, H9, -⟩ := id ft10
  have hin9 : ¬ ((1 : Int32) < 0 ∨ cl9.slots.size ≤ ((1 : Int32)).toNatClampNeg) := inb_of S9 ⟨by decide, by decide⟩
  have hat9 : cl9.slots[((1 : Int32)).toNatClampNeg]? = some (.double (FP.l2d (F i1))) := H9.at hin9 rfl
  refine Go.st (f' := (mkF m 78 #[rv a1, .val (.int (N i)), .val (.double (FP.l2d (F i))), .second, iv 3, .unset] [(.double (FP.l2d (F i1)))])) (fun _ k => X8.daload hx (j := (1 : Int32)) (v := (.double (FP.l2d (F i1)))) (by rw [e8]; exact Ar9.1) (State.isArrayOf_alike hZ.alike Ar9.2.1) Ar9.2.2 hin9 hat9 (g := (mkF m 77 #[rv a1, .val (.int (N i)), .val (.double (FP.l2d (F i))), .second, iv 3, .unset] [(.int 1), (.ref cA)])) rfl rfl (hb hby d3_77) _ k) ?_
  refine Go.st (f' := (mkF m 79 #[rv a1, .val (.int (N i)), .val (.double (FP.l2d (F i))), .second, iv 3, .unset] [(.double (FP.l2d (F i))), (.double (FP.l2d (F i1)))])) (fun _ k => XS.dloadN X8.here hx rfl (hb hby d3_78) rfl k) ?_
  refine Go.st (f' := (mkF m 80 #[rv a1, .val (.int (N i)), .val (.double (FP.l2d (F i))), .second, iv 3, .unset] [(.int (lcmpW (F i1) (F i)))])) (fun _ k => XS.dcmpS X8.here hx rfl (hb hby d3_79) rfl (dcmpV_w (hF _) (hF _) _) k) ?_
  by_cases cd11 : (0 : Int32) < (lcmpW (F i1) (F i))
  · refine Go.st (f' := (mkF m 83 #[rv a1, .val (.int (N i)), .val (.double (FP.l2d (F i))), .second, iv 3, .unset] [])) (fun _ k => XS.ifNo X8.here hx rfl (hb hby d3_80) rfl ((if0 _ _).trans (tlt cd11).2.2.2) k) ?_
    refine Go.st (f' := (mkF m 85 #[rv a1, .val (.int (N i)), .val (.double (FP.l2d (F i))), .second, iv 3, .unset] [(.int 3)])) (fun _ k => XS.iload X8.here hx rfl (hb hby d3_83) rfl k) ?_
    refine Go.st (f' := (mkF m 86 #[rv a1, .val (.int (N i)), .val (.double (FP.l2d (F i))), .second, iv 3, .unset] [(.int 1), (.int 3)])) (fun _ k => XS.iconst X8.here hx rfl (hb hby d3_85) k) ?_
    refine Go.st (f' := (mkF m 87 #[rv a1, .val (.int (N i)), .val (.double (FP.l2d (F i))), .second, iv 3, .unset] [(.int 2)])) (fun _ k => XS.isub X8.here hx rfl (hb hby d3_86) rfl k) ?_
    refine Go.st (f' := (mkF m 88 #[rv a1, .val (.int (N i)), .val (.double (FP.l2d (F i))), .second, iv 3, .unset] [(.int 2), (.int 2)])) (fun _ k => XS.iconst X8.here hx rfl (hb hby d3_87) k) ?_
    refine Go.st (f' := (mkF m 89 #[rv a1, .val (.int (N i)), .val (.double (FP.l2d (F i))), .second, iv 3, .unset] [(.int 1)])) (fun _ k => XS.idiv X8.here hx rfl (hb hby d3_88) rfl (by decide) k) ?_
    refine Go.st (f' := (mkF m 91 #[rv a1, .val (.int (N i)), .val (.double (FP.l2d (F i))), .second, iv 3, iv 1] [])) (fun _ k => XS.istore X8.here hx rfl (hb hby d3_89) rfl (l' := #[rv a1, .val (.int (N i)), .val (.double (FP.l2d (F i))), .second, iv 3, iv 1]) rfl k) ?_
    refine Go.st (f' := (mkF m 92 #[rv a1, .val (.int (N i)), .val (.double (FP.l2d (F i))), .second, iv 3, iv 1] [(.ref a1)])) (fun _ k => XS.aloadN X8.here hx rfl (hb hby d3_91) rfl rfl k) ?_
    obtain ⟨T12, X12, e12, st12⟩ := getF X8 hx hZ hown (host := "") (Or.inl (ww hw 10 rfl)) Via.refl e8 ft7 (g := (mkF m 92 #[rv a1, .val (.int (N i)), .val (.double (FP.l2d (F i))), .second, iv 3, iv 1] [(.ref a1)])) rfl rfl (hb hby d3_92)
    refine Go.st (f' := (mkF m 95 #[rv a1, .val (.int (N i)), .val (.double (FP.l2d (F i))), .second, iv 3, iv 1] [(.ref cA)])) (fun _ k => st12 _ k) ?_
    refine Go.st (f' := (mkF m 97 #[rv a1, .val (.int (N i)), .val (.double (FP.l2d (F i))), .second, iv 3, iv 1] [(.int 3), (.ref cA)])) (fun _ k => XS.iload X12.here hx rfl (hb hby d3_95) rfl k) ?_
    refine Go.st (f' := (mkF m 98 #[rv a1, .val (.int (N i)), .val (.double (FP.l2d (F i))), .second, iv 3, iv 1] [(.ref a1), (.int 3), (.ref cA)])) (fun _ k => XS.aloadN X12.here hx rfl (hb hby d3_97) rfl rfl k) ?_
    obtain ⟨T13, X13, e13, st13⟩ := getF X12 hx hZ hown (host := "") (Or.inl (ww hw 10 rfl)) Via.refl e12 ft7 (g := (mkF m 98 #[rv a1, .val (.int (N i)), .val (.double (FP.l2d (F i))), .second, iv 3, iv 1] [(.ref a1), (.int 3), (.ref cA)])) rfl rfl (hb hby d3_98)
    refine Go.st (f' := (mkF m 101 #[rv a1, .val (.int (N i)), .val (.double (FP.l2d (F i))), .second, iv 3, iv 1] [(.ref cA), (.int 3), (.ref cA)])) (fun _ k => st13 _ k) ?_
    refine Go.st (f' := (mkF m 103 #[rv a1, .val (.int (N i)), .val (.double (FP.l2d (F i))), .second, iv 3, iv 1] [(.int 1), (.ref cA), (.int 3), (.ref cA)])) (fun _ k => XS.iload X13.here hx rfl (hb hby d3_101) rfl k) ?_
    obtain ⟨cl14, Ar14, -, S14, -, H14, -⟩ := id ft10
    have hin14 : ¬ ((1 : Int32) < 0 ∨ cl14.slots.size ≤ ((1 : Int32)).toNatClampNeg) := inb_of S14 ⟨by decide, by decide⟩
    have hat14 : cl14.slots[((1 : Int32)).toNatClampNeg]? = some (.double (FP.l2d (F i1))) := H14.at hin14 rfl
    refine Go.st (f' := (mkF m 104 #[rv a1, .val (.int (N i)), .val (.double (FP.l2d (F i))), .second, iv 3, iv 1] [(.double (FP.l2d (F i1))), (.int 3), (.ref cA)])) (fun _ k => X13.daload hx (j := (1 : Int32)) (v := (.double (FP.l2d (F i1)))) (by rw [e13]; exact Ar14.1) (State.isArrayOf_alike hZ.alike Ar14.2.1) Ar14.2.2 hin14 hat14 (g := (mkF m 103 #[rv a1, .val (.int (N i)), .val (.double (FP.l2d (F i))), .second, iv 3, iv 1] [(.int 1), (.ref cA), (.int 3), (.ref cA)])) rfl rfl (hb hby d3_103) _ k) ?_
    obtain ⟨cl15, Ar15, q15, S15, Nx15, H15, G15⟩ := id ft10
    have hin15 : ¬ ((3 : Int32) < 0 ∨ cl15.slots.size ≤ ((3 : Int32)).toNatClampNeg) := inb_of S15 ⟨by decide, by decide⟩
    obtain ⟨T16, h16, X16, e16, W16, st16⟩ := stD X13 hx hZ e13 Ar15 (j := (3 : Int32)) hin15 (g := (mkF m 104 #[rv a1, .val (.int (N i)), .val (.double (FP.l2d (F i))), .second, iv 3, iv 1] [(.double (FP.l2d (F i1))), (.int 3), (.ref cA)])) rfl rfl (hb hby d3_104)
    have V_cA_16 : Arv Z h16 cA kA .double (16 : Int32) [(.double (FP.l2d (F i0))), (.double (FP.l2d (F i1))), (.double (FP.l2d (F i2))), (.double (FP.l2d (F i1))), (.double (FP.l2d 0))] (.double (FP.l2d 0)) := Arv.set Ar15 q15 S15 Nx15 H15 G15 rfl W16 3 rfl (Nat.le_of_ble_eq_true rfl)
    have N16 := Fr.snoc X16 N6 g_cA
    have O16 : Old Z n0 h16 := O6.wr W16 g_cA
    have K16 : Keep h0 h16 [a1, cA, nA] := K6.wr W16 (Or.inl (List.mem_of_getElem? (i := 1) rfl))
    refine Go.st (f' := (mkF m 105 #[rv a1, .val (.int (N i)), .val (.double (FP.l2d (F i))), .second, iv 3, iv 1] [])) (fun _ k => st16 _ k) ?_
    refine Go.st (f' := (mkF m 106 #[rv a1, .val (.int (N i)), .val (.double (FP.l2d (F i))), .second, iv 3, iv 1] [(.ref a1)])) (fun _ k => XS.aloadN X16.here hx rfl (hb hby d3_105) rfl rfl k) ?_
    have ft17 := ((F_a1_items.other W6 (Or.inr (slot_ne (Or.inl (ww hw 14 rfl)) (Or.inl (ww hw 21 rfl)) (by decide) (t := (.array .int)) (t' := .int) (by decide) (by decide)))).other W16 (Or.inl nt_a1_cA))
    obtain ⟨T18, X18, e18, st18⟩ := getF X16 hx hZ hown (host := "") (Or.inl (ww hw 13 rfl)) Via.refl e16 ft17 (g := (mkF m 106 #[rv a1, .val (.int (N i)), .val (.double (FP.l2d (F i))), .second, iv 3, iv 1] [(.ref a1)])) rfl rfl (hb hby d3_106)
    refine Go.st (f' := (mkF m 109 #[rv a1, .val (.int (N i)), .val (.double (FP.l2d (F i))), .second, iv 3, iv 1] [(.ref nA)])) (fun _ k => st18 _ k) ?_
    refine Go.st (f' := (mkF m 111 #[rv a1, .val (.int (N i)), .val (.double (FP.l2d (F i))), .second, iv 3, iv 1] [(.int 3), (.ref nA)])) (fun _ k => XS.iload X18.here hx rfl (hb hby d3_109) rfl k) ?_
    refine Go.st (f' := (mkF m 112 #[rv a1, .val (.int (N i)), .val (.double (FP.l2d (F i))), .second, iv 3, iv 1] [(.ref a1), (.int 3), (.ref nA)])) (fun _ k => XS.aloadN X18.here hx rfl (hb hby d3_111) rfl rfl k) ?_
    obtain ⟨T19, X19, e19, st19⟩ := getF X18 hx hZ hown (host := "") (Or.inl (ww hw 13 rfl)) Via.refl e18 ft17 (g := (mkF m 112 #[rv a1, .val (.int (N i)), .val (.double (FP.l2d (F i))), .second, iv 3, iv 1] [(.ref a1), (.int 3), (.ref nA)])) rfl rfl (hb hby d3_112)
    refine Go.st (f' := (mkF m 115 #[rv a1, .val (.int (N i)), .val (.double (FP.l2d (F i))), .second, iv 3, iv 1] [(.ref nA), (.int 3), (.ref nA)])) (fun _ k => st19 _ k) ?_
    refine Go.st (f' := (mkF m 117 #[rv a1, .val (.int (N i)), .val (.double (FP.l2d (F i))), .second, iv 3, iv 1] [(.int 1), (.ref nA), (.int 3), (.ref nA)])) (fun _ k => XS.iload X19.here hx rfl (hb hby d3_115) rfl k) ?_
    have ft21 := ((V_nA.other W6 (Ne.symm nt_a1_nA)).other W16 (Ne.symm nn))
    obtain ⟨cl20, Ar20, -, S20, -, H20, -⟩ := id ft21
    have hin20 : ¬ ((1 : Int32) < 0 ∨ cl20.slots.size ≤ ((1 : Int32)).toNatClampNeg) := inb_of S20 ⟨by decide, by decide⟩
    have hat20 : cl20.slots[((1 : Int32)).toNatClampNeg]? = some (.int (N i1)) := H20.at hin20 rfl
    refine Go.st (f' := (mkF m 118 #[rv a1, .val (.int (N i)), .val (.double (FP.l2d (F i))), .second, iv 3, iv 1] [(.int (N i1)), (.int 3), (.ref nA)])) (fun _ k => X19.iaload hx (j := (1 : Int32)) (v := (.int (N i1))) (by rw [e19]; exact Ar20.1) (State.isArrayOf_alike hZ.alike Ar20.2.1) Ar20.2.2 hin20 hat20 (g := (mkF m 117 #[rv a1, .val (.int (N i)), .val (.double (FP.l2d (F i))), .second, iv 3, iv 1] [(.int 1), (.ref nA), (.int 3), (.ref nA)])) rfl rfl (hb hby d3_117) _ k) ?_
    obtain ⟨cl22, Ar22, q22, S22, Nx22, H22, G22⟩ := id ft21
    have hin22 : ¬ ((3 : Int32) < 0 ∨ cl22.slots.size ≤ ((3 : Int32)).toNatClampNeg) := inb_of S22 ⟨by decide, by decide⟩
    obtain ⟨T23, h23, X23, e23, W23, st23⟩ := stI X19 hx hZ e19 Ar22 (j := (3 : Int32)) hin22 (g := (mkF m 118 #[rv a1, .val (.int (N i)), .val (.double (FP.l2d (F i))), .second, iv 3, iv 1] [(.int (N i1)), (.int 3), (.ref nA)])) rfl rfl (hb hby d3_118)
    have V_nA_23 : Arv Z h23 nA kN .int (16 : Int32) [(.int (N i0)), (.int (N i1)), (.int (N i2)), (.int (N i1)), (.int (0 : Int32))] (.int (0 : Int32)) := Arv.set Ar22 q22 S22 Nx22 H22 G22 rfl W23 3 rfl (Nat.le_of_ble_eq_true rfl)
    have N23 := Fr.snoc X23 N16 g_nA
    have O23 : Old Z n0 h23 := O16.wr W23 g_nA
    have K23 : Keep h0 h23 [a1, cA, nA] := K16.wr W23 (Or.inl (List.mem_of_getElem? (i := 2) rfl))
    refine Go.st (f' := (mkF m 119 #[rv a1, .val (.int (N i)), .val (.double (FP.l2d (F i))), .second, iv 3, iv 1] [])) (fun _ k => st23 _ k) ?_
    refine Go.st (f' := (mkF m 121 #[rv a1, .val (.int (N i)), .val (.double (FP.l2d (F i))), .second, iv 3, iv 1] [(.int 1)])) (fun _ k => XS.iload X23.here hx rfl (hb hby d3_119) rfl k) ?_
    refine Go.st (f' := (mkF m 123 #[rv a1, .val (.int (N i)), .val (.double (FP.l2d (F i))), .second, iv 1, iv 1] [])) (fun _ k => XS.istore X23.here hx rfl (hb hby d3_121) rfl (l' := #[rv a1, .val (.int (N i)), .val (.double (FP.l2d (F i))), .second, iv 1, iv 1]) rfl k) ?_
    refine Go.st (f' := (mkF m 62 #[rv a1, .val (.int (N i)), .val (.double (FP.l2d (F i))), .second, iv 1, iv 1] [])) (fun _ k => XS.goto X23.here hx rfl (pc0 := 123) (pc' := 62) rfl (hb hby d3_123) (by decide) (by decide) k) ?_
    refine Go.st (f' := (mkF m 64 #[rv a1, .val (.int (N i)), .val (.double (FP.l2d (F i))), .second, iv 1, iv 1] [(.int 1)])) (fun _ k => XS.iload X23.here hx rfl (hb hby d3_62) rfl k) ?_
    refine Go.st (f' := (mkF m 67 #[rv a1, .val (.int (N i)), .val (.double (FP.l2d (F i))), .second, iv 1, iv 1] [])) (fun _ k => XS.ifNo X23.here hx rfl (hb hby d3_64) rfl (by decide) k) ?_
    refine Go.st (f' := (mkF m 68 #[rv a1, .val (.int (N i)), .val (.double (FP.l2d (F i))), .second, iv 1, iv 1] [(.ref a1)])) (fun _ k => XS.aloadN X23.here hx rfl (hb hby d3_67) rfl rfl k) ?_
    have ft24 := ((ft7.other W16 (Or.inl nt_a1_cA)).other W23 (Or.inl nt_a1_nA))
    obtain ⟨T25, X25, e25, st25⟩ := getF X23 hx hZ hown (host := "") (Or.inl (ww hw 10 rfl)) Via.refl e23 ft24 (g := (mkF m 68 #[rv a1, .val (.int (N i)), .val (.double (FP.l2d (F i))), .second, iv 1, iv 1] [(.ref a1)])) rfl rfl (hb hby d3_68)
    refine Go.st (f' := (mkF m 71 #[rv a1, .val (.int (N i)), .val (.double (FP.l2d (F i))), .second, iv 1, iv 1] [(.ref cA)])) (fun _ k => st25 _ k) ?_
    refine Go.st (f' := (mkF m 73 #[rv a1, .val (.int (N i)), .val (.double (FP.l2d (F i))), .second, iv 1, iv 1] [(.int 1), (.ref cA)])) (fun _ k => XS.iload X25.here hx rfl (hb hby d3_71) rfl k) ?_
    refine Go.st (f' := (mkF m 74 #[rv a1, .val (.int (N i)), .val (.double (FP.l2d (F i))), .second, iv 1, iv 1] [(.int 1), (.int 1), (.ref cA)])) (fun _ k => XS.iconst X25.here hx rfl (hb hby d3_73) k) ?_
    refine Go.st (f' := (mkF m 75 #[rv a1, .val (.int (N i)), .val (.double (FP.l2d (F i))), .second, iv 1, iv 1] [(.int 0), (.ref cA)])) (fun _ k => XS.isub X25.here hx rfl (hb hby d3_74) rfl k) ?_
    refine Go.st (f' := (mkF m 76 #[rv a1, .val (.int (N i)), .val (.double (FP.l2d (F i))), .second, iv 1, iv 1] [(.int 2), (.int 0), (.ref cA)])) (fun _ k => XS.iconst X25.here hx rfl (hb hby d3_75) k) ?_
    refine Go.st (f' := (mkF m 77 #[rv a1, .val (.int (N i)), .val (.double (FP.l2d (F i))), .second, iv 1, iv 1] [(.int 0), (.ref cA)])) (fun _ k => XS.idiv X25.here hx rfl (hb hby d3_76) rfl (by decide) k) ?_
    have ft27 := (V_cA_16.other W23 nn)
    obtain ⟨cl26, Ar26, -, S26, -, H26, -⟩ := id ft27
    have hin26 : ¬ ((0 : Int32) < 0 ∨ cl26.slots.size ≤ ((0 : Int32)).toNatClampNeg) := inb_of S26 ⟨by decide, by decide⟩
    have hat26 : cl26.slots[((0 : Int32)).toNatClampNeg]? = some (.double (FP.l2d (F i0))) := H26.at hin26 rfl
    refine Go.st (f' := (mkF m 78 #[rv a1, .val (.int (N i)), .val (.double (FP.l2d (F i))), .second, iv 1, iv 1] [(.double (FP.l2d (F i0)))])) (fun _ k => X25.daload hx (j := (0 : Int32)) (v := (.double (FP.l2d (F i0)))) (by rw [e25]; exact Ar26.1) (State.isArrayOf_alike hZ.alike Ar26.2.1) Ar26.2.2 hin26 hat26 (g := (mkF m 77 #[rv a1, .val (.int (N i)), .val (.double (FP.l2d (F i))), .second, iv 1, iv 1] [(.int 0), (.ref cA)])) rfl rfl (hb hby d3_77) _ k) ?_
    refine Go.st (f' := (mkF m 79 #[rv a1, .val (.int (N i)), .val (.double (FP.l2d (F i))), .second, iv 1, iv 1] [(.double (FP.l2d (F i))), (.double (FP.l2d (F i0)))])) (fun _ k => XS.dloadN X25.here hx rfl (hb hby d3_78) rfl k) ?_
    refine Go.st (f' := (mkF m 80 #[rv a1, .val (.int (N i)), .val (.double (FP.l2d (F i))), .second, iv 1, iv 1] [(.int (lcmpW (F i0) (F i)))])) (fun _ k => XS.dcmpS X25.here hx rfl (hb hby d3_79) rfl (dcmpV_w (hF _) (hF _) _) k) ?_
    by_cases cd28 : (0 : Int32) < (lcmpW (F i0) (F i))
    · refine Go.st (f' := (mkF m 83 #[rv a1, .val (.int (N i)), .val (.double (FP.l2d (F i))), .second, iv 1, iv 1] [])) (fun _ k => XS.ifNo X25.here hx rfl (hb hby d3_80) rfl ((if0 _ _).trans (tlt cd28).2.2.2) k) ?_
      refine Go.st (f' := (mkF m 85 #[rv a1, .val (.int (N i)), .val (.double (FP.l2d (F i))), .second, iv 1, iv 1] [(.int 1)])) (fun _ k => XS.iload X25.here hx rfl (hb hby d3_83) rfl k) ?_
      refine Go.st (f' := (mkF m 86 #[rv a1, .val (.int (N i)), .val (.double (FP.l2d (F i))), .second, iv 1, iv 1] [(.int 1), (.int 1)])) (fun _ k => XS.iconst X25.here hx rfl (hb hby d3_85) k) ?_
      refine Go.st (f' := (mkF m 87 #[rv a1, .val (.int (N i)), .val (.double (FP.l2d (F i))), .second, iv 1, iv 1] [(.int 0)])) (fun _ k => XS.isub X25.here hx rfl (hb hby d3_86) rfl k) ?_
      refine Go.st (f' := (mkF m 88 #[rv a1, .val (.int (N i)), .val (.double (FP.l2d (F i))), .second, iv 1, iv 1] [(.int 2), (.int 0)])) (fun _ k => XS.iconst X25.here hx rfl (hb hby d3_87) k) ?_
      refine Go.st (f' := (mkF m 89 #[rv a1, .val (.int (N i)), .val (.double (FP.l2d (F i))), .second, iv 1, iv 1] [(.int 0)])) (fun _ k => XS.idiv X25.here hx rfl (hb hby d3_88) rfl (by decide) k) ?_
      refine Go.st (f' := (mkF m 91 #[rv a1, .val (.int (N i)), .val (.double (FP.l2d (F i))), .second, iv 1, iv 0] [])) (fun _ k => XS.istore X25.here hx rfl (hb hby d3_89) rfl (l' := #[rv a1, .val (.int (N i)), .val (.double (FP.l2d (F i))), .second, iv 1, iv 0]) rfl k) ?_
      refine Go.st (f' := (mkF m 92 #[rv a1, .val (.int (N i)), .val (.double (FP.l2d (F i))), .second, iv 1, iv 0] [(.ref a1)])) (fun _ k => XS.aloadN X25.here hx rfl (hb hby d3_91) rfl rfl k) ?_
      obtain ⟨T29, X29, e29, st29⟩ := getF X25 hx hZ hown (host := "") (Or.inl (ww hw 10 rfl)) Via.refl e25 ft24 (g := (mkF m 92 #[rv a1, .val (.int (N i)), .val (.double (FP.l2d (F i))), .second, iv 1, iv 0] [(.ref a1)])) rfl rfl (hb hby d3_92)
      refine Go.st (f' := (mkF m 95 #[rv a1, .val (.int (N i)), .val (.double (FP.l2d (F i))), .second, iv 1, iv 0] [(.ref cA)])) (fun _ k => st29 _ k) ?_
      refine Go.st (f' := (mkF m 97 #[rv a1, .val (.int (N i)), .val (.double (FP.l2d (F i))), .second, iv 1, iv 0] [(.int 1), (.ref cA)])) (fun _ k => XS.iload X29.here hx rfl (hb hby d3_95) rfl k) ?_
      refine Go.st (f' := (mkF m 98 #[rv a1, .val (.int (N i)), .val (.double (FP.l2d (F i))), .second, iv 1, iv 0] [(.ref a1), (.int 1), (.ref cA)])) (fun _ k => XS.aloadN X29.here hx rfl (hb hby d3_97) rfl rfl k) ?_
      obtain ⟨T30, X30, e30, st30⟩ := getF X29 hx hZ hown (host := "") (Or.inl (ww hw 10 rfl)) Via.refl e29 ft24 (g := (mkF m 98 #[rv a1, .val (.int (N i)), .val (.double (FP.l2d (F i))), .second, iv 1, iv 0] [(.ref a1), (.int 1), (.ref cA)])) rfl rfl (hb hby d3_98)
      refine Go.st (f' := (mkF m 101 #[rv a1, .val (.int (N i)), .val (.double (FP.l2d (F i))), .second, iv 1, iv 0] [(.ref cA), (.int 1), (.ref cA)])) (fun _ k => st30 _ k) ?_
      refine Go.st (f' := (mkF m 103 #[rv a1, .val (.int (N i)), .val (.double (FP.l2d (F i))), .second, iv 1, iv 0] [(.int 0), (.ref cA), (.int 1), (.ref cA)])) (fun _ k => XS.iload X30.here hx rfl (hb hby d3_101) rfl k) ?_
      obtain ⟨cl31, Ar31, -, S31, -, H31, -⟩ := id ft27
      have hin31 : ¬ ((0 : Int32) < 0 ∨ cl31.slots.size ≤ ((0 : Int32)).toNatClampNeg) := inb_of S31 ⟨by decide, by decide⟩
      have hat31 : cl31.slots[((0 : Int32)).toNatClampNeg]? = some (.double (FP.l2d (F i0))) := H31.at hin31 rfl
      refine Go.st (f' := (mkF m 104 #[rv a1, .val (.int (N i)), .val (.double (FP.l2d (F i))), .second, iv 1, iv 0] [(.double (FP.l2d (F i0))), (.int 1), (.ref cA)])) (fun _ k => X30.daload hx (j := (0 : Int32)) (v := (.double (FP.l2d (F i0)))) (by rw [e30]; exact Ar31.1) (State.isArrayOf_alike hZ.alike Ar31.2.1) Ar31.2.2 hin31 hat31 (g := (mkF m 103 #[rv a1, .val (.int (N i)), .val (.double (FP.l2d (F i))), .second, iv 1, iv 0] [(.int 0), (.ref cA), (.int 1), (.ref cA)])) rfl rfl (hb hby d3_103) _ k) ?_
      obtain ⟨cl32, Ar32, q32, S32, Nx32, H32, G32⟩ := id ft27
      have hin32 : ¬ ((1 : Int32) < 0 ∨ cl32.slots.size ≤ ((1 : Int32)).toNatClampNeg) := inb_of S32 ⟨by decide, by decide⟩
      obtain ⟨T33, h33, X33, e33, W33, st33⟩ := stD X30 hx hZ e30 Ar32 (j := (1 : Int32)) hin32 (g := (mkF m 104 #[rv a1, .val (.int (N i)), .val (.double (FP.l2d (F i))), .second, iv 1, iv 0] [(.double (FP.l2d (F i0))), (.int 1), (.ref cA)])) rfl rfl (hb hby d3_104)
      have V_cA_33 : Arv Z h33 cA kA .double (16 : Int32) [(.double (FP.l2d (F i0))), (.double (FP.l2d (F i0))), (.double (FP.l2d (F i2))), (.double (FP.l2d (F i1))), (.double (FP.l2d 0))] (.double (FP.l2d 0)) := Arv.set Ar32 q32 S32 Nx32 H32 G32 rfl W33 1 rfl (Nat.le_of_ble_eq_true rfl)
      have N33 := Fr.snoc X33 N23 g_cA
      have O33 : Old Z n0 h33 := O23.wr W33 g_cA
      have K33 : Keep h0 h33 [a1, cA, nA] := K23.wr W33 (Or.inl (List.mem_of_getElem? (i := 1) rfl))
      refine Go.st (f' := (mkF m 105 #[rv a1, .val (.int (N i)), .val (.double (FP.l2d (F i))), .second, iv 1, iv 0] [])) (fun _ k => st33 _ k) ?_
      refine Go.st (f' := (mkF m 106 #[rv a1, .val (.int (N i)), .val (.double (FP.l2d (F i))), .second, iv 1, iv 0] [(.ref a1)])) (fun _ k => XS.aloadN X33.here hx rfl (hb hby d3_105) rfl rfl k) ?_
      have ft34 := ((ft17.other W23 (Or.inl nt_a1_nA)).other W33 (Or.inl nt_a1_cA))
      obtain ⟨T35, X35, e35, st35⟩ := getF X33 hx hZ hown (host := "") (Or.inl (ww hw 13 rfl)) Via.refl e33 ft34 (g := (mkF m 106 #[rv a1, .val (.int (N i)), .val (.double (FP.l2d (F i))), .second, iv 1, iv 0] [(.ref a1)])) rfl rfl (hb hby d3_106)
      refine Go.st (f' := (mkF m 109 #[rv a1, .val (.int (N i)), .val (.double (FP.l2d (F i))), .second, iv 1, iv 0] [(.ref nA)])) (fun _ k => st35 _ k) ?_
      refine Go.st (f' := (mkF m 111 #[rv a1, .val (.int (N i)), .val (.double (FP.l2d (F i))), .second, iv 1, iv 0] [(.int 1), (.ref nA)])) (fun _ k => XS.iload X35.here hx rfl (hb hby d3_109) rfl k) ?_
      refine Go.st (f' := (mkF m 112 #[rv a1, .val (.int (N i)), .val (.double (FP.l2d (F i))), .second, iv 1, iv 0] [(.ref a1), (.int 1), (.ref nA)])) (fun _ k => XS.aloadN X35.here hx rfl (hb hby d3_111) rfl rfl k) ?_
      obtain ⟨T36, X36, e36, st36⟩ := getF X35 hx hZ hown (host := "") (Or.inl (ww hw 13 rfl)) Via.refl e35 ft34 (g := (mkF m 112 #[rv a1, .val (.int (N i)), .val (.double (FP.l2d (F i))), .second, iv 1, iv 0] [(.ref a1), (.int 1), (.ref nA)])) rfl rfl (hb hby d3_112)
      refine Go.st (f' := (mkF m 115 #[rv a1, .val (.int (N i)), .val (.double (FP.l2d (F i))), .second, iv 1, iv 0] [(.ref nA), (.int 1), (.ref nA)])) (fun _ k => st36 _ k) ?_
      refine Go.st (f' := (mkF m 117 #[rv a1, .val (.int (N i)), .val (.double (FP.l2d (F i))), .second, iv 1, iv 0] [(.int 0), (.ref nA), (.int 1), (.ref nA)])) (fun _ k => XS.iload X36.here hx rfl (hb hby d3_115) rfl k) ?_
      have ft38 := (V_nA_23.other W33 (Ne.symm nn))
      obtain ⟨cl37, Ar37, -, S37, -, H37, -⟩ := id ft38
      have hin37 : ¬ ((0 : Int32) < 0 ∨ cl37.slots.size ≤ ((0 : Int32)).toNatClampNeg) := inb_of S37 ⟨by decide, by decide⟩
      have hat37 : cl37.slots[((0 : Int32)).toNatClampNeg]? = some (.int (N i0)) := H37.at hin37 rfl
      refine Go.st (f' := (mkF m 118 #[rv a1, .val (.int (N i)), .val (.double (FP.l2d (F i))), .second, iv 1, iv 0] [(.int (N i0)), (.int 1), (.ref nA)])) (fun _ k => X36.iaload hx (j := (0 : Int32)) (v := (.int (N i0))) (by rw [e36]; exact Ar37.1) (State.isArrayOf_alike hZ.alike Ar37.2.1) Ar37.2.2 hin37 hat37 (g := (mkF m 117 #[rv a1, .val (.int (N i)), .val (.double (FP.l2d (F i))), .second, iv 1, iv 0] [(.int 0), (.ref nA), (.int 1), (.ref nA)])) rfl rfl (hb hby d3_117) _ k) ?_
      obtain ⟨cl39, Ar39, q39, S39, Nx39, H39, G39⟩ := id ft38
      have hin39 : ¬ ((1 : Int32) < 0 ∨ cl39.slots.size ≤ ((1 : Int32)).toNatClampNeg) := inb_of S39 ⟨by decide, by decide⟩
      obtain ⟨T40, h40, X40, e40, W40, st40⟩ := stI X36 hx hZ e36 Ar39 (j := (1 : Int32)) hin39 (g := (mkF m 118 #[rv a1, .val (.int (N i)), .val (.double (FP.l2d (F i))), .second, iv 1, iv 0] [(.int (N i0)), (.int 1), (.ref nA)])) rfl rfl (hb hby d3_118)
      have V_nA_40 : Arv Z h40 nA kN .int (16 : Int32) [(.int (N i0)), (.int (N i0)), (.int (N i2)), (.int (N i1)), (.int (0 : Int32))] (.int (0 : Int32)) := Arv.set Ar39 q39 S39 Nx39 H39 G39 rfl W40 1 rfl (Nat.le_of_ble_eq_true rfl)
      have N40 := Fr.snoc X40 N33 g_nA
      have O40 : Old Z n0 h40 := O33.wr W40 g_nA
      have K40 : Keep h0 h40 [a1, cA, nA] := K33.wr W40 (Or.inl (List.mem_of_getElem? (i := 2) rfl))
      refine Go.st (f' := (mkF m 119 #[rv a1, .val (.int (N i)), .val (.double (FP.l2d (F i))), .second, iv 1, iv 0] [])) (fun _ k => st40 _ k) ?_
      refine Go.st (f' := (mkF m 121 #[rv a1, .val (.int (N i)), .val (.double (FP.l2d (F i))), .second, iv 1, iv 0] [(.int 0)])) (fun _ k => XS.iload X40.here hx rfl (hb hby d3_119) rfl k) ?_
      refine Go.st (f' := (mkF m 123 #[rv a1, .val (.int (N i)), .val (.double (FP.l2d (F i))), .second, iv 0, iv 0] [])) (fun _ k => XS.istore X40.here hx rfl (hb hby d3_121) rfl (l' := #[rv a1, .val (.int (N i)), .val (.double (FP.l2d (F i))), .second, iv 0, iv 0]) rfl k) ?_
      refine Go.st (f' := (mkF m 62 #[rv a1, .val (.int (N i)), .val (.double (FP.l2d (F i))), .second, iv 0, iv 0] [])) (fun _ k => XS.goto X40.here hx rfl (pc0 := 123) (pc' := 62) rfl (hb hby d3_123) (by decide) (by decide) k) ?_
      refine Go.st (f' := (mkF m 64 #[rv a1, .val (.int (N i)), .val (.double (FP.l2d (F i))), .second, iv 0, iv 0] [(.int 0)])) (fun _ k => XS.iload X40.here hx rfl (hb hby d3_62) rfl k) ?_
      refine Go.st (f' := (mkF m 126 #[rv a1, .val (.int (N i)), .val (.double (FP.l2d (F i))), .second, iv 0, iv 0] [])) (fun _ k => XS.ifYes X40.here hx rfl (pc0 := 64) (pc' := 126) rfl (hb hby d3_64) rfl (by decide) (by decide) (by decide) k) ?_
      refine Go.st (f' := (mkF m 127 #[rv a1, .val (.int (N i)), .val (.double (FP.l2d (F i))), .second, iv 0, iv 0] [(.ref a1)])) (fun _ k => XS.aloadN X40.here hx rfl (hb hby d3_126) rfl rfl k) ?_
      have ft41 := ((ft24.other W33 (Or.inl nt_a1_cA)).other W40 (Or.inl nt_a1_nA))
      obtain ⟨T42, X42, e42, st42⟩ := getF X40 hx hZ hown (host := "") (Or.inl (ww hw 10 rfl)) Via.refl e40 ft41 (g := (mkF m 127 #[rv a1, .val (.int (N i)), .val (.double (FP.l2d (F i))), .second, iv 0, iv 0] [(.ref a1)])) rfl rfl (hb hby d3_127)
      refine Go.st (f' := (mkF m 130 #[rv a1, .val (.int (N i)), .val (.double (FP.l2d (F i))), .second, iv 0, iv 0] [(.ref cA)])) (fun _ k => st42 _ k) ?_
      refine Go.st (f' := (mkF m 132 #[rv a1, .val (.int (N i)), .val (.double (FP.l2d (F i))), .second, iv 0, iv 0] [(.int 0), (.ref cA)])) (fun _ k => XS.iload X42.here hx rfl (hb hby d3_130) rfl k) ?_
      refine Go.st (f' := (mkF m 133 #[rv a1, .val (.int (N i)), .val (.double (FP.l2d (F i))), .second, iv 0, iv 0] [(.double (FP.l2d (F i))), (.int 0), (.ref cA)])) (fun _ k => XS.dloadN X42.here hx rfl (hb hby d3_132) rfl k) ?_
      have ft43 := (V_cA_33.other W40 nn)
      obtain ⟨cl44, Ar44, q44, S44, Nx44, H44, G44⟩ := id ft43
      have hin44 : ¬ ((0 : Int32) < 0 ∨ cl44.slots.size ≤ ((0 : Int32)).toNatClampNeg) := inb_of S44 ⟨by decide, by decide⟩
      obtain ⟨T45, h45, X45, e45, W45, st45⟩ := stD X42 hx hZ e42 Ar44 (j := (0 : Int32)) hin44 (g := (mkF m 133 #[rv a1, .val (.int (N i)), .val (.double (FP.l2d (F i))), .second, iv 0, iv 0] [(.double (FP.l2d (F i))), (.int 0), (.ref cA)])) rfl rfl (hb hby d3_133)
      have V_cA_45 : Arv Z h45 cA kA .double (16 : Int32) [(.double (FP.l2d (F i))), (.double (FP.l2d (F i0))), (.double (FP.l2d (F i2))), (.double (FP.l2d (F i1))), (.double (FP.l2d 0))] (.double (FP.l2d 0)) := Arv.set Ar44 q44 S44 Nx44 H44 G44 rfl W45 0 rfl (Nat.le_of_ble_eq_true rfl)
      have N45 := Fr.snoc X45 N40 g_cA
      have O45 : Old Z n0 h45 := O40.wr W45 g_cA
      have K45 : Keep h0 h45 [a1, cA, nA] := K40.wr W45 (Or.inl (List.mem_of_getElem? (i := 1) rfl))
      refine Go.st (f' := (mkF m 134 #[rv a1, .val (.int (N i)), .val (.double (FP.l2d (F i))), .second, iv 0, iv 0] [])) (fun _ k => st45 _ k) ?_
      refine Go.st (f' := (mkF m 135 #[rv a1, .val (.int (N i)), .val (.double (FP.l2d (F i))), .second, iv 0, iv 0] [(.ref a1)])) (fun _ k => XS.aloadN X45.here hx rfl (hb hby d3_134) rfl rfl k) ?_
      have ft46 := ((ft34.other W40 (Or.inl nt_a1_nA)).other W45 (Or.inl nt_a1_cA))
      obtain ⟨T47, X47, e47, st47⟩ := getF X45 hx hZ hown (host := "") (Or.inl (ww hw 13 rfl)) Via.refl e45 ft46 (g := (mkF m 135 #[rv a1, .val (.int (N i)), .val (.double (FP.l2d (F i))), .second, iv 0, iv 0] [(.ref a1)])) rfl rfl (hb hby d3_135)
      refine Go.st (f' := (mkF m 138 #[rv a1, .val (.int (N i)), .val (.double (FP.l2d (F i))), .second, iv 0, iv 0] [(.ref nA)])) (fun _ k => st47 _ k) ?_
      refine Go.st (f' := (mkF m 140 #[rv a1, .val (.int (N i)), .val (.double (FP.l2d (F i))), .second, iv 0, iv 0] [(.int 0), (.ref nA)])) (fun _ k => XS.iload X47.here hx rfl (hb hby d3_138) rfl k) ?_
      refine Go.st (f' := (mkF m 141 #[rv a1, .val (.int (N i)), .val (.double (FP.l2d (F i))), .second, iv 0, iv 0] [(.int (N i)), (.int 0), (.ref nA)])) (fun _ k => XS.iloadN X47.here hx rfl (hb hby d3_140) rfl k) ?_
      have ft48 := (V_nA_40.other W45 (Ne.symm nn))
      obtain ⟨cl49, Ar49, q49, S49, Nx49, H49, G49⟩ := id ft48
      have hin49 : ¬ ((0 : Int32) < 0 ∨ cl49.slots.size ≤ ((0 : Int32)).toNatClampNeg) := inb_of S49 ⟨by decide, by decide⟩
      obtain ⟨T50, h50, X50, e50, W50, st50⟩ := stI X47 hx hZ e47 Ar49 (j := (0 : Int32)) hin49 (g := (mkF m 141 #[rv a1, .val (.int (N i)), .val (.double (FP.l2d (F i))), .second, iv 0, iv 0] [(.int (N i)), (.int 0), (.ref nA)])) rfl rfl (hb hby d3_141)
      have V_nA_50 : Arv Z h50 nA kN .int (16 : Int32) [(.int (N i)), (.int (N i0)), (.int (N i2)), (.int (N i1)), (.int (0 : Int32))] (.int (0 : Int32)) := Arv.set Ar49 q49 S49 Nx49 H49 G49 rfl W50 0 rfl (Nat.le_of_ble_eq_true rfl)
      have N50 := Fr.snoc X50 N45 g_nA
      have O50 : Old Z n0 h50 := O45.wr W50 g_nA
      have K50 : Keep h0 h50 [a1, cA, nA] := K45.wr W50 (Or.inl (List.mem_of_getElem? (i := 2) rfl))
      refine Go.st (f' := (mkF m 142 #[rv a1, .val (.int (N i)), .val (.double (FP.l2d (F i))), .second, iv 0, iv 0] [])) (fun _ k => st50 _ k) ?_
      refine Go.ret0 X50 hlk hx hret (hb hby d3_142) e50 ?_ (by decide) (by decide)
      have c_cd11 :=  (own_lw (F i1) (F i)).2.mp cd11
      have c_cd28 :=  (own_lw (F i0) (F i)).2.mp cd28
      have ft51 := (((((((E_a1.wr W6).wr W16).wr W23).wr W33).wr W40).wr W45).wr W50)
      have ft52 := ((((((Fw6.other W16 (Or.inl nt_a1_cA)).other W23 (Or.inl nt_a1_nA)).other W33 (Or.inl nt_a1_cA)).other W40 (Or.inl nt_a1_nA)).other W45 (Or.inl nt_a1_cA)).other W50 (Or.inl nt_a1_nA))
      have ft53 := (ft46.other W50 (Or.inl nt_a1_nA))
      have ft54 := ((ft41.other W45 (Or.inl nt_a1_cA)).other W50 (Or.inl nt_a1_nA))
      have ft55 := (V_cA_45.other W50 nn)
      exact ⟨rfl, N50, K50, ft51, ft52, ft53, ft54, i, i0, i2, i1, fun w => by omega, by omega, by omega, by omega, ft55, V_nA_50⟩
    · refine Go.st (f' := (mkF m 126 #[rv a1, .val (.int (N i)), .val (.double (FP.l2d (F i))), .second, iv 1, iv 1] [])) (fun _ k => XS.ifYes X25.here hx rfl (pc0 := 80) (pc' := 126) rfl (hb hby d3_80) rfl ((if0 _ _).trans (flt cd28).2.2.2) (by decide) (by decide) k) ?_
      refine Go.st (f' := (mkF m 127 #[rv a1, .val (.int (N i)), .val (.double (FP.l2d (F i))), .second, iv 1, iv 1] [(.ref a1)])) (fun _ k => XS.aloadN X25.here hx rfl (hb hby d3_126) rfl rfl k) ?_
      obtain ⟨T56, X56, e56, st56⟩ := getF X25 hx hZ hown (host := "") (Or.inl (ww hw 10 rfl)) Via.refl e25 ft24 (g := (mkF m 127 #[rv a1, .val (.int (N i)), .val (.double (FP.l2d (F i))), .second, iv 1, iv 1] [(.ref a1)])) rfl rfl (hb hby d3_127)
      refine Go.st (f' := (mkF m 130 #[rv a1, .val (.int (N i)), .val (.double (FP.l2d (F i))), .second, iv 1, iv 1] [(.ref cA)])) (fun _ k => st56 _ k) ?_
      refine Go.st (f' := (mkF m 132 #[rv a1, .val (.int (N i)), .val (.double (FP.l2d (F i))), .second, iv 1, iv 1] [(.int 1), (.ref cA)])) (fun _ k => XS.iload X56.here hx rfl (hb hby d3_130) rfl k) ?_
      refine Go.st (f' := (mkF m 133 #[rv a1, .val (.int (N i)), .val (.double (FP.l2d (F i))), .second, iv 1, iv 1] [(.double (FP.l2d (F i))), (.int 1), (.ref cA)])) (fun _ k => XS.dloadN X56.here hx rfl (hb hby d3_132) rfl k) ?_
      obtain ⟨cl57, Ar57, q57, S57, Nx57, H57, G57⟩ := id ft27
      have hin57 : ¬ ((1 : Int32) < 0 ∨ cl57.slots.size ≤ ((1 : Int32)).toNatClampNeg) := inb_of S57 ⟨by decide, by decide⟩
      obtain ⟨T58, h58, X58, e58, W58, st58⟩ := stD X56 hx hZ e56 Ar57 (j := (1 : Int32)) hin57 (g := (mkF m 133 #[rv a1, .val (.int (N i)), .val (.double (FP.l2d (F i))), .second, iv 1, iv 1] [(.double (FP.l2d (F i))), (.int 1), (.ref cA)])) rfl rfl (hb hby d3_133)
      have V_cA_58 : Arv Z h58 cA kA .double (16 : Int32) [(.double (FP.l2d (F i0))), (.double (FP.l2d (F i))), (.double (FP.l2d (F i2))), (.double (FP.l2d (F i1))), (.double (FP.l2d 0))] (.double (FP.l2d 0)) := Arv.set Ar57 q57 S57 Nx57 H57 G57 rfl W58 1 rfl (Nat.le_of_ble_eq_true rfl)
      have N58 := Fr.snoc X58 N23 g_cA
      have O58 : Old Z n0 h58 := O23.wr W58 g_cA
      have K58 : Keep h0 h58 [a1, cA, nA] := K23.wr W58 (Or.inl (List.mem_of_getElem? (i := 1) rfl))
      refine Go.st (f' := (mkF m 134 #[rv a1, .val (.int (N i)), .val (.double (FP.l2d (F i))), .second, iv 1, iv 1] [])) (fun _ k => st58 _ k) ?_
      refine Go.st (f' := (mkF m 135 #[rv a1, .val (.int (N i)), .val (.double (FP.l2d (F i))), .second, iv 1, iv 1] [(.ref a1)])) (fun _ k => XS.aloadN X58.here hx rfl (hb hby d3_134) rfl rfl k) ?_
      have ft59 := ((ft17.other W23 (Or.inl nt_a1_nA)).other W58 (Or.inl nt_a1_cA))
      obtain ⟨T60, X60, e60, st60⟩ := getF X58 hx hZ hown (host := "") (Or.inl (ww hw 13 rfl)) Via.refl e58 ft59 (g := (mkF m 135 #[rv a1, .val (.int (N i)), .val (.double (FP.l2d (F i))), .second, iv 1, iv 1] [(.ref a1)])) rfl rfl (hb hby d3_135)
      refine Go.st (f' := (mkF m 138 #[rv a1, .val (.int (N i)), .val (.double (FP.l2d (F i))), .second, iv 1, iv 1] [(.ref nA)])) (fun _ k => st60 _ k) ?_
      refine Go.st (f' := (mkF m 140 #[rv a1, .val (.int (N i)), .val (.double (FP.l2d (F i))), .second, iv 1, iv 1] [(.int 1), (.ref nA)])) (fun _ k => XS.iload X60.here hx rfl (hb hby d3_138) rfl k) ?_
      refine Go.st (f' := (mkF m 141 #[rv a1, .val (.int (N i)), .val (.double (FP.l2d (F i))), .second, iv 1, iv 1] [(.int (N i)), (.int 1), (.ref nA)])) (fun _ k => XS.iloadN X60.here hx rfl (hb hby d3_140) rfl k) ?_
      have ft61 := (V_nA_23.other W58 (Ne.symm nn))
      obtain ⟨cl62, Ar62, q62, S62, Nx62, H62, G62⟩ := id ft61
      have hin62 : ¬ ((1 : Int32) < 0 ∨ cl62.slots.size ≤ ((1 : Int32)).toNatClampNeg) := inb_of S62 ⟨by decide, by decide⟩
      obtain ⟨T63, h63, X63, e63, W63, st63⟩ := stI X60 hx hZ e60 Ar62 (j := (1 : Int32)) hin62 (g := (mkF m 141 #[rv a1, .val (.int (N i)), .val (.double (FP.l2d (F i))), .second, iv 1, iv 1] [(.int (N i)), (.int 1), (.ref nA)])) rfl rfl (hb hby d3_141)
      have V_nA_63 : Arv Z h63 nA kN .int (16 : Int32) [(.int (N i0)), (.int (N i)), (.int (N i2)), (.int (N i1)), (.int (0 : Int32))] (.int (0 : Int32)) := Arv.set Ar62 q62 S62 Nx62 H62 G62 rfl W63 1 rfl (Nat.le_of_ble_eq_true rfl)
      have N63 := Fr.snoc X63 N58 g_nA
      have O63 : Old Z n0 h63 := O58.wr W63 g_nA
      have K63 : Keep h0 h63 [a1, cA, nA] := K58.wr W63 (Or.inl (List.mem_of_getElem? (i := 2) rfl))
      refine Go.st (f' := (mkF m 142 #[rv a1, .val (.int (N i)), .val (.double (FP.l2d (F i))), .second, iv 1, iv 1] [])) (fun _ k => st63 _ k) ?_
      refine Go.ret0 X63 hlk hx hret (hb hby d3_142) e63 ?_ (by decide) (by decide)
      have c_cd11 :=  (own_lw (F i1) (F i)).2.mp cd11
      have c_cd28 := (not_congr (own_lw (F i0) (F i)).2).mp cd28
      have ft64 := (((((E_a1.wr W6).wr W16).wr W23).wr W58).wr W63)
      have ft65 := ((((Fw6.other W16 (Or.inl nt_a1_cA)).other W23 (Or.inl nt_a1_nA)).other W58 (Or.inl nt_a1_cA)).other W63 (Or.inl nt_a1_nA))
      have ft66 := (ft59.other W63 (Or.inl nt_a1_nA))
      have ft67 := ((ft24.other W58 (Or.inl nt_a1_cA)).other W63 (Or.inl nt_a1_nA))
      have ft68 := (V_cA_58.other W63 nn)
      exact ⟨rfl, N63, K63, ft64, ft65, ft66, ft67, i0, i, i2, i1, fun w => by omega, by omega, by omega, by omega, ft68, V_nA_63⟩
  · refine Go.st (f' := (mkF m 126 #[rv a1, .val (.int (N i)), .val (.double (FP.l2d (F i))), .second, iv 3, .unset] [])) (fun _ k => XS.ifYes X8.here hx rfl (pc0 := 80) (pc' := 126) rfl (hb hby d3_80) rfl ((if0 _ _).trans (flt cd11).2.2.2) (by decide) (by decide) k) ?_
    refine Go.st (f' := (mkF m 127 #[rv a1, .val (.int (N i)), .val (.double (FP.l2d (F i))), .second, iv 3, .unset] [(.ref a1)])) (fun _ k => XS.aloadN X8.here hx rfl (hb hby d3_126) rfl rfl k) ?_
    obtain ⟨T69, X69, e69, st69⟩ := getF X8 hx hZ hown (host := "") (Or.inl (ww hw 10 rfl)) Via.refl e8 ft7 (g := (mkF m 127 #[rv a1, .val (.int (N i)), .val (.double (FP.l2d (F i))), .second, iv 3, .unset] [(.ref a1)])) rfl rfl (hb hby d3_127)
    refine Go.st (f' := (mkF m 130 #[rv a1, .val (.int (N i)), .val (.double (FP.l2d (F i))), .second, iv 3, .unset] [(.ref cA)])) (fun _ k => st69 _ k) ?_
    refine Go.st (f' := (mkF m 132 #[rv a1, .val (.int (N i)), .val (.double (FP.l2d (F i))), .second, iv 3, .unset] [(.int 3), (.ref cA)])) (fun _ k => XS.iload X69.here hx rfl (hb hby d3_130) rfl k) ?_
    refine Go.st (f' := (mkF m 133 #[rv a1, .val (.int (N i)), .val (.double (FP.l2d (F i))), .second, iv 3, .unset] [(.double (FP.l2d (F i))), (.int 3), (.ref cA)])) (fun _ k => XS.dloadN X69.here hx rfl (hb hby d3_132) rfl k) ?_
    obtain ⟨cl70, Ar70, q70, S70, Nx70, H70, G70⟩ := id ft10
    have hin70 : ¬ ((3 : Int32) < 0 ∨ cl70.slots.size ≤ ((3 : Int32)).toNatClampNeg) := inb_of S70 ⟨by decide, by decide⟩
    obtain ⟨T71, h71, X71, e71, W71, st71⟩ := stD X69 hx hZ e69 Ar70 (j := (3 : Int32)) hin70 (g := (mkF m 133 #[rv a1, .val (.int (N i)), .val (.double (FP.l2d (F i))), .second, iv 3, .unset] [(.double (FP.l2d (F i))), (.int 3), (.ref cA)])) rfl rfl (hb hby d3_133)
    have V_cA_71 : Arv Z h71 cA kA .double (16 : Int32) [(.double (FP.l2d (F i0))), (.double (FP.l2d (F i1))), (.double (FP.l2d (F i2))), (.double (FP.l2d (F i))), (.double (FP.l2d 0))] (.double (FP.l2d 0)) := Arv.set Ar70 q70 S70 Nx70 H70 G70 rfl W71 3 rfl (Nat.le_of_ble_eq_true rfl)
    have N71 := Fr.snoc X71 N6 g_cA
    have O71 : Old Z n0 h71 := O6.wr W71 g_cA
    have K71 : Keep h0 h71 [a1, cA, nA] := K6.wr W71 (Or.inl (List.mem_of_getElem? (i := 1) rfl))
    refine Go.st (f' := (mkF m 134 #[rv a1, .val (.int (N i)), .val (.double (FP.l2d (F i))), .second, iv 3, .unset] [])) (fun _ k => st71 _ k) ?_
    refine Go.st (f' := (mkF m 135 #[rv a1, .val (.int (N i)), .val (.double (FP.l2d (F i))), .second, iv 3, .unset] [(.ref a1)])) (fun _ k => XS.aloadN X71.here hx rfl (hb hby d3_134) rfl rfl k) ?_
    have ft72 := ((F_a1_items.other W6 (Or.inr (slot_ne (Or.inl (ww hw 14 rfl)) (Or.inl (ww hw 21 rfl)) (by decide) (t := (.array .int)) (t' := .int) (by decide) (by decide)))).other W71 (Or.inl nt_a1_cA))
    obtain ⟨T73, X73, e73, st73⟩ := getF X71 hx hZ hown (host := "") (Or.inl (ww hw 13 rfl)) Via.refl e71 ft72 (g := (mkF m 135 #[rv a1, .val (.int (N i)), .val (.double (FP.l2d (F i))), .second, iv 3, .unset] [(.ref a1)])) rfl rfl (hb hby d3_135)
    refine Go.st (f' := (mkF m 138 #[rv a1, .val (.int (N i)), .val (.double (FP.l2d (F i))), .second, iv 3, .unset] [(.ref nA)])) (fun _ k => st73 _ k) ?_
    refine Go.st (f' := (mkF m 140 #[rv a1, .val (.int (N i)), .val (.double (FP.l2d (F i))), .second, iv 3, .unset] [(.int 3), (.ref nA)])) (fun _ k => XS.iload X73.here hx rfl (hb hby d3_138) rfl k) ?_
    refine Go.st (f' := (mkF m 141 #[rv a1, .val (.int (N i)), .val (.double (FP.l2d (F i))), .second, iv 3, .unset] [(.int (N i)), (.int 3), (.ref nA)])) (fun _ k => XS.iloadN X73.here hx rfl (hb hby d3_140) rfl k) ?_
    have ft74 := ((V_nA.other W6 (Ne.symm nt_a1_nA)).other W71 (Ne.symm nn))
    obtain ⟨cl75, Ar75, q75, S75, Nx75, H75, G75⟩ := id ft74
    have hin75 : ¬ ((3 : Int32) < 0 ∨ cl75.slots.size ≤ ((3 : Int32)).toNatClampNeg) := inb_of S75 ⟨by decide, by decide⟩
    obtain ⟨T76, h76, X76, e76, W76, st76⟩ := stI X73 hx hZ e73 Ar75 (j := (3 : Int32)) hin75 (g := (mkF m 141 #[rv a1, .val (.int (N i)), .val (.double (FP.l2d (F i))), .second, iv 3, .unset] [(.int (N i)), (.int 3), (.ref nA)])) rfl rfl (hb hby d3_141)
    have V_nA_76 : Arv Z h76 nA kN .int (16 : Int32) [(.int (N i0)), (.int (N i1)), (.int (N i2)), (.int (N i)), (.int (0 : Int32))] (.int (0 : Int32)) := Arv.set Ar75 q75 S75 Nx75 H75 G75 rfl W76 3 rfl (Nat.le_of_ble_eq_true rfl)
    have N76 := Fr.snoc X76 N71 g_nA
    have O76 : Old Z n0 h76 := O71.wr W76 g_nA
    have K76 : Keep h0 h76 [a1, cA, nA] := K71.wr W76 (Or.inl (List.mem_of_getElem? (i := 2) rfl))
    refine Go.st (f' := (mkF m 142 #[rv a1, .val (.int (N i)), .val (.double (FP.l2d (F i))), .second, iv 3, .unset] [])) (fun _ k => st76 _ k) ?_
    refine Go.ret0 X76 hlk hx hret (hb hby d3_142) e76 ?_ (by decide) (by decide)
    have c_cd11 := (not_congr (own_lw (F i1) (F i)).2).mp cd11
    have ft77 := (((E_a1.wr W6).wr W71).wr W76)
    have ft78 := ((Fw6.other W71 (Or.inl nt_a1_cA)).other W76 (Or.inl nt_a1_nA))
    have ft79 := (ft72.other W76 (Or.inl nt_a1_nA))
    have ft80 := ((ft7.other W71 (Or.inl nt_a1_cA)).other W76 (Or.inl nt_a1_nA))
    have ft81 := (V_cA_71.other W76 nn)
    exact ⟨rfl, N76, K76, ft77, ft78, ft79, ft80, i0, i1, i2, i, fun w => by omega, by omega, by omega, by omega, ft81, V_nA_76⟩
theorem rmA3 (l : Launch) (Z : State) (a0 : Array Value) (hw : ∀ d ∈ tables_1, d.before a0 Z = true) (ws : List Jvm.Cond) (a1 : Addr) (cA : Addr) (nA : Addr) (kA : ClassId) (kN : ClassId) (N : Int32 → Int32) (F : Int32 → Int64) (i0 : Int32) (i1 : Int32) (i2 : Int32) (i : Int32) (nd : Int32) (x : Int64) (h0 : Heap) (n0 : Nat) (O0 : Old Z n0 h0) (en : nd = N i) (ex : x = F i) (hF : ∀ i, B53 (F i)) (g_a1 : n0 ≤ a1) (g_cA : n0 ≤ cA) (g_nA : n0 ≤ nA) (hp1 : (F i0).toInt ≤ (F i1).toInt) (hp2 : (F i0).toInt ≤ (F i2).toInt) (E_a1 : Exa Z h0 a1 "com/example/kinetic_city/kineticcity/engine/CostQueue") (F_a1_size : Fld Z h0 a1 "com/example/kinetic_city/kineticcity/engine/CostQueue" "size" "I" (.int 3)) (F_a1_items : Fld Z h0 a1 "com/example/kinetic_city/kineticcity/engine/CostQueue" "items" "[I" (.ref nA)) (F_a1_costs : Fld Z h0 a1 "com/example/kinetic_city/kineticcity/engine/CostQueue" "costs" "[D" (.ref cA)) (V_cA : Arv Z h0 cA kA .double (16 : Int32) [(.double (FP.l2d (F i0))), (.double (FP.l2d (F i1))), (.double (FP.l2d (F i2))), (.double (FP.l2d 0)), (.double (FP.l2d 0))] (.double (FP.l2d 0))) (V_nA : Arv Z h0 nA kN .int 16 [(.int (N i0)), (.int (N i1)), (.int (N i2)), (.int 0), (.int 0)] (.int 0)) :
    Con l Z (⟨"com/example/kinetic_city/kineticcity/engine/CostQueue", "add", "(ID)V"⟩ : MethodName) prog_5_method_3_code 6 none ws ({ frames := 0, cells := 0, slots := 0, locals := 0 } : Room) #[(.ref a1), (.int nd), (.double (FP.l2d x))] h0 (fun v h L => v = none ∧ Fr n0 L ∧ Keep h0 h [a1, cA, nA] ∧ Exa Z h a1 "com/example/kinetic_city/kineticcity/engine/CostQueue" ∧ Fld Z h a1 "com/example/kinetic_city/kineticcity/engine/CostQueue" "size" "I" (.int 4) ∧ Fld Z h a1 "com/example/kinetic_city/kineticcity/engine/CostQueue" "items" "[I" (.ref nA) ∧ Fld Z h a1 "com/example/kinetic_city/kineticcity/engine/CostQueue" "costs" "[D" (.ref cA) ∧ ∃ j0 j1 j2 j3 : Int32, (∀ w : Int32 → Int, w j0 + w j1 + w j2 + w j3 = w i0 + w i1 + w i2 + w i) ∧ (F j0).toInt ≤ (F j1).toInt ∧ (F j0).toInt ≤ (F j2).toInt ∧ (F j1).toInt ≤ (F j3).toInt ∧ Arv Z h cA kA .double (16 : Int32) [(.double (FP.l2d (F j0))), (.double (FP.l2d (F j1))), (.double (FP.l2d (F j2))), (.double (FP.l2d (F j3))), (.double (FP.l2d 0))] (.double (FP.l2d 0)) ∧ Arv Z h nA kN .int 16 [(.int (N j0)), (.int (N j1)), (.int (N j2)), (.int (N j3)), (.int 0)] (.int 0)) := by
  subst en ex
  exact rmAdd3 l Z a0 hw ws a1 cA nA kA kN N F i0 i1 i2 i h0 n0 O0 hF g_a1 g_cA g_nA hp1 hp2 E_a1 F_a1_size F_a1_items F_a1_costs V_cA V_nA
set_option maxRecDepth 65536 in
set_option maxHeartbeats 40000000 in
theorem rmAdd4 (l : Launch) (Z : State) (a0 : Array Value) (hw : ∀ d ∈ tables_1, d.before a0 Z = true) (ws : List Jvm.Cond) (a1 : Addr) (cA : Addr) (nA : Addr) (kA : ClassId) (kN : ClassId) (N : Int32 → Int32) (F : Int32 → Int64) (i0 : Int32) (i1 : Int32) (i2 : Int32) (i3 : Int32) (i : Int32) (h0 : Heap) (n0 : Nat) (O0 : Old Z n0 h0) (hF : ∀ i, B53 (F i)) (g_a1 : n0 ≤ a1) (g_cA : n0 ≤ cA) (g_nA : n0 ≤ nA) (hp1 : (F i0).toInt ≤ (F i1).toInt) (hp2 : (F i0).toInt ≤ (F i2).toInt) (hp3 : (F i1).toInt ≤ (F i3).toInt) (E_a1 : Exa Z h0 a1 "com/example/kinetic_city/kineticcity/engine/CostQueue") (F_a1_size : Fld Z h0 a1 "com/example/kinetic_city/kineticcity/engine/CostQueue" "size" "I" (.int 4)) (F_a1_items : Fld Z h0 a1 "com/example/kinetic_city/kineticcity/engine/CostQueue" "items" "[I" (.ref nA)) (F_a1_costs : Fld Z h0 a1 "com/example/kinetic_city/kineticcity/engine/CostQueue" "costs" "[D" (.ref cA)) (V_cA : Arv Z h0 cA kA .double (16 : Int32) [(.double (FP.l2d (F i0))), (.double (FP.l2d (F i1))), (.double (FP.l2d (F i2))), (.double (FP.l2d (F i3))), (.double (FP.l2d 0))] (.double (FP.l2d 0))) (V_nA : Arv Z h0 nA kN .int 16 [(.int (N i0)), (.int (N i1)), (.int (N i2)), (.int (N i3)), (.int 0)] (.int 0)) :
    Con l Z (⟨"com/example/kinetic_city/kineticcity/engine/CostQueue", "add", "(ID)V"⟩ : MethodName) prog_5_method_3_code 6 none ws ({ frames := 0, cells := 0, slots := 0, locals := 0 } : Room) #[(.ref a1), (.int (N i)), (.double (FP.l2d (F i)))] h0 (fun v h L => v = none ∧ Fr n0 L ∧ Keep h0 h [a1, cA, nA] ∧ Exa Z h a1 "com/example/kinetic_city/kineticcity/engine/CostQueue" ∧ Fld Z h a1 "com/example/kinetic_city/kineticcity/engine/CostQueue" "size" "I" (.int 5) ∧ Fld Z h a1 "com/example/kinetic_city/kineticcity/engine/CostQueue" "items" "[I" (.ref nA) ∧ Fld Z h a1 "com/example/kinetic_city/kineticcity/engine/CostQueue" "costs" "[D" (.ref cA) ∧ ∃ j0 j1 j2 j3 j4 : Int32, (∀ w : Int32 → Int, w j0 + w j1 + w j2 + w j3 + w j4 = w i0 + w i1 + w i2 + w i3 + w i) ∧ (F j0).toInt ≤ (F j1).toInt ∧ (F j0).toInt ≤ (F j2).toInt ∧ (F j1).toInt ≤ (F j3).toInt ∧ (F j1).toInt ≤ (F j4).toInt ∧ Arv Z h cA kA .double (16 : Int32) [(.double (FP.l2d (F j0))), (.double (FP.l2d (F j1))), (.double (FP.l2d (F j2))), (.double (FP.l2d (F j3))), (.double (FP.l2d (F j4)))] (.double (FP.l2d 0)) ∧ Arv Z h nA kN .int 16 [(.int (N j0)), (.int (N j1)), (.int (N j2)), (.int (N j3)), (.int (N j4))] (.int 0)) := by
  refine own_body (plainFor_of_name pn_com_example_kinetic_city_kineticcity_engine_CostQueue) ?_
  intro p e s m below meth c s₁ hx hby hml hZ hown hnm hlk hret X0 e0
  have N0 := Fr.nil n0
  have K0 : Keep h0 h0 [a1, cA, nA] := Keep.refl _ _
  refine Go.st (T' := s₁) (f' := (mkF m 0 #[rv a1, .val (.int (N i)), .val (.double (FP.l2d (F i))), .second, .unset, .unset] [])) (fun _ k => castTop (by first | (simp [entryFrame, mkF, argsToLocals, Value.category]; done) | rfl) k) ?_
  have lt_a1 := E_a1.lt
  have lt_cA := V_cA.lt
  have lt_nA := V_nA.lt
  have nn : cA ≠ nA := own_neArv V_cA V_nA (by decide)
  have nt_a1_cA : a1 ≠ cA := Exa.neArv E_a1 V_cA (ww hw 2 rfl)
  have nt_a1_nA : a1 ≠ nA := Exa.neArv E_a1 V_nA (ww hw 2 rfl)
  refine Go.st (f' := (mkF m 1 #[rv a1, .val (.int (N i)), .val (.double (FP.l2d (F i))), .second, .unset, .unset] [(.ref a1)])) (fun _ k => XS.aloadN X0.here hx rfl (hb hby d3_0) rfl rfl k) ?_
  obtain ⟨T1, X1, e1, st1⟩ := getF X0 hx hZ hown (host := "") (Or.inl (ww hw 20 rfl)) Via.refl e0 F_a1_size (g := (mkF m 1 #[rv a1, .val (.int (N i)), .val (.double (FP.l2d (F i))), .second, .unset, .unset] [(.ref a1)])) rfl rfl (hb hby d3_1)
  refine Go.st (f' := (mkF m 4 #[rv a1, .val (.int (N i)), .val (.double (FP.l2d (F i))), .second, .unset, .unset] [(.int 4)])) (fun _ k => st1 _ k) ?_
  refine Go.st (f' := (mkF m 5 #[rv a1, .val (.int (N i)), .val (.double (FP.l2d (F i))), .second, .unset, .unset] [(.ref a1), (.int 4)])) (fun _ k => XS.aloadN X1.here hx rfl (hb hby d3_4) rfl rfl k) ?_
  obtain ⟨T2, X2, e2, st2⟩ := getF X1 hx hZ hown (host := "") (Or.inl (ww hw 10 rfl)) Via.refl e1 F_a1_costs (g := (mkF m 5 #[rv a1, .val (.int (N i)), .val (.double (FP.l2d (F i))), .second, .unset, .unset] [(.ref a1), (.int 4)])) rfl rfl (hb hby d3_5)
  refine Go.st (f' := (mkF m 8 #[rv a1, .val (.int (N i)), .val (.double (FP.l2d (F i))), .second, .unset, .unset] [(.ref cA), (.int 4)])) (fun _ k => st2 _ k) ?_
  obtain ⟨cl3, Ar3, -, S3, Nx3, -, -⟩ := id V_cA
  refine Go.st (T' := T2) (f' := (mkF m 9 #[rv a1, .val (.int (N i)), .val (.double (FP.l2d (F i))), .second, .unset, .unset] [(.int 16), (.int 4)])) (fun _ k => X2.arraylength hx (by rw [e2]; exact Ar3.1) (State.isArrayOf_alike hZ.alike Ar3.2.1) (g := (mkF m 8 #[rv a1, .val (.int (N i)), .val (.double (FP.l2d (F i))), .second, .unset, .unset] [(.ref cA), (.int 4)])) rfl rfl (hb hby d3_8) _ (by rw [len_of S3 Nx3]; exact k)) ?_
  refine Go.st (f' := (mkF m 46 #[rv a1, .val (.int (N i)), .val (.double (FP.l2d (F i))), .second, .unset, .unset] [])) (fun _ k => XS.icmpYes X2.here hx rfl (pc0 := 9) (pc' := 46) rfl (hb hby d3_9) rfl (by decide) (by decide) (by decide) k) ?_
  refine Go.st (f' := (mkF m 47 #[rv a1, .val (.int (N i)), .val (.double (FP.l2d (F i))), .second, .unset, .unset] [(.ref a1)])) (fun _ k => XS.aloadN X2.here hx rfl (hb hby d3_46) rfl rfl k) ?_
  obtain ⟨T4, X4, e4, st4⟩ := getF X2 hx hZ hown (host := "") (Or.inl (ww hw 20 rfl)) Via.refl e2 F_a1_size (g := (mkF m 47 #[rv a1, .val (.int (N i)), .val (.double (FP.l2d (F i))), .second, .unset, .unset] [(.ref a1)])) rfl rfl (hb hby d3_47)
  refine Go.st (f' := (mkF m 50 #[rv a1, .val (.int (N i)), .val (.double (FP.l2d (F i))), .second, .unset, .unset] [(.int 4)])) (fun _ k => st4 _ k) ?_
  refine Go.st (f' := (mkF m 52 #[rv a1, .val (.int (N i)), .val (.double (FP.l2d (F i))), .second, iv 4, .unset] [])) (fun _ k => XS.istore X4.here hx rfl (hb hby d3_50) rfl (l' := #[rv a1, .val (.int (N i)), .val (.double (FP.l2d (F i))), .second, iv 4, .unset]) rfl k) ?_
  refine Go.st (f' := (mkF m 53 #[rv a1, .val (.int (N i)), .val (.double (FP.l2d (F i))), .second, iv 4, .unset] [(.ref a1)])) (fun _ k => XS.aloadN X4.here hx rfl (hb hby d3_52) rfl rfl k) ?_
  refine Go.st (f' := (mkF m 54 #[rv a1, .val (.int (N i)), .val (.double (FP.l2d (F i))), .second, iv 4, .unset] [(.ref a1), (.ref a1)])) (fun _ k => XS.dup X4.here hx rfl (hb hby d3_53) rfl rfl k) ?_
  obtain ⟨T5, X5, e5, st5⟩ := getF X4 hx hZ hown (host := "") (Or.inl (ww hw 20 rfl)) Via.refl e4 F_a1_size (g := (mkF m 54 #[rv a1, .val (.int (N i)), .val (.double (FP.l2d (F i))), .second, iv 4, .unset] [(.ref a1), (.ref a1)])) rfl rfl (hb hby d3_54)
  refine Go.st (f' := (mkF m 57 #[rv a1, .val (.int (N i)), .val (.double (FP.l2d (F i))), .second, iv 4, .unset] [(.int 4), (.ref a1)])) (fun _ k => st5 _ k) ?_
  refine Go.st (f' := (mkF m 58 #[rv a1, .val (.int (N i)), .val (.double (FP.l2d (F i))), .second, iv 4, .unset] [(.int 1), (.int 4), (.ref a1)])) (fun _ k => XS.iconst X5.here hx rfl (hb hby d3_57) k) ?_
  refine Go.st (f' := (mkF m 59 #[rv a1, .val (.int (N i)), .val (.double (FP.l2d (F i))), .second, iv 4, .unset] [(.int 5), (.ref a1)])) (fun _ k => XS.iadd X5.here hx rfl (hb hby d3_58) rfl k) ?_
  obtain ⟨T6, h6, X6, e6, W6, st6⟩ := putF X5 hx hZ hown (host := "") (Or.inl (ww hw 20 rfl)) Via.refl e5 F_a1_size E_a1 (Or.inl (ww hw 21 rfl)) (ww hw 2 rfl) (ty := .int) (by decide) rfl rfl (g := (mkF m 59 #[rv a1, .val (.int (N i)), .val (.double (FP.l2d (F i))), .second, iv 4, .unset] [(.int 5), (.ref a1)])) rfl rfl (hb hby d3_59)
  have N6 := Fr.snoc X6 N0 g_a1
  have O6 : Old Z n0 h6 := O0.wr W6 g_a1
  have K6 : Keep h0 h6 [a1, cA, nA] := K0.wr W6 (Or.inl (List.mem_of_getElem? (i := 0) rfl))
  have Fw6 := F_a1_size.same W6
  refine Go.st (f' := (mkF m 62 #[rv a1, .val (.int (N i)), .val (.double (FP.l2d (F i))), .second, iv 4, .unset] [])) (fun _ k => st6 _ k) ?_
  refine Go.st (f' := (mkF m 64 #[rv a1, .val (.int (N i)), .val (.double (FP.l2d (F i))), .second, iv 4, .unset] [(.int 4)])) (fun _ k => XS.iload X6.here hx rfl (hb hby d3_62) rfl k) ?_
  refine Go.st (f' := (mkF m 67 #[rv a1, .val (.int (N i)), .val (.double (FP.l2d (F i))), .second, iv 4, .unset] [])) (fun _ k => XS.ifNo X6.here hx rfl (hb hby d3_64) rfl (by decide) k) ?_
  refine Go.st (f' := (mkF m 68 #[rv a1, .val (.int (N i)), .val (.double (FP.l2d (F i))), .second, iv 4, .unset] [(.ref a1)])) (fun _ k => XS.aloadN X6.here hx rfl (hb hby d3_67) rfl rfl k) ?_
  have ft7 := (F_a1_costs.other W6 (Or.inr (slot_ne (Or.inl (ww hw 11 rfl)) (Or.inl (ww hw 21 rfl)) (by decide) (t := (.array .double)) (t' := .int) (by decide) (by decide))))
  obtain ⟨T8, X8, e8, st8⟩ := getF X6 hx hZ hown (host := "") (Or.inl (ww hw 10 rfl)) Via.refl e6 ft7 (g := (mkF m 68 #[rv a1, .val (.int (N i)), .val (.double (FP.l2d (F i))), .second, iv 4, .unset] [(.ref a1)])) rfl rfl (hb hby d3_68)
  refine Go.st (f' := (mkF m 71 #[rv a1, .val (.int (N i)), .val (.double (FP.l2d (F i))), .second, iv 4, .unset] [(.ref cA)])) (fun _ k => st8 _ k) ?_
  refine Go.st (f' := (mkF m 73 #[rv a1, .val (.int (N i)), .val (.double (FP.l2d (F i))), .second, iv 4, .unset] [(.int 4), (.ref cA)])) (fun _ k => XS.iload X8.here hx rfl (hb hby d3_71) rfl k) ?_
  refine Go.st (f' := (mkF m 74 #[rv a1, .val (.int (N i)), .val (.double (FP.l2d (F i))), .second, iv 4, .unset] [(.int 1), (.int 4), (.ref cA)])) (fun _ k => XS.iconst X8.here hx rfl (hb hby d3_73) k) ?_
  refine Go.st (f' := (mkF m 75 #[rv a1, .val (.int (N i)), .val (.double (FP.l2d (F i))), .second, iv 4, .unset] [(.int 3), (.ref cA)])) (fun _ k => XS.isub X8.here hx rfl (hb hby d3_74) rfl k) ?_
  refine Go.st (f' := (mkF m 76 #[rv a1, .val (.int (N i)), .val (.double (FP.l2d (F i))), .second, iv 4, .unset] [(.int 2), (.int 3), (.ref cA)])) (fun _ k => XS.iconst X8.here hx rfl (hb hby d3_75) k) ?_
  refine Go.st (f' := (mkF m 77 #[rv a1, .val (.int (N i)), .val (.double (FP.l2d (F i))), .second, iv 4, .unset] [(.int 1), (.ref cA)])) (fun _ k => XS.idiv X8.here hx rfl (hb hby d3_76) rfl (by decide) k) ?_
  have ft10 := (V_cA.other W6 (Ne.symm nt_a1_cA))
  obtain ⟨cl9, Ar9, -, S9, -, H9, -⟩ := id ft10
  have hin9 : ¬ ((1 : Int32) < 0 ∨ cl9.slots.size ≤ ((1 : Int32)).toNatClampNeg) := inb_of S9 ⟨by decide, by decide⟩
  have hat9 : cl9.slots[((1 : Int32)).toNatClampNeg]? = some (.double (FP.l2d (F i1))) := H9.at hin9 rfl
  refine Go.st (f' := (mkF m 78 #[rv a1, .val (.int (N i)), .val (.double (FP.l2d (F i))), .second, iv 4, .unset] [(.double (FP.l2d (F i1)))])) (fun _ k => X8.daload hx (j := (1 : Int32)) (v := (.double (FP.l2d (F i1)))) (by rw [e8]; exact Ar9.1) (State.isArrayOf_alike hZ.alike Ar9.2.1) Ar9.2.2 hin9 hat9 (g := (mkF m 77 #[rv a1, .val (.int (N i)), .val (.double (FP.l2d (F i))), .second, iv 4, .unset] [(.int 1), (.ref cA)])) rfl rfl (hb hby d3_77) _ k) ?_
  refine Go.st (f' := (mkF m 79 #[rv a1, .val (.int (N i)), .val (.double (FP.l2d (F i))), .second, iv 4, .unset] [(.double (FP.l2d (F i))), (.double (FP.l2d (F i1)))])) (fun _ k => XS.dloadN X8.here hx rfl (hb hby d3_78) rfl k) ?_
  refine Go.st (f' := (mkF m 80 #[rv a1, .val (.int (N i)), .val (.double (FP.l2d (F i))), .second, iv 4, .unset] [(.int (lcmpW (F i1) (F i)))])) (fun _ k => XS.dcmpS X8.here hx rfl (hb hby d3_79) rfl (dcmpV_w (hF _) (hF _) _) k) ?_
  by_cases cd11 : (0 : Int32) < (lcmpW (F i1) (F i))
  · refine Go.st (f' := (mkF m 83 #[rv a1, .val (.int (N i)), .val (.double (FP.l2d (F i))), .second, iv 4, .unset] [])) (fun _ k => XS.ifNo X8.here hx rfl (hb hby d3_80) rfl ((if0 _ _).trans (tlt cd11).2.2.2) k) ?_
    refine Go.st (f' := (mkF m 85 #[rv a1, .val (.int (N i)), .val (.double (FP.l2d (F i))), .second, iv 4, .unset] [(.int 4)])) (fun _ k => XS.iload X8.here hx rfl (hb hby d3_83) rfl k) ?_
    refine Go.st (f' := (mkF m 86 #[rv a1, .val (.int (N i)), .val (.double (FP.l2d (F i))), .second, iv 4, .unset] [(.int 1), (.int 4)])) (fun _ k => XS.iconst X8.here hx rfl (hb hby d3_85) k) ?_
    refine Go.st (f' := (mkF m 87 #[rv a1, .val (.int (N i)), .val (.double (FP.l2d (F i))), .second, iv 4, .unset] [(.int 3)])) (fun _ k => XS.isub X8.here hx rfl (hb hby d3_86) rfl k) ?_
    refine Go.st (f' := (mkF m 88 #[rv a1, .val (.int (N i)), .val (.double (FP.l2d (F i))), .second, iv 4, .unset] [(.int 2), (.int 3)])) (fun _ k => XS.iconst X8.here hx rfl (hb hby d3_87) k) ?_
    refine Go.st (f' := (mkF m 89 #[rv a1, .val (.int (N i)), .val (.double (FP.l2d (F i))), .second, iv 4, .unset] [(.int 1)])) (fun _ k => XS.idiv X8.here hx rfl (hb hby d3_88) rfl (by decide) k) ?_
    refine Go.st (f' := (mkF m 91 #[rv a1, .val (.int (N i)), .val (.double (FP.l2d (F i))), .second, iv 4, iv 1] [])) (fun _ k => XS.istore X8.here hx rfl (hb hby d3_89) rfl (l' := #[rv a1, .val (.int (N i)), .val (.double (FP.l2d (F i))), .second, iv 4, iv 1]) rfl k) ?_
    refine Go.st (f' := (mkF m 92 #[rv a1, .val (.int (N i)), .val (.double (FP.l2d (F i))), .second, iv 4, iv 1] [(.ref a1)])) (fun _ k => XS.aloadN X8.here hx rfl (hb hby d3_91) rfl rfl k) ?_
    obtain ⟨T12, X12, e12, st12⟩ := getF X8 hx hZ hown (host := "") (Or.inl (ww hw 10 rfl)) Via.refl e8 ft7 (g := (mkF m 92 #[rv a1, .val (.int (N i)), .val (.double (FP.l2d (F i))), .second, iv 4, iv 1] [(.ref a1)])) rfl rfl (hb hby d3_92)
    refine Go.st (f' := (mkF m 95 #[rv a1, .val (.int (N i)), .val (.double (FP.l2d (F i))), .second, iv 4, iv 1] [(.ref cA)])) (fun _ k => st12 _ k) ?_
    refine Go.st (f' := (mkF m 97 #[rv a1, .val (.int (N i)), .val (.double (FP.l2d (F i))), .second, iv 4, iv 1] [(.int 4), (.ref cA)])) (fun _ k => XS.iload X12.here hx rfl (hb hby d3_95) rfl k) ?_
    refine Go.st (f' := (mkF m 98 #[rv a1, .val (.int (N i)), .val (.double (FP.l2d (F i))), .second, iv 4, iv 1] [(.ref a1), (.int 4), (.ref cA)])) (fun _ k => XS.aloadN X12.here hx rfl (hb hby d3_97) rfl rfl k) ?_
    obtain ⟨T13, X13, e13, st13⟩ := getF X12 hx hZ hown (host := "") (Or.inl (ww hw 10 rfl)) Via.refl e12 ft7 (g := (mkF m 98 #[rv a1, .val (.int (N i)), .val (.double (FP.l2d (F i))), .second, iv 4, iv 1] [(.ref a1), (.int 4), (.ref cA)])) rfl rfl (hb hby d3_98)
    refine Go.st (f' := (mkF m 101 #[rv a1, .val (.int (N i)), .val (.double (FP.l2d (F i))), .second, iv 4, iv 1] [(.ref cA), (.int 4), (.ref cA)])) (fun _ k => st13 _ k) ?_
    refine Go.st (f' := (mkF m 103 #[rv a1, .val (.int (N i)), .val (.double (FP.l2d (F i))), .second, iv 4, iv 1] [(.int 1), (.ref cA), (.int 4), (.ref cA)])) (fun _ k => XS.iload X13.here hx rfl (hb hby d3_101) rfl k) ?_
    obtain ⟨cl14, Ar14, -, S14, -, H14, -⟩ := id ft10
    have hin14 : ¬ ((1 : Int32) < 0 ∨ cl14.slots.size ≤ ((1 : Int32)).toNatClampNeg) := inb_of S14 ⟨by decide, by decide⟩
    have hat14 : cl14.slots[((1 : Int32)).toNatClampNeg]? = some (.double (FP.l2d (F i1))) := H14.at hin14 rfl
    refine Go.st (f' := (mkF m 104 #[rv a1, .val (.int (N i)), .val (.double (FP.l2d (F i))), .second, iv 4, iv 1] [(.double (FP.l2d (F i1))), (.int 4), (.ref cA)])) (fun _ k => X13.daload hx (j := (1 : Int32)) (v := (.double (FP.l2d (F i1)))) (by rw [e13]; exact Ar14.1) (State.isArrayOf_alike hZ.alike Ar14.2.1) Ar14.2.2 hin14 hat14 (g := (mkF m 103 #[rv a1, .val (.int (N i)), .val (.double (FP.l2d (F i))), .second, iv 4, iv 1] [(.int 1), (.ref cA), (.int 4), (.ref cA)])) rfl rfl (hb hby d3_103) _ k) ?_
    obtain ⟨cl15, Ar15, q15, S15, Nx15, H15, G15⟩ := id ft10
    have hin15 : ¬ ((4 : Int32) < 0 ∨ cl15.slots.size ≤ ((4 : Int32)).toNatClampNeg) := inb_of S15 ⟨by decide, by decide⟩
    obtain ⟨T16, h16, X16, e16, W16, st16⟩ := stD X13 hx hZ e13 Ar15 (j := (4 : Int32)) hin15 (g := (mkF m 104 #[rv a1, .val (.int (N i)), .val (.double (FP.l2d (F i))), .second, iv 4, iv 1] [(.double (FP.l2d (F i1))), (.int 4), (.ref cA)])) rfl rfl (hb hby d3_104)
    have V_cA_16 : Arv Z h16 cA kA .double (16 : Int32) [(.double (FP.l2d (F i0))), (.double (FP.l2d (F i1))), (.double (FP.l2d (F i2))), (.double (FP.l2d (F i3))), (.double (FP.l2d (F i1)))] (.double (FP.l2d 0)) := Arv.set Ar15 q15 S15 Nx15 H15 G15 rfl W16 4 rfl (Nat.le_of_ble_eq_true rfl)
    have N16 := Fr.snoc X16 N6 g_cA
    have O16 : Old Z n0 h16 := O6.wr W16 g_cA
    have K16 : Keep h0 h16 [a1, cA, nA] := K6.wr W16 (Or.inl (List.mem_of_getElem? (i := 1) rfl))
    refine Go.st (f' := (mkF m 105 #[rv a1, .val (.int (N i)), .val (.double (FP.l2d (F i))), .second, iv 4, iv 1] [])) (fun _ k => st16 _ k) ?_
    refine Go.st (f' := (mkF m 106 #[rv a1, .val (.int (N i)), .val (.double (FP.l2d (F i))), .second, iv 4, iv 1] [(.ref a1)])) (fun _ k => XS.aloadN X16.here hx rfl (hb hby d3_105) rfl rfl k) ?_
    have ft17 := ((F_a1_items.other W6 (Or.inr (slot_ne (Or.inl (ww hw 14 rfl)) (Or.inl (ww hw 21 rfl)) (by decide) (t := (.array .int)) (t' := .int) (by decide) (by decide)))).other W16 (Or.inl nt_a1_cA))
    obtain ⟨T18, X18, e18, st18⟩ := getF X16 hx hZ hown (host := "") (Or.inl (ww hw 13 rfl)) Via.refl e16 ft17 (g := (mkF m 106 #[rv a1, .val (.int (N i)), .val (.double (FP.l2d (F i))), .second, iv 4, iv 1] [(.ref a1)])) rfl rfl (hb hby d3_106)
    refine Go.st (f' := (mkF m 109 #[rv a1, .val (.int (N i)), .val (.double (FP.l2d (F i))), .second, iv 4, iv 1] [(.ref nA)])) (fun _ k => st18 _ k) ?_
    refine Go.st (f' := (mkF m 111 #[rv a1, .val (.int (N i)), .val (.double (FP.l2d (F i))), .second, iv 4, iv 1] [(.int 4), (.ref nA)])) (fun _ k => XS.iload X18.here hx rfl (hb hby d3_109) rfl k) ?_
    refine Go.st (f' := (mkF m 112 #[rv a1, .val (.int (N i)), .val (.double (FP.l2d (F i))), .second, iv 4, iv 1] [(.ref a1), (.int 4), (.ref nA)])) (fun _ k => XS.aloadN X18.here hx rfl (hb hby d3_111) rfl rfl k) ?_
    obtain ⟨T19, X19, e19, st19⟩ := getF X18 hx hZ hown (host := "") (Or.inl (ww hw 13 rfl)) Via.refl e18 ft17 (g := (mkF m 112 #[rv a1, .val (.int (N i)), .val (.double (FP.l2d (F i))), .second, iv 4, iv 1] [(.ref a1), (.int 4), (.ref nA)])) rfl rfl (hb hby d3_112)
    refine Go.st (f' := (mkF m 115 #[rv a1, .val (.int (N i)), .val (.double (FP.l2d (F i))), .second, iv 4, iv 1] [(.ref nA), (.int 4), (.ref nA)])) (fun _ k => st19 _ k) ?_
    refine Go.st (f' := (mkF m 117 #[rv a1, .val (.int (N i)), .val (.double (FP.l2d (F i))), .second, iv 4, iv 1] [(.int 1), (.ref nA), (.int 4), (.ref nA)])) (fun _ k => XS.iload X19.here hx rfl (hb hby d3_115) rfl k) ?_
    have ft21 := ((V_nA.other W6 (Ne.symm nt_a1_nA)).other W16 (Ne.symm nn))
    obtain ⟨cl20, Ar20, -, S20, -, H20, -⟩ := id ft21
    have hin20 : ¬ ((1 : Int32) < 0 ∨ cl20.slots.size ≤ ((1 : Int32)).toNatClampNeg) := inb_of S20 ⟨by decide, by decide⟩
    have hat20 : cl20.slots[((1 : Int32)).toNatClampNeg]? = some (.int (N i1)) := H20.at hin20 rfl
    refine Go.st (f' := (mkF m 118 #[rv a1, .val (.int (N i)), .val (.double (FP.l2d (F i))), .second, iv 4, iv 1] [(.int (N i1)), (.int 4), (.ref nA)])) (fun _ k => X19.iaload hx (j := (1 : Int32)) (v := (.int (N i1))) (by rw [e19]; exact Ar20.1) (State.isArrayOf_alike hZ.alike Ar20.2.1) Ar20.2.2 hin20 hat20 (g := (mkF m 117 #[rv a1, .val (.int (N i)), .val (.double (FP.l2d (F i))), .second, iv 4, iv 1] [(.int 1), (.ref nA), (.int 4), (.ref nA)])) rfl rfl (hb hby d3_117) _ k) ?_
    obtain ⟨cl22, Ar22, q22, S22, Nx22, H22, G22⟩ := id ft21
    have hin22 : ¬ ((4 : Int32) < 0 ∨ cl22.slots.size ≤ ((4 : Int32)).toNatClampNeg) := inb_of S22 ⟨by decide, by decide⟩
    obtain ⟨T23, h23, X23, e23, W23, st23⟩ := stI X19 hx hZ e19 Ar22 (j := (4 : Int32)) hin22 (g := (mkF m 118 #[rv a1, .val (.int (N i)), .val (.double (FP.l2d (F i))), .second, iv 4, iv 1] [(.int (N i1)), (.int 4), (.ref nA)])) rfl rfl (hb hby d3_118)
    have V_nA_23 : Arv Z h23 nA kN .int (16 : Int32) [(.int (N i0)), (.int (N i1)), (.int (N i2)), (.int (N i3)), (.int (N i1))] (.int (0 : Int32)) := Arv.set Ar22 q22 S22 Nx22 H22 G22 rfl W23 4 rfl (Nat.le_of_ble_eq_true rfl)
    have N23 := Fr.snoc X23 N16 g_nA
    have O23 : Old Z n0 h23 := O16.wr W23 g_nA
    have K23 : Keep h0 h23 [a1, cA, nA] := K16.wr W23 (Or.inl (List.mem_of_getElem? (i := 2) rfl))
    refine Go.st (f' := (mkF m 119 #[rv a1, .val (.int (N i)), .val (.double (FP.l2d (F i))), .second, iv 4, iv 1] [])) (fun _ k => st23 _ k) ?_
    refine Go.st (f' := (mkF m 121 #[rv a1, .val (.int (N i)), .val (.double (FP.l2d (F i))), .second, iv 4, iv 1] [(.int 1)])) (fun _ k => XS.iload X23.here hx rfl (hb hby d3_119) rfl k) ?_
    refine Go.st (f' := (mkF m 123 #[rv a1, .val (.int (N i)), .val (.double (FP.l2d (F i))), .second, iv 1, iv 1] [])) (fun _ k => XS.istore X23.here hx rfl (hb hby d3_121) rfl (l' := #[rv a1, .val (.int (N i)), .val (.double (FP.l2d (F i))), .second, iv 1, iv 1]) rfl k) ?_
    refine Go.st (f' := (mkF m 62 #[rv a1, .val (.int (N i)), .val (.double (FP.l2d (F i))), .second, iv 1, iv 1] [])) (fun _ k => XS.goto X23.here hx rfl (pc0 := 123) (pc' := 62) rfl (hb hby d3_123) (by decide) (by decide) k) ?_
    refine Go.st (f' := (mkF m 64 #[rv a1, .val (.int (N i)), .val (.double (FP.l2d (F i))), .second, iv 1, iv 1] [(.int 1)])) (fun _ k => XS.iload X23.here hx rfl (hb hby d3_62) rfl k) ?_
    refine Go.st (f' := (mkF m 67 #[rv a1, .val (.int (N i)), .val (.double (FP.l2d (F i))), .second, iv 1, iv 1] [])) (fun _ k => XS.ifNo X23.here hx rfl (hb hby d3_64) rfl (by decide) k) ?_
    refine Go.st (f' := (mkF m 68 #[rv a1, .val (.int (N i)), .val (.double (FP.l2d (F i))), .second, iv 1, iv 1] [(.ref a1)])) (fun _ k => XS.aloadN X23.here hx rfl (hb hby d3_67) rfl rfl k) ?_
    have ft24 := ((ft7.other W16 (Or.inl nt_a1_cA)).other W23 (Or.inl nt_a1_nA))
    obtain ⟨T25, X25, e25, st25⟩ := getF X23 hx hZ hown (host := "") (Or.inl (ww hw 10 rfl)) Via.refl e23 ft24 (g := (mkF m 68 #[rv a1, .val (.int (N i)), .val (.double (FP.l2d (F i))), .second, iv 1, iv 1] [(.ref a1)])) rfl rfl (hb hby d3_68)
    refine Go.st (f' := (mkF m 71 #[rv a1, .val (.int (N i)), .val (.double (FP.l2d (F i))), .second, iv 1, iv 1] [(.ref cA)])) (fun _ k => st25 _ k) ?_
    refine Go.st (f' := (mkF m 73 #[rv a1, .val (.int (N i)), .val (.double (FP.l2d (F i))), .second, iv 1, iv 1] [(.int 1), (.ref cA)])) (fun _ k => XS.iload X25.here hx rfl (hb hby d3_71) rfl k) ?_
    refine Go.st (f' := (mkF m 74 #[rv a1, .val (.int (N i)), .val (.double (FP.l2d (F i))), .second, iv 1, iv 1] [(.int 1), (.int 1), (.ref cA)])) (fun _ k => XS.iconst X25.here hx rfl (hb hby d3_73) k) ?_
    refine Go.st (f' := (mkF m 75 #[rv a1, .val (.int (N i)), .val (.double (FP.l2d (F i))), .second, iv 1, iv 1] [(.int 0), (.ref cA)])) (fun _ k => XS.isub X25.here hx rfl (hb hby d3_74) rfl k) ?_
    refine Go.st (f' := (mkF m 76 #[rv a1, .val (.int (N i)), .val (.double (FP.l2d (F i))), .second, iv 1, iv 1] [(.int 2), (.int 0), (.ref cA)])) (fun _ k => XS.iconst X25.here hx rfl (hb hby d3_75) k) ?_
    refine Go.st (f' := (mkF m 77 #[rv a1, .val (.int (N i)), .val (.double (FP.l2d (F i))), .second, iv 1, iv 1] [(.int 0), (.ref cA)])) (fun _ k => XS.idiv X25.here hx rfl (hb hby d3_76) rfl (by decide) k) ?_
    have ft27 := (V_cA_16.other W23 nn)
    obtain ⟨cl26, Ar26, -, S26, -, H26, -⟩ := id ft27
    have hin26 : ¬ ((0 : Int32) < 0 ∨ cl26.slots.size ≤ ((0 : Int32)).toNatClampNeg) := inb_of S26 ⟨by decide, by decide⟩
    have hat26 : cl26.slots[((0 : Int32)).toNatClampNeg]? = some (.double (FP.l2d (F i0))) := H26.at hin26 rfl
    refine Go.st (f' := (mkF m 78 #[rv a1, .val (.int (N i)), .val (.double (FP.l2d (F i))), .second, iv 1, iv 1] [(.double (FP.l2d (F i0)))])) (fun _ k => X25.daload hx (j := (0 : Int32)) (v := (.double (FP.l2d (F i0)))) (by rw [e25]; exact Ar26.1) (State.isArrayOf_alike hZ.alike Ar26.2.1) Ar26.2.2 hin26 hat26 (g := (mkF m 77 #[rv a1, .val (.int (N i)), .val (.double (FP.l2d (F i))), .second, iv 1, iv 1] [(.int 0), (.ref cA)])) rfl rfl (hb hby d3_77) _ k) ?_
    refine Go.st (f' := (mkF m 79 #[rv a1, .val (.int (N i)), .val (.double (FP.l2d (F i))), .second, iv 1, iv 1] [(.double (FP.l2d (F i))), (.double (FP.l2d (F i0)))])) (fun _ k => XS.dloadN X25.here hx rfl (hb hby d3_78) rfl k) ?_
    refine Go.st (f' := (mkF m 80 #[rv a1, .val (.int (N i)), .val (.double (FP.l2d (F i))), .second, iv 1, iv 1] [(.int (lcmpW (F i0) (F i)))])) (fun _ k => XS.dcmpS X25.here hx rfl (hb hby d3_79) rfl (dcmpV_w (hF _) (hF _) _) k) ?_
    by_cases cd28 : (0 : Int32) < (lcmpW (F i0) (F i))
    · refine Go.st (f' := (mkF m 83 #[rv a1, .val (.int (N i)), .val (.double (FP.l2d (F i))), .second, iv 1, iv 1] [])) (fun _ k => XS.ifNo X25.here hx rfl (hb hby d3_80) rfl ((if0 _ _).trans (tlt cd28).2.2.2) k) ?_
      refine Go.st (f' := (mkF m 85 #[rv a1, .val (.int (N i)), .val (.double (FP.l2d (F i))), .second, iv 1, iv 1] [(.int 1)])) (fun _ k => XS.iload X25.here hx rfl (hb hby d3_83) rfl k) ?_
      refine Go.st (f' := (mkF m 86 #[rv a1, .val (.int (N i)), .val (.double (FP.l2d (F i))), .second, iv 1, iv 1] [(.int 1), (.int 1)])) (fun _ k => XS.iconst X25.here hx rfl (hb hby d3_85) k) ?_
      refine Go.st (f' := (mkF m 87 #[rv a1, .val (.int (N i)), .val (.double (FP.l2d (F i))), .second, iv 1, iv 1] [(.int 0)])) (fun _ k => XS.isub X25.here hx rfl (hb hby d3_86) rfl k) ?_
      refine Go.st (f' := (mkF m 88 #[rv a1, .val (.int (N i)), .val (.double (FP.l2d (F i))), .second, iv 1, iv 1] [(.int 2), (.int 0)])) (fun _ k => XS.iconst X25.here hx rfl (hb hby d3_87) k) ?_
      refine Go.st (f' := (mkF m 89 #[rv a1, .val (.int (N i)), .val (.double (FP.l2d (F i))), .second, iv 1, iv 1] [(.int 0)])) (fun _ k => XS.idiv X25.here hx rfl (hb hby d3_88) rfl (by decide) k) ?_
      refine Go.st (f' := (mkF m 91 #[rv a1, .val (.int (N i)), .val (.double (FP.l2d (F i))), .second, iv 1, iv 0] [])) (fun _ k => XS.istore X25.here hx rfl (hb hby d3_89) rfl (l' := #[rv a1, .val (.int (N i)), .val (.double (FP.l2d (F i))), .second, iv 1, iv 0]) rfl k) ?_
      refine Go.st (f' := (mkF m 92 #[rv a1, .val (.int (N i)), .val (.double (FP.l2d (F i))), .second, iv 1, iv 0] [(.ref a1)])) (fun _ k => XS.aloadN X25.here hx rfl (hb hby d3_91) rfl rfl k) ?_
      obtain ⟨T29, X29, e29, st29⟩ := getF X25 hx hZ hown (host := "") (Or.inl (ww hw 10 rfl)) Via.refl e25 ft24 (g := (mkF m 92 #[rv a1, .val (.int (N i)), .val (.double (FP.l2d (F i))), .second, iv 1, iv 0] [(.ref a1)])) rfl rfl (hb hby d3_92)
      refine Go.st (f' := (mkF m 95 #[rv a1, .val (.int (N i)), .val (.double (FP.l2d (F i))), .second, iv 1, iv 0] [(.ref cA)])) (fun _ k => st29 _ k) ?_
      refine Go.st (f' := (mkF m 97 #[rv a1, .val (.int (N i)), .val (.double (FP.l2d (F i))), .second, iv 1, iv 0] [(.int 1), (.ref cA)])) (fun _ k => XS.iload X29.here hx rfl (hb hby d3_95) rfl k) ?_
      refine Go.st (f' := (mkF m 98 #[rv a1, .val (.int (N i)), .val (.double (FP.l2d (F i))), .second, iv 1, iv 0] [(.ref a1), (.int 1), (.ref cA)])) (fun _ k => XS.aloadN X29.here hx rfl (hb hby d3_97) rfl rfl k) ?_
      obtain ⟨T30, X30, e30, st30⟩ := getF X29 hx hZ hown (host := "") (Or.inl (ww hw 10 rfl)) Via.refl e29 ft24 (g := (mkF m 98 #[rv a1, .val (.int (N i)), .val (.double (FP.l2d (F i))), .second, iv 1, iv 0] [(.ref a1), (.int 1), (.ref cA)])) rfl rfl (hb hby d3_98)
      refine Go.st (f' := (mkF m 101 #[rv a1, .val (.int (N i)), .val (.double (FP.l2d (F i))), .second, iv 1, iv 0] [(.ref cA), (.int 1), (.ref cA)])) (fun _ k => st30 _ k) ?_
      refine Go.st (f' := (mkF m 103 #[rv a1, .val (.int (N i)), .val (.double (FP.l2d (F i))), .second, iv 1, iv 0] [(.int 0), (.ref cA), (.int 1), (.ref cA)])) (fun _ k => XS.iload X30.here hx rfl (hb hby d3_101) rfl k) ?_
      obtain ⟨cl31, Ar31, -, S31, -, H31, -⟩ := id ft27
      have hin31 : ¬ ((0 : Int32) < 0 ∨ cl31.slots.size ≤ ((0 : Int32)).toNatClampNeg) := inb_of S31 ⟨by decide, by decide⟩
      have hat31 : cl31.slots[((0 : Int32)).toNatClampNeg]? = some (.double (FP.l2d (F i0))) := H31.at hin31 rfl
      refine Go.st (f' := (mkF m 104 #[rv a1, .val (.int (N i)), .val (.double (FP.l2d (F i))), .second, iv 1, iv 0] [(.double (FP.l2d (F i0))), (.int 1), (.ref cA)])) (fun _ k => X30.daload hx (j := (0 : Int32)) (v := (.double (FP.l2d (F i0)))) (by rw [e30]; exact Ar31.1) (State.isArrayOf_alike hZ.alike Ar31.2.1) Ar31.2.2 hin31 hat31 (g := (mkF m 103 #[rv a1, .val (.int (N i)), .val (.double (FP.l2d (F i))), .second, iv 1, iv 0] [(.int 0), (.ref cA), (.int 1), (.ref cA)])) rfl rfl (hb hby d3_103) _ k) ?_
      obtain ⟨cl32, Ar32, q32, S32, Nx32, H32, G32⟩ := id ft27
      have hin32 : ¬ ((1 : Int32) < 0 ∨ cl32.slots.size ≤ ((1 : Int32)).toNatClampNeg) := inb_of S32 ⟨by decide, by decide⟩
      obtain ⟨T33, h33, X33, e33, W33, st33⟩ := stD X30 hx hZ e30 Ar32 (j := (1 : Int32)) hin32 (g := (mkF m 104 #[rv a1, .val (.int (N i)), .val (.double (FP.l2d (F i))), .second, iv 1, iv 0] [(.double (FP.l2d (F i0))), (.int 1), (.ref cA)])) rfl rfl (hb hby d3_104)
      have V_cA_33 : Arv Z h33 cA kA .double (16 : Int32) [(.double (FP.l2d (F i0))), (.double (FP.l2d (F i0))), (.double (FP.l2d (F i2))), (.double (FP.l2d (F i3))), (.double (FP.l2d (F i1)))] (.double (FP.l2d 0)) := Arv.set Ar32 q32 S32 Nx32 H32 G32 rfl W33 1 rfl (Nat.le_of_ble_eq_true rfl)
      have N33 := Fr.snoc X33 N23 g_cA
      have O33 : Old Z n0 h33 := O23.wr W33 g_cA
      have K33 : Keep h0 h33 [a1, cA, nA] := K23.wr W33 (Or.inl (List.mem_of_getElem? (i := 1) rfl))
      refine Go.st (f' := (mkF m 105 #[rv a1, .val (.int (N i)), .val (.double (FP.l2d (F i))), .second, iv 1, iv 0] [])) (fun _ k => st33 _ k) ?_
      refine Go.st (f' := (mkF m 106 #[rv a1, .val (.int (N i)), .val (.double (FP.l2d (F i))), .second, iv 1, iv 0] [(.ref a1)])) (fun _ k => XS.aloadN X33.here hx rfl (hb hby d3_105) rfl rfl k) ?_
      have ft34 := ((ft17.other W23 (Or.inl nt_a1_nA)).other W33 (Or.inl nt_a1_cA))
      obtain ⟨T35, X35, e35, st35⟩ := getF X33 hx hZ hown (host := "") (Or.inl (ww hw 13 rfl)) Via.refl e33 ft34 (g := (mkF m 106 #[rv a1, .val (.int (N i)), .val (.double (FP.l2d (F i))), .second, iv 1, iv 0] [(.ref a1)])) rfl rfl (hb hby d3_106)
      refine Go.st (f' := (mkF m 109 #[rv a1, .val (.int (N i)), .val (.double (FP.l2d (F i))), .second, iv 1, iv 0] [(.ref nA)])) (fun _ k => st35 _ k) ?_
      refine Go.st (f' := (mkF m 111 #[rv a1, .val (.int (N i)), .val (.double (FP.l2d (F i))), .second, iv 1, iv 0] [(.int 1), (.ref nA)])) (fun _ k => XS.iload X35.here hx rfl (hb hby d3_109) rfl k) ?_
      refine Go.st (f' := (mkF m 112 #[rv a1, .val (.int (N i)), .val (.double (FP.l2d (F i))), .second, iv 1, iv 0] [(.ref a1), (.int 1), (.ref nA)])) (fun _ k => XS.aloadN X35.here hx rfl (hb hby d3_111) rfl rfl k) ?_
      obtain ⟨T36, X36, e36, st36⟩ := getF X35 hx hZ hown (host := "") (Or.inl (ww hw 13 rfl)) Via.refl e35 ft34 (g := (mkF m 112 #[rv a1, .val (.int (N i)), .val (.double (FP.l2d (F i))), .second, iv 1, iv 0] [(.ref a1), (.int 1), (.ref nA)])) rfl rfl (hb hby d3_112)
      refine Go.st (f' := (mkF m 115 #[rv a1, .val (.int (N i)), .val (.double (FP.l2d (F i))), .second, iv 1, iv 0] [(.ref nA), (.int 1), (.ref nA)])) (fun _ k => st36 _ k) ?_
      refine Go.st (f' := (mkF m 117 #[rv a1, .val (.int (N i)), .val (.double (FP.l2d (F i))), .second, iv 1, iv 0] [(.int 0), (.ref nA), (.int 1), (.ref nA)])) (fun _ k => XS.iload X36.here hx rfl (hb hby d3_115) rfl k) ?_
      have ft38 := (V_nA_23.other W33 (Ne.symm nn))
      obtain ⟨cl37, Ar37, -, S37, -, H37, -⟩ := id ft38
      have hin37 : ¬ ((0 : Int32) < 0 ∨ cl37.slots.size ≤ ((0 : Int32)).toNatClampNeg) := inb_of S37 ⟨by decide, by decide⟩
      have hat37 : cl37.slots[((0 : Int32)).toNatClampNeg]? = some (.int (N i0)) := H37.at hin37 rfl
      refine Go.st (f' := (mkF m 118 #[rv a1, .val (.int (N i)), .val (.double (FP.l2d (F i))), .second, iv 1, iv 0] [(.int (N i0)), (.int 1), (.ref nA)])) (fun _ k => X36.iaload hx (j := (0 : Int32)) (v := (.int (N i0))) (by rw [e36]; exact Ar37.1) (State.isArrayOf_alike hZ.alike Ar37.2.1) Ar37.2.2 hin37 hat37 (g := (mkF m 117 #[rv a1, .val (.int (N i)), .val (.double (FP.l2d (F i))), .second, iv 1, iv 0] [(.int 0), (.ref nA), (.int 1), (.ref nA)])) rfl rfl (hb hby d3_117) _ k) ?_
      obtain ⟨cl39, Ar39, q39, S39, Nx39, H39, G39⟩ := id ft38
      have hin39 : ¬ ((1 : Int32) < 0 ∨ cl39.slots.size ≤ ((1 : Int32)).toNatClampNeg) := inb_of S39 ⟨by decide, by decide⟩
      obtain ⟨T40, h40, X40, e40, W40, st40⟩ := stI X36 hx hZ e36 Ar39 (j := (1 : Int32)) hin39 (g := (mkF m 118 #[rv a1, .val (.int (N i)), .val (.double (FP.l2d (F i))), .second, iv 1, iv 0] [(.int (N i0)), (.int 1), (.ref nA)])) rfl rfl (hb hby d3_118)
      have V_nA_40 : Arv Z h40 nA kN .int (16 : Int32) [(.int (N i0)), (.int (N i0)), (.int (N i2)), (.int (N i3)), (.int (N i1))] (.int (0 : Int32)) := Arv.set Ar39 q39 S39 Nx39 H39 G39 rfl W40 1 rfl (Nat.le_of_ble_eq_true rfl)
      have N40 := Fr.snoc X40 N33 g_nA
      have O40 : Old Z n0 h40 := O33.wr W40 g_nA
      have K40 : Keep h0 h40 [a1, cA, nA] := K33.wr W40 (Or.inl (List.mem_of_getElem? (i := 2) rfl))
      refine Go.st (f' := (mkF m 119 #[rv a1, .val (.int (N i)), .val (.double (FP.l2d (F i))), .second, iv 1, iv 0] [])) (fun _ k => st40 _ k) ?_
      refine Go.st (f' := (mkF m 121 #[rv a1, .val (.int (N i)), .val (.double (FP.l2d (F i))), .second, iv 1, iv 0] [(.int 0)])) (fun _ k => XS.iload X40.here hx rfl (hb hby d3_119) rfl k) ?_
      refine Go.st (f' := (mkF m 123 #[rv a1, .val (.int (N i)), .val (.double (FP.l2d (F i))), .second, iv 0, iv 0] [])) (fun _ k => XS.istore X40.here hx rfl (hb hby d3_121) rfl (l' := #[rv a1, .val (.int (N i)), .val (.double (FP.l2d (F i))), .second, iv 0, iv 0]) rfl k) ?_
      refine Go.st (f' := (mkF m 62 #[rv a1, .val (.int (N i)), .val (.double (FP.l2d (F i))), .second, iv 0, iv 0] [])) (fun _ k => XS.goto X40.here hx rfl (pc0 := 123) (pc' := 62) rfl (hb hby d3_123) (by decide) (by decide) k) ?_
      refine Go.st (f' := (mkF m 64 #[rv a1, .val (.int (N i)), .val (.double (FP.l2d (F i))), .second, iv 0, iv 0] [(.int 0)])) (fun _ k => XS.iload X40.here hx rfl (hb hby d3_62) rfl k) ?_
      refine Go.st (f' := (mkF m 126 #[rv a1, .val (.int (N i)), .val (.double (FP.l2d (F i))), .second, iv 0, iv 0] [])) (fun _ k => XS.ifYes X40.here hx rfl (pc0 := 64) (pc' := 126) rfl (hb hby d3_64) rfl (by decide) (by decide) (by decide) k) ?_
      refine Go.st (f' := (mkF m 127 #[rv a1, .val (.int (N i)), .val (.double (FP.l2d (F i))), .second, iv 0, iv 0] [(.ref a1)])) (fun _ k => XS.aloadN X40.here hx rfl (hb hby d3_126) rfl rfl k) ?_
      have ft41 := ((ft24.other W33 (Or.inl nt_a1_cA)).other W40 (Or.inl nt_a1_nA))
      obtain ⟨T42, X42, e42, st42⟩ := getF X40 hx hZ hown (host := "") (Or.inl (ww hw 10 rfl)) Via.refl e40 ft41 (g := (mkF m 127 #[rv a1, .val (.int (N i)), .val (.double (FP.l2d (F i))), .second, iv 0, iv 0] [(.ref a1)])) rfl rfl (hb hby d3_127)
      refine Go.st (f' := (mkF m 130 #[rv a1, .val (.int (N i)), .val (.double (FP.l2d (F i))), .second, iv 0, iv 0] [(.ref cA)])) (fun _ k => st42 _ k) ?_
      refine Go.st (f' := (mkF m 132 #[rv a1, .val (.int (N i)), .val (.double (FP.l2d (F i))), .second, iv 0, iv 0] [(.int 0), (.ref cA)])) (fun _ k => XS.iload X42.here hx rfl (hb hby d3_130) rfl k) ?_
      refine Go.st (f' := (mkF m 133 #[rv a1, .val (.int (N i)), .val (.double (FP.l2d (F i))), .second, iv 0, iv 0] [(.double (FP.l2d (F i))), (.int 0), (.ref cA)])) (fun _ k => XS.dloadN X42.here hx rfl (hb hby d3_132) rfl k) ?_
      have ft43 := (V_cA_33.other W40 nn)
      obtain ⟨cl44, Ar44, q44, S44, Nx44, H44, G44⟩ := id ft43
      have hin44 : ¬ ((0 : Int32) < 0 ∨ cl44.slots.size ≤ ((0 : Int32)).toNatClampNeg) := inb_of S44 ⟨by decide, by decide⟩
      obtain ⟨T45, h45, X45, e45, W45, st45⟩ := stD X42 hx hZ e42 Ar44 (j := (0 : Int32)) hin44 (g := (mkF m 133 #[rv a1, .val (.int (N i)), .val (.double (FP.l2d (F i))), .second, iv 0, iv 0] [(.double (FP.l2d (F i))), (.int 0), (.ref cA)])) rfl rfl (hb hby d3_133)
      have V_cA_45 : Arv Z h45 cA kA .double (16 : Int32) [(.double (FP.l2d (F i))), (.double (FP.l2d (F i0))), (.double (FP.l2d (F i2))), (.double (FP.l2d (F i3))), (.double (FP.l2d (F i1)))] (.double (FP.l2d 0)) := Arv.set Ar44 q44 S44 Nx44 H44 G44 rfl W45 0 rfl (Nat.le_of_ble_eq_true rfl)
      have N45 := Fr.snoc X45 N40 g_cA
      have O45 : Old Z n0 h45 := O40.wr W45 g_cA
      have K45 : Keep h0 h45 [a1, cA, nA] := K40.wr W45 (Or.inl (List.mem_of_getElem? (i := 1) rfl))
      refine Go.st (f' := (mkF m 134 #[rv a1, .val (.int (N i)), .val (.double (FP.l2d (F i))), .second, iv 0, iv 0] [])) (fun _ k => st45 _ k) ?_
      refine Go.st (f' := (mkF m 135 #[rv a1, .val (.int (N i)), .val (.double (FP.l2d (F i))), .second, iv 0, iv 0] [(.ref a1)])) (fun _ k => XS.aloadN X45.here hx rfl (hb hby d3_134) rfl rfl k) ?_
      have ft46 := ((ft34.other W40 (Or.inl nt_a1_nA)).other W45 (Or.inl nt_a1_cA))
      obtain ⟨T47, X47, e47, st47⟩ := getF X45 hx hZ hown (host := "") (Or.inl (ww hw 13 rfl)) Via.refl e45 ft46 (g := (mkF m 135 #[rv a1, .val (.int (N i)), .val (.double (FP.l2d (F i))), .second, iv 0, iv 0] [(.ref a1)])) rfl rfl (hb hby d3_135)
      refine Go.st (f' := (mkF m 138 #[rv a1, .val (.int (N i)), .val (.double (FP.l2d (F i))), .second, iv 0, iv 0] [(.ref nA)])) (fun _ k => st47 _ k) ?_
      refine Go.st (f' := (mkF m 140 #[rv a1, .val (.int (N i)), .val (.double (FP.l2d (F i))), .second, iv 0, iv 0] [(.int 0), (.ref nA)])) (fun _ k => XS.iload X47.here hx rfl (hb hby d3_138) rfl k) ?_
      refine Go.st (f' := (mkF m 141 #[rv a1, .val (.int (N i)), .val (.double (FP.l2d (F i))), .second, iv 0, iv 0] [(.int (N i)), (.int 0), (.ref nA)])) (fun _ k => XS.iloadN X47.here hx rfl (hb hby d3_140) rfl k) ?_
      have ft48 := (V_nA_40.other W45 (Ne.symm nn))
      obtain ⟨cl49, Ar49, q49, S49, Nx49, H49, G49⟩ := id ft48
      have hin49 : ¬ ((0 : Int32) < 0 ∨ cl49.slots.size ≤ ((0 : Int32)).toNatClampNeg) := inb_of S49 ⟨by decide, by decide⟩
      obtain ⟨T50, h50, X50, e50, W50, st50⟩ := stI X47 hx hZ e47 Ar49 (j := (0 : Int32)) hin49 (g := (mkF m 141 #[rv a1, .val (.int (N i)), .val (.double (FP.l2d (F i))), .second, iv 0, iv 0] [(.int (N i)), (.int 0), (.ref nA)])) rfl rfl (hb hby d3_141)
      have V_nA_50 : Arv Z h50 nA kN .int (16 : Int32) [(.int (N i)), (.int (N i0)), (.int (N i2)), (.int (N i3)), (.int (N i1))] (.int (0 : Int32)) := Arv.set Ar49 q49 S49 Nx49 H49 G49 rfl W50 0 rfl (Nat.le_of_ble_eq_true rfl)
      have N50 := Fr.snoc X50 N45 g_nA
      have O50 : Old Z n0 h50 := O45.wr W50 g_nA
      have K50 : Keep h0 h50 [a1, cA, nA] := K45.wr W50 (Or.inl (List.mem_of_getElem? (i := 2) rfl))
      refine Go.st (f' := (mkF m 142 #[rv a1, .val (.int (N i)), .val (.double (FP.l2d (F i))), .second, iv 0, iv 0] [])) (fun _ k => st50 _ k) ?_
      refine Go.ret0 X50 hlk hx hret (hb hby d3_142) e50 ?_ (by decide) (by decide)
      have c_cd11 :=  (own_lw (F i1) (F i)).2.mp cd11
      have c_cd28 :=  (own_lw (F i0) (F i)).2.mp cd28
      have ft51 := (((((((E_a1.wr W6).wr W16).wr W23).wr W33).wr W40).wr W45).wr W50)
      have ft52 := ((((((Fw6.other W16 (Or.inl nt_a1_cA)).other W23 (Or.inl nt_a1_nA)).other W33 (Or.inl nt_a1_cA)).other W40 (Or.inl nt_a1_nA)).other W45 (Or.inl nt_a1_cA)).other W50 (Or.inl nt_a1_nA))
      have ft53 := (ft46.other W50 (Or.inl nt_a1_nA))
      have ft54 := ((ft41.other W45 (Or.inl nt_a1_cA)).other W50 (Or.inl nt_a1_nA))
      have ft55 := (V_cA_45.other W50 nn)
      exact ⟨rfl, N50, K50, ft51, ft52, ft53, ft54, i, i0, i2, i3, i1, fun w => by omega, by omega, by omega, by omega, by omega, ft55, V_nA_50⟩
    · refine Go.st (f' := (mkF m 126 #[rv a1, .val (.int (N i)), .val (.double (FP.l2d (F i))), .second, iv 1, iv 1] [])) (fun _ k => XS.ifYes X25.here hx rfl (pc0 := 80) (pc' := 126) rfl (hb hby d3_80) rfl ((if0 _ _).trans (flt cd28).2.2.2) (by decide) (by decide) k) ?_
      refine Go.st (f' := (mkF m 127 #[rv a1, .val (.int (N i)), .val (.double (FP.l2d (F i))), .second, iv 1, iv 1] [(.ref a1)])) (fun _ k => XS.aloadN X25.here hx rfl (hb hby d3_126) rfl rfl k) ?_
      obtain ⟨T56, X56, e56, st56⟩ := getF X25 hx hZ hown (host := "") (Or.inl (ww hw 10 rfl)) Via.refl e25 ft24 (g := (mkF m 127 #[rv a1, .val (.int (N i)), .val (.double (FP.l2d (F i))), .second, iv 1, iv 1] [(.ref a1)])) rfl rfl (hb hby d3_127)
      refine Go.st (f' := (mkF m 130 #[rv a1, .val (.int (N i)), .val (.double (FP.l2d (F i))), .second, iv 1, iv 1] [(.ref cA)])) (fun _ k => st56 _ k) ?_
      refine Go.st (f' := (mkF m 132 #[rv a1, .val (.int (N i)), .val (.double (FP.l2d (F i))), .second, iv 1, iv 1] [(.int 1), (.ref cA)])) (fun _ k => XS.iload X56.here hx rfl (hb hby d3_130) rfl k) ?_
      refine Go.st (f' := (mkF m 133 #[rv a1, .val (.int (N i)), .val (.double (FP.l2d (F i))), .second, iv 1, iv 1] [(.double (FP.l2d (F i))), (.int 1), (.ref cA)])) (fun _ k => XS.dloadN X56.here hx rfl (hb hby d3_132) rfl k) ?_
      obtain ⟨cl57, Ar57, q57, S57, Nx57, H57, G57⟩ := id ft27
      have hin57 : ¬ ((1 : Int32) < 0 ∨ cl57.slots.size ≤ ((1 : Int32)).toNatClampNeg) := inb_of S57 ⟨by decide, by decide⟩
      obtain ⟨T58, h58, X58, e58, W58, st58⟩ := stD X56 hx hZ e56 Ar57 (j := (1 : Int32)) hin57 (g := (mkF m 133 #[rv a1, .val (.int (N i)), .val (.double (FP.l2d (F i))), .second, iv 1, iv 1] [(.double (FP.l2d (F i))), (.int 1), (.ref cA)])) rfl rfl (hb hby d3_133)
      have V_cA_58 : Arv Z h58 cA kA .double (16 : Int32) [(.double (FP.l2d (F i0))), (.double (FP.l2d (F i))), (.double (FP.l2d (F i2))), (.double (FP.l2d (F i3))), (.double (FP.l2d (F i1)))] (.double (FP.l2d 0)) := Arv.set Ar57 q57 S57 Nx57 H57 G57 rfl W58 1 rfl (Nat.le_of_ble_eq_true rfl)
      have N58 := Fr.snoc X58 N23 g_cA
      have O58 : Old Z n0 h58 := O23.wr W58 g_cA
      have K58 : Keep h0 h58 [a1, cA, nA] := K23.wr W58 (Or.inl (List.mem_of_getElem? (i := 1) rfl))
      refine Go.st (f' := (mkF m 134 #[rv a1, .val (.int (N i)), .val (.double (FP.l2d (F i))), .second, iv 1, iv 1] [])) (fun _ k => st58 _ k) ?_
      refine Go.st (f' := (mkF m 135 #[rv a1, .val (.int (N i)), .val (.double (FP.l2d (F i))), .second, iv 1, iv 1] [(.ref a1)])) (fun _ k => XS.aloadN X58.here hx rfl (hb hby d3_134) rfl rfl k) ?_
      have ft59 := ((ft17.other W23 (Or.inl nt_a1_nA)).other W58 (Or.inl nt_a1_cA))
      obtain ⟨T60, X60, e60, st60⟩ := getF X58 hx hZ hown (host := "") (Or.inl (ww hw 13 rfl)) Via.refl e58 ft59 (g := (mkF m 135 #[rv a1, .val (.int (N i)), .val (.double (FP.l2d (F i))), .second, iv 1, iv 1] [(.ref a1)])) rfl rfl (hb hby d3_135)
      refine Go.st (f' := (mkF m 138 #[rv a1, .val (.int (N i)), .val (.double (FP.l2d (F i))), .second, iv 1, iv 1] [(.ref nA)])) (fun _ k => st60 _ k) ?_
      refine Go.st (f' := (mkF m 140 #[rv a1, .val (.int (N i)), .val (.double (FP.l2d (F i))), .second, iv 1, iv 1] [(.int 1), (.ref nA)])) (fun _ k => XS.iload X60.here hx rfl (hb hby d3_138) rfl k) ?_
      refine Go.st (f' := (mkF m 141 #[rv a1, .val (.int (N i)), .val (.double (FP.l2d (F i))), .second, iv 1, iv 1] [(.int (N i)), (.int 1), (.ref nA)])) (fun _ k => XS.iloadN X60.here hx rfl (hb hby d3_140) rfl k) ?_
      have ft61 := (V_nA_23.other W58 (Ne.symm nn))
      obtain ⟨cl62, Ar62, q62, S62, Nx62, H62, G62⟩ := id ft61
      have hin62 : ¬ ((1 : Int32) < 0 ∨ cl62.slots.size ≤ ((1 : Int32)).toNatClampNeg) := inb_of S62 ⟨by decide, by decide⟩
      obtain ⟨T63, h63, X63, e63, W63, st63⟩ := stI X60 hx hZ e60 Ar62 (j := (1 : Int32)) hin62 (g := (mkF m 141 #[rv a1, .val (.int (N i)), .val (.double (FP.l2d (F i))), .second, iv 1, iv 1] [(.int (N i)), (.int 1), (.ref nA)])) rfl rfl (hb hby d3_141)
      have V_nA_63 : Arv Z h63 nA kN .int (16 : Int32) [(.int (N i0)), (.int (N i)), (.int (N i2)), (.int (N i3)), (.int (N i1))] (.int (0 : Int32)) := Arv.set Ar62 q62 S62 Nx62 H62 G62 rfl W63 1 rfl (Nat.le_of_ble_eq_true rfl)
      have N63 := Fr.snoc X63 N58 g_nA
      have O63 : Old Z n0 h63 := O58.wr W63 g_nA
      have K63 : Keep h0 h63 [a1, cA, nA] := K58.wr W63 (Or.inl (List.mem_of_getElem? (i := 2) rfl))
      refine Go.st (f' := (mkF m 142 #[rv a1, .val (.int (N i)), .val (.double (FP.l2d (F i))), .second, iv 1, iv 1] [])) (fun _ k => st63 _ k) ?_
      refine Go.ret0 X63 hlk hx hret (hb hby d3_142) e63 ?_ (by decide) (by decide)
      have c_cd11 :=  (own_lw (F i1) (F i)).2.mp cd11
      have c_cd28 := (not_congr (own_lw (F i0) (F i)).2).mp cd28
      have ft64 := (((((E_a1.wr W6).wr W16).wr W23).wr W58).wr W63)
      have ft65 := ((((Fw6.other W16 (Or.inl nt_a1_cA)).other W23 (Or.inl nt_a1_nA)).other W58 (Or.inl nt_a1_cA)).other W63 (Or.inl nt_a1_nA))
      have ft66 := (ft59.other W63 (Or.inl nt_a1_nA))
      have ft67 := ((ft24.other W58 (Or.inl nt_a1_cA)).other W63 (Or.inl nt_a1_nA))
      have ft68 := (V_cA_58.other W63 nn)
      exact ⟨rfl, N63, K63, ft64, ft65, ft66, ft67, i0, i, i2, i3, i1, fun w => by omega, by omega, by omega, by omega, by omega, ft68, V_nA_63⟩
  · refine Go.st (f' := (mkF m 126 #[rv a1, .val (.int (N i)), .val (.double (FP.l2d (F i))), .second, iv 4, .unset] [])) (fun _ k => XS.ifYes X8.here hx rfl (pc0 := 80) (pc' := 126) rfl (hb hby d3_80) rfl ((if0 _ _).trans (flt cd11).2.2.2) (by decide) (by decide) k) ?_
    refine Go.st (f' := (mkF m 127 #[rv a1, .val (.int (N i)), .val (.double (FP.l2d (F i))), .second, iv 4, .unset] [(.ref a1)])) (fun _ k => XS.aloadN X8.here hx rfl (hb hby d3_126) rfl rfl k) ?_
    obtain ⟨T69, X69, e69, st69⟩ := getF X8 hx hZ hown (host := "") (Or.inl (ww hw 10 rfl)) Via.refl e8 ft7 (g := (mkF m 127 #[rv a1, .val (.int (N i)), .val (.double (FP.l2d (F i))), .second, iv 4, .unset] [(.ref a1)])) rfl rfl (hb hby d3_127)
    refine Go.st (f' := (mkF m 130 #[rv a1, .val (.int (N i)), .val (.double (FP.l2d (F i))), .second, iv 4, .unset] [(.ref cA)])) (fun _ k => st69 _ k) ?_
    refine Go.st (f' := (mkF m 132 #[rv a1, .val (.int (N i)), .val (.double (FP.l2d (F i))), .second, iv 4, .unset] [(.int 4), (.ref cA)])) (fun _ k => XS.iload X69.here hx rfl (hb hby d3_130) rfl k) ?_
    refine Go.st (f' := (mkF m 133 #[rv a1, .val (.int (N i)), .val (.double (FP.l2d (F i))), .second, iv 4, .unset] [(.double (FP.l2d (F i))), (.int 4), (.ref cA)])) (fun _ k => XS.dloadN X69.here hx rfl (hb hby d3_132) rfl k) ?_
    obtain ⟨cl70, Ar70, q70, S70, Nx70, H70, G70⟩ := id ft10
    have hin70 : ¬ ((4 : Int32) < 0 ∨ cl70.slots.size ≤ ((4 : Int32)).toNatClampNeg) := inb_of S70 ⟨by decide, by decide⟩
    obtain ⟨T71, h71, X71, e71, W71, st71⟩ := stD X69 hx hZ e69 Ar70 (j := (4 : Int32)) hin70 (g := (mkF m 133 #[rv a1, .val (.int (N i)), .val (.double (FP.l2d (F i))), .second, iv 4, .unset] [(.double (FP.l2d (F i))), (.int 4), (.ref cA)])) rfl rfl (hb hby d3_133)
    have V_cA_71 : Arv Z h71 cA kA .double (16 : Int32) [(.double (FP.l2d (F i0))), (.double (FP.l2d (F i1))), (.double (FP.l2d (F i2))), (.double (FP.l2d (F i3))), (.double (FP.l2d (F i)))] (.double (FP.l2d 0)) := Arv.set Ar70 q70 S70 Nx70 H70 G70 rfl W71 4 rfl (Nat.le_of_ble_eq_true rfl)
    have N71 := Fr.snoc X71 N6 g_cA
    have O71 : Old Z n0 h71 := O6.wr W71 g_cA
    have K71 : Keep h0 h71 [a1, cA, nA] := K6.wr W71 (Or.inl (List.mem_of_getElem? (i := 1) rfl))
    refine Go.st (f' := (mkF m 134 #[rv a1, .val (.int (N i)), .val (.double (FP.l2d (F i))), .second, iv 4, .unset] [])) (fun _ k => st71 _ k) ?_
    refine Go.st (f' := (mkF m 135 #[rv a1, .val (.int (N i)), .val (.double (FP.l2d (F i))), .second, iv 4, .unset] [(.ref a1)])) (fun _ k => XS.aloadN X71.here hx rfl (hb hby d3_134) rfl rfl k) ?_
    have ft72 := ((F_a1_items.other W6 (Or.inr (slot_ne (Or.inl (ww hw 14 rfl)) (Or.inl (ww hw 21 rfl)) (by decide) (t := (.array .int)) (t' := .int) (by decide) (by decide)))).other W71 (Or.inl nt_a1_cA))
    obtain ⟨T73, X73, e73, st73⟩ := getF X71 hx hZ hown (host := "") (Or.inl (ww hw 13 rfl)) Via.refl e71 ft72 (g := (mkF m 135 #[rv a1, .val (.int (N i)), .val (.double (FP.l2d (F i))), .second, iv 4, .unset] [(.ref a1)])) rfl rfl (hb hby d3_135)
    refine Go.st (f' := (mkF m 138 #[rv a1, .val (.int (N i)), .val (.double (FP.l2d (F i))), .second, iv 4, .unset] [(.ref nA)])) (fun _ k => st73 _ k) ?_
    refine Go.st (f' := (mkF m 140 #[rv a1, .val (.int (N i)), .val (.double (FP.l2d (F i))), .second, iv 4, .unset] [(.int 4), (.ref nA)])) (fun _ k => XS.iload X73.here hx rfl (hb hby d3_138) rfl k) ?_
    refine Go.st (f' := (mkF m 141 #[rv a1, .val (.int (N i)), .val (.double (FP.l2d (F i))), .second, iv 4, .unset] [(.int (N i)), (.int 4), (.ref nA)])) (fun _ k => XS.iloadN X73.here hx rfl (hb hby d3_140) rfl k) ?_
    have ft74 := ((V_nA.other W6 (Ne.symm nt_a1_nA)).other W71 (Ne.symm nn))
    obtain ⟨cl75, Ar75, q75, S75, Nx75, H75, G75⟩ := id ft74
    have hin75 : ¬ ((4 : Int32) < 0 ∨ cl75.slots.size ≤ ((4 : Int32)).toNatClampNeg) := inb_of S75 ⟨by decide, by decide⟩
    obtain ⟨T76, h76, X76, e76, W76, st76⟩ := stI X73 hx hZ e73 Ar75 (j := (4 : Int32)) hin75 (g := (mkF m 141 #[rv a1, .val (.int (N i)), .val (.double (FP.l2d (F i))), .second, iv 4, .unset] [(.int (N i)), (.int 4), (.ref nA)])) rfl rfl (hb hby d3_141)
    have V_nA_76 : Arv Z h76 nA kN .int (16 : Int32) [(.int (N i0)), (.int (N i1)), (.int (N i2)), (.int (N i3)), (.int (N i))] (.int (0 : Int32)) := Arv.set Ar75 q75 S75 Nx75 H75 G75 rfl W76 4 rfl (Nat.le_of_ble_eq_true rfl)
    have N76 := Fr.snoc X76 N71 g_nA
    have O76 : Old Z n0 h76 := O71.wr W76 g_nA
    have K76 : Keep h0 h76 [a1, cA, nA] := K71.wr W76 (Or.inl (List.mem_of_getElem? (i := 2) rfl))
    refine Go.st (f' := (mkF m 142 #[rv a1, .val (.int (N i)), .val (.double (FP.l2d (F i))), .second, iv 4, .unset] [])) (fun _ k => st76 _ k) ?_
    refine Go.ret0 X76 hlk hx hret (hb hby d3_142) e76 ?_ (by decide) (by decide)
    have c_cd11 := (not_congr (own_lw (F i1) (F i)).2).mp cd11
    have ft77 := (((E_a1.wr W6).wr W71).wr W76)
    have ft78 := ((Fw6.other W71 (Or.inl nt_a1_cA)).other W76 (Or.inl nt_a1_nA))
    have ft79 := (ft72.other W76 (Or.inl nt_a1_nA))
    have ft80 := ((ft7.other W71 (Or.inl nt_a1_cA)).other W76 (Or.inl nt_a1_nA))
    have ft81 := (V_cA_71.other W76 nn)
    exact ⟨rfl, N76, K76, ft77, ft78, ft79, ft80, i0, i1, i2, i3, i, fun w => by omega, by omega, by omega, by omega, by omega, ft81, V_nA_76⟩
theorem rmA4 (l : Launch) (Z : State) (a0 : Array Value) (hw : ∀ d ∈ tables_1, d.before a0 Z = true) (ws : List Jvm.Cond) (a1 : Addr) (cA : Addr) (nA : Addr) (kA : ClassId) (kN : ClassId) (N : Int32 → Int32) (F : Int32 → Int64) (i0 : Int32) (i1 : Int32) (i2 : Int32) (i3 : Int32) (i : Int32) (nd : Int32) (x : Int64) (h0 : Heap) (n0 : Nat) (O0 : Old Z n0 h0) (en : nd = N i) (ex : x = F i) (hF : ∀ i, B53 (F i)) (g_a1 : n0 ≤ a1) (g_cA : n0 ≤ cA) (g_nA : n0 ≤ nA) (hp1 : (F i0).toInt ≤ (F i1).toInt) (hp2 : (F i0).toInt ≤ (F i2).toInt) (hp3 : (F i1).toInt ≤ (F i3).toInt) (E_a1 : Exa Z h0 a1 "com/example/kinetic_city/kineticcity/engine/CostQueue") (F_a1_size : Fld Z h0 a1 "com/example/kinetic_city/kineticcity/engine/CostQueue" "size" "I" (.int 4)) (F_a1_items : Fld Z h0 a1 "com/example/kinetic_city/kineticcity/engine/CostQueue" "items" "[I" (.ref nA)) (F_a1_costs : Fld Z h0 a1 "com/example/kinetic_city/kineticcity/engine/CostQueue" "costs" "[D" (.ref cA)) (V_cA : Arv Z h0 cA kA .double (16 : Int32) [(.double (FP.l2d (F i0))), (.double (FP.l2d (F i1))), (.double (FP.l2d (F i2))), (.double (FP.l2d (F i3))), (.double (FP.l2d 0))] (.double (FP.l2d 0))) (V_nA : Arv Z h0 nA kN .int 16 [(.int (N i0)), (.int (N i1)), (.int (N i2)), (.int (N i3)), (.int 0)] (.int 0)) :
    Con l Z (⟨"com/example/kinetic_city/kineticcity/engine/CostQueue", "add", "(ID)V"⟩ : MethodName) prog_5_method_3_code 6 none ws ({ frames := 0, cells := 0, slots := 0, locals := 0 } : Room) #[(.ref a1), (.int nd), (.double (FP.l2d x))] h0 (fun v h L => v = none ∧ Fr n0 L ∧ Keep h0 h [a1, cA, nA] ∧ Exa Z h a1 "com/example/kinetic_city/kineticcity/engine/CostQueue" ∧ Fld Z h a1 "com/example/kinetic_city/kineticcity/engine/CostQueue" "size" "I" (.int 5) ∧ Fld Z h a1 "com/example/kinetic_city/kineticcity/engine/CostQueue" "items" "[I" (.ref nA) ∧ Fld Z h a1 "com/example/kinetic_city/kineticcity/engine/CostQueue" "costs" "[D" (.ref cA) ∧ ∃ j0 j1 j2 j3 j4 : Int32, (∀ w : Int32 → Int, w j0 + w j1 + w j2 + w j3 + w j4 = w i0 + w i1 + w i2 + w i3 + w i) ∧ (F j0).toInt ≤ (F j1).toInt ∧ (F j0).toInt ≤ (F j2).toInt ∧ (F j1).toInt ≤ (F j3).toInt ∧ (F j1).toInt ≤ (F j4).toInt ∧ Arv Z h cA kA .double (16 : Int32) [(.double (FP.l2d (F j0))), (.double (FP.l2d (F j1))), (.double (FP.l2d (F j2))), (.double (FP.l2d (F j3))), (.double (FP.l2d (F j4)))] (.double (FP.l2d 0)) ∧ Arv Z h nA kN .int 16 [(.int (N j0)), (.int (N j1)), (.int (N j2)), (.int (N j3)), (.int (N j4))] (.int 0)) := by
  subst en ex
  exact rmAdd4 l Z a0 hw ws a1 cA nA kA kN N F i0 i1 i2 i3 i h0 n0 O0 hF g_a1 g_cA g_nA hp1 hp2 hp3 E_a1 F_a1_size F_a1_items F_a1_costs V_cA V_nA
theorem d4_0 : decode prog_5_method_5_code 0 = .ok (.aload_n 0, 1) := by decide +kernel
theorem d4_1 : decode prog_5_method_5_code 1 = .ok (.getfield 13, 3) := by decide +kernel
theorem d4_4 : decode prog_5_method_5_code 4 = .ok (.iconst 0, 1) := by decide +kernel
theorem d4_5 : decode prog_5_method_5_code 5 = .ok (.iaload, 1) := by decide +kernel
theorem d4_6 : decode prog_5_method_5_code 6 = .ok (.istore_n 1, 1) := by decide +kernel
theorem d4_7 : decode prog_5_method_5_code 7 = .ok (.aload_n 0, 1) := by decide +kernel
theorem d4_8 : decode prog_5_method_5_code 8 = .ok (.dup, 1) := by decide +kernel
theorem d4_9 : decode prog_5_method_5_code 9 = .ok (.getfield 17, 3) := by decide +kernel
theorem d4_12 : decode prog_5_method_5_code 12 = .ok (.iconst 1, 1) := by decide +kernel
theorem d4_13 : decode prog_5_method_5_code 13 = .ok (.isub, 1) := by decide +kernel
theorem d4_14 : decode prog_5_method_5_code 14 = .ok (.putfield 17, 3) := by decide +kernel
theorem d4_17 : decode prog_5_method_5_code 17 = .ok (.aload_n 0, 1) := by decide +kernel
theorem d4_18 : decode prog_5_method_5_code 18 = .ok (.getfield 7, 3) := by decide +kernel
theorem d4_21 : decode prog_5_method_5_code 21 = .ok (.aload_n 0, 1) := by decide +kernel
theorem d4_22 : decode prog_5_method_5_code 22 = .ok (.getfield 17, 3) := by decide +kernel
theorem d4_25 : decode prog_5_method_5_code 25 = .ok (.daload, 1) := by decide +kernel
theorem d4_26 : decode prog_5_method_5_code 26 = .ok (.dstore_n 2, 1) := by decide +kernel
theorem d4_27 : decode prog_5_method_5_code 27 = .ok (.aload_n 0, 1) := by decide +kernel
theorem d4_28 : decode prog_5_method_5_code 28 = .ok (.getfield 13, 3) := by decide +kernel
theorem d4_31 : decode prog_5_method_5_code 31 = .ok (.aload_n 0, 1) := by decide +kernel
theorem d4_32 : decode prog_5_method_5_code 32 = .ok (.getfield 17, 3) := by decide +kernel
theorem d4_35 : decode prog_5_method_5_code 35 = .ok (.iaload, 1) := by decide +kernel
theorem d4_36 : decode prog_5_method_5_code 36 = .ok (.istore 4, 2) := by decide +kernel
theorem d4_38 : decode prog_5_method_5_code 38 = .ok (.iconst 0, 1) := by decide +kernel
theorem d4_39 : decode prog_5_method_5_code 39 = .ok (.istore 5, 2) := by decide +kernel
theorem d4_41 : decode prog_5_method_5_code 41 = .ok (.iconst 1, 1) := by decide +kernel
theorem d4_42 : decode prog_5_method_5_code 42 = .ok (.istore 6, 2) := by decide +kernel
theorem d4_44 : decode prog_5_method_5_code 44 = .ok (.iload 6, 2) := by decide +kernel
theorem d4_46 : decode prog_5_method_5_code 46 = .ok (.aload_n 0, 1) := by decide +kernel
theorem d4_47 : decode prog_5_method_5_code 47 = .ok (.getfield 17, 3) := by decide +kernel
theorem d4_50 : decode prog_5_method_5_code 50 = .ok (.if_icmp .ge 95, 3) := by decide +kernel
theorem d4_145 : decode prog_5_method_5_code 145 = .ok (.aload_n 0, 1) := by decide +kernel
theorem d4_146 : decode prog_5_method_5_code 146 = .ok (.getfield 7, 3) := by decide +kernel
theorem d4_149 : decode prog_5_method_5_code 149 = .ok (.iload 5, 2) := by decide +kernel
theorem d4_151 : decode prog_5_method_5_code 151 = .ok (.dload_n 2, 1) := by decide +kernel
theorem d4_152 : decode prog_5_method_5_code 152 = .ok (.dastore, 1) := by decide +kernel
theorem d4_153 : decode prog_5_method_5_code 153 = .ok (.aload_n 0, 1) := by decide +kernel
theorem d4_154 : decode prog_5_method_5_code 154 = .ok (.getfield 13, 3) := by decide +kernel
theorem d4_157 : decode prog_5_method_5_code 157 = .ok (.iload 5, 2) := by decide +kernel
theorem d4_159 : decode prog_5_method_5_code 159 = .ok (.iload 4, 2) := by decide +kernel
theorem d4_161 : decode prog_5_method_5_code 161 = .ok (.iastore, 1) := by decide +kernel
theorem d4_162 : decode prog_5_method_5_code 162 = .ok (.iload_n 1, 1) := by decide +kernel
theorem d4_163 : decode prog_5_method_5_code 163 = .ok (.ireturn, 1) := by decide +kernel
set_option maxRecDepth 65536 in
set_option maxHeartbeats 40000000 in
theorem rmR1 (l : Launch) (Z : State) (a0 : Array Value) (hw : ∀ d ∈ tables_1, d.before a0 Z = true) (ws : List Jvm.Cond) (a1 : Addr) (cA : Addr) (nA : Addr) (kA : ClassId) (kN : ClassId) (N : Int32 → Int32) (F : Int32 → Int64) (i0 : Int32) (u0 : UInt64) (u1 : UInt64) (u2 : UInt64) (u3 : UInt64) (s0 : Int32) (s1 : Int32) (s2 : Int32) (s3 : Int32) (h0 : Heap) (n0 : Nat) (O0 : Old Z n0 h0) (hF : ∀ i, B53 (F i)) (g_a1 : n0 ≤ a1) (g_cA : n0 ≤ cA) (g_nA : n0 ≤ nA) (E_a1 : Exa Z h0 a1 "com/example/kinetic_city/kineticcity/engine/CostQueue") (F_a1_size : Fld Z h0 a1 "com/example/kinetic_city/kineticcity/engine/CostQueue" "size" "I" (.int 1)) (F_a1_items : Fld Z h0 a1 "com/example/kinetic_city/kineticcity/engine/CostQueue" "items" "[I" (.ref nA)) (F_a1_costs : Fld Z h0 a1 "com/example/kinetic_city/kineticcity/engine/CostQueue" "costs" "[D" (.ref cA)) (V_cA : Arv Z h0 cA kA .double (16 : Int32) [(.double (FP.l2d (F i0))), (.double u0), (.double u1), (.double u2), (.double u3)] (.double (FP.l2d 0))) (V_nA : Arv Z h0 nA kN .int 16 [(.int (N i0)), (.int s0), (.int s1), (.int s2), (.int s3)] (.int 0)) :
    Con l Z (⟨"com/example/kinetic_city/kineticcity/engine/CostQueue", "removeCheapest", "()I"⟩ : MethodName) prog_5_method_5_code 7 (some .int) ws ({ frames := 0, cells := 0, slots := 0, locals := 0 } : Room) #[(.ref a1)] h0 (fun v h L => v = some (.int (N i0)) ∧ Fr n0 L ∧ Keep h0 h [a1, cA, nA] ∧ Exa Z h a1 "com/example/kinetic_city/kineticcity/engine/CostQueue" ∧ Fld Z h a1 "com/example/kinetic_city/kineticcity/engine/CostQueue" "size" "I" (.int 0) ∧ Fld Z h a1 "com/example/kinetic_city/kineticcity/engine/CostQueue" "items" "[I" (.ref nA) ∧ Fld Z h a1 "com/example/kinetic_city/kineticcity/engine/CostQueue" "costs" "[D" (.ref cA) ∧ ∃ (_jj : Int32) (v0 v1 v2 v3 v4 : UInt64) (t0 t1 t2 t3 t4 : Int32), (∀ w : Int32 → Int, w i0 = w i0) ∧ Arv Z h cA kA .double (16 : Int32) [(.double v0), (.double v1), (.double v2), (.double v3), (.double v4)] (.double (FP.l2d 0)) ∧ Arv Z h nA kN .int 16 [(.int t0), (.int t1), (.int t2), (.int t3), (.int t4)] (.int 0)) := by
  refine own_body (plainFor_of_name pn_com_example_kinetic_city_kineticcity_engine_CostQueue) ?_
  intro p e s m below meth c s₁ hx hby hml hZ hown hnm hlk hret X0 e0
  have N0 := Fr.nil n0
  have K0 : Keep h0 h0 [a1, cA, nA] := Keep.refl _ _
  refine Go.st (T' := s₁) (f' := (mkF m 0 #[rv a1, .unset, .unset, .unset, .unset, .unset, .unset] [])) (fun _ k => castTop (by first | (simp [entryFrame, mkF, argsToLocals, Value.category]; done) | rfl) k) ?_
  have lt_a1 := E_a1.lt
  have lt_cA := V_cA.lt
  have lt_nA := V_nA.lt
  have nn : cA ≠ nA := own_neArv V_cA V_nA (by decide)
  have nt_a1_cA : a1 ≠ cA := Exa.neArv E_a1 V_cA (ww hw 2 rfl)
  have nt_a1_nA : a1 ≠ nA := Exa.neArv E_a1 V_nA (ww hw 2 rfl)
  refine Go.st (f' := (mkF m 1 #[rv a1, .unset, .unset, .unset, .unset, .unset, .unset] [(.ref a1)])) (fun _ k => XS.aloadN X0.here hx rfl (hb hby d4_0) rfl rfl k) ?_
  obtain ⟨T1, X1, e1, st1⟩ := getF X0 hx hZ hown (host := "") (Or.inl (ww hw 13 rfl)) Via.refl e0 F_a1_items (g := (mkF m 1 #[rv a1, .unset, .unset, .unset, .unset, .unset, .unset] [(.ref a1)])) rfl rfl (hb hby d4_1)
  refine Go.st (f' := (mkF m 4 #[rv a1, .unset, .unset, .unset, .unset, .unset, .unset] [(.ref nA)])) (fun _ k => st1 _ k) ?_
  refine Go.st (f' := (mkF m 5 #[rv a1, .unset, .unset, .unset, .unset, .unset, .unset] [(.int 0), (.ref nA)])) (fun _ k => XS.iconst X1.here hx rfl (hb hby d4_4) k) ?_
  obtain ⟨cl2, Ar2, -, S2, -, H2, -⟩ := id V_nA
  have hin2 : ¬ ((0 : Int32) < 0 ∨ cl2.slots.size ≤ ((0 : Int32)).toNatClampNeg) := inb_of S2 ⟨by decide, by decide⟩
  have hat2 : cl2.slots[((0 : Int32)).toNatClampNeg]? = some (.int (N i0)) := H2.at hin2 rfl
  refine Go.st (f' := (mkF m 6 #[rv a1, .unset, .unset, .unset, .unset, .unset, .unset] [(.int (N i0))])) (fun _ k => X1.iaload hx (j := (0 : Int32)) (v := (.int (N i0))) (by rw [e1]; exact Ar2.1) (State.isArrayOf_alike hZ.alike Ar2.2.1) Ar2.2.2 hin2 hat2 (g := (mkF m 5 #[rv a1, .unset, .unset, .unset, .unset, .unset, .unset] [(.int 0), (.ref nA)])) rfl rfl (hb hby d4_5) _ k) ?_
  refine Go.st (f' := (mkF m 7 #[rv a1, .val (.int (N i0)), .unset, .unset, .unset, .unset, .unset] [])) (fun _ k => XS.istoreN X1.here hx rfl (hb hby d4_6) rfl (l' := #[rv a1, .val (.int (N i0)), .unset, .unset, .unset, .unset, .unset]) rfl k) ?_
  refine Go.st (f' := (mkF m 8 #[rv a1, .val (.int (N i0)), .unset, .unset, .unset, .unset, .unset] [(.ref a1)])) (fun _ k => XS.aloadN X1.here hx rfl (hb hby d4_7) rfl rfl k) ?_
  refine Go.st (f' := (mkF m 9 #[rv a1, .val (.int (N i0)), .unset, .unset, .unset, .unset, .unset] [(.ref a1), (.ref a1)])) (fun _ k => XS.dup X1.here hx rfl (hb hby d4_8) rfl rfl k) ?_
  obtain ⟨T3, X3, e3, st3⟩ := getF X1 hx hZ hown (host := "") (Or.inl (ww hw 20 rfl)) Via.refl e1 F_a1_size (g := (mkF m 9 #[rv a1, .val (.int (N i0)), .unset, .unset, .unset, .unset, .unset] [(.ref a1), (.ref a1)])) rfl rfl (hb hby d4_9)
  refine Go.st (f' := (mkF m 12 #[rv a1, .val (.int (N i0)), .unset, .unset, .unset, .unset, .unset] [(.int 1), (.ref a1)])) (fun _ k => st3 _ k) ?_
  refine Go.st (f' := (mkF m 13 #[rv a1, .val (.int (N i0)), .unset, .unset, .unset, .unset, .unset] [(.int 1), (.int 1), (.ref a1)])) (fun _ k => XS.iconst X3.here hx rfl (hb hby d4_12) k) ?_
  refine Go.st (f' := (mkF m 14 #[rv a1, .val (.int (N i0)), .unset, .unset, .unset, .unset, .unset] [(.int 0), (.ref a1)])) (fun _ k => XS.isub X3.here hx rfl (hb hby d4_13) rfl k) ?_
  obtain ⟨T4, h4, X4, e4, W4, st4⟩ := putF X3 hx hZ hown (host := "") (Or.inl (ww hw 20 rfl)) Via.refl e3 F_a1_size E_a1 (Or.inl (ww hw 21 rfl)) (ww hw 2 rfl) (ty := .int) (by decide) rfl rfl (g := (mkF m 14 #[rv a1, .val (.int (N i0)), .unset, .unset, .unset, .unset, .unset] [(.int 0), (.ref a1)])) rfl rfl (hb hby d4_14)
  have N4 := Fr.snoc X4 N0 g_a1
  have O4 : Old Z n0 h4 := O0.wr W4 g_a1
  have K4 : Keep h0 h4 [a1, cA, nA] := K0.wr W4 (Or.inl (List.mem_of_getElem? (i := 0) rfl))
  have Fw4 := F_a1_size.same W4
  refine Go.st (f' := (mkF m 17 #[rv a1, .val (.int (N i0)), .unset, .unset, .unset, .unset, .unset] [])) (fun _ k => st4 _ k) ?_
  refine Go.st (f' := (mkF m 18 #[rv a1, .val (.int (N i0)), .unset, .unset, .unset, .unset, .unset] [(.ref a1)])) (fun _ k => XS.aloadN X4.here hx rfl (hb hby d4_17) rfl rfl k) ?_
  have ft5 := (F_a1_costs.other W4 (Or.inr (slot_ne (Or.inl (ww hw 11 rfl)) (Or.inl (ww hw 21 rfl)) (by decide) (t := (.array .double)) (t' := .int) (by decide) (by decide))))
  obtain ⟨T6, X6, e6, st6⟩ := getF X4 hx hZ hown (host := "") (Or.inl (ww hw 10 rfl)) Via.refl e4 ft5 (g := (mkF m 18 #[rv a1, .val (.int (N i0)), .unset, .unset, .unset, .unset, .unset] [(.ref a1)])) rfl rfl (hb hby d4_18)
  refine Go.st (f' := (mkF m 21 #[rv a1, .val (.int (N i0)), .unset, .unset, .unset, .unset, .unset] [(.ref cA)])) (fun _ k => st6 _ k) ?_
  refine Go.st (f' := (mkF m 22 #[rv a1, .val (.int (N i0)), .unset, .unset, .unset, .unset, .unset] [(.ref a1), (.ref cA)])) (fun _ k => XS.aloadN X6.here hx rfl (hb hby d4_21) rfl rfl k) ?_
  obtain ⟨T7, X7, e7, st7⟩ := getF X6 hx hZ hown (host := "") (Or.inl (ww hw 20 rfl)) Via.refl e6 Fw4 (g := (mkF m 22 #[rv a1, .val (.int (N i0)), .unset, .unset, .unset, .unset, .unset] [(.ref a1), (.ref cA)])) rfl rfl (hb hby d4_22)
  refine Go.st (f' := (mkF m 25 #[rv a1, .val (.int (N i0)), .unset, .unset, .unset, .unset, .unset] [(.int 0), (.ref cA)])) (fun _ k => st7 _ k) ?_
  have ft9 := (V_cA.other W4 (Ne.symm nt_a1_cA))
  obtain ⟨cl8, Ar8, -, S8, -, H8, -⟩ := id ft9
  have hin8 : ¬ ((0 : Int32) < 0 ∨ cl8.slots.size ≤ ((0 : Int32)).toNatClampNeg) := inb_of S8 ⟨by decide, by decide⟩
  have hat8 : cl8.slots[((0 : Int32)).toNatClampNeg]? = some (.double (FP.l2d (F i0))) := H8.at hin8 rfl
  refine Go.st (f' := (mkF m 26 #[rv a1, .val (.int (N i0)), .unset, .unset, .unset, .unset, .unset] [(.double (FP.l2d (F i0)))])) (fun _ k => X7.daload hx (j := (0 : Int32)) (v := (.double (FP.l2d (F i0)))) (by rw [e7]; exact Ar8.1) (State.isArrayOf_alike hZ.alike Ar8.2.1) Ar8.2.2 hin8 hat8 (g := (mkF m 25 #[rv a1, .val (.int (N i0)), .unset, .unset, .unset, .unset, .unset] [(.int 0), (.ref cA)])) rfl rfl (hb hby d4_25) _ k) ?_
  refine Go.st (f' := (mkF m 27 #[rv a1, .val (.int (N i0)), .val (.double (FP.l2d (F i0))), .second, .unset, .unset, .unset] [])) (fun _ k => XS.dstoreN X7.here hx rfl (hb hby d4_26) rfl (l' := #[rv a1, .val (.int (N i0)), .val (.double (FP.l2d (F i0))), .second, .unset, .unset, .unset]) rfl k) ?_
  refine Go.st (f' := (mkF m 28 #[rv a1, .val (.int (N i0)), .val (.double (FP.l2d (F i0))), .second, .unset, .unset, .unset] [(.ref a1)])) (fun _ k => XS.aloadN X7.here hx rfl (hb hby d4_27) rfl rfl k) ?_
  have ft10 := (F_a1_items.other W4 (Or.inr (slot_ne (Or.inl (ww hw 14 rfl)) (Or.inl (ww hw 21 rfl)) (by decide) (t := (.array .int)) (t' := .int) (by decide) (by decide))))
  obtain ⟨T11, X11, e11, st11⟩ := getF X7 hx hZ hown (host := "") (Or.inl (ww hw 13 rfl)) Via.refl e7 ft10 (g := (mkF m 28 #[rv a1, .val (.int (N i0)), .val (.double (FP.l2d (F i0))), .second, .unset, .unset, .unset] [(.ref a1)])) rfl rfl (hb hby d4_28)
  refine Go.st (f' := (mkF m 31 #[rv a1, .val (.int (N i0)), .val (.double (FP.l2d (F i0))), .second, .unset, .unset, .unset] [(.ref nA)])) (fun _ k => st11 _ k) ?_
  refine Go.st (f' := (mkF m 32 #[rv a1, .val (.int (N i0)), .val (.double (FP.l2d (F i0))), .second, .unset, .unset, .unset] [(.ref a1), (.ref nA)])) (fun _ k => XS.aloadN X11.here hx rfl (hb hby d4_31) rfl rfl k) ?_
  obtain ⟨T12, X12, e12, st12⟩ := getF X11 hx hZ hown (host := "") (Or.inl (ww hw 20 rfl)) Via.refl e11 Fw4 (g := (mkF m 32 #[rv a1, .val (.int (N i0)), .val (.double (FP.l2d (F i0))), .second, .unset, .unset, .unset] [(.ref a1), (.ref nA)])) rfl rfl (hb hby d4_32)
  refine Go.st (f' := (mkF m 35 #[rv a1, .val (.int (N i0)), .val (.double (FP.l2d (F i0))), .second, .unset, .unset, .unset] [(.int 0), (.ref nA)])) (fun _ k => st12 _ k) ?_
  have ft14 := (V_nA.other W4 (Ne.symm nt_a1_nA))
  obtain ⟨cl13, Ar13, -, S13, -, H13, -⟩ := id ft14
  have hin13 : ¬ ((0 : Int32) < 0 ∨ cl13.slots.size ≤ ((0 : Int32)).toNatClampNeg) := inb_of S13 ⟨by decide, by decide⟩
  have hat13 : cl13.slots[((0 : Int32)).toNatClampNeg]? = some (.int (N i0)) := H13.at hin13 rfl
  refine Go.st (f' := (mkF m 36 #[rv a1, .val (.int (N i0)), .val (.double (FP.l2d (F i0))), .second, .unset, .unset, .unset] [(.int (N i0))])) (fun _ k => X12.iaload hx (j := (0 : Int32)) (v := (.int (N i0))) (by rw [e12]; exact Ar13.1) (State.isArrayOf_alike hZ.alike Ar13.2.1) Ar13.2.2 hin13 hat13 (g := (mkF m 35 #[rv a1, .val (.int (N i0)), .val (.double (FP.l2d (F i0))), .second, .unset, .unset, .unset] [(.int 0), (.ref nA)])) rfl rfl (hb hby d4_35) _ k) ?_
  refine Go.st (f' := (mkF m 38 #[rv a1, .val (.int (N i0)), .val (.double (FP.l2d (F i0))), .second, .val (.int (N i0)), .unset, .unset] [])) (fun _ k => XS.istore X12.here hx rfl (hb hby d4_36) rfl (l' := #[rv a1, .val (.int (N i0)), .val (.double (FP.l2d (F i0))), .second, .val (.int (N i0)), .unset, .unset]) rfl k) ?_
  refine Go.st (f' := (mkF m 39 #[rv a1, .val (.int (N i0)), .val (.double (FP.l2d (F i0))), .second, .val (.int (N i0)), .unset, .unset] [(.int 0)])) (fun _ k => XS.iconst X12.here hx rfl (hb hby d4_38) k) ?_
  refine Go.st (f' := (mkF m 41 #[rv a1, .val (.int (N i0)), .val (.double (FP.l2d (F i0))), .second, .val (.int (N i0)), iv 0, .unset] [])) (fun _ k => XS.istore X12.here hx rfl (hb hby d4_39) rfl (l' := #[rv a1, .val (.int (N i0)), .val (.double (FP.l2d (F i0))), .second, .val (.int (N i0)), iv 0, .unset]) rfl k) ?_
  refine Go.st (f' := (mkF m 42 #[rv a1, .val (.int (N i0)), .val (.double (FP.l2d (F i0))), .second, .val (.int (N i0)), iv 0, .unset] [(.int 1)])) (fun _ k => XS.iconst X12.here hx rfl (hb hby d4_41) k) ?_
  refine Go.st (f' := (mkF m 44 #[rv a1, .val (.int (N i0)), .val (.double (FP.l2d (F i0))), .second, .val (.int (N i0)), iv 0, iv 1] [])) (fun _ k => XS.istore X12.here hx rfl (hb hby d4_42) rfl (l' := #[rv a1, .val (.int (N i0)), .val (.double (FP.l2d (F i0))), .second, .val (.int (N i0)), iv 0, iv 1]) rfl k) ?_
  refine Go.st (f' := (mkF m 46 #[rv a1, .val (.int (N i0)), .val (.double (FP.l2d (F i0))), .second, .val (.int (N i0)), iv 0, iv 1] [(.int 1)])) (fun _ k => XS.iload X12.here hx rfl (hb hby d4_44) rfl k) ?_
  refine Go.st (f' := (mkF m 47 #[rv a1, .val (.int (N i0)), .val (.double (FP.l2d (F i0))), .second, .val (.int (N i0)), iv 0, iv 1] [(.ref a1), (.int 1)])) (fun _ k => XS.aloadN X12.here hx rfl (hb hby d4_46) rfl rfl k) ?_
  obtain ⟨T15, X15, e15, st15⟩ := getF X12 hx hZ hown (host := "") (Or.inl (ww hw 20 rfl)) Via.refl e12 Fw4 (g := (mkF m 47 #[rv a1, .val (.int (N i0)), .val (.double (FP.l2d (F i0))), .second, .val (.int (N i0)), iv 0, iv 1] [(.ref a1), (.int 1)])) rfl rfl (hb hby d4_47)
  refine Go.st (f' := (mkF m 50 #[rv a1, .val (.int (N i0)), .val (.double (FP.l2d (F i0))), .second, .val (.int (N i0)), iv 0, iv 1] [(.int 0), (.int 1)])) (fun _ k => st15 _ k) ?_
  refine Go.st (f' := (mkF m 145 #[rv a1, .val (.int (N i0)), .val (.double (FP.l2d (F i0))), .second, .val (.int (N i0)), iv 0, iv 1] [])) (fun _ k => XS.icmpYes X15.here hx rfl (pc0 := 50) (pc' := 145) rfl (hb hby d4_50) rfl (by decide) (by decide) (by decide) k) ?_
  refine Go.st (f' := (mkF m 146 #[rv a1, .val (.int (N i0)), .val (.double (FP.l2d (F i0))), .second, .val (.int (N i0)), iv 0, iv 1] [(.ref a1)])) (fun _ k => XS.aloadN X15.here hx rfl (hb hby d4_145) rfl rfl k) ?_
  obtain ⟨T16, X16, e16, st16⟩ := getF X15 hx hZ hown (host := "") (Or.inl (ww hw 10 rfl)) Via.refl e15 ft5 (g := (mkF m 146 #[rv a1, .val (.int (N i0)), .val (.double (FP.l2d (F i0))), .second, .val (.int (N i0)), iv 0, iv 1] [(.ref a1)])) rfl rfl (hb hby d4_146)
  refine Go.st (f' := (mkF m 149 #[rv a1, .val (.int (N i0)), .val (.double (FP.l2d (F i0))), .second, .val (.int (N i0)), iv 0, iv 1] [(.ref cA)])) (fun _ k => st16 _ k) ?_
  refine Go.st (f' := (mkF m 151 #[rv a1, .val (.int (N i0)), .val (.double (FP.l2d (F i0))), .second, .val (.int (N i0)), iv 0, iv 1] [(.int 0), (.ref cA)])) (fun _ k => XS.iload X16.here hx rfl (hb hby d4_149) rfl k) ?_
  refine Go.st (f' := (mkF m 152 #[rv a1, .val (.int (N i0)), .val (.double (FP.l2d (F i0))), .second, .val (.int (N i0)), iv 0, iv 1] [(.double (FP.l2d (F i0))), (.int 0), (.ref cA)])) (fun _ k => XS.dloadN X16.here hx rfl (hb hby d4_151) rfl k) ?_
  obtain ⟨cl17, Ar17, q17, S17, Nx17, H17, G17⟩ := id ft9
  have hin17 : ¬ ((0 : Int32) < 0 ∨ cl17.slots.size ≤ ((0 : Int32)).toNatClampNeg) := inb_of S17 ⟨by decide, by decide⟩
  obtain ⟨T18, h18, X18, e18, W18, st18⟩ := stD X16 hx hZ e16 Ar17 (j := (0 : Int32)) hin17 (g := (mkF m 152 #[rv a1, .val (.int (N i0)), .val (.double (FP.l2d (F i0))), .second, .val (.int (N i0)), iv 0, iv 1] [(.double (FP.l2d (F i0))), (.int 0), (.ref cA)])) rfl rfl (hb hby d4_152)
  have V_cA_18 : Arv Z h18 cA kA .double (16 : Int32) [(.double (FP.l2d (F i0))), (.double u0), (.double u1), (.double u2), (.double u3)] (.double (FP.l2d 0)) := Arv.set Ar17 q17 S17 Nx17 H17 G17 rfl W18 0 rfl (Nat.le_of_ble_eq_true rfl)
  have N18 := Fr.snoc X18 N4 g_cA
  have O18 : Old Z n0 h18 := O4.wr W18 g_cA
  have K18 : Keep h0 h18 [a1, cA, nA] := K4.wr W18 (Or.inl (List.mem_of_getElem? (i := 1) rfl))
  refine Go.st (f' := (mkF m 153 #[rv a1, .val (.int (N i0)), .val (.double (FP.l2d (F i0))), .second, .val (.int (N i0)), iv 0, iv 1] [])) (fun _ k => st18 _ k) ?_
  refine Go.st (f' := (mkF m 154 #[rv a1, .val (.int (N i0)), .val (.double (FP.l2d (F i0))), .second, .val (.int (N i0)), iv 0, iv 1] [(.ref a1)])) (fun _ k => XS.aloadN X18.here hx rfl (hb hby d4_153) rfl rfl k) ?_
  have ft19 := (ft10.other W18 (Or.inl nt_a1_cA))
  obtain ⟨T20, X20, e20, st20⟩ := getF X18 hx hZ hown (host := "") (Or.inl (ww hw 13 rfl)) Via.refl e18 ft19 (g := (mkF m 154 #[rv a1, .val (.int (N i0)), .val (.double (FP.l2d (F i0))), .second, .val (.int (N i0)), iv 0, iv 1] [(.ref a1)])) rfl rfl (hb hby d4_154)
  refine Go.st (f' := (mkF m 157 #[rv a1, .val (.int (N i0)), .val (.double (FP.l2d (F i0))), .second, .val (.int (N i0)), iv 0, iv 1] [(.ref nA)])) (fun _ k => st20 _ k) ?_
  refine Go.st (f' := (mkF m 159 #[rv a1, .val (.int (N i0)), .val (.double (FP.l2d (F i0))), .second, .val (.int (N i0)), iv 0, iv 1] [(.int 0), (.ref nA)])) (fun _ k => XS.iload X20.here hx rfl (hb hby d4_157) rfl k) ?_
  refine Go.st (f' := (mkF m 161 #[rv a1, .val (.int (N i0)), .val (.double (FP.l2d (F i0))), .second, .val (.int (N i0)), iv 0, iv 1] [(.int (N i0)), (.int 0), (.ref nA)])) (fun _ k => XS.iload X20.here hx rfl (hb hby d4_159) rfl k) ?_
  have ft21 := (ft14.other W18 (Ne.symm nn))
  obtain ⟨cl22, Ar22, q22, S22, Nx22, H22, G22⟩ := id ft21
  have hin22 : ¬ ((0 : Int32) < 0 ∨ cl22.slots.size ≤ ((0 : Int32)).toNatClampNeg) := inb_of S22 ⟨by decide, by decide⟩
  obtain ⟨T23, h23, X23, e23, W23, st23⟩ := stI X20 hx hZ e20 Ar22 (j := (0 : Int32)) hin22 (g := (mkF m 161 #[rv a1, .val (.int (N i0)), .val (.double (FP.l2d (F i0))), .second, .val (.int (N i0)), iv 0, iv 1] [(.int (N i0)), (.int 0), (.ref nA)])) rfl rfl (hb hby d4_161)
  have V_nA_23 : Arv Z h23 nA kN .int (16 : Int32) [(.int (N i0)), (.int s0), (.int s1), (.int s2), (.int s3)] (.int (0 : Int32)) := Arv.set Ar22 q22 S22 Nx22 H22 G22 rfl W23 0 rfl (Nat.le_of_ble_eq_true rfl)
  have N23 := Fr.snoc X23 N18 g_nA
  have O23 : Old Z n0 h23 := O18.wr W23 g_nA
  have K23 : Keep h0 h23 [a1, cA, nA] := K18.wr W23 (Or.inl (List.mem_of_getElem? (i := 2) rfl))
  refine Go.st (f' := (mkF m 162 #[rv a1, .val (.int (N i0)), .val (.double (FP.l2d (F i0))), .second, .val (.int (N i0)), iv 0, iv 1] [])) (fun _ k => st23 _ k) ?_
  refine Go.st (f' := (mkF m 163 #[rv a1, .val (.int (N i0)), .val (.double (FP.l2d (F i0))), .second, .val (.int (N i0)), iv 0, iv 1] [(.int (N i0))])) (fun _ k => XS.iloadN X23.here hx rfl (hb hby d4_162) rfl k) ?_
  refine Go.retV X23 hlk hx (t := .int) hret rfl (Or.inl ⟨rfl, Or.inl rfl, _, rfl⟩) (hb hby d4_163) e23 ?_ (by decide) (by decide)
  have ft24 := (((E_a1.wr W4).wr W18).wr W23)
  have ft25 := ((Fw4.other W18 (Or.inl nt_a1_cA)).other W23 (Or.inl nt_a1_nA))
  have ft26 := (ft19.other W23 (Or.inl nt_a1_nA))
  have ft27 := ((ft5.other W18 (Or.inl nt_a1_cA)).other W23 (Or.inl nt_a1_nA))
  have ft28 := (V_cA_18.other W23 nn)
  exact ⟨rfl, N23, K23, ft24, ft25, ft26, ft27, 0, (FP.l2d (F i0)), u0, u1, u2, u3, (N i0), s0, s1, s2, s3, fun w => by omega, ft28, V_nA_23⟩
set_option maxRecDepth 65536 in
set_option maxHeartbeats 40000000 in
theorem rmR2 (l : Launch) (Z : State) (a0 : Array Value) (hw : ∀ d ∈ tables_1, d.before a0 Z = true) (ws : List Jvm.Cond) (a1 : Addr) (cA : Addr) (nA : Addr) (kA : ClassId) (kN : ClassId) (N : Int32 → Int32) (F : Int32 → Int64) (i0 : Int32) (i1 : Int32) (u0 : UInt64) (u1 : UInt64) (u2 : UInt64) (s0 : Int32) (s1 : Int32) (s2 : Int32) (h0 : Heap) (n0 : Nat) (O0 : Old Z n0 h0) (hF : ∀ i, B53 (F i)) (g_a1 : n0 ≤ a1) (g_cA : n0 ≤ cA) (g_nA : n0 ≤ nA) (hp1 : (F i0).toInt ≤ (F i1).toInt) (E_a1 : Exa Z h0 a1 "com/example/kinetic_city/kineticcity/engine/CostQueue") (F_a1_size : Fld Z h0 a1 "com/example/kinetic_city/kineticcity/engine/CostQueue" "size" "I" (.int 2)) (F_a1_items : Fld Z h0 a1 "com/example/kinetic_city/kineticcity/engine/CostQueue" "items" "[I" (.ref nA)) (F_a1_costs : Fld Z h0 a1 "com/example/kinetic_city/kineticcity/engine/CostQueue" "costs" "[D" (.ref cA)) (V_cA : Arv Z h0 cA kA .double (16 : Int32) [(.double (FP.l2d (F i0))), (.double (FP.l2d (F i1))), (.double u0), (.double u1), (.double u2)] (.double (FP.l2d 0))) (V_nA : Arv Z h0 nA kN .int 16 [(.int (N i0)), (.int (N i1)), (.int s0), (.int s1), (.int s2)] (.int 0)) :
    Con l Z (⟨"com/example/kinetic_city/kineticcity/engine/CostQueue", "removeCheapest", "()I"⟩ : MethodName) prog_5_method_5_code 7 (some .int) ws ({ frames := 0, cells := 0, slots := 0, locals := 0 } : Room) #[(.ref a1)] h0 (fun v h L => v = some (.int (N i0)) ∧ Fr n0 L ∧ Keep h0 h [a1, cA, nA] ∧ Exa Z h a1 "com/example/kinetic_city/kineticcity/engine/CostQueue" ∧ Fld Z h a1 "com/example/kinetic_city/kineticcity/engine/CostQueue" "size" "I" (.int 1) ∧ Fld Z h a1 "com/example/kinetic_city/kineticcity/engine/CostQueue" "items" "[I" (.ref nA) ∧ Fld Z h a1 "com/example/kinetic_city/kineticcity/engine/CostQueue" "costs" "[D" (.ref cA) ∧ ∃ (j0 : Int32) (v0 v1 v2 v3 : UInt64) (t0 t1 t2 t3 : Int32), (∀ w : Int32 → Int, w i0 + w j0 = w i0 + w i1) ∧ (F i0).toInt ≤ (F j0).toInt ∧ Arv Z h cA kA .double (16 : Int32) [(.double (FP.l2d (F j0))), (.double v0), (.double v1), (.double v2), (.double v3)] (.double (FP.l2d 0)) ∧ Arv Z h nA kN .int 16 [(.int (N j0)), (.int t0), (.int t1), (.int t2), (.int t3)] (.int 0)) := by
  refine own_body (plainFor_of_name pn_com_example_kinetic_city_kineticcity_engine_CostQueue) ?_
  intro p e s m below meth c s₁ hx hby hml hZ hown hnm hlk hret X0 e0
  have N0 := Fr.nil n0
  have K0 : Keep h0 h0 [a1, cA, nA] := Keep.refl _ _
  refine Go.st (T' := s₁) (f' := (mkF m 0 #[rv a1, .unset, .unset, .unset, .unset, .unset, .unset] [])) (fun _ k => castTop (by first | (simp [entryFrame, mkF, argsToLocals, Value.category]; done) | rfl) k) ?_
  have lt_a1 := E_a1.lt
  have lt_cA := V_cA.lt
  have lt_nA := V_nA.lt
  have nn : cA ≠ nA := own_neArv V_cA V_nA (by decide)
  have nt_a1_cA : a1 ≠ cA := Exa.neArv E_a1 V_cA (ww hw 2 rfl)
  have nt_a1_nA : a1 ≠ nA := Exa.neArv E_a1 V_nA (ww hw 2 rfl)
  refine Go.st (f' := (mkF m 1 #[rv a1, .unset, .unset, .unset, .unset, .unset, .unset] [(.ref a1)])) (fun _ k => XS.aloadN X0.here hx rfl (hb hby d4_0) rfl rfl k) ?_
  obtain ⟨T1, X1, e1, st1⟩ := getF X0 hx hZ hown (host := "") (Or.inl (ww hw 13 rfl)) Via.refl e0 F_a1_items (g := (mkF m 1 #[rv a1, .unset, .unset, .unset, .unset, .unset, .unset] [(.ref a1)])) rfl rfl (hb hby d4_1)
  refine Go.st (f' := (mkF m 4 #[rv a1, .unset, .unset, .unset, .unset, .unset, .unset] [(.ref nA)])) (fun _ k => st1 _ k) ?_
  refine Go.st (f' := (mkF m 5 #[rv a1, .unset, .unset, .unset, .unset, .unset, .unset] [(.int 0), (.ref nA)])) (fun _ k => XS.iconst X1.here hx rfl (hb hby d4_4) k) ?_
  obtain ⟨cl2, Ar2, -, S2, -, H2, -⟩ := id V_nA
  have hin2 : ¬ ((0 : Int32) < 0 ∨ cl2.slots.size ≤ ((0 : Int32)).toNatClampNeg) := inb_of S2 ⟨by decide, by decide⟩
  have hat2 : cl2.slots[((0 : Int32)).toNatClampNeg]? = some (.int (N i0)) := H2.at hin2 rfl
  refine Go.st (f' := (mkF m 6 #[rv a1, .unset, .unset, .unset, .unset, .unset, .unset] [(.int (N i0))])) (fun _ k => X1.iaload hx (j := (0 : Int32)) (v := (.int (N i0))) (by rw [e1]; exact Ar2.1) (State.isArrayOf_alike hZ.alike Ar2.2.1) Ar2.2.2 hin2 hat2 (g := (mkF m 5 #[rv a1, .unset, .unset, .unset, .unset, .unset, .unset] [(.int 0), (.ref nA)])) rfl rfl (hb hby d4_5) _ k) ?_
  refine Go.st (f' := (mkF m 7 #[rv a1, .val (.int (N i0)), .unset, .unset, .unset, .unset, .unset] [])) (fun _ k => XS.istoreN X1.here hx rfl (hb hby d4_6) rfl (l' := #[rv a1, .val (.int (N i0)), .unset, .unset, .unset, .unset, .unset]) rfl k) ?_
  refine Go.st (f' := (mkF m 8 #[rv a1, .val (.int (N i0)), .unset, .unset, .unset, .unset, .unset] [(.ref a1)])) (fun _ k => XS.aloadN X1.here hx rfl (hb hby d4_7) rfl rfl k) ?_
  refine Go.st (f' := (mkF m 9 #[rv a1, .val (.int (N i0)), .unset, .unset, .unset, .unset, .unset] [(.ref a1), (.ref a1)])) (fun _ k => XS.dup X1.here hx rfl (hb hby d4_8) rfl rfl k) ?_
  obtain ⟨T3, X3, e3, st3⟩ := getF X1 hx hZ hown (host := "") (Or.inl (ww hw 20 rfl)) Via.refl e1 F_a1_size (g := (mkF m 9 #[rv a1, .val (.int (N i0)), .unset, .unset, .unset, .unset, .unset] [(.ref a1), (.ref a1)])) rfl rfl (hb hby d4_9)
  refine Go.st (f' := (mkF m 12 #[rv a1, .val (.int (N i0)), .unset, .unset, .unset, .unset, .unset] [(.int 2), (.ref a1)])) (fun _ k => st3 _ k) ?_
  refine Go.st (f' := (mkF m 13 #[rv a1, .val (.int (N i0)), .unset, .unset, .unset, .unset, .unset] [(.int 1), (.int 2), (.ref a1)])) (fun _ k => XS.iconst X3.here hx rfl (hb hby d4_12) k) ?_
  refine Go.st (f' := (mkF m 14 #[rv a1, .val (.int (N i0)), .unset, .unset, .unset, .unset, .unset] [(.int 1), (.ref a1)])) (fun _ k => XS.isub X3.here hx rfl (hb hby d4_13) rfl k) ?_
  obtain ⟨T4, h4, X4, e4, W4, st4⟩ := putF X3 hx hZ hown (host := "") (Or.inl (ww hw 20 rfl)) Via.refl e3 F_a1_size E_a1 (Or.inl (ww hw 21 rfl)) (ww hw 2 rfl) (ty := .int) (by decide) rfl rfl (g := (mkF m 14 #[rv a1, .val (.int (N i0)), .unset, .unset, .unset, .unset, .unset] [(.int 1), (.ref a1)])) rfl rfl (hb hby d4_14)
  have N4 := Fr.snoc X4 N0 g_a1
  have O4 : Old Z n0 h4 := O0.wr W4 g_a1
  have K4 : Keep h0 h4 [a1, cA, nA] := K0.wr W4 (Or.inl (List.mem_of_getElem? (i := 0) rfl))
  have Fw4 := F_a1_size.same W4
  refine Go.st (f' := (mkF m 17 #[rv a1, .val (.int (N i0)), .unset, .unset, .unset, .unset, .unset] [])) (fun _ k => st4 _ k) ?_
  refine Go.st (f' := (mkF m 18 #[rv a1, .val (.int (N i0)), .unset, .unset, .unset, .unset, .unset] [(.ref a1)])) (fun _ k => XS.aloadN X4.here hx rfl (hb hby d4_17) rfl rfl k) ?_
  have ft5 := (F_a1_costs.other W4 (Or.inr (slot_ne (Or.inl (ww hw 11 rfl)) (Or.inl (ww hw 21 rfl)) (by decide) (t := (.array .double)) (t' := .int) (by decide) (by decide))))
  obtain ⟨T6, X6, e6, st6⟩ := getF X4 hx hZ hown (host := "") (Or.inl (ww hw 10 rfl)) Via.refl e4 ft5 (g := (mkF m 18 #[rv a1, .val (.int (N i0)), .unset, .unset, .unset, .unset, .unset] [(.ref a1)])) rfl rfl (hb hby d4_18)
  refine Go.st (f' := (mkF m 21 #[rv a1, .val (.int (N i0)), .unset, .unset, .unset, .unset, .unset] [(.ref cA)])) (fun _ k => st6 _ k) ?_
  refine Go.st (f' := (mkF m 22 #[rv a1, .val (.int (N i0)), .unset, .unset, .unset, .unset, .unset] [(.ref a1), (.ref cA)])) (fun _ k => XS.aloadN X6.here hx rfl (hb hby d4_21) rfl rfl k) ?_
  obtain ⟨T7, X7, e7, st7⟩ := getF X6 hx hZ hown (host := "") (Or.inl (ww hw 20 rfl)) Via.refl e6 Fw4 (g := (mkF m 22 #[rv a1, .val (.int (N i0)), .unset, .unset, .unset, .unset, .unset] [(.ref a1), (.ref cA)])) rfl rfl (hb hby d4_22)
  refine Go.st (f' := (mkF m 25 #[rv a1, .val (.int (N i0)), .unset, .unset, .unset, .unset, .unset] [(.int 1), (.ref cA)])) (fun _ k => st7 _ k) ?_
  have ft9 := (V_cA.other W4 (Ne.symm nt_a1_cA))
  obtain ⟨cl8, Ar8, -, S8, -, H8, -⟩ := id ft9
  have hin8 : ¬ ((1 : Int32) < 0 ∨ cl8.slots.size ≤ ((1 : Int32)).toNatClampNeg) := inb_of S8 ⟨by decide, by decide⟩
  have hat8 : cl8.slots[((1 : Int32)).toNatClampNeg]? = some (.double (FP.l2d (F i1))) := H8.at hin8 rfl
  refine Go.st (f' := (mkF m 26 #[rv a1, .val (.int (N i0)), .unset, .unset, .unset, .unset, .unset] [(.double (FP.l2d (F i1)))])) (fun _ k => X7.daload hx (j := (1 : Int32)) (v := (.double (FP.l2d (F i1)))) (by rw [e7]; exact Ar8.1) (State.isArrayOf_alike hZ.alike Ar8.2.1) Ar8.2.2 hin8 hat8 (g := (mkF m 25 #[rv a1, .val (.int (N i0)), .unset, .unset, .unset, .unset, .unset] [(.int 1), (.ref cA)])) rfl rfl (hb hby d4_25) _ k) ?_
  refine Go.st (f' := (mkF m 27 #[rv a1, .val (.int (N i0)), .val (.double (FP.l2d (F i1))), .second, .unset, .unset, .unset] [])) (fun _ k => XS.dstoreN X7.here hx rfl (hb hby d4_26) rfl (l' := #[rv a1, .val (.int (N i0)), .val (.double (FP.l2d (F i1))), .second, .unset, .unset, .unset]) rfl k) ?_
  refine Go.st (f' := (mkF m 28 #[rv a1, .val (.int (N i0)), .val (.double (FP.l2d (F i1))), .second, .unset, .unset, .unset] [(.ref a1)])) (fun _ k => XS.aloadN X7.here hx rfl (hb hby d4_27) rfl rfl k) ?_
  have ft10 := (F_a1_items.other W4 (Or.inr (slot_ne (Or.inl (ww hw 14 rfl)) (Or.inl (ww hw 21 rfl)) (by decide) (t := (.array .int)) (t' := .int) (by decide) (by decide))))
  obtain ⟨T11, X11, e11, st11⟩ := getF X7 hx hZ hown (host := "") (Or.inl (ww hw 13 rfl)) Via.refl e7 ft10 (g := (mkF m 28 #[rv a1, .val (.int (N i0)), .val (.double (FP.l2d (F i1))), .second, .unset, .unset, .unset] [(.ref a1)])) rfl rfl (hb hby d4_28)
  refine Go.st (f' := (mkF m 31 #[rv a1, .val (.int (N i0)), .val (.double (FP.l2d (F i1))), .second, .unset, .unset, .unset] [(.ref nA)])) (fun _ k => st11 _ k) ?_
  refine Go.st (f' := (mkF m 32 #[rv a1, .val (.int (N i0)), .val (.double (FP.l2d (F i1))), .second, .unset, .unset, .unset] [(.ref a1), (.ref nA)])) (fun _ k => XS.aloadN X11.here hx rfl (hb hby d4_31) rfl rfl k) ?_
  obtain ⟨T12, X12, e12, st12⟩ := getF X11 hx hZ hown (host := "") (Or.inl (ww hw 20 rfl)) Via.refl e11 Fw4 (g := (mkF m 32 #[rv a1, .val (.int (N i0)), .val (.double (FP.l2d (F i1))), .second, .unset, .unset, .unset] [(.ref a1), (.ref nA)])) rfl rfl (hb hby d4_32)
  refine Go.st (f' := (mkF m 35 #[rv a1, .val (.int (N i0)), .val (.double (FP.l2d (F i1))), .second, .unset, .unset, .unset] [(.int 1), (.ref nA)])) (fun _ k => st12 _ k) ?_
  have ft14 := (V_nA.other W4 (Ne.symm nt_a1_nA))
  obtain ⟨cl13, Ar13, -, S13, -, H13, -⟩ := id ft14
  have hin13 : ¬ ((1 : Int32) < 0 ∨ cl13.slots.size ≤ ((1 : Int32)).toNatClampNeg) := inb_of S13 ⟨by decide, by decide⟩
  have hat13 : cl13.slots[((1 : Int32)).toNatClampNeg]? = some (.int (N i1)) := H13.at hin13 rfl
  refine Go.st (f' := (mkF m 36 #[rv a1, .val (.int (N i0)), .val (.double (FP.l2d (F i1))), .second, .unset, .unset, .unset] [(.int (N i1))])) (fun _ k => X12.iaload hx (j := (1 : Int32)) (v := (.int (N i1))) (by rw [e12]; exact Ar13.1) (State.isArrayOf_alike hZ.alike Ar13.2.1) Ar13.2.2 hin13 hat13 (g := (mkF m 35 #[rv a1, .val (.int (N i0)), .val (.double (FP.l2d (F i1))), .second, .unset, .unset, .unset] [(.int 1), (.ref nA)])) rfl rfl (hb hby d4_35) _ k) ?_
  refine Go.st (f' := (mkF m 38 #[rv a1, .val (.int (N i0)), .val (.double (FP.l2d (F i1))), .second, .val (.int (N i1)), .unset, .unset] [])) (fun _ k => XS.istore X12.here hx rfl (hb hby d4_36) rfl (l' := #[rv a1, .val (.int (N i0)), .val (.double (FP.l2d (F i1))), .second, .val (.int (N i1)), .unset, .unset]) rfl k) ?_
  refine Go.st (f' := (mkF m 39 #[rv a1, .val (.int (N i0)), .val (.double (FP.l2d (F i1))), .second, .val (.int (N i1)), .unset, .unset] [(.int 0)])) (fun _ k => XS.iconst X12.here hx rfl (hb hby d4_38) k) ?_
  refine Go.st (f' := (mkF m 41 #[rv a1, .val (.int (N i0)), .val (.double (FP.l2d (F i1))), .second, .val (.int (N i1)), iv 0, .unset] [])) (fun _ k => XS.istore X12.here hx rfl (hb hby d4_39) rfl (l' := #[rv a1, .val (.int (N i0)), .val (.double (FP.l2d (F i1))), .second, .val (.int (N i1)), iv 0, .unset]) rfl k) ?_
  refine Go.st (f' := (mkF m 42 #[rv a1, .val (.int (N i0)), .val (.double (FP.l2d (F i1))), .second, .val (.int (N i1)), iv 0, .unset] [(.int 1)])) (fun _ k => XS.iconst X12.here hx rfl (hb hby d4_41) k) ?_
  refine Go.st (f' := (mkF m 44 #[rv a1, .val (.int (N i0)), .val (.double (FP.l2d (F i1))), .second, .val (.int (N i1)), iv 0, iv 1] [])) (fun _ k => XS.istore X12.here hx rfl (hb hby d4_42) rfl (l' := #[rv a1, .val (.int (N i0)), .val (.double (FP.l2d (F i1))), .second, .val (.int (N i1)), iv 0, iv 1]) rfl k) ?_
  refine Go.st (f' := (mkF m 46 #[rv a1, .val (.int (N i0)), .val (.double (FP.l2d (F i1))), .second, .val (.int (N i1)), iv 0, iv 1] [(.int 1)])) (fun _ k => XS.iload X12.here hx rfl (hb hby d4_44) rfl k) ?_
  refine Go.st (f' := (mkF m 47 #[rv a1, .val (.int (N i0)), .val (.double (FP.l2d (F i1))), .second, .val (.int (N i1)), iv 0, iv 1] [(.ref a1), (.int 1)])) (fun _ k => XS.aloadN X12.here hx rfl (hb hby d4_46) rfl rfl k) ?_
  obtain ⟨T15, X15, e15, st15⟩ := getF X12 hx hZ hown (host := "") (Or.inl (ww hw 20 rfl)) Via.refl e12 Fw4 (g := (mkF m 47 #[rv a1, .val (.int (N i0)), .val (.double (FP.l2d (F i1))), .second, .val (.int (N i1)), iv 0, iv 1] [(.ref a1), (.int 1)])) rfl rfl (hb hby d4_47)
  refine Go.st (f' := (mkF m 50 #[rv a1, .val (.int (N i0)), .val (.double (FP.l2d (F i1))), .second, .val (.int (N i1)), iv 0, iv 1] [(.int 1), (.int 1)])) (fun _ k => st15 _ k) ?_
  refine Go.st (f' := (mkF m 145 #[rv a1, .val (.int (N i0)), .val (.double (FP.l2d (F i1))), .second, .val (.int (N i1)), iv 0, iv 1] [])) (fun _ k => XS.icmpYes X15.here hx rfl (pc0 := 50) (pc' := 145) rfl (hb hby d4_50) rfl (by decide) (by decide) (by decide) k) ?_
  refine Go.st (f' := (mkF m 146 #[rv a1, .val (.int (N i0)), .val (.double (FP.l2d (F i1))), .second, .val (.int (N i1)), iv 0, iv 1] [(.ref a1)])) (fun _ k => XS.aloadN X15.here hx rfl (hb hby d4_145) rfl rfl k) ?_
  obtain ⟨T16, X16, e16, st16⟩ := getF X15 hx hZ hown (host := "") (Or.inl (ww hw 10 rfl)) Via.refl e15 ft5 (g := (mkF m 146 #[rv a1, .val (.int (N i0)), .val (.double (FP.l2d (F i1))), .second, .val (.int (N i1)), iv 0, iv 1] [(.ref a1)])) rfl rfl (hb hby d4_146)
  refine Go.st (f' := (mkF m 149 #[rv a1, .val (.int (N i0)), .val (.double (FP.l2d (F i1))), .second, .val (.int (N i1)), iv 0, iv 1] [(.ref cA)])) (fun _ k => st16 _ k) ?_
  refine Go.st (f' := (mkF m 151 #[rv a1, .val (.int (N i0)), .val (.double (FP.l2d (F i1))), .second, .val (.int (N i1)), iv 0, iv 1] [(.int 0), (.ref cA)])) (fun _ k => XS.iload X16.here hx rfl (hb hby d4_149) rfl k) ?_
  refine Go.st (f' := (mkF m 152 #[rv a1, .val (.int (N i0)), .val (.double (FP.l2d (F i1))), .second, .val (.int (N i1)), iv 0, iv 1] [(.double (FP.l2d (F i1))), (.int 0), (.ref cA)])) (fun _ k => XS.dloadN X16.here hx rfl (hb hby d4_151) rfl k) ?_
  obtain ⟨cl17, Ar17, q17, S17, Nx17, H17, G17⟩ := id ft9
  have hin17 : ¬ ((0 : Int32) < 0 ∨ cl17.slots.size ≤ ((0 : Int32)).toNatClampNeg) := inb_of S17 ⟨by decide, by decide⟩
  obtain ⟨T18, h18, X18, e18, W18, st18⟩ := stD X16 hx hZ e16 Ar17 (j := (0 : Int32)) hin17 (g := (mkF m 152 #[rv a1, .val (.int (N i0)), .val (.double (FP.l2d (F i1))), .second, .val (.int (N i1)), iv 0, iv 1] [(.double (FP.l2d (F i1))), (.int 0), (.ref cA)])) rfl rfl (hb hby d4_152)
  have V_cA_18 : Arv Z h18 cA kA .double (16 : Int32) [(.double (FP.l2d (F i1))), (.double (FP.l2d (F i1))), (.double u0), (.double u1), (.double u2)] (.double (FP.l2d 0)) := Arv.set Ar17 q17 S17 Nx17 H17 G17 rfl W18 0 rfl (Nat.le_of_ble_eq_true rfl)
  have N18 := Fr.snoc X18 N4 g_cA
  have O18 : Old Z n0 h18 := O4.wr W18 g_cA
  have K18 : Keep h0 h18 [a1, cA, nA] := K4.wr W18 (Or.inl (List.mem_of_getElem? (i := 1) rfl))
  refine Go.st (f' := (mkF m 153 #[rv a1, .val (.int (N i0)), .val (.double (FP.l2d (F i1))), .second, .val (.int (N i1)), iv 0, iv 1] [])) (fun _ k => st18 _ k) ?_
  refine Go.st (f' := (mkF m 154 #[rv a1, .val (.int (N i0)), .val (.double (FP.l2d (F i1))), .second, .val (.int (N i1)), iv 0, iv 1] [(.ref a1)])) (fun _ k => XS.aloadN X18.here hx rfl (hb hby d4_153) rfl rfl k) ?_
  have ft19 := (ft10.other W18 (Or.inl nt_a1_cA))
  obtain ⟨T20, X20, e20, st20⟩ := getF X18 hx hZ hown (host := "") (Or.inl (ww hw 13 rfl)) Via.refl e18 ft19 (g := (mkF m 154 #[rv a1, .val (.int (N i0)), .val (.double (FP.l2d (F i1))), .second, .val (.int (N i1)), iv 0, iv 1] [(.ref a1)])) rfl rfl (hb hby d4_154)
  refine Go.st (f' := (mkF m 157 #[rv a1, .val (.int (N i0)), .val (.double (FP.l2d (F i1))), .second, .val (.int (N i1)), iv 0, iv 1] [(.ref nA)])) (fun _ k => st20 _ k) ?_
  refine Go.st (f' := (mkF m 159 #[rv a1, .val (.int (N i0)), .val (.double (FP.l2d (F i1))), .second, .val (.int (N i1)), iv 0, iv 1] [(.int 0), (.ref nA)])) (fun _ k => XS.iload X20.here hx rfl (hb hby d4_157) rfl k) ?_
  refine Go.st (f' := (mkF m 161 #[rv a1, .val (.int (N i0)), .val (.double (FP.l2d (F i1))), .second, .val (.int (N i1)), iv 0, iv 1] [(.int (N i1)), (.int 0), (.ref nA)])) (fun _ k => XS.iload X20.here hx rfl (hb hby d4_159) rfl k) ?_
  have ft21 := (ft14.other W18 (Ne.symm nn))
  obtain ⟨cl22, Ar22, q22, S22, Nx22, H22, G22⟩ := id ft21
  have hin22 : ¬ ((0 : Int32) < 0 ∨ cl22.slots.size ≤ ((0 : Int32)).toNatClampNeg) := inb_of S22 ⟨by decide, by decide⟩
  obtain ⟨T23, h23, X23, e23, W23, st23⟩ := stI X20 hx hZ e20 Ar22 (j := (0 : Int32)) hin22 (g := (mkF m 161 #[rv a1, .val (.int (N i0)), .val (.double (FP.l2d (F i1))), .second, .val (.int (N i1)), iv 0, iv 1] [(.int (N i1)), (.int 0), (.ref nA)])) rfl rfl (hb hby d4_161)
  have V_nA_23 : Arv Z h23 nA kN .int (16 : Int32) [(.int (N i1)), (.int (N i1)), (.int s0), (.int s1), (.int s2)] (.int (0 : Int32)) := Arv.set Ar22 q22 S22 Nx22 H22 G22 rfl W23 0 rfl (Nat.le_of_ble_eq_true rfl)
  have N23 := Fr.snoc X23 N18 g_nA
  have O23 : Old Z n0 h23 := O18.wr W23 g_nA
  have K23 : Keep h0 h23 [a1, cA, nA] := K18.wr W23 (Or.inl (List.mem_of_getElem? (i := 2) rfl))
  refine Go.st (f' := (mkF m 162 #[rv a1, .val (.int (N i0)), .val (.double (FP.l2d (F i1))), .second, .val (.int (N i1)), iv 0, iv 1] [])) (fun _ k => st23 _ k) ?_
  refine Go.st (f' := (mkF m 163 #[rv a1, .val (.int (N i0)), .val (.double (FP.l2d (F i1))), .second, .val (.int (N i1)), iv 0, iv 1] [(.int (N i0))])) (fun _ k => XS.iloadN X23.here hx rfl (hb hby d4_162) rfl k) ?_
  refine Go.retV X23 hlk hx (t := .int) hret rfl (Or.inl ⟨rfl, Or.inl rfl, _, rfl⟩) (hb hby d4_163) e23 ?_ (by decide) (by decide)
  have ft24 := (((E_a1.wr W4).wr W18).wr W23)
  have ft25 := ((Fw4.other W18 (Or.inl nt_a1_cA)).other W23 (Or.inl nt_a1_nA))
  have ft26 := (ft19.other W23 (Or.inl nt_a1_nA))
  have ft27 := ((ft5.other W18 (Or.inl nt_a1_cA)).other W23 (Or.inl nt_a1_nA))
  have ft28 := (V_cA_18.other W23 nn)
  exact ⟨rfl, N23, K23, ft24, ft25, ft26, ft27, i1, (FP.l2d (F i1)), u0, u1, u2, (N i1), s0, s1, s2, fun w => by omega, by omega, ft28, V_nA_23⟩
theorem d4_53 : decode prog_5_method_5_code 53 = .ok (.iload 6, 2) := by decide +kernel
theorem d4_55 : decode prog_5_method_5_code 55 = .ok (.iconst 1, 1) := by decide +kernel
theorem d4_56 : decode prog_5_method_5_code 56 = .ok (.iadd, 1) := by decide +kernel
theorem d4_57 : decode prog_5_method_5_code 57 = .ok (.aload_n 0, 1) := by decide +kernel
theorem d4_58 : decode prog_5_method_5_code 58 = .ok (.getfield 17, 3) := by decide +kernel
theorem d4_61 : decode prog_5_method_5_code 61 = .ok (.if_icmp .ge 26, 3) := by decide +kernel
theorem d4_87 : decode prog_5_method_5_code 87 = .ok (.aload_n 0, 1) := by decide +kernel
theorem d4_88 : decode prog_5_method_5_code 88 = .ok (.getfield 7, 3) := by decide +kernel
theorem d4_91 : decode prog_5_method_5_code 91 = .ok (.iload 6, 2) := by decide +kernel
theorem d4_93 : decode prog_5_method_5_code 93 = .ok (.daload, 1) := by decide +kernel
theorem d4_94 : decode prog_5_method_5_code 94 = .ok (.dload_n 2, 1) := by decide +kernel
theorem d4_95 : decode prog_5_method_5_code 95 = .ok (.dcmp .l, 1) := by decide +kernel
theorem d4_96 : decode prog_5_method_5_code 96 = .ok (.ifCond .lt 6, 3) := by decide +kernel
theorem d4_102 : decode prog_5_method_5_code 102 = .ok (.aload_n 0, 1) := by decide +kernel
theorem d4_103 : decode prog_5_method_5_code 103 = .ok (.getfield 7, 3) := by decide +kernel
theorem d4_106 : decode prog_5_method_5_code 106 = .ok (.iload 5, 2) := by decide +kernel
theorem d4_108 : decode prog_5_method_5_code 108 = .ok (.aload_n 0, 1) := by decide +kernel
theorem d4_109 : decode prog_5_method_5_code 109 = .ok (.getfield 7, 3) := by decide +kernel
theorem d4_112 : decode prog_5_method_5_code 112 = .ok (.iload 6, 2) := by decide +kernel
theorem d4_114 : decode prog_5_method_5_code 114 = .ok (.daload, 1) := by decide +kernel
theorem d4_115 : decode prog_5_method_5_code 115 = .ok (.dastore, 1) := by decide +kernel
theorem d4_116 : decode prog_5_method_5_code 116 = .ok (.aload_n 0, 1) := by decide +kernel
theorem d4_117 : decode prog_5_method_5_code 117 = .ok (.getfield 13, 3) := by decide +kernel
theorem d4_120 : decode prog_5_method_5_code 120 = .ok (.iload 5, 2) := by decide +kernel
theorem d4_122 : decode prog_5_method_5_code 122 = .ok (.aload_n 0, 1) := by decide +kernel
theorem d4_123 : decode prog_5_method_5_code 123 = .ok (.getfield 13, 3) := by decide +kernel
theorem d4_126 : decode prog_5_method_5_code 126 = .ok (.iload 6, 2) := by decide +kernel
theorem d4_128 : decode prog_5_method_5_code 128 = .ok (.iaload, 1) := by decide +kernel
theorem d4_129 : decode prog_5_method_5_code 129 = .ok (.iastore, 1) := by decide +kernel
theorem d4_130 : decode prog_5_method_5_code 130 = .ok (.iload 6, 2) := by decide +kernel
theorem d4_132 : decode prog_5_method_5_code 132 = .ok (.istore 5, 2) := by decide +kernel
theorem d4_134 : decode prog_5_method_5_code 134 = .ok (.iconst 2, 1) := by decide +kernel
theorem d4_135 : decode prog_5_method_5_code 135 = .ok (.iload 5, 2) := by decide +kernel
theorem d4_137 : decode prog_5_method_5_code 137 = .ok (.imul, 1) := by decide +kernel
theorem d4_138 : decode prog_5_method_5_code 138 = .ok (.iconst 1, 1) := by decide +kernel
theorem d4_139 : decode prog_5_method_5_code 139 = .ok (.iadd, 1) := by decide +kernel
theorem d4_140 : decode prog_5_method_5_code 140 = .ok (.istore 6, 2) := by decide +kernel
theorem d4_142 : decode prog_5_method_5_code 142 = .ok (.goto (-98), 3) := by decide +kernel
theorem d4_99 : decode prog_5_method_5_code 99 = .ok (.goto 46, 3) := by decide +kernel
set_option maxRecDepth 65536 in
set_option maxHeartbeats 40000000 in
theorem rmR3 (l : Launch) (Z : State) (a0 : Array Value) (hw : ∀ d ∈ tables_1, d.before a0 Z = true) (ws : List Jvm.Cond) (a1 : Addr) (cA : Addr) (nA : Addr) (kA : ClassId) (kN : ClassId) (N : Int32 → Int32) (F : Int32 → Int64) (i0 : Int32) (i1 : Int32) (i2 : Int32) (u0 : UInt64) (u1 : UInt64) (s0 : Int32) (s1 : Int32) (h0 : Heap) (n0 : Nat) (O0 : Old Z n0 h0) (hF : ∀ i, B53 (F i)) (g_a1 : n0 ≤ a1) (g_cA : n0 ≤ cA) (g_nA : n0 ≤ nA) (hp1 : (F i0).toInt ≤ (F i1).toInt) (hp2 : (F i0).toInt ≤ (F i2).toInt) (E_a1 : Exa Z h0 a1 "com/example/kinetic_city/kineticcity/engine/CostQueue") (F_a1_size : Fld Z h0 a1 "com/example/kinetic_city/kineticcity/engine/CostQueue" "size" "I" (.int 3)) (F_a1_items : Fld Z h0 a1 "com/example/kinetic_city/kineticcity/engine/CostQueue" "items" "[I" (.ref nA)) (F_a1_costs : Fld Z h0 a1 "com/example/kinetic_city/kineticcity/engine/CostQueue" "costs" "[D" (.ref cA)) (V_cA : Arv Z h0 cA kA .double (16 : Int32) [(.double (FP.l2d (F i0))), (.double (FP.l2d (F i1))), (.double (FP.l2d (F i2))), (.double u0), (.double u1)] (.double (FP.l2d 0))) (V_nA : Arv Z h0 nA kN .int 16 [(.int (N i0)), (.int (N i1)), (.int (N i2)), (.int s0), (.int s1)] (.int 0)) :
    Con l Z (⟨"com/example/kinetic_city/kineticcity/engine/CostQueue", "removeCheapest", "()I"⟩ : MethodName) prog_5_method_5_code 7 (some .int) ws ({ frames := 0, cells := 0, slots := 0, locals := 0 } : Room) #[(.ref a1)] h0 (fun v h L => v = some (.int (N i0)) ∧ Fr n0 L ∧ Keep h0 h [a1, cA, nA] ∧ Exa Z h a1 "com/example/kinetic_city/kineticcity/engine/CostQueue" ∧ Fld Z h a1 "com/example/kinetic_city/kineticcity/engine/CostQueue" "size" "I" (.int 2) ∧ Fld Z h a1 "com/example/kinetic_city/kineticcity/engine/CostQueue" "items" "[I" (.ref nA) ∧ Fld Z h a1 "com/example/kinetic_city/kineticcity/engine/CostQueue" "costs" "[D" (.ref cA) ∧ ∃ (j0 j1 : Int32) (v0 v1 v2 : UInt64) (t0 t1 t2 : Int32), (∀ w : Int32 → Int, w i0 + w j0 + w j1 = w i0 + w i1 + w i2) ∧ (F j0).toInt ≤ (F j1).toInt ∧ (F i0).toInt ≤ (F j0).toInt ∧ Arv Z h cA kA .double (16 : Int32) [(.double (FP.l2d (F j0))), (.double (FP.l2d (F j1))), (.double v0), (.double v1), (.double v2)] (.double (FP.l2d 0)) ∧ Arv Z h nA kN .int 16 [(.int (N j0)), (.int (N j1)), (.int t0), (.int t1), (.int t2)] (.int 0)) := by
  refine own_body (plainFor_of_name pn_com_example_kinetic_city_kineticcity_engine_CostQueue) ?_
  intro p e s m below meth c s₁ hx hby hml hZ hown hnm hlk hret X0 e0
  have N0 := Fr.nil n0
  have K0 : Keep h0 h0 [a1, cA, nA] := Keep.refl _ _
  refine Go.st (T' := s₁) (f' := (mkF m 0 #[rv a1, .unset, .unset, .unset, .unset, .unset, .unset] [])) (fun _ k => castTop (by first | (simp [entryFrame, mkF, argsToLocals, Value.category]; done) | rfl) k) ?_
  have lt_a1 := E_a1.lt
  have lt_cA := V_cA.lt
  have lt_nA := V_nA.lt
  have nn : cA ≠ nA := own_neArv V_cA V_nA (by decide)
  have nt_a1_cA : a1 ≠ cA := Exa.neArv E_a1 V_cA (ww hw 2 rfl)
  have nt_a1_nA : a1 ≠ nA := Exa.neArv E_a1 V_nA (ww hw 2 rfl)
  refine Go.st (f' := (mkF m 1 #[rv a1, .unset, .unset, .unset, .unset, .unset, .unset] [(.ref a1)])) (fun _ k => XS.aloadN X0.here hx rfl (hb hby d4_0) rfl rfl k) ?_
  obtain ⟨T1, X1, e1, st1⟩ := getF X0 hx hZ hown (host := "") (Or.inl (ww hw 13 rfl)) Via.refl e0 F_a1_items (g := (mkF m 1 #[rv a1, .unset, .unset, .unset, .unset, .unset, .unset] [(.ref a1)])) rfl rfl (hb hby d4_1)
  refine Go.st (f' := (mkF m 4 #[rv a1, .unset, .unset, .unset, .unset, .unset, .unset] [(.ref nA)])) (fun _ k => st1 _ k) ?_
  refine Go.st (f' := (mkF m 5 #[rv a1, .unset, .unset, .unset, .unset, .unset, .unset] [(.int 0), (.ref nA)])) (fun _ k => XS.iconst X1.here hx rfl (hb hby d4_4) k) ?_
  obtain ⟨cl2, Ar2, -, S2, -, H2, -⟩ := id V_nA
  have hin2 : ¬ ((0 : Int32) < 0 ∨ cl2.slots.size ≤ ((0 : Int32)).toNatClampNeg) := inb_of S2 ⟨by decide, by decide⟩
  have hat2 : cl2.slots[((0 : Int32)).toNatClampNeg]? = some (.int (N i0)) := H2.at hin2 rfl
  refine Go.st (f' := (mkF m 6 #[rv a1, .unset, .unset, .unset, .unset, .unset, .unset] [(.int (N i0))])) (fun _ k => X1.iaload hx (j := (0 : Int32)) (v := (.int (N i0))) (by rw [e1]; exact Ar2.1) (State.isArrayOf_alike hZ.alike Ar2.2.1) Ar2.2.2 hin2 hat2 (g := (mkF m 5 #[rv a1, .unset, .unset, .unset, .unset, .unset, .unset] [(.int 0), (.ref nA)])) rfl rfl (hb hby d4_5) _ k) ?_
  refine Go.st (f' := (mkF m 7 #[rv a1, .val (.int (N i0)), .unset, .unset, .unset, .unset, .unset] [])) (fun _ k => XS.istoreN X1.here hx rfl (hb hby d4_6) rfl (l' := #[rv a1, .val (.int (N i0)), .unset, .unset, .unset, .unset, .unset]) rfl k) ?_
  refine Go.st (f' := (mkF m 8 #[rv a1, .val (.int (N i0)), .unset, .unset, .unset, .unset, .unset] [(.ref a1)])) (fun _ k => XS.aloadN X1.here hx rfl (hb hby d4_7) rfl rfl k) ?_
  refine Go.st (f' := (mkF m 9 #[rv a1, .val (.int (N i0)), .unset, .unset, .unset, .unset, .unset] [(.ref a1), (.ref a1)])) (fun _ k => XS.dup X1.here hx rfl (hb hby d4_8) rfl rfl k) ?_
  obtain ⟨T3, X3, e3, st3⟩ := getF X1 hx hZ hown (host := "") (Or.inl (ww hw 20 rfl)) Via.refl e1 F_a1_size (g := (mkF m 9 #[rv a1, .val (.int (N i0)), .unset, .unset, .unset, .unset, .unset] [(.ref a1), (.ref a1)])) rfl rfl (hb hby d4_9)
  refine Go.st (f' := (mkF m 12 #[rv a1, .val (.int (N i0)), .unset, .unset, .unset, .unset, .unset] [(.int 3), (.ref a1)])) (fun _ k => st3 _ k) ?_
  refine Go.st (f' := (mkF m 13 #[rv a1, .val (.int (N i0)), .unset, .unset, .unset, .unset, .unset] [(.int 1), (.int 3), (.ref a1)])) (fun _ k => XS.iconst X3.here hx rfl (hb hby d4_12) k) ?_
  refine Go.st (f' := (mkF m 14 #[rv a1, .val (.int (N i0)), .unset, .unset, .unset, .unset, .unset] [(.int 2), (.ref a1)])) (fun _ k => XS.isub X3.here hx rfl (hb hby d4_13) rfl k) ?_
  obtain ⟨T4, h4, X4, e4, W4, st4⟩ := putF X3 hx hZ hown (host := "") (Or.inl (ww hw 20 rfl)) Via.refl e3 F_a1_size E_a1 (Or.inl (ww hw 21 rfl)) (ww hw 2 rfl) (ty := .int) (by decide) rfl rfl (g := (mkF m 14 #[rv a1, .val (.int (N i0)), .unset, .unset, .unset, .unset, .unset] [(.int 2), (.ref a1)])) rfl rfl (hb hby d4_14)
  have N4 := Fr.snoc X4 N0 g_a1
  have O4 : Old Z n0 h4 := O0.wr W4 g_a1
  have K4 : Keep h0 h4 [a1, cA, nA] := K0.wr W4 (Or.inl (List.mem_of_getElem? (i := 0) rfl))
  have Fw4 := F_a1_size.same W4
  refine Go.st (f' := (mkF m 17 #[rv a1, .val (.int (N i0)), .unset, .unset, .unset, .unset, .unset] [])) (fun _ k => st4 _ k) ?_
  refine Go.st (f' := (mkF m 18 #[rv a1, .val (.int (N i0)), .unset, .unset, .unset, .unset, .unset] [(.ref a1)])) (fun _ k => XS.aloadN X4.here hx rfl (hb hby d4_17) rfl rfl k) ?_
  have ft5 := (F_a1_costs.other W4 (Or.inr (slot_ne (Or.inl (ww hw 11 rfl)) (Or.inl (ww hw 21 rfl)) (by decide) (t := (.array .double)) (t' := .int) (by decide) (by decide))))
  obtain ⟨T6, X6, e6, st6⟩ := getF X4 hx hZ hown (host := "") (Or.inl (ww hw 10 rfl)) Via.refl e4 ft5 (g := (mkF m 18 #[rv a1, .val (.int (N i0)), .unset, .unset, .unset, .unset, .unset] [(.ref a1)])) rfl rfl (hb hby d4_18)
  refine Go.st (f' := (mkF m 21 #[rv a1, .val (.int (N i0)), .unset, .unset, .unset, .unset, .unset] [(.ref cA)])) (fun _ k => st6 _ k) ?_
  refine Go.st (f' := (mkF m 22 #[rv a1, .val (.int (N i0)), .unset, .unset, .unset, .unset, .unset] [(.ref a1), (.ref cA)])) (fun _ k => XS.aloadN X6.here hx rfl (hb hby d4_21) rfl rfl k) ?_
  obtain ⟨T7, X7, e7, st7⟩ := getF X6 hx hZ hown (host := "") (Or.inl (ww hw 20 rfl)) Via.refl e6 Fw4 (g := (mkF m 22 #[rv a1, .val (.int (N i0)), .unset, .unset, .unset, .unset, .unset] [(.ref a1), (.ref cA)])) rfl rfl (hb hby d4_22)
  refine Go.st (f' := (mkF m 25 #[rv a1, .val (.int (N i0)), .unset, .unset, .unset, .unset, .unset] [(.int 2), (.ref cA)])) (fun _ k => st7 _ k) ?_
  have ft9 := (V_cA.other W4 (Ne.symm nt_a1_cA))
  obtain ⟨cl8, Ar8, -, S8, -, H8, -⟩ := id ft9
  have hin8 : ¬ ((2 : Int32) < 0 ∨ cl8.slots.size ≤ ((2 : Int32)).toNatClampNeg) := inb_of S8 ⟨by decide, by decide⟩
  have hat8 : cl8.slots[((2 : Int32)).toNatClampNeg]? = some (.double (FP.l2d (F i2))) := H8.at hin8 rfl
  refine Go.st (f' := (mkF m 26 #[rv a1, .val (.int (N i0)), .unset, .unset, .unset, .unset, .unset] [(.double (FP.l2d (F i2)))])) (fun _ k => X7.daload hx (j := (2 : Int32)) (v := (.double (FP.l2d (F i2)))) (by rw [e7]; exact Ar8.1) (State.isArrayOf_alike hZ.alike Ar8.2.1) Ar8.2.2 hin8 hat8 (g := (mkF m 25 #[rv a1, .val (.int (N i0)), .unset, .unset, .unset, .unset, .unset] [(.int 2), (.ref cA)])) rfl rfl (hb hby d4_25) _ k) ?_
  refine Go.st (f' := (mkF m 27 #[rv a1, .val (.int (N i0)), .val (.double (FP.l2d (F i2))), .second, .unset, .unset, .unset] [])) (fun _ k => XS.dstoreN X7.here hx rfl (hb hby d4_26) rfl (l' := #[rv a1, .val (.int (N i0)), .val (.double (FP.l2d (F i2))), .second, .unset, .unset, .unset]) rfl k) ?_
  refine Go.st (f' := (mkF m 28 #[rv a1, .val (.int (N i0)), .val (.double (FP.l2d (F i2))), .second, .unset, .unset, .unset] [(.ref a1)])) (fun _ k => XS.aloadN X7.here hx rfl (hb hby d4_27) rfl rfl k) ?_
  have ft10 := (F_a1_items.other W4 (Or.inr (slot_ne (Or.inl (ww hw 14 rfl)) (Or.inl (ww hw 21 rfl)) (by decide) (t := (.array .int)) (t' := .int) (by decide) (by decide))))
  obtain ⟨T11, X11, e11, st11⟩ := getF X7 hx hZ hown (host := "") (Or.inl (ww hw 13 rfl)) Via.refl e7 ft10 (g := (mkF m 28 #[rv a1, .val (.int (N i0)), .val (.double (FP.l2d (F i2))), .second, .unset, .unset, .unset] [(.ref a1)])) rfl rfl (hb hby d4_28)
  refine Go.st (f' := (mkF m 31 #[rv a1, .val (.int (N i0)), .val (.double (FP.l2d (F i2))), .second, .unset, .unset, .unset] [(.ref nA)])) (fun _ k => st11 _ k) ?_
  refine Go.st (f' := (mkF m 32 #[rv a1, .val (.int (N i0)), .val (.double (FP.l2d (F i2))), .second, .unset, .unset, .unset] [(.ref a1), (.ref nA)])) (fun _ k => XS.aloadN X11.here hx rfl (hb hby d4_31) rfl rfl k) ?_
  obtain ⟨T12, X12, e12, st12⟩ := getF X11 hx hZ hown (host := "") (Or.inl (ww hw 20 rfl)) Via.refl e11 Fw4 (g := (mkF m 32 #[rv a1, .val (.int (N i0)), .val (.double (FP.l2d (F i2))), .second, .unset, .unset, .unset] [(.ref a1), (.ref nA)])) rfl rfl (hb hby d4_32)
  refine Go.st (f' := (mkF m 35 #[rv a1, .val (.int (N i0)), .val (.double (FP.l2d (F i2))), .second, .unset, .unset, .unset] [(.int 2), (.ref nA)])) (fun _ k => st12 _ k) ?_
  have ft14 := (V_nA.other W4 (Ne.symm nt_a1_nA))
  obtain ⟨cl13, Ar13, -, S13, -, H13, -⟩ := id ft14
  have hin13 : ¬ ((2 : Int32) < 0 ∨ cl13.slots.size ≤ ((2 : Int32)).toNatClampNeg) := inb_of S13 ⟨by decide, by decide⟩
  have hat13 : cl13.slots[((2 : Int32)).toNatClampNeg]? = some (.int (N i2)) := H13.at hin13 rfl
  refine Go.st (f' := (mkF m 36 #[rv a1, .val (.int (N i0)), .val (.double (FP.l2d (F i2))), .second, .unset, .unset, .unset] [(.int (N i2))])) (fun _ k => X12.iaload hx (j := (2 : Int32)) (v := (.int (N i2))) (by rw [e12]; exact Ar13.1) (State.isArrayOf_alike hZ.alike Ar13.2.1) Ar13.2.2 hin13 hat13 (g := (mkF m 35 #[rv a1, .val (.int (N i0)), .val (.double (FP.l2d (F i2))), .second, .unset, .unset, .unset] [(.int 2), (.ref nA)])) rfl rfl (hb hby d4_35) _ k) ?_
  refine Go.st (f' := (mkF m 38 #[rv a1, .val (.int (N i0)), .val (.double (FP.l2d (F i2))), .second, .val (.int (N i2)), .unset, .unset] [])) (fun _ k => XS.istore X12.here hx rfl (hb hby d4_36) rfl (l' := #[rv a1, .val (.int (N i0)), .val (.double (FP.l2d (F i2))), .second, .val (.int (N i2)), .unset, .unset]) rfl k) ?_
  refine Go.st (f' := (mkF m 39 #[rv a1, .val (.int (N i0)), .val (.double (FP.l2d (F i2))), .second, .val (.int (N i2)), .unset, .unset] [(.int 0)])) (fun _ k => XS.iconst X12.here hx rfl (hb hby d4_38) k) ?_
  refine Go.st (f' := (mkF m 41 #[rv a1, .val (.int (N i0)), .val (.double (FP.l2d (F i2))), .second, .val (.int (N i2)), iv 0, .unset] [])) (fun _ k => XS.istore X12.here hx rfl (hb hby d4_39) rfl (l' := #[rv a1, .val (.int (N i0)), .val (.double (FP.l2d (F i2))), .second, .val (.int (N i2)), iv 0, .unset]) rfl k) ?_
  refine Go.st (f' := (mkF m 42 #[rv a1, .val (.int (N i0)), .val (.double (FP.l2d (F i2))), .second, .val (.int (N i2)), iv 0, .unset] [(.int 1)])) (fun _ k => XS.iconst X12.here hx rfl (hb hby d4_41) k) ?_
  refine Go.st (f' := (mkF m 44 #[rv a1, .val (.int (N i0)), .val (.double (FP.l2d (F i2))), .second, .val (.int (N i2)), iv 0, iv 1] [])) (fun _ k => XS.istore X12.here hx rfl (hb hby d4_42) rfl (l' := #[rv a1, .val (.int (N i0)), .val (.double (FP.l2d (F i2))), .second, .val (.int (N i2)), iv 0, iv 1]) rfl k) ?_
  refine Go.st (f' := (mkF m 46 #[rv a1, .val (.int (N i0)), .val (.double (FP.l2d (F i2))), .second, .val (.int (N i2)), iv 0, iv 1] [(.int 1)])) (fun _ k => XS.iload X12.here hx rfl (hb hby d4_44) rfl k) ?_
  refine Go.st (f' := (mkF m 47 #[rv a1, .val (.int (N i0)), .val (.double (FP.l2d (F i2))), .second, .val (.int (N i2)), iv 0, iv 1] [(.ref a1), (.int 1)])) (fun _ k => XS.aloadN X12.here hx rfl (hb hby d4_46) rfl rfl k) ?_
  obtain ⟨T15, X15, e15, st15⟩ := getF X12 hx hZ hown (host := "") (Or.inl (ww hw 20 rfl)) Via.refl e12 Fw4 (g := (mkF m 47 #[rv a1, .val (.int (N i0)), .val (.double (FP.l2d (F i2))), .second, .val (.int (N i2)), iv 0, iv 1] [(.ref a1), (.int 1)])) rfl rfl (hb hby d4_47)
  refine Go.st (f' := (mkF m 50 #[rv a1, .val (.int (N i0)), .val (.double (FP.l2d (F i2))), .second, .val (.int (N i2)), iv 0, iv 1] [(.int 2), (.int 1)])) (fun _ k => st15 _ k) ?_
  refine Go.st (f' := (mkF m 53 #[rv a1, .val (.int (N i0)), .val (.double (FP.l2d (F i2))), .second, .val (.int (N i2)), iv 0, iv 1] [])) (fun _ k => XS.icmpNo X15.here hx rfl (hb hby d4_50) rfl (by decide) k) ?_
  refine Go.st (f' := (mkF m 55 #[rv a1, .val (.int (N i0)), .val (.double (FP.l2d (F i2))), .second, .val (.int (N i2)), iv 0, iv 1] [(.int 1)])) (fun _ k => XS.iload X15.here hx rfl (hb hby d4_53) rfl k) ?_
  refine Go.st (f' := (mkF m 56 #[rv a1, .val (.int (N i0)), .val (.double (FP.l2d (F i2))), .second, .val (.int (N i2)), iv 0, iv 1] [(.int 1), (.int 1)])) (fun _ k => XS.iconst X15.here hx rfl (hb hby d4_55) k) ?_
  refine Go.st (f' := (mkF m 57 #[rv a1, .val (.int (N i0)), .val (.double (FP.l2d (F i2))), .second, .val (.int (N i2)), iv 0, iv 1] [(.int 2)])) (fun _ k => XS.iadd X15.here hx rfl (hb hby d4_56) rfl k) ?_
  refine Go.st (f' := (mkF m 58 #[rv a1, .val (.int (N i0)), .val (.double (FP.l2d (F i2))), .second, .val (.int (N i2)), iv 0, iv 1] [(.ref a1), (.int 2)])) (fun _ k => XS.aloadN X15.here hx rfl (hb hby d4_57) rfl rfl k) ?_
  obtain ⟨T16, X16, e16, st16⟩ := getF X15 hx hZ hown (host := "") (Or.inl (ww hw 20 rfl)) Via.refl e15 Fw4 (g := (mkF m 58 #[rv a1, .val (.int (N i0)), .val (.double (FP.l2d (F i2))), .second, .val (.int (N i2)), iv 0, iv 1] [(.ref a1), (.int 2)])) rfl rfl (hb hby d4_58)
  refine Go.st (f' := (mkF m 61 #[rv a1, .val (.int (N i0)), .val (.double (FP.l2d (F i2))), .second, .val (.int (N i2)), iv 0, iv 1] [(.int 2), (.int 2)])) (fun _ k => st16 _ k) ?_
  refine Go.st (f' := (mkF m 87 #[rv a1, .val (.int (N i0)), .val (.double (FP.l2d (F i2))), .second, .val (.int (N i2)), iv 0, iv 1] [])) (fun _ k => XS.icmpYes X16.here hx rfl (pc0 := 61) (pc' := 87) rfl (hb hby d4_61) rfl (by decide) (by decide) (by decide) k) ?_
  refine Go.st (f' := (mkF m 88 #[rv a1, .val (.int (N i0)), .val (.double (FP.l2d (F i2))), .second, .val (.int (N i2)), iv 0, iv 1] [(.ref a1)])) (fun _ k => XS.aloadN X16.here hx rfl (hb hby d4_87) rfl rfl k) ?_
  obtain ⟨T17, X17, e17, st17⟩ := getF X16 hx hZ hown (host := "") (Or.inl (ww hw 10 rfl)) Via.refl e16 ft5 (g := (mkF m 88 #[rv a1, .val (.int (N i0)), .val (.double (FP.l2d (F i2))), .second, .val (.int (N i2)), iv 0, iv 1] [(.ref a1)])) rfl rfl (hb hby d4_88)
  refine Go.st (f' := (mkF m 91 #[rv a1, .val (.int (N i0)), .val (.double (FP.l2d (F i2))), .second, .val (.int (N i2)), iv 0, iv 1] [(.ref cA)])) (fun _ k => st17 _ k) ?_
  refine Go.st (f' := (mkF m 93 #[rv a1, .val (.int (N i0)), .val (.double (FP.l2d (F i2))), .second, .val (.int (N i2)), iv 0, iv 1] [(.int 1), (.ref cA)])) (fun _ k => XS.iload X17.here hx rfl (hb hby d4_91) rfl k) ?_
  obtain ⟨cl18, Ar18, -, S18, -, H18, -⟩ := id ft9
  have hin18 : ¬ ((1 : Int32) < 0 ∨ cl18.slots.size ≤ ((1 : Int32)).toNatClampNeg) := inb_of S18 ⟨by decide, by decide⟩
  have hat18 : cl18.slots[((1 : Int32)).toNatClampNeg]? = some (.double (FP.l2d (F i1))) := H18.at hin18 rfl
  refine Go.st (f' := (mkF m 94 #[rv a1, .val (.int (N i0)), .val (.double (FP.l2d (F i2))), .second, .val (.int (N i2)), iv 0, iv 1] [(.double (FP.l2d (F i1)))])) (fun _ k => X17.daload hx (j := (1 : Int32)) (v := (.double (FP.l2d (F i1)))) (by rw [e17]; exact Ar18.1) (State.isArrayOf_alike hZ.alike Ar18.2.1) Ar18.2.2 hin18 hat18 (g := (mkF m 93 #[rv a1, .val (.int (N i0)), .val (.double (FP.l2d (F i2))), .second, .val (.int (N i2)), iv 0, iv 1] [(.int 1), (.ref cA)])) rfl rfl (hb hby d4_93) _ k) ?_
  refine Go.st (f' := (mkF m 95 #[rv a1, .val (.int (N i0)), .val (.double (FP.l2d (F i2))), .second, .val (.int (N i2)), iv 0, iv 1] [(.double (FP.l2d (F i2))), (.double (FP.l2d (F i1)))])) (fun _ k => XS.dloadN X17.here hx rfl (hb hby d4_94) rfl k) ?_
  refine Go.st (f' := (mkF m 96 #[rv a1, .val (.int (N i0)), .val (.double (FP.l2d (F i2))), .second, .val (.int (N i2)), iv 0, iv 1] [(.int (lcmpW (F i1) (F i2)))])) (fun _ k => XS.dcmpS X17.here hx rfl (hb hby d4_95) rfl (dcmpV_w (hF _) (hF _) _) k) ?_
  by_cases cd19 : (lcmpW (F i1) (F i2)) < (0 : Int32)
  · refine Go.st (f' := (mkF m 102 #[rv a1, .val (.int (N i0)), .val (.double (FP.l2d (F i2))), .second, .val (.int (N i2)), iv 0, iv 1] [])) (fun _ k => XS.ifYes X17.here hx rfl (pc0 := 96) (pc' := 102) rfl (hb hby d4_96) rfl ((if0 _ _).trans (tlt cd19).1) (by decide) (by decide) k) ?_
    refine Go.st (f' := (mkF m 103 #[rv a1, .val (.int (N i0)), .val (.double (FP.l2d (F i2))), .second, .val (.int (N i2)), iv 0, iv 1] [(.ref a1)])) (fun _ k => XS.aloadN X17.here hx rfl (hb hby d4_102) rfl rfl k) ?_
    obtain ⟨T20, X20, e20, st20⟩ := getF X17 hx hZ hown (host := "") (Or.inl (ww hw 10 rfl)) Via.refl e17 ft5 (g := (mkF m 103 #[rv a1, .val (.int (N i0)), .val (.double (FP.l2d (F i2))), .second, .val (.int (N i2)), iv 0, iv 1] [(.ref a1)])) rfl rfl (hb hby d4_103)
    refine Go.st (f' := (mkF m 106 #[rv a1, .val (.int (N i0)), .val (.double (FP.l2d (F i2))), .second, .val (.int (N i2)), iv 0, iv 1] [(.ref cA)])) (fun _ k => st20 _ k) ?_
    refine Go.st (f' := (mkF m 108 #[rv a1, .val (.int (N i0)), .val (.double (FP.l2d (F i2))), .second, .val (.int (N i2)), iv 0, iv 1] [(.int 0), (.ref cA)])) (fun _ k => XS.iload X20.here hx rfl (hb hby d4_106) rfl k) ?_
    refine Go.st (f' := (mkF m 109 #[rv a1, .val (.int (N i0)), .val (.double (FP.l2d (F i2))), .second, .val (.int (N i2)), iv 0, iv 1] [(.ref a1), (.int 0), (.ref cA)])) (fun _ k => XS.aloadN X20.here hx rfl (hb hby d4_108) rfl rfl k) ?_
    obtain ⟨T21, X21, e21, st21⟩ := getF X20 hx hZ hown (host := "") (Or.inl (ww hw 10 rfl)) Via.refl e20 ft5 (g := (mkF m 109 #[rv a1, .val (.int (N i0)), .val (.double (FP.l2d (F i2))), .second, .val (.int (N i2)), iv 0, iv 1] [(.ref a1), (.int 0), (.ref cA)])) rfl rfl (hb hby d4_109)
    refine Go.st (f' := (mkF m 112 #[rv a1, .val (.int (N i0)), .val (.double (FP.l2d (F i2))), .second, .val (.int (N i2)), iv 0, iv 1] [(.ref cA), (.int 0), (.ref cA)])) (fun _ k => st21 _ k) ?_
    refine Go.st (f' := (mkF m 114 #[rv a1, .val (.int (N i0)), .val (.double (FP.l2d (F i2))), .second, .val (.int (N i2)), iv 0, iv 1] [(.int 1), (.ref cA), (.int 0), (.ref cA)])) (fun _ k => XS.iload X21.here hx rfl (hb hby d4_112) rfl k) ?_
    obtain ⟨cl22, Ar22, -, S22, -, H22, -⟩ := id ft9
    have hin22 : ¬ ((1 : Int32) < 0 ∨ cl22.slots.size ≤ ((1 : Int32)).toNatClampNeg) := inb_of S22 ⟨by decide, by decide⟩
    have hat22 : cl22.slots[((1 : Int32)).toNatClampNeg]? = some (.double (FP.l2d (F i1))) := H22.at hin22 rfl
    refine Go.st (f' := (mkF m 115 #[rv a1, .val (.int (N i0)), .val (.double (FP.l2d (F i2))), .second, .val (.int (N i2)), iv 0, iv 1] [(.double (FP.l2d (F i1))), (.int 0), (.ref cA)])) (fun _ k => X21.daload hx (j := (1 : Int32)) (v := (.double (FP.l2d (F i1)))) (by rw [e21]; exact Ar22.1) (State.isArrayOf_alike hZ.alike Ar22.2.1) Ar22.2.2 hin22 hat22 (g := (mkF m 114 #[rv a1, .val (.int (N i0)), .val (.double (FP.l2d (F i2))), .second, .val (.int (N i2)), iv 0, iv 1] [(.int 1), (.ref cA), (.int 0), (.ref cA)])) rfl rfl (hb hby d4_114) _ k) ?_
    obtain ⟨cl23, Ar23, q23, S23, Nx23, H23, G23⟩ := id ft9
    have hin23 : ¬ ((0 : Int32) < 0 ∨ cl23.slots.size ≤ ((0 : Int32)).toNatClampNeg) := inb_of S23 ⟨by decide, by decide⟩
    obtain ⟨T24, h24, X24, e24, W24, st24⟩ := stD X21 hx hZ e21 Ar23 (j := (0 : Int32)) hin23 (g := (mkF m 115 #[rv a1, .val (.int (N i0)), .val (.double (FP.l2d (F i2))), .second, .val (.int (N i2)), iv 0, iv 1] [(.double (FP.l2d (F i1))), (.int 0), (.ref cA)])) rfl rfl (hb hby d4_115)
    have V_cA_24 : Arv Z h24 cA kA .double (16 : Int32) [(.double (FP.l2d (F i1))), (.double (FP.l2d (F i1))), (.double (FP.l2d (F i2))), (.double u0), (.double u1)] (.double (FP.l2d 0)) := Arv.set Ar23 q23 S23 Nx23 H23 G23 rfl W24 0 rfl (Nat.le_of_ble_eq_true rfl)
    have N24 := Fr.snoc X24 N4 g_cA
    have O24 : Old Z n0 h24 := O4.wr W24 g_cA
    have K24 : Keep h0 h24 [a1, cA, nA] := K4.wr W24 (Or.inl (List.mem_of_getElem? (i := 1) rfl))
    refine Go.st (f' := (mkF m 116 #[rv a1, .val (.int (N i0)), .val (.double (FP.l2d (F i2))), .second, .val (.int (N i2)), iv 0, iv 1] [])) (fun _ k => st24 _ k) ?_
    refine Go.st (f' := (mkF m 117 #[rv a1, .val (.int (N i0)), .val (.double (FP.l2d (F i2))), .second, .val (.int (N i2)), iv 0, iv 1] [(.ref a1)])) (fun _ k => XS.aloadN X24.here hx rfl (hb hby d4_116) rfl rfl k) ?_
    have ft25 := (ft10.other W24 (Or.inl nt_a1_cA))
    obtain ⟨T26, X26, e26, st26⟩ := getF X24 hx hZ hown (host := "") (Or.inl (ww hw 13 rfl)) Via.refl e24 ft25 (g := (mkF m 117 #[rv a1, .val (.int (N i0)), .val (.double (FP.l2d (F i2))), .second, .val (.int (N i2)), iv 0, iv 1] [(.ref a1)])) rfl rfl (hb hby d4_117)
    refine Go.st (f' := (mkF m 120 #[rv a1, .val (.int (N i0)), .val (.double (FP.l2d (F i2))), .second, .val (.int (N i2)), iv 0, iv 1] [(.ref nA)])) (fun _ k => st26 _ k) ?_
    refine Go.st (f' := (mkF m 122 #[rv a1, .val (.int (N i0)), .val (.double (FP.l2d (F i2))), .second, .val (.int (N i2)), iv 0, iv 1] [(.int 0), (.ref nA)])) (fun _ k => XS.iload X26.here hx rfl (hb hby d4_120) rfl k) ?_
    refine Go.st (f' := (mkF m 123 #[rv a1, .val (.int (N i0)), .val (.double (FP.l2d (F i2))), .second, .val (.int (N i2)), iv 0, iv 1] [(.ref a1), (.int 0), (.ref nA)])) (fun _ k => XS.aloadN X26.here hx rfl (hb hby d4_122) rfl rfl k) ?_
    obtain ⟨T27, X27, e27, st27⟩ := getF X26 hx hZ hown (host := "") (Or.inl (ww hw 13 rfl)) Via.refl e26 ft25 (g := (mkF m 123 #[rv a1, .val (.int (N i0)), .val (.double (FP.l2d (F i2))), .second, .val (.int (N i2)), iv 0, iv 1] [(.ref a1), (.int 0), (.ref nA)])) rfl rfl (hb hby d4_123)
    refine Go.st (f' := (mkF m 126 #[rv a1, .val (.int (N i0)), .val (.double (FP.l2d (F i2))), .second, .val (.int (N i2)), iv 0, iv 1] [(.ref nA), (.int 0), (.ref nA)])) (fun _ k => st27 _ k) ?_
    refine Go.st (f' := (mkF m 128 #[rv a1, .val (.int (N i0)), .val (.double (FP.l2d (F i2))), .second, .val (.int (N i2)), iv 0, iv 1] [(.int 1), (.ref nA), (.int 0), (.ref nA)])) (fun _ k => XS.iload X27.here hx rfl (hb hby d4_126) rfl k) ?_
    have ft29 := (ft14.other W24 (Ne.symm nn))
    obtain ⟨cl28, Ar28, -, S28, -, H28, -⟩ := id ft29
    have hin28 : ¬ ((1 : Int32) < 0 ∨ cl28.slots.size ≤ ((1 : Int32)).toNatClampNeg) := inb_of S28 ⟨by decide, by decide⟩
    have hat28 : cl28.slots[((1 : Int32)).toNatClampNeg]? = some (.int (N i1)) := H28.at hin28 rfl
    refine Go.st (f' := (mkF m 129 #[rv a1, .val (.int (N i0)), .val (.double (FP.l2d (F i2))), .second, .val (.int (N i2)), iv 0, iv 1] [(.int (N i1)), (.int 0), (.ref nA)])) (fun _ k => X27.iaload hx (j := (1 : Int32)) (v := (.int (N i1))) (by rw [e27]; exact Ar28.1) (State.isArrayOf_alike hZ.alike Ar28.2.1) Ar28.2.2 hin28 hat28 (g := (mkF m 128 #[rv a1, .val (.int (N i0)), .val (.double (FP.l2d (F i2))), .second, .val (.int (N i2)), iv 0, iv 1] [(.int 1), (.ref nA), (.int 0), (.ref nA)])) rfl rfl (hb hby d4_128) _ k) ?_
    obtain ⟨cl30, Ar30, q30, S30, Nx30, H30, G30⟩ := id ft29
    have hin30 : ¬ ((0 : Int32) < 0 ∨ cl30.slots.size ≤ ((0 : Int32)).toNatClampNeg) := inb_of S30 ⟨by decide, by decide⟩
    obtain ⟨T31, h31, X31, e31, W31, st31⟩ := stI X27 hx hZ e27 Ar30 (j := (0 : Int32)) hin30 (g := (mkF m 129 #[rv a1, .val (.int (N i0)), .val (.double (FP.l2d (F i2))), .second, .val (.int (N i2)), iv 0, iv 1] [(.int (N i1)), (.int 0), (.ref nA)])) rfl rfl (hb hby d4_129)
    have V_nA_31 : Arv Z h31 nA kN .int (16 : Int32) [(.int (N i1)), (.int (N i1)), (.int (N i2)), (.int s0), (.int s1)] (.int (0 : Int32)) := Arv.set Ar30 q30 S30 Nx30 H30 G30 rfl W31 0 rfl (Nat.le_of_ble_eq_true rfl)
    have N31 := Fr.snoc X31 N24 g_nA
    have O31 : Old Z n0 h31 := O24.wr W31 g_nA
    have K31 : Keep h0 h31 [a1, cA, nA] := K24.wr W31 (Or.inl (List.mem_of_getElem? (i := 2) rfl))
    refine Go.st (f' := (mkF m 130 #[rv a1, .val (.int (N i0)), .val (.double (FP.l2d (F i2))), .second, .val (.int (N i2)), iv 0, iv 1] [])) (fun _ k => st31 _ k) ?_
    refine Go.st (f' := (mkF m 132 #[rv a1, .val (.int (N i0)), .val (.double (FP.l2d (F i2))), .second, .val (.int (N i2)), iv 0, iv 1] [(.int 1)])) (fun _ k => XS.iload X31.here hx rfl (hb hby d4_130) rfl k) ?_
    refine Go.st (f' := (mkF m 134 #[rv a1, .val (.int (N i0)), .val (.double (FP.l2d (F i2))), .second, .val (.int (N i2)), iv 1, iv 1] [])) (fun _ k => XS.istore X31.here hx rfl (hb hby d4_132) rfl (l' := #[rv a1, .val (.int (N i0)), .val (.double (FP.l2d (F i2))), .second, .val (.int (N i2)), iv 1, iv 1]) rfl k) ?_
    refine Go.st (f' := (mkF m 135 #[rv a1, .val (.int (N i0)), .val (.double (FP.l2d (F i2))), .second, .val (.int (N i2)), iv 1, iv 1] [(.int 2)])) (fun _ k => XS.iconst X31.here hx rfl (hb hby d4_134) k) ?_
    refine Go.st (f' := (mkF m 137 #[rv a1, .val (.int (N i0)), .val (.double (FP.l2d (F i2))), .second, .val (.int (N i2)), iv 1, iv 1] [(.int 1), (.int 2)])) (fun _ k => XS.iload X31.here hx rfl (hb hby d4_135) rfl k) ?_
    refine Go.st (f' := (mkF m 138 #[rv a1, .val (.int (N i0)), .val (.double (FP.l2d (F i2))), .second, .val (.int (N i2)), iv 1, iv 1] [(.int 2)])) (fun _ k => XS.imul X31.here hx rfl (hb hby d4_137) rfl k) ?_
    refine Go.st (f' := (mkF m 139 #[rv a1, .val (.int (N i0)), .val (.double (FP.l2d (F i2))), .second, .val (.int (N i2)), iv 1, iv 1] [(.int 1), (.int 2)])) (fun _ k => XS.iconst X31.here hx rfl (hb hby d4_138) k) ?_
    refine Go.st (f' := (mkF m 140 #[rv a1, .val (.int (N i0)), .val (.double (FP.l2d (F i2))), .second, .val (.int (N i2)), iv 1, iv 1] [(.int 3)])) (fun _ k => XS.iadd X31.here hx rfl (hb hby d4_139) rfl k) ?_
    refine Go.st (f' := (mkF m 142 #[rv a1, .val (.int (N i0)), .val (.double (FP.l2d (F i2))), .second, .val (.int (N i2)), iv 1, iv 3] [])) (fun _ k => XS.istore X31.here hx rfl (hb hby d4_140) rfl (l' := #[rv a1, .val (.int (N i0)), .val (.double (FP.l2d (F i2))), .second, .val (.int (N i2)), iv 1, iv 3]) rfl k) ?_
    refine Go.st (f' := (mkF m 44 #[rv a1, .val (.int (N i0)), .val (.double (FP.l2d (F i2))), .second, .val (.int (N i2)), iv 1, iv 3] [])) (fun _ k => XS.goto X31.here hx rfl (pc0 := 142) (pc' := 44) rfl (hb hby d4_142) (by decide) (by decide) k) ?_
    refine Go.st (f' := (mkF m 46 #[rv a1, .val (.int (N i0)), .val (.double (FP.l2d (F i2))), .second, .val (.int (N i2)), iv 1, iv 3] [(.int 3)])) (fun _ k => XS.iload X31.here hx rfl (hb hby d4_44) rfl k) ?_
    refine Go.st (f' := (mkF m 47 #[rv a1, .val (.int (N i0)), .val (.double (FP.l2d (F i2))), .second, .val (.int (N i2)), iv 1, iv 3] [(.ref a1), (.int 3)])) (fun _ k => XS.aloadN X31.here hx rfl (hb hby d4_46) rfl rfl k) ?_
    have ft32 := ((Fw4.other W24 (Or.inl nt_a1_cA)).other W31 (Or.inl nt_a1_nA))
    obtain ⟨T33, X33, e33, st33⟩ := getF X31 hx hZ hown (host := "") (Or.inl (ww hw 20 rfl)) Via.refl e31 ft32 (g := (mkF m 47 #[rv a1, .val (.int (N i0)), .val (.double (FP.l2d (F i2))), .second, .val (.int (N i2)), iv 1, iv 3] [(.ref a1), (.int 3)])) rfl rfl (hb hby d4_47)
    refine Go.st (f' := (mkF m 50 #[rv a1, .val (.int (N i0)), .val (.double (FP.l2d (F i2))), .second, .val (.int (N i2)), iv 1, iv 3] [(.int 2), (.int 3)])) (fun _ k => st33 _ k) ?_
    refine Go.st (f' := (mkF m 145 #[rv a1, .val (.int (N i0)), .val (.double (FP.l2d (F i2))), .second, .val (.int (N i2)), iv 1, iv 3] [])) (fun _ k => XS.icmpYes X33.here hx rfl (pc0 := 50) (pc' := 145) rfl (hb hby d4_50) rfl (by decide) (by decide) (by decide) k) ?_
    refine Go.st (f' := (mkF m 146 #[rv a1, .val (.int (N i0)), .val (.double (FP.l2d (F i2))), .second, .val (.int (N i2)), iv 1, iv 3] [(.ref a1)])) (fun _ k => XS.aloadN X33.here hx rfl (hb hby d4_145) rfl rfl k) ?_
    have ft34 := ((ft5.other W24 (Or.inl nt_a1_cA)).other W31 (Or.inl nt_a1_nA))
    obtain ⟨T35, X35, e35, st35⟩ := getF X33 hx hZ hown (host := "") (Or.inl (ww hw 10 rfl)) Via.refl e33 ft34 (g := (mkF m 146 #[rv a1, .val (.int (N i0)), .val (.double (FP.l2d (F i2))), .second, .val (.int (N i2)), iv 1, iv 3] [(.ref a1)])) rfl rfl (hb hby d4_146)
    refine Go.st (f' := (mkF m 149 #[rv a1, .val (.int (N i0)), .val (.double (FP.l2d (F i2))), .second, .val (.int (N i2)), iv 1, iv 3] [(.ref cA)])) (fun _ k => st35 _ k) ?_
    refine Go.st (f' := (mkF m 151 #[rv a1, .val (.int (N i0)), .val (.double (FP.l2d (F i2))), .second, .val (.int (N i2)), iv 1, iv 3] [(.int 1), (.ref cA)])) (fun _ k => XS.iload X35.here hx rfl (hb hby d4_149) rfl k) ?_
    refine Go.st (f' := (mkF m 152 #[rv a1, .val (.int (N i0)), .val (.double (FP.l2d (F i2))), .second, .val (.int (N i2)), iv 1, iv 3] [(.double (FP.l2d (F i2))), (.int 1), (.ref cA)])) (fun _ k => XS.dloadN X35.here hx rfl (hb hby d4_151) rfl k) ?_
    have ft36 := (V_cA_24.other W31 nn)
    obtain ⟨cl37, Ar37, q37, S37, Nx37, H37, G37⟩ := id ft36
    have hin37 : ¬ ((1 : Int32) < 0 ∨ cl37.slots.size ≤ ((1 : Int32)).toNatClampNeg) := inb_of S37 ⟨by decide, by decide⟩
    obtain ⟨T38, h38, X38, e38, W38, st38⟩ := stD X35 hx hZ e35 Ar37 (j := (1 : Int32)) hin37 (g := (mkF m 152 #[rv a1, .val (.int (N i0)), .val (.double (FP.l2d (F i2))), .second, .val (.int (N i2)), iv 1, iv 3] [(.double (FP.l2d (F i2))), (.int 1), (.ref cA)])) rfl rfl (hb hby d4_152)
    have V_cA_38 : Arv Z h38 cA kA .double (16 : Int32) [(.double (FP.l2d (F i1))), (.double (FP.l2d (F i2))), (.double (FP.l2d (F i2))), (.double u0), (.double u1)] (.double (FP.l2d 0)) := Arv.set Ar37 q37 S37 Nx37 H37 G37 rfl W38 1 rfl (Nat.le_of_ble_eq_true rfl)
    have N38 := Fr.snoc X38 N31 g_cA
    have O38 : Old Z n0 h38 := O31.wr W38 g_cA
    have K38 : Keep h0 h38 [a1, cA, nA] := K31.wr W38 (Or.inl (List.mem_of_getElem? (i := 1) rfl))
    refine Go.st (f' := (mkF m 153 #[rv a1, .val (.int (N i0)), .val (.double (FP.l2d (F i2))), .second, .val (.int (N i2)), iv 1, iv 3] [])) (fun _ k => st38 _ k) ?_
    refine Go.st (f' := (mkF m 154 #[rv a1, .val (.int (N i0)), .val (.double (FP.l2d (F i2))), .second, .val (.int (N i2)), iv 1, iv 3] [(.ref a1)])) (fun _ k => XS.aloadN X38.here hx rfl (hb hby d4_153) rfl rfl k) ?_
    have ft39 := ((ft25.other W31 (Or.inl nt_a1_nA)).other W38 (Or.inl nt_a1_cA))
    obtain ⟨T40, X40, e40, st40⟩ := getF X38 hx hZ hown (host := "") (Or.inl (ww hw 13 rfl)) Via.refl e38 ft39 (g := (mkF m 154 #[rv a1, .val (.int (N i0)), .val (.double (FP.l2d (F i2))), .second, .val (.int (N i2)), iv 1, iv 3] [(.ref a1)])) rfl rfl (hb hby d4_154)
    refine Go.st (f' := (mkF m 157 #[rv a1, .val (.int (N i0)), .val (.double (FP.l2d (F i2))), .second, .val (.int (N i2)), iv 1, iv 3] [(.ref nA)])) (fun _ k => st40 _ k) ?_
    refine Go.st (f' := (mkF m 159 #[rv a1, .val (.int (N i0)), .val (.double (FP.l2d (F i2))), .second, .val (.int (N i2)), iv 1, iv 3] [(.int 1), (.ref nA)])) (fun _ k => XS.iload X40.here hx rfl (hb hby d4_157) rfl k) ?_
    refine Go.st (f' := (mkF m 161 #[rv a1, .val (.int (N i0)), .val (.double (FP.l2d (F i2))), .second, .val (.int (N i2)), iv 1, iv 3] [(.int (N i2)), (.int 1), (.ref nA)])) (fun _ k => XS.iload X40.here hx rfl (hb hby d4_159) rfl k) ?_
    have ft41 := (V_nA_31.other W38 (Ne.symm nn))
    obtain ⟨cl42, Ar42, q42, S42, Nx42, H42, G42⟩ := id ft41
    have hin42 : ¬ ((1 : Int32) < 0 ∨ cl42.slots.size ≤ ((1 : Int32)).toNatClampNeg) := inb_of S42 ⟨by decide, by decide⟩
    obtain ⟨T43, h43, X43, e43, W43, st43⟩ := stI X40 hx hZ e40 Ar42 (j := (1 : Int32)) hin42 (g := (mkF m 161 #[rv a1, .val (.int (N i0)), .val (.double (FP.l2d (F i2))), .second, .val (.int (N i2)), iv 1, iv 3] [(.int (N i2)), (.int 1), (.ref nA)])) rfl rfl (hb hby d4_161)
    have V_nA_43 : Arv Z h43 nA kN .int (16 : Int32) [(.int (N i1)), (.int (N i2)), (.int (N i2)), (.int s0), (.int s1)] (.int (0 : Int32)) := Arv.set Ar42 q42 S42 Nx42 H42 G42 rfl W43 1 rfl (Nat.le_of_ble_eq_true rfl)
    have N43 := Fr.snoc X43 N38 g_nA
    have O43 : Old Z n0 h43 := O38.wr W43 g_nA
    have K43 : Keep h0 h43 [a1, cA, nA] := K38.wr W43 (Or.inl (List.mem_of_getElem? (i := 2) rfl))
    refine Go.st (f' := (mkF m 162 #[rv a1, .val (.int (N i0)), .val (.double (FP.l2d (F i2))), .second, .val (.int (N i2)), iv 1, iv 3] [])) (fun _ k => st43 _ k) ?_
    refine Go.st (f' := (mkF m 163 #[rv a1, .val (.int (N i0)), .val (.double (FP.l2d (F i2))), .second, .val (.int (N i2)), iv 1, iv 3] [(.int (N i0))])) (fun _ k => XS.iloadN X43.here hx rfl (hb hby d4_162) rfl k) ?_
    refine Go.retV X43 hlk hx (t := .int) hret rfl (Or.inl ⟨rfl, Or.inl rfl, _, rfl⟩) (hb hby d4_163) e43 ?_ (by decide) (by decide)
    have c_cd19 :=  (own_lw (F i1) (F i2)).1.mp cd19
    have ft44 := (((((E_a1.wr W4).wr W24).wr W31).wr W38).wr W43)
    have ft45 := ((ft32.other W38 (Or.inl nt_a1_cA)).other W43 (Or.inl nt_a1_nA))
    have ft46 := (ft39.other W43 (Or.inl nt_a1_nA))
    have ft47 := ((ft34.other W38 (Or.inl nt_a1_cA)).other W43 (Or.inl nt_a1_nA))
    have ft48 := (V_cA_38.other W43 nn)
    exact ⟨rfl, N43, K43, ft44, ft45, ft46, ft47, i1, i2, (FP.l2d (F i2)), u0, u1, (N i2), s0, s1, fun w => by omega, by omega, by omega, ft48, V_nA_43⟩
  · refine Go.st (f' := (mkF m 99 #[rv a1, .val (.int (N i0)), .val (.double (FP.l2d (F i2))), .second, .val (.int (N i2)), iv 0, iv 1] [])) (fun _ k => XS.ifNo X17.here hx rfl (hb hby d4_96) rfl ((if0 _ _).trans (flt cd19).1) k) ?_
    refine Go.st (f' := (mkF m 145 #[rv a1, .val (.int (N i0)), .val (.double (FP.l2d (F i2))), .second, .val (.int (N i2)), iv 0, iv 1] [])) (fun _ k => XS.goto X17.here hx rfl (pc0 := 99) (pc' := 145) rfl (hb hby d4_99) (by decide) (by decide) k) ?_
    refine Go.st (f' := (mkF m 146 #[rv a1, .val (.int (N i0)), .val (.double (FP.l2d (F i2))), .second, .val (.int (N i2)), iv 0, iv 1] [(.ref a1)])) (fun _ k => XS.aloadN X17.here hx rfl (hb hby d4_145) rfl rfl k) ?_
    obtain ⟨T49, X49, e49, st49⟩ := getF X17 hx hZ hown (host := "") (Or.inl (ww hw 10 rfl)) Via.refl e17 ft5 (g := (mkF m 146 #[rv a1, .val (.int (N i0)), .val (.double (FP.l2d (F i2))), .second, .val (.int (N i2)), iv 0, iv 1] [(.ref a1)])) rfl rfl (hb hby d4_146)
    refine Go.st (f' := (mkF m 149 #[rv a1, .val (.int (N i0)), .val (.double (FP.l2d (F i2))), .second, .val (.int (N i2)), iv 0, iv 1] [(.ref cA)])) (fun _ k => st49 _ k) ?_
    refine Go.st (f' := (mkF m 151 #[rv a1, .val (.int (N i0)), .val (.double (FP.l2d (F i2))), .second, .val (.int (N i2)), iv 0, iv 1] [(.int 0), (.ref cA)])) (fun _ k => XS.iload X49.here hx rfl (hb hby d4_149) rfl k) ?_
    refine Go.st (f' := (mkF m 152 #[rv a1, .val (.int (N i0)), .val (.double (FP.l2d (F i2))), .second, .val (.int (N i2)), iv 0, iv 1] [(.double (FP.l2d (F i2))), (.int 0), (.ref cA)])) (fun _ k => XS.dloadN X49.here hx rfl (hb hby d4_151) rfl k) ?_
    obtain ⟨cl50, Ar50, q50, S50, Nx50, H50, G50⟩ := id ft9
    have hin50 : ¬ ((0 : Int32) < 0 ∨ cl50.slots.size ≤ ((0 : Int32)).toNatClampNeg) := inb_of S50 ⟨by decide, by decide⟩
    obtain ⟨T51, h51, X51, e51, W51, st51⟩ := stD X49 hx hZ e49 Ar50 (j := (0 : Int32)) hin50 (g := (mkF m 152 #[rv a1, .val (.int (N i0)), .val (.double (FP.l2d (F i2))), .second, .val (.int (N i2)), iv 0, iv 1] [(.double (FP.l2d (F i2))), (.int 0), (.ref cA)])) rfl rfl (hb hby d4_152)
    have V_cA_51 : Arv Z h51 cA kA .double (16 : Int32) [(.double (FP.l2d (F i2))), (.double (FP.l2d (F i1))), (.double (FP.l2d (F i2))), (.double u0), (.double u1)] (.double (FP.l2d 0)) := Arv.set Ar50 q50 S50 Nx50 H50 G50 rfl W51 0 rfl (Nat.le_of_ble_eq_true rfl)
    have N51 := Fr.snoc X51 N4 g_cA
    have O51 : Old Z n0 h51 := O4.wr W51 g_cA
    have K51 : Keep h0 h51 [a1, cA, nA] := K4.wr W51 (Or.inl (List.mem_of_getElem? (i := 1) rfl))
    refine Go.st (f' := (mkF m 153 #[rv a1, .val (.int (N i0)), .val (.double (FP.l2d (F i2))), .second, .val (.int (N i2)), iv 0, iv 1] [])) (fun _ k => st51 _ k) ?_
    refine Go.st (f' := (mkF m 154 #[rv a1, .val (.int (N i0)), .val (.double (FP.l2d (F i2))), .second, .val (.int (N i2)), iv 0, iv 1] [(.ref a1)])) (fun _ k => XS.aloadN X51.here hx rfl (hb hby d4_153) rfl rfl k) ?_
    have ft52 := (ft10.other W51 (Or.inl nt_a1_cA))
    obtain ⟨T53, X53, e53, st53⟩ := getF X51 hx hZ hown (host := "") (Or.inl (ww hw 13 rfl)) Via.refl e51 ft52 (g := (mkF m 154 #[rv a1, .val (.int (N i0)), .val (.double (FP.l2d (F i2))), .second, .val (.int (N i2)), iv 0, iv 1] [(.ref a1)])) rfl rfl (hb hby d4_154)
    refine Go.st (f' := (mkF m 157 #[rv a1, .val (.int (N i0)), .val (.double (FP.l2d (F i2))), .second, .val (.int (N i2)), iv 0, iv 1] [(.ref nA)])) (fun _ k => st53 _ k) ?_
    refine Go.st (f' := (mkF m 159 #[rv a1, .val (.int (N i0)), .val (.double (FP.l2d (F i2))), .second, .val (.int (N i2)), iv 0, iv 1] [(.int 0), (.ref nA)])) (fun _ k => XS.iload X53.here hx rfl (hb hby d4_157) rfl k) ?_
    refine Go.st (f' := (mkF m 161 #[rv a1, .val (.int (N i0)), .val (.double (FP.l2d (F i2))), .second, .val (.int (N i2)), iv 0, iv 1] [(.int (N i2)), (.int 0), (.ref nA)])) (fun _ k => XS.iload X53.here hx rfl (hb hby d4_159) rfl k) ?_
    have ft54 := (ft14.other W51 (Ne.symm nn))
    obtain ⟨cl55, Ar55, q55, S55, Nx55, H55, G55⟩ := id ft54
    have hin55 : ¬ ((0 : Int32) < 0 ∨ cl55.slots.size ≤ ((0 : Int32)).toNatClampNeg) := inb_of S55 ⟨by decide, by decide⟩
    obtain ⟨T56, h56, X56, e56, W56, st56⟩ := stI X53 hx hZ e53 Ar55 (j := (0 : Int32)) hin55 (g := (mkF m 161 #[rv a1, .val (.int (N i0)), .val (.double (FP.l2d (F i2))), .second, .val (.int (N i2)), iv 0, iv 1] [(.int (N i2)), (.int 0), (.ref nA)])) rfl rfl (hb hby d4_161)
    have V_nA_56 : Arv Z h56 nA kN .int (16 : Int32) [(.int (N i2)), (.int (N i1)), (.int (N i2)), (.int s0), (.int s1)] (.int (0 : Int32)) := Arv.set Ar55 q55 S55 Nx55 H55 G55 rfl W56 0 rfl (Nat.le_of_ble_eq_true rfl)
    have N56 := Fr.snoc X56 N51 g_nA
    have O56 : Old Z n0 h56 := O51.wr W56 g_nA
    have K56 : Keep h0 h56 [a1, cA, nA] := K51.wr W56 (Or.inl (List.mem_of_getElem? (i := 2) rfl))
    refine Go.st (f' := (mkF m 162 #[rv a1, .val (.int (N i0)), .val (.double (FP.l2d (F i2))), .second, .val (.int (N i2)), iv 0, iv 1] [])) (fun _ k => st56 _ k) ?_
    refine Go.st (f' := (mkF m 163 #[rv a1, .val (.int (N i0)), .val (.double (FP.l2d (F i2))), .second, .val (.int (N i2)), iv 0, iv 1] [(.int (N i0))])) (fun _ k => XS.iloadN X56.here hx rfl (hb hby d4_162) rfl k) ?_
    refine Go.retV X56 hlk hx (t := .int) hret rfl (Or.inl ⟨rfl, Or.inl rfl, _, rfl⟩) (hb hby d4_163) e56 ?_ (by decide) (by decide)
    have c_cd19 := (not_congr (own_lw (F i1) (F i2)).1).mp cd19
    have ft57 := (((E_a1.wr W4).wr W51).wr W56)
    have ft58 := ((Fw4.other W51 (Or.inl nt_a1_cA)).other W56 (Or.inl nt_a1_nA))
    have ft59 := (ft52.other W56 (Or.inl nt_a1_nA))
    have ft60 := ((ft5.other W51 (Or.inl nt_a1_cA)).other W56 (Or.inl nt_a1_nA))
    have ft61 := (V_cA_51.other W56 nn)
    exact ⟨rfl, N56, K56, ft57, ft58, ft59, ft60, i2, i1, (FP.l2d (F i2)), u0, u1, (N i2), s0, s1, fun w => by omega, by omega, by omega, ft61, V_nA_56⟩
theorem d4_64 : decode prog_5_method_5_code 64 = .ok (.aload_n 0, 1) := by decide +kernel
theorem d4_65 : decode prog_5_method_5_code 65 = .ok (.getfield 7, 3) := by decide +kernel
theorem d4_68 : decode prog_5_method_5_code 68 = .ok (.iload 6, 2) := by decide +kernel
theorem d4_70 : decode prog_5_method_5_code 70 = .ok (.iconst 1, 1) := by decide +kernel
theorem d4_71 : decode prog_5_method_5_code 71 = .ok (.iadd, 1) := by decide +kernel
theorem d4_72 : decode prog_5_method_5_code 72 = .ok (.daload, 1) := by decide +kernel
theorem d4_73 : decode prog_5_method_5_code 73 = .ok (.aload_n 0, 1) := by decide +kernel
theorem d4_74 : decode prog_5_method_5_code 74 = .ok (.getfield 7, 3) := by decide +kernel
theorem d4_77 : decode prog_5_method_5_code 77 = .ok (.iload 6, 2) := by decide +kernel
theorem d4_79 : decode prog_5_method_5_code 79 = .ok (.daload, 1) := by decide +kernel
theorem d4_80 : decode prog_5_method_5_code 80 = .ok (.dcmp .g, 1) := by decide +kernel
theorem d4_81 : decode prog_5_method_5_code 81 = .ok (.ifCond .ge 6, 3) := by decide +kernel
theorem d4_84 : decode prog_5_method_5_code 84 = .ok (.iinc 6 1, 3) := by decide +kernel
set_option maxRecDepth 65536 in
set_option maxHeartbeats 40000000 in
theorem rmR4 (l : Launch) (Z : State) (a0 : Array Value) (hw : ∀ d ∈ tables_1, d.before a0 Z = true) (ws : List Jvm.Cond) (a1 : Addr) (cA : Addr) (nA : Addr) (kA : ClassId) (kN : ClassId) (N : Int32 → Int32) (F : Int32 → Int64) (i0 : Int32) (i1 : Int32) (i2 : Int32) (i3 : Int32) (u0 : UInt64) (s0 : Int32) (h0 : Heap) (n0 : Nat) (O0 : Old Z n0 h0) (hF : ∀ i, B53 (F i)) (g_a1 : n0 ≤ a1) (g_cA : n0 ≤ cA) (g_nA : n0 ≤ nA) (hp1 : (F i0).toInt ≤ (F i1).toInt) (hp2 : (F i0).toInt ≤ (F i2).toInt) (hp3 : (F i1).toInt ≤ (F i3).toInt) (E_a1 : Exa Z h0 a1 "com/example/kinetic_city/kineticcity/engine/CostQueue") (F_a1_size : Fld Z h0 a1 "com/example/kinetic_city/kineticcity/engine/CostQueue" "size" "I" (.int 4)) (F_a1_items : Fld Z h0 a1 "com/example/kinetic_city/kineticcity/engine/CostQueue" "items" "[I" (.ref nA)) (F_a1_costs : Fld Z h0 a1 "com/example/kinetic_city/kineticcity/engine/CostQueue" "costs" "[D" (.ref cA)) (V_cA : Arv Z h0 cA kA .double (16 : Int32) [(.double (FP.l2d (F i0))), (.double (FP.l2d (F i1))), (.double (FP.l2d (F i2))), (.double (FP.l2d (F i3))), (.double u0)] (.double (FP.l2d 0))) (V_nA : Arv Z h0 nA kN .int 16 [(.int (N i0)), (.int (N i1)), (.int (N i2)), (.int (N i3)), (.int s0)] (.int 0)) :
    Con l Z (⟨"com/example/kinetic_city/kineticcity/engine/CostQueue", "removeCheapest", "()I"⟩ : MethodName) prog_5_method_5_code 7 (some .int) ws ({ frames := 0, cells := 0, slots := 0, locals := 0 } : Room) #[(.ref a1)] h0 (fun v h L => v = some (.int (N i0)) ∧ Fr n0 L ∧ Keep h0 h [a1, cA, nA] ∧ Exa Z h a1 "com/example/kinetic_city/kineticcity/engine/CostQueue" ∧ Fld Z h a1 "com/example/kinetic_city/kineticcity/engine/CostQueue" "size" "I" (.int 3) ∧ Fld Z h a1 "com/example/kinetic_city/kineticcity/engine/CostQueue" "items" "[I" (.ref nA) ∧ Fld Z h a1 "com/example/kinetic_city/kineticcity/engine/CostQueue" "costs" "[D" (.ref cA) ∧ ∃ (j0 j1 j2 : Int32) (v0 v1 : UInt64) (t0 t1 : Int32), (∀ w : Int32 → Int, w i0 + w j0 + w j1 + w j2 = w i0 + w i1 + w i2 + w i3) ∧ (F j0).toInt ≤ (F j1).toInt ∧ (F j0).toInt ≤ (F j2).toInt ∧ (F i0).toInt ≤ (F j0).toInt ∧ Arv Z h cA kA .double (16 : Int32) [(.double (FP.l2d (F j0))), (.double (FP.l2d (F j1))), (.double (FP.l2d (F j2))), (.double v0), (.double v1)] (.double (FP.l2d 0)) ∧ Arv Z h nA kN .int 16 [(.int (N j0)), (.int (N j1)), (.int (N j2)), (.int t0), (.int t1)] (.int 0)) := by
  refine own_body (plainFor_of_name pn_com_example_kinetic_city_kineticcity_engine_CostQueue) ?_
  intro p e s m below meth c s₁ hx hby hml hZ hown hnm hlk hret X0 e0
  have N0 := Fr.nil n0
  have K0 : Keep h0 h0 [a1, cA, nA] := Keep.refl _ _
  refine Go.st (T' := s₁) (f' := (mkF m 0 #[rv a1, .unset, .unset, .unset, .unset, .unset, .unset] [])) (fun _ k => castTop (by first | (simp [entryFrame, mkF, argsToLocals, Value.category]; done) | rfl) k) ?_
  have lt_a1 := E_a1.lt
  have lt_cA := V_cA.lt
  have lt_nA := V_nA.lt
  have nn : cA ≠ nA := own_neArv V_cA V_nA (by decide)
  have nt_a1_cA : a1 ≠ cA := Exa.neArv E_a1 V_cA (ww hw 2 rfl)
  have nt_a1_nA : a1 ≠ nA := Exa.neArv E_a1 V_nA (ww hw 2 rfl)
  refine Go.st (f' := (mkF m 1 #[rv a1, .unset, .unset, .unset, .unset, .unset, .unset] [(.ref a1)])) (fun _ k => XS.aloadN X0.here hx rfl (hb hby d4_0) rfl rfl k) ?_
  obtain ⟨T1, X1, e1, st1⟩ := getF X0 hx hZ hown (host := "") (Or.inl (ww hw 13 rfl)) Via.refl e0 F_a1_items (g := (mkF m 1 #[rv a1, .unset, .unset, .unset, .unset, .unset, .unset] [(.ref a1)])) rfl rfl (hb hby d4_1)
  refine Go.st (f' := (mkF m 4 #[rv a1, .unset, .unset, .unset, .unset, .unset, .unset] [(.ref nA)])) (fun _ k => st1 _ k) ?_
  refine Go.st (f' := (mkF m 5 #[rv a1, .unset, .unset, .unset, .unset, .unset, .unset] [(.int 0), (.ref nA)])) (fun _ k => XS.iconst X1.here hx rfl (hb hby d4_4) k) ?_
  obtain ⟨cl2, Ar2, -, S2, -, H2, -⟩ := id V_nA
  have hin2 : ¬ ((0 : Int32) < 0 ∨ cl2.slots.size ≤ ((0 : Int32)).toNatClampNeg) := inb_of S2 ⟨by decide, by decide⟩
  have hat2 : cl2.slots[((0 : Int32)).toNatClampNeg]? = some (.int (N i0)) := H2.at hin2 rfl
  refine Go.st (f' := (mkF m 6 #[rv a1, .unset, .unset, .unset, .unset, .unset, .unset] [(.int (N i0))])) (fun _ k => X1.iaload hx (j := (0 : Int32)) (v := (.int (N i0))) (by rw [e1]; exact Ar2.1) (State.isArrayOf_alike hZ.alike Ar2.2.1) Ar2.2.2 hin2 hat2 (g := (mkF m 5 #[rv a1, .unset, .unset, .unset, .unset, .unset, .unset] [(.int 0), (.ref nA)])) rfl rfl (hb hby d4_5) _ k) ?_
  refine Go.st (f' := (mkF m 7 #[rv a1, .val (.int (N i0)), .unset, .unset, .unset, .unset, .unset] [])) (fun _ k => XS.istoreN X1.here hx rfl (hb hby d4_6) rfl (l' := #[rv a1, .val (.int (N i0)), .unset, .unset, .unset, .unset, .unset]) rfl k) ?_
  refine Go.st (f' := (mkF m 8 #[rv a1, .val (.int (N i0)), .unset, .unset, .unset, .unset, .unset] [(.ref a1)])) (fun _ k => XS.aloadN X1.here hx rfl (hb hby d4_7) rfl rfl k) ?_
  refine Go.st (f' := (mkF m 9 #[rv a1, .val (.int (N i0)), .unset, .unset, .unset, .unset, .unset] [(.ref a1), (.ref a1)])) (fun _ k => XS.dup X1.here hx rfl (hb hby d4_8) rfl rfl k) ?_
  obtain ⟨T3, X3, e3, st3⟩ := getF X1 hx hZ hown (host := "") (Or.inl (ww hw 20 rfl)) Via.refl e1 F_a1_size (g := (mkF m 9 #[rv a1, .val (.int (N i0)), .unset, .unset, .unset, .unset, .unset] [(.ref a1), (.ref a1)])) rfl rfl (hb hby d4_9)
  refine Go.st (f' := (mkF m 12 #[rv a1, .val (.int (N i0)), .unset, .unset, .unset, .unset, .unset] [(.int 4), (.ref a1)])) (fun _ k => st3 _ k) ?_
  refine Go.st (f' := (mkF m 13 #[rv a1, .val (.int (N i0)), .unset, .unset, .unset, .unset, .unset] [(.int 1), (.int 4), (.ref a1)])) (fun _ k => XS.iconst X3.here hx rfl (hb hby d4_12) k) ?_
  refine Go.st (f' := (mkF m 14 #[rv a1, .val (.int (N i0)), .unset, .unset, .unset, .unset, .unset] [(.int 3), (.ref a1)])) (fun _ k => XS.isub X3.here hx rfl (hb hby d4_13) rfl k) ?_
  obtain ⟨T4, h4, X4, e4, W4, st4⟩ := putF X3 hx hZ hown (host := "") (Or.inl (ww hw 20 rfl)) Via.refl e3 F_a1_size E_a1 (Or.inl (ww hw 21 rfl)) (ww hw 2 rfl) (ty := .int) (by decide) rfl rfl (g := (mkF m 14 #[rv a1, .val (.int (N i0)), .unset, .unset, .unset, .unset, .unset] [(.int 3), (.ref a1)])) rfl rfl (hb hby d4_14)
  have N4 := Fr.snoc X4 N0 g_a1
  have O4 : Old Z n0 h4 := O0.wr W4 g_a1
  have K4 : Keep h0 h4 [a1, cA, nA] := K0.wr W4 (Or.inl (List.mem_of_getElem? (i := 0) rfl))
  have Fw4 := F_a1_size.same W4
  refine Go.st (f' := (mkF m 17 #[rv a1, .val (.int (N i0)), .unset, .unset, .unset, .unset, .unset] [])) (fun _ k => st4 _ k) ?_
  refine Go.st (f' := (mkF m 18 #[rv a1, .val (.int (N i0)), .unset, .unset, .unset, .unset, .unset] [(.ref a1)])) (fun _ k => XS.aloadN X4.here hx rfl (hb hby d4_17) rfl rfl k) ?_
  have ft5 := (F_a1_costs.other W4 (Or.inr (slot_ne (Or.inl (ww hw 11 rfl)) (Or.inl (ww hw 21 rfl)) (by decide) (t := (.array .double)) (t' := .int) (by decide) (by decide))))
  obtain ⟨T6, X6, e6, st6⟩ := getF X4 hx hZ hown (host := "") (Or.inl (ww hw 10 rfl)) Via.refl e4 ft5 (g := (mkF m 18 #[rv a1, .val (.int (N i0)), .unset, .unset, .unset, .unset, .unset] [(.ref a1)])) rfl rfl (hb hby d4_18)
  refine Go.st (f' := (mkF m 21 #[rv a1, .val (.int (N i0)), .unset, .unset, .unset, .unset, .unset] [(.ref cA)])) (fun _ k => st6 _ k) ?_
  refine Go.st (f' := (mkF m 22 #[rv a1, .val (.int (N i0)), .unset, .unset, .unset, .unset, .unset] [(.ref a1), (.ref cA)])) (fun _ k => XS.aloadN X6.here hx rfl (hb hby d4_21) rfl rfl k) ?_
  obtain ⟨T7, X7, e7, st7⟩ := getF X6 hx hZ hown (host := "") (Or.inl (ww hw 20 rfl)) Via.refl e6 Fw4 (g := (mkF m 22 #[rv a1, .val (.int (N i0)), .unset, .unset, .unset, .unset, .unset] [(.ref a1), (.ref cA)])) rfl rfl (hb hby d4_22)
  refine Go.st (f' := (mkF m 25 #[rv a1, .val (.int (N i0)), .unset, .unset, .unset, .unset, .unset] [(.int 3), (.ref cA)])) (fun _ k => st7 _ k) ?_
  have ft9 := (V_cA.other W4 (Ne.symm nt_a1_cA))
  obtain ⟨cl8, Ar8, -, S8, -, H8, -⟩ := id ft9
  have hin8 : ¬ ((3 : Int32) < 0 ∨ cl8.slots.size ≤ ((3 : Int32)).toNatClampNeg) := inb_of S8 ⟨by decide, by decide⟩
  have hat8 : cl8.slots[((3 : Int32)).toNatClampNeg]? = some (.double (FP.l2d (F i3))) := H8.at hin8 rfl
  refine Go.st (f' := (mkF m 26 #[rv a1, .val (.int (N i0)), .unset, .unset, .unset, .unset, .unset] [(.double (FP.l2d (F i3)))])) (fun _ k => X7.daload hx (j := (3 : Int32)) (v := (.double (FP.l2d (F i3)))) (by rw [e7]; exact Ar8.1) (State.isArrayOf_alike hZ.alike Ar8.2.1) Ar8.2.2 hin8 hat8 (g := (mkF m 25 #[rv a1, .val (.int (N i0)), .unset, .unset, .unset, .unset, .unset] [(.int 3), (.ref cA)])) rfl rfl (hb hby d4_25) _ k) ?_
  refine Go.st (f' := (mkF m 27 #[rv a1, .val (.int (N i0)), .val (.double (FP.l2d (F i3))), .second, .unset, .unset, .unset] [])) (fun _ k => XS.dstoreN X7.here hx rfl (hb hby d4_26) rfl (l' := #[rv a1, .val (.int (N i0)), .val (.double (FP.l2d (F i3))), .second, .unset, .unset, .unset]) rfl k) ?_
  refine Go.st (f' := (mkF m 28 #[rv a1, .val (.int (N i0)), .val (.double (FP.l2d (F i3))), .second, .unset, .unset, .unset] [(.ref a1)])) (fun _ k => XS.aloadN X7.here hx rfl (hb hby d4_27) rfl rfl k) ?_
  have ft10 := (F_a1_items.other W4 (Or.inr (slot_ne (Or.inl (ww hw 14 rfl)) (Or.inl (ww hw 21 rfl)) (by decide) (t := (.array .int)) (t' := .int) (by decide) (by decide))))
  obtain ⟨T11, X11, e11, st11⟩ := getF X7 hx hZ hown (host := "") (Or.inl (ww hw 13 rfl)) Via.refl e7 ft10 (g := (mkF m 28 #[rv a1, .val (.int (N i0)), .val (.double (FP.l2d (F i3))), .second, .unset, .unset, .unset] [(.ref a1)])) rfl rfl (hb hby d4_28)
  refine Go.st (f' := (mkF m 31 #[rv a1, .val (.int (N i0)), .val (.double (FP.l2d (F i3))), .second, .unset, .unset, .unset] [(.ref nA)])) (fun _ k => st11 _ k) ?_
  refine Go.st (f' := (mkF m 32 #[rv a1, .val (.int (N i0)), .val (.double (FP.l2d (F i3))), .second, .unset, .unset, .unset] [(.ref a1), (.ref nA)])) (fun _ k => XS.aloadN X11.here hx rfl (hb hby d4_31) rfl rfl k) ?_
  obtain ⟨T12, X12, e12, st12⟩ := getF X11 hx hZ hown (host := "") (Or.inl (ww hw 20 rfl)) Via.refl e11 Fw4 (g := (mkF m 32 #[rv a1, .val (.int (N i0)), .val (.double (FP.l2d (F i3))), .second, .unset, .unset, .unset] [(.ref a1), (.ref nA)])) rfl rfl (hb hby d4_32)
  refine Go.st (f' := (mkF m 35 #[rv a1, .val (.int (N i0)), .val (.double (FP.l2d (F i3))), .second, .unset, .unset, .unset] [(.int 3), (.ref nA)])) (fun _ k => st12 _ k) ?_
  have ft14 := (V_nA.other W4 (Ne.symm nt_a1_nA))
  obtain ⟨cl13, Ar13, -, S13, -, H13, -⟩ := id ft14
  have hin13 : ¬ ((3 : Int32) < 0 ∨ cl13.slots.size ≤ ((3 : Int32)).toNatClampNeg) := inb_of S13 ⟨by decide, by decide⟩
  have hat13 : cl13.slots[((3 : Int32)).toNatClampNeg]? = some (.int (N i3)) := H13.at hin13 rfl
  refine Go.st (f' := (mkF m 36 #[rv a1, .val (.int (N i0)), .val (.double (FP.l2d (F i3))), .second, .unset, .unset, .unset] [(.int (N i3))])) (fun _ k => X12.iaload hx (j := (3 : Int32)) (v := (.int (N i3))) (by rw [e12]; exact Ar13.1) (State.isArrayOf_alike hZ.alike Ar13.2.1) Ar13.2.2 hin13 hat13 (g := (mkF m 35 #[rv a1, .val (.int (N i0)), .val (.double (FP.l2d (F i3))), .second, .unset, .unset, .unset] [(.int 3), (.ref nA)])) rfl rfl (hb hby d4_35) _ k) ?_
  refine Go.st (f' := (mkF m 38 #[rv a1, .val (.int (N i0)), .val (.double (FP.l2d (F i3))), .second, .val (.int (N i3)), .unset, .unset] [])) (fun _ k => XS.istore X12.here hx rfl (hb hby d4_36) rfl (l' := #[rv a1, .val (.int (N i0)), .val (.double (FP.l2d (F i3))), .second, .val (.int (N i3)), .unset, .unset]) rfl k) ?_
  refine Go.st (f' := (mkF m 39 #[rv a1, .val (.int (N i0)), .val (.double (FP.l2d (F i3))), .second, .val (.int (N i3)), .unset, .unset] [(.int 0)])) (fun _ k => XS.iconst X12.here hx rfl (hb hby d4_38) k) ?_
  refine Go.st (f' := (mkF m 41 #[rv a1, .val (.int (N i0)), .val (.double (FP.l2d (F i3))), .second, .val (.int (N i3)), iv 0, .unset] [])) (fun _ k => XS.istore X12.here hx rfl (hb hby d4_39) rfl (l' := #[rv a1, .val (.int (N i0)), .val (.double (FP.l2d (F i3))), .second, .val (.int (N i3)), iv 0, .unset]) rfl k) ?_
  refine Go.st (f' := (mkF m 42 #[rv a1, .val (.int (N i0)), .val (.double (FP.l2d (F i3))), .second, .val (.int (N i3)), iv 0, .unset] [(.int 1)])) (fun _ k => XS.iconst X12.here hx rfl (hb hby d4_41) k) ?_
  refine Go.st (f' := (mkF m 44 #[rv a1, .val (.int (N i0)), .val (.double (FP.l2d (F i3))), .second, .val (.int (N i3)), iv 0, iv 1] [])) (fun _ k => XS.istore X12.here hx rfl (hb hby d4_42) rfl (l' := #[rv a1, .val (.int (N i0)), .val (.double (FP.l2d (F i3))), .second, .val (.int (N i3)), iv 0, iv 1]) rfl k) ?_
  refine Go.st (f' := (mkF m 46 #[rv a1, .val (.int (N i0)), .val (.double (FP.l2d (F i3))), .second, .val (.int (N i3)), iv 0, iv 1] [(.int 1)])) (fun _ k => XS.iload X12.here hx rfl (hb hby d4_44) rfl k) ?_
  refine Go.st (f' := (mkF m 47 #[rv a1, .val (.int (N i0)), .val (.double (FP.l2d (F i3))), .second, .val (.int (N i3)), iv 0, iv 1] [(.ref a1), (.int 1)])) (fun _ k => XS.aloadN X12.here hx rfl (hb hby d4_46) rfl rfl k) ?_
  obtain ⟨T15, X15, e15, st15⟩ := getF X12 hx hZ hown (host := "") (Or.inl (ww hw 20 rfl)) Via.refl e12 Fw4 (g := (mkF m 47 #[rv a1, .val (.int (N i0)), .val (.double (FP.l2d (F i3))), .second, .val (.int (N i3)), iv 0, iv 1] [(.ref a1), (.int 1)])) rfl rfl (hb hby d4_47)
  refine Go.st (f' := (mkF m 50 #[rv a1, .val (.int (N i0)), .val (.double (FP.l2d (F i3))), .second, .val (.int (N i3)), iv 0, iv 1] [(.int 3), (.int 1)])) (fun _ k => st15 _ k) ?_
  refine Go.st (f' := (mkF m 53 #[rv a1, .val (.int (N i0)), .val (.double (FP.l2d (F i3))), .second, .val (.int (N i3)), iv 0, iv 1] [])) (fun _ k => XS.icmpNo X15.here hx rfl (hb hby d4_50) rfl (by decide) k) ?_
  refine Go.st (f' := (mkF m 55 #[rv a1, .val (.int (N i0)), .val (.double (FP.l2d (F i3))), .second, .val (.int (N i3)), iv 0, iv 1] [(.int 1)])) (fun _ k => XS.iload X15.here hx rfl (hb hby d4_53) rfl k) ?_
  refine Go.st (f' := (mkF m 56 #[rv a1, .val (.int (N i0)), .val (.double (FP.l2d (F i3))), .second, .val (.int (N i3)), iv 0, iv 1] [(.int 1), (.int 1)])) (fun _ k => XS.iconst X15.here hx rfl (hb hby d4_55) k) ?_
  refine Go.st (f' := (mkF m 57 #[rv a1, .val (.int (N i0)), .val (.double (FP.l2d (F i3))), .second, .val (.int (N i3)), iv 0, iv 1] [(.int 2)])) (fun _ k => XS.iadd X15.here hx rfl (hb hby d4_56) rfl k) ?_
  refine Go.st (f' := (mkF m 58 #[rv a1, .val (.int (N i0)), .val (.double (FP.l2d (F i3))), .second, .val (.int (N i3)), iv 0, iv 1] [(.ref a1), (.int 2)])) (fun _ k => XS.aloadN X15.here hx rfl (hb hby d4_57) rfl rfl k) ?_
  obtain ⟨T16, X16, e16, st16⟩ := getF X15 hx hZ hown (host := "") (Or.inl (ww hw 20 rfl)) Via.refl e15 Fw4 (g := (mkF m 58 #[rv a1, .val (.int (N i0)), .val (.double (FP.l2d (F i3))), .second, .val (.int (N i3)), iv 0, iv 1] [(.ref a1), (.int 2)])) rfl rfl (hb hby d4_58)
  refine Go.st (f' := (mkF m 61 #[rv a1, .val (.int (N i0)), .val (.double (FP.l2d (F i3))), .second, .val (.int (N i3)), iv 0, iv 1] [(.int 3), (.int 2)])) (fun _ k => st16 _ k) ?_
  refine Go.st (f' := (mkF m 64 #[rv a1, .val (.int (N i0)), .val (.double (FP.l2d (F i3))), .second, .val (.int (N i3)), iv 0, iv 1] [])) (fun _ k => XS.icmpNo X16.here hx rfl (hb hby d4_61) rfl (by decide) k) ?_
  refine Go.st (f' := (mkF m 65 #[rv a1, .val (.int (N i0)), .val (.double (FP.l2d (F i3))), .second, .val (.int (N i3)), iv 0, iv 1] [(.ref a1)])) (fun _ k => XS.aloadN X16.here hx rfl (hb hby d4_64) rfl rfl k) ?_
  obtain ⟨T17, X17, e17, st17⟩ := getF X16 hx hZ hown (host := "") (Or.inl (ww hw 10 rfl)) Via.refl e16 ft5 (g := (mkF m 65 #[rv a1, .val (.int (N i0)), .val (.double (FP.l2d (F i3))), .second, .val (.int (N i3)), iv 0, iv 1] [(.ref a1)])) rfl rfl (hb hby d4_65)
  refine Go.st (f' := (mkF m 68 #[rv a1, .val (.int (N i0)), .val (.double (FP.l2d (F i3))), .second, .val (.int (N i3)), iv 0, iv 1] [(.ref cA)])) (fun _ k => st17 _ k) ?_
  refine Go.st (f' := (mkF m 70 #[rv a1, .val (.int (N i0)), .val (.double (FP.l2d (F i3))), .second, .val (.int (N i3)), iv 0, iv 1] [(.int 1), (.ref cA)])) (fun _ k => XS.iload X17.here hx rfl (hb hby d4_68) rfl k) ?_
  refine Go.st (f' := (mkF m 71 #[rv a1, .val (.int (N i0)), .val (.double (FP.l2d (F i3))), .second, .val (.int (N i3)), iv 0, iv 1] [(.int 1), (.int 1), (.ref cA)])) (fun _ k => XS.iconst X17.here hx rfl (hb hby d4_70) k) ?_
  refine Go.st (f' := (mkF m 72 #[rv a1, .val (.int (N i0)), .val (.double (FP.l2d (F i3))), .second, .val (.int (N i3)), iv 0, iv 1] [(.int 2), (.ref cA)])) (fun _ k => XS.iadd X17.here hx rfl (hb hby d4_71) rfl k) ?_
  obtain ⟨cl18, Ar18, -, S18, -, H18, -⟩ := id ft9
  have hin18 : ¬ ((2 : Int32) < 0 ∨ cl18.slots.size ≤ ((2 : Int32)).toNatClampNeg) := inb_of S18 ⟨by decide, by decide⟩
  have hat18 : cl18.slots[((2 : Int32)).toNatClampNeg]? = some (.double (FP.l2d (F i2))) := H18.at hin18 rfl
  refine Go.st (f' := (mkF m 73 #[rv a1, .val (.int (N i0)), .val (.double (FP.l2d (F i3))), .second, .val (.int (N i3)), iv 0, iv 1] [(.double (FP.l2d (F i2)))])) (fun _ k => X17.daload hx (j := (2 : Int32)) (v := (.double (FP.l2d (F i2)))) (by rw [e17]; exact Ar18.1) (State.isArrayOf_alike hZ.alike Ar18.2.1) Ar18.2.2 hin18 hat18 (g := (mkF m 72 #[rv a1, .val (.int (N i0)), .val (.double (FP.l2d (F i3))), .second, .val (.int (N i3)), iv 0, iv 1] [(.int 2), (.ref cA)])) rfl rfl (hb hby d4_72) _ k) ?_
  refine Go.st (f' := (mkF m 74 #[rv a1, .val (.int (N i0)), .val (.double (FP.l2d (F i3))), .second, .val (.int (N i3)), iv 0, iv 1] [(.ref a1), (.double (FP.l2d (F i2)))])) (fun _ k => XS.aloadN X17.here hx rfl (hb hby d4_73) rfl rfl k) ?_
  obtain ⟨T19, X19, e19, st19⟩ := getF X17 hx hZ hown (host := "") (Or.inl (ww hw 10 rfl)) Via.refl e17 ft5 (g := (mkF m 74 #[rv a1, .val (.int (N i0)), .val (.double (FP.l2d (F i3))), .second, .val (.int (N i3)), iv 0, iv 1] [(.ref a1), (.double (FP.l2d (F i2)))])) rfl rfl (hb hby d4_74)
  refine Go.st (f' := (mkF m 77 #[rv a1, .val (.int (N i0)), .val (.double (FP.l2d (F i3))), .second, .val (.int (N i3)), iv 0, iv 1] [(.ref cA), (.double (FP.l2d (F i2)))])) (fun _ k => st19 _ k) ?_
  refine Go.st (f' := (mkF m 79 #[rv a1, .val (.int (N i0)), .val (.double (FP.l2d (F i3))), .second, .val (.int (N i3)), iv 0, iv 1] [(.int 1), (.ref cA), (.double (FP.l2d (F i2)))])) (fun _ k => XS.iload X19.here hx rfl (hb hby d4_77) rfl k) ?_
  obtain ⟨cl20, Ar20, -, S20, -, H20, -⟩ := id ft9
  have hin20 : ¬ ((1 : Int32) < 0 ∨ cl20.slots.size ≤ ((1 : Int32)).toNatClampNeg) := inb_of S20 ⟨by decide, by decide⟩
  have hat20 : cl20.slots[((1 : Int32)).toNatClampNeg]? = some (.double (FP.l2d (F i1))) := H20.at hin20 rfl
  refine Go.st (f' := (mkF m 80 #[rv a1, .val (.int (N i0)), .val (.double (FP.l2d (F i3))), .second, .val (.int (N i3)), iv 0, iv 1] [(.double (FP.l2d (F i1))), (.double (FP.l2d (F i2)))])) (fun _ k => X19.daload hx (j := (1 : Int32)) (v := (.double (FP.l2d (F i1)))) (by rw [e19]; exact Ar20.1) (State.isArrayOf_alike hZ.alike Ar20.2.1) Ar20.2.2 hin20 hat20 (g := (mkF m 79 #[rv a1, .val (.int (N i0)), .val (.double (FP.l2d (F i3))), .second, .val (.int (N i3)), iv 0, iv 1] [(.int 1), (.ref cA), (.double (FP.l2d (F i2)))])) rfl rfl (hb hby d4_79) _ k) ?_
  refine Go.st (f' := (mkF m 81 #[rv a1, .val (.int (N i0)), .val (.double (FP.l2d (F i3))), .second, .val (.int (N i3)), iv 0, iv 1] [(.int (lcmpW (F i2) (F i1)))])) (fun _ k => XS.dcmpS X19.here hx rfl (hb hby d4_80) rfl (dcmpV_w (hF _) (hF _) _) k) ?_
  by_cases cd21 : (lcmpW (F i2) (F i1)) < (0 : Int32)
  · refine Go.st (f' := (mkF m 84 #[rv a1, .val (.int (N i0)), .val (.double (FP.l2d (F i3))), .second, .val (.int (N i3)), iv 0, iv 1] [])) (fun _ k => XS.ifNo X19.here hx rfl (hb hby d4_81) rfl ((if0 _ _).trans (tlt cd21).2.1) k) ?_
    refine Go.st (f' := (mkF m 87 #[rv a1, .val (.int (N i0)), .val (.double (FP.l2d (F i3))), .second, .val (.int (N i3)), iv 0, iv 2] [])) (fun _ k => XS.iinc X19.here hx rfl (hb hby d4_84) rfl (l' := #[rv a1, .val (.int (N i0)), .val (.double (FP.l2d (F i3))), .second, .val (.int (N i3)), iv 0, iv 2]) rfl k) ?_
    refine Go.st (f' := (mkF m 88 #[rv a1, .val (.int (N i0)), .val (.double (FP.l2d (F i3))), .second, .val (.int (N i3)), iv 0, iv 2] [(.ref a1)])) (fun _ k => XS.aloadN X19.here hx rfl (hb hby d4_87) rfl rfl k) ?_
    obtain ⟨T22, X22, e22, st22⟩ := getF X19 hx hZ hown (host := "") (Or.inl (ww hw 10 rfl)) Via.refl e19 ft5 (g := (mkF m 88 #[rv a1, .val (.int (N i0)), .val (.double (FP.l2d (F i3))), .second, .val (.int (N i3)), iv 0, iv 2] [(.ref a1)])) rfl rfl (hb hby d4_88)
    refine Go.st (f' := (mkF m 91 #[rv a1, .val (.int (N i0)), .val (.double (FP.l2d (F i3))), .second, .val (.int (N i3)), iv 0, iv 2] [(.ref cA)])) (fun _ k => st22 _ k) ?_
    refine Go.st (f' := (mkF m 93 #[rv a1, .val (.int (N i0)), .val (.double (FP.l2d (F i3))), .second, .val (.int (N i3)), iv 0, iv 2] [(.int 2), (.ref cA)])) (fun _ k => XS.iload X22.here hx rfl (hb hby d4_91) rfl k) ?_
    obtain ⟨cl23, Ar23, -, S23, -, H23, -⟩ := id ft9
    have hin23 : ¬ ((2 : Int32) < 0 ∨ cl23.slots.size ≤ ((2 : Int32)).toNatClampNeg) := inb_of S23 ⟨by decide, by decide⟩
    have hat23 : cl23.slots[((2 : Int32)).toNatClampNeg]? = some (.double (FP.l2d (F i2))) := H23.at hin23 rfl
    refine Go.st (f' := (mkF m 94 #[rv a1, .val (.int (N i0)), .val (.double (FP.l2d (F i3))), .second, .val (.int (N i3)), iv 0, iv 2] [(.double (FP.l2d (F i2)))])) (fun _ k => X22.daload hx (j := (2 : Int32)) (v := (.double (FP.l2d (F i2)))) (by rw [e22]; exact Ar23.1) (State.isArrayOf_alike hZ.alike Ar23.2.1) Ar23.2.2 hin23 hat23 (g := (mkF m 93 #[rv a1, .val (.int (N i0)), .val (.double (FP.l2d (F i3))), .second, .val (.int (N i3)), iv 0, iv 2] [(.int 2), (.ref cA)])) rfl rfl (hb hby d4_93) _ k) ?_
    refine Go.st (f' := (mkF m 95 #[rv a1, .val (.int (N i0)), .val (.double (FP.l2d (F i3))), .second, .val (.int (N i3)), iv 0, iv 2] [(.double (FP.l2d (F i3))), (.double (FP.l2d (F i2)))])) (fun _ k => XS.dloadN X22.here hx rfl (hb hby d4_94) rfl k) ?_
    refine Go.st (f' := (mkF m 96 #[rv a1, .val (.int (N i0)), .val (.double (FP.l2d (F i3))), .second, .val (.int (N i3)), iv 0, iv 2] [(.int (lcmpW (F i2) (F i3)))])) (fun _ k => XS.dcmpS X22.here hx rfl (hb hby d4_95) rfl (dcmpV_w (hF _) (hF _) _) k) ?_
    by_cases cd24 : (lcmpW (F i2) (F i3)) < (0 : Int32)
    · refine Go.st (f' := (mkF m 102 #[rv a1, .val (.int (N i0)), .val (.double (FP.l2d (F i3))), .second, .val (.int (N i3)), iv 0, iv 2] [])) (fun _ k => XS.ifYes X22.here hx rfl (pc0 := 96) (pc' := 102) rfl (hb hby d4_96) rfl ((if0 _ _).trans (tlt cd24).1) (by decide) (by decide) k) ?_
      refine Go.st (f' := (mkF m 103 #[rv a1, .val (.int (N i0)), .val (.double (FP.l2d (F i3))), .second, .val (.int (N i3)), iv 0, iv 2] [(.ref a1)])) (fun _ k => XS.aloadN X22.here hx rfl (hb hby d4_102) rfl rfl k) ?_
      obtain ⟨T25, X25, e25, st25⟩ := getF X22 hx hZ hown (host := "") (Or.inl (ww hw 10 rfl)) Via.refl e22 ft5 (g := (mkF m 103 #[rv a1, .val (.int (N i0)), .val (.double (FP.l2d (F i3))), .second, .val (.int (N i3)), iv 0, iv 2] [(.ref a1)])) rfl rfl (hb hby d4_103)
      refine Go.st (f' := (mkF m 106 #[rv a1, .val (.int (N i0)), .val (.double (FP.l2d (F i3))), .second, .val (.int (N i3)), iv 0, iv 2] [(.ref cA)])) (fun _ k => st25 _ k) ?_
      refine Go.st (f' := (mkF m 108 #[rv a1, .val (.int (N i0)), .val (.double (FP.l2d (F i3))), .second, .val (.int (N i3)), iv 0, iv 2] [(.int 0), (.ref cA)])) (fun _ k => XS.iload X25.here hx rfl (hb hby d4_106) rfl k) ?_
      refine Go.st (f' := (mkF m 109 #[rv a1, .val (.int (N i0)), .val (.double (FP.l2d (F i3))), .second, .val (.int (N i3)), iv 0, iv 2] [(.ref a1), (.int 0), (.ref cA)])) (fun _ k => XS.aloadN X25.here hx rfl (hb hby d4_108) rfl rfl k) ?_
      obtain ⟨T26, X26, e26, st26⟩ := getF X25 hx hZ hown (host := "") (Or.inl (ww hw 10 rfl)) Via.refl e25 ft5 (g := (mkF m 109 #[rv a1, .val (.int (N i0)), .val (.double (FP.l2d (F i3))), .second, .val (.int (N i3)), iv 0, iv 2] [(.ref a1), (.int 0), (.ref cA)])) rfl rfl (hb hby d4_109)
      refine Go.st (f' := (mkF m 112 #[rv a1, .val (.int (N i0)), .val (.double (FP.l2d (F i3))), .second, .val (.int (N i3)), iv 0, iv 2] [(.ref cA), (.int 0), (.ref cA)])) (fun _ k => st26 _ k) ?_
      refine Go.st (f' := (mkF m 114 #[rv a1, .val (.int (N i0)), .val (.double (FP.l2d (F i3))), .second, .val (.int (N i3)), iv 0, iv 2] [(.int 2), (.ref cA), (.int 0), (.ref cA)])) (fun _ k => XS.iload X26.here hx rfl (hb hby d4_112) rfl k) ?_
      obtain ⟨cl27, Ar27, -, S27, -, H27, -⟩ := id ft9
      have hin27 : ¬ ((2 : Int32) < 0 ∨ cl27.slots.size ≤ ((2 : Int32)).toNatClampNeg) := inb_of S27 ⟨by decide, by decide⟩
      have hat27 : cl27.slots[((2 : Int32)).toNatClampNeg]? = some (.double (FP.l2d (F i2))) := H27.at hin27 rfl
      refine Go.st (f' := (mkF m 115 #[rv a1, .val (.int (N i0)), .val (.double (FP.l2d (F i3))), .second, .val (.int (N i3)), iv 0, iv 2] [(.double (FP.l2d (F i2))), (.int 0), (.ref cA)])) (fun _ k => X26.daload hx (j := (2 : Int32)) (v := (.double (FP.l2d (F i2)))) (by rw [e26]; exact Ar27.1) (State.isArrayOf_alike hZ.alike Ar27.2.1) Ar27.2.2 hin27 hat27 (g := (mkF m 114 #[rv a1, .val (.int (N i0)), .val (.double (FP.l2d (F i3))), .second, .val (.int (N i3)), iv 0, iv 2] [(.int 2), (.ref cA), (.int 0), (.ref cA)])) rfl rfl (hb hby d4_114) _ k) ?_
      obtain ⟨cl28, Ar28, q28, S28, Nx28, H28, G28⟩ := id ft9
      have hin28 : ¬ ((0 : Int32) < 0 ∨ cl28.slots.size ≤ ((0 : Int32)).toNatClampNeg) := inb_of S28 ⟨by decide, by decide⟩
      obtain ⟨T29, h29, X29, e29, W29, st29⟩ := stD X26 hx hZ e26 Ar28 (j := (0 : Int32)) hin28 (g := (mkF m 115 #[rv a1, .val (.int (N i0)), .val (.double (FP.l2d (F i3))), .second, .val (.int (N i3)), iv 0, iv 2] [(.double (FP.l2d (F i2))), (.int 0), (.ref cA)])) rfl rfl (hb hby d4_115)
      have V_cA_29 : Arv Z h29 cA kA .double (16 : Int32) [(.double (FP.l2d (F i2))), (.double (FP.l2d (F i1))), (.double (FP.l2d (F i2))), (.double (FP.l2d (F i3))), (.double u0)] (.double (FP.l2d 0)) := Arv.set Ar28 q28 S28 Nx28 H28 G28 rfl W29 0 rfl (Nat.le_of_ble_eq_true rfl)
      have N29 := Fr.snoc X29 N4 g_cA
      have O29 : Old Z n0 h29 := O4.wr W29 g_cA
      have K29 : Keep h0 h29 [a1, cA, nA] := K4.wr W29 (Or.inl (List.mem_of_getElem? (i := 1) rfl))
      refine Go.st (f' := (mkF m 116 #[rv a1, .val (.int (N i0)), .val (.double (FP.l2d (F i3))), .second, .val (.int (N i3)), iv 0, iv 2] [])) (fun _ k => st29 _ k) ?_
      refine Go.st (f' := (mkF m 117 #[rv a1, .val (.int (N i0)), .val (.double (FP.l2d (F i3))), .second, .val (.int (N i3)), iv 0, iv 2] [(.ref a1)])) (fun _ k => XS.aloadN X29.here hx rfl (hb hby d4_116) rfl rfl k) ?_
      have ft30 := (ft10.other W29 (Or.inl nt_a1_cA))
      obtain ⟨T31, X31, e31, st31⟩ := getF X29 hx hZ hown (host := "") (Or.inl (ww hw 13 rfl)) Via.refl e29 ft30 (g := (mkF m 117 #[rv a1, .val (.int (N i0)), .val (.double (FP.l2d (F i3))), .second, .val (.int (N i3)), iv 0, iv 2] [(.ref a1)])) rfl rfl (hb hby d4_117)
      refine Go.st (f' := (mkF m 120 #[rv a1, .val (.int (N i0)), .val (.double (FP.l2d (F i3))), .second, .val (.int (N i3)), iv 0, iv 2] [(.ref nA)])) (fun _ k => st31 _ k) ?_
      refine Go.st (f' := (mkF m 122 #[rv a1, .val (.int (N i0)), .val (.double (FP.l2d (F i3))), .second, .val (.int (N i3)), iv 0, iv 2] [(.int 0), (.ref nA)])) (fun _ k => XS.iload X31.here hx rfl (hb hby d4_120) rfl k) ?_
      refine Go.st (f' := (mkF m 123 #[rv a1, .val (.int (N i0)), .val (.double (FP.l2d (F i3))), .second, .val (.int (N i3)), iv 0, iv 2] [(.ref a1), (.int 0), (.ref nA)])) (fun _ k => XS.aloadN X31.here hx rfl (hb hby d4_122) rfl rfl k) ?_
      obtain ⟨T32, X32, e32, st32⟩ := getF X31 hx hZ hown (host := "") (Or.inl (ww hw 13 rfl)) Via.refl e31 ft30 (g := (mkF m 123 #[rv a1, .val (.int (N i0)), .val (.double (FP.l2d (F i3))), .second, .val (.int (N i3)), iv 0, iv 2] [(.ref a1), (.int 0), (.ref nA)])) rfl rfl (hb hby d4_123)
      refine Go.st (f' := (mkF m 126 #[rv a1, .val (.int (N i0)), .val (.double (FP.l2d (F i3))), .second, .val (.int (N i3)), iv 0, iv 2] [(.ref nA), (.int 0), (.ref nA)])) (fun _ k => st32 _ k) ?_
      refine Go.st (f' := (mkF m 128 #[rv a1, .val (.int (N i0)), .val (.double (FP.l2d (F i3))), .second, .val (.int (N i3)), iv 0, iv 2] [(.int 2), (.ref nA), (.int 0), (.ref nA)])) (fun _ k => XS.iload X32.here hx rfl (hb hby d4_126) rfl k) ?_
      have ft34 := (ft14.other W29 (Ne.symm nn))
      obtain ⟨cl33, Ar33, -, S33, -, H33, -⟩ := id ft34
      have hin33 : ¬ ((2 : Int32) < 0 ∨ cl33.slots.size ≤ ((2 : Int32)).toNatClampNeg) := inb_of S33 ⟨by decide, by decide⟩
      have hat33 : cl33.slots[((2 : Int32)).toNatClampNeg]? = some (.int (N i2)) := H33.at hin33 rfl
      refine Go.st (f' := (mkF m 129 #[rv a1, .val (.int (N i0)), .val (.double (FP.l2d (F i3))), .second, .val (.int (N i3)), iv 0, iv 2] [(.int (N i2)), (.int 0), (.ref nA)])) (fun _ k => X32.iaload hx (j := (2 : Int32)) (v := (.int (N i2))) (by rw [e32]; exact Ar33.1) (State.isArrayOf_alike hZ.alike Ar33.2.1) Ar33.2.2 hin33 hat33 (g := (mkF m 128 #[rv a1, .val (.int (N i0)), .val (.double (FP.l2d (F i3))), .second, .val (.int (N i3)), iv 0, iv 2] [(.int 2), (.ref nA), (.int 0), (.ref nA)])) rfl rfl (hb hby d4_128) _ k) ?_
      obtain ⟨cl35, Ar35, q35, S35, Nx35, H35, G35⟩ := id ft34
      have hin35 : ¬ ((0 : Int32) < 0 ∨ cl35.slots.size ≤ ((0 : Int32)).toNatClampNeg) := inb_of S35 ⟨by decide, by decide⟩
      obtain ⟨T36, h36, X36, e36, W36, st36⟩ := stI X32 hx hZ e32 Ar35 (j := (0 : Int32)) hin35 (g := (mkF m 129 #[rv a1, .val (.int (N i0)), .val (.double (FP.l2d (F i3))), .second, .val (.int (N i3)), iv 0, iv 2] [(.int (N i2)), (.int 0), (.ref nA)])) rfl rfl (hb hby d4_129)
      have V_nA_36 : Arv Z h36 nA kN .int (16 : Int32) [(.int (N i2)), (.int (N i1)), (.int (N i2)), (.int (N i3)), (.int s0)] (.int (0 : Int32)) := Arv.set Ar35 q35 S35 Nx35 H35 G35 rfl W36 0 rfl (Nat.le_of_ble_eq_true rfl)
      have N36 := Fr.snoc X36 N29 g_nA
      have O36 : Old Z n0 h36 := O29.wr W36 g_nA
      have K36 : Keep h0 h36 [a1, cA, nA] := K29.wr W36 (Or.inl (List.mem_of_getElem? (i := 2) rfl))
      refine Go.st (f' := (mkF m 130 #[rv a1, .val (.int (N i0)), .val (.double (FP.l2d (F i3))), .second, .val (.int (N i3)), iv 0, iv 2] [])) (fun _ k => st36 _ k) ?_
      refine Go.st (f' := (mkF m 132 #[rv a1, .val (.int (N i0)), .val (.double (FP.l2d (F i3))), .second, .val (.int (N i3)), iv 0, iv 2] [(.int 2)])) (fun _ k => XS.iload X36.here hx rfl (hb hby d4_130) rfl k) ?_
      refine Go.st (f' := (mkF m 134 #[rv a1, .val (.int (N i0)), .val (.double (FP.l2d (F i3))), .second, .val (.int (N i3)), iv 2, iv 2] [])) (fun _ k => XS.istore X36.here hx rfl (hb hby d4_132) rfl (l' := #[rv a1, .val (.int (N i0)), .val (.double (FP.l2d (F i3))), .second, .val (.int (N i3)), iv 2, iv 2]) rfl k) ?_
      refine Go.st (f' := (mkF m 135 #[rv a1, .val (.int (N i0)), .val (.double (FP.l2d (F i3))), .second, .val (.int (N i3)), iv 2, iv 2] [(.int 2)])) (fun _ k => XS.iconst X36.here hx rfl (hb hby d4_134) k) ?_
      refine Go.st (f' := (mkF m 137 #[rv a1, .val (.int (N i0)), .val (.double (FP.l2d (F i3))), .second, .val (.int (N i3)), iv 2, iv 2] [(.int 2), (.int 2)])) (fun _ k => XS.iload X36.here hx rfl (hb hby d4_135) rfl k) ?_
      refine Go.st (f' := (mkF m 138 #[rv a1, .val (.int (N i0)), .val (.double (FP.l2d (F i3))), .second, .val (.int (N i3)), iv 2, iv 2] [(.int 4)])) (fun _ k => XS.imul X36.here hx rfl (hb hby d4_137) rfl k) ?_
      refine Go.st (f' := (mkF m 139 #[rv a1, .val (.int (N i0)), .val (.double (FP.l2d (F i3))), .second, .val (.int (N i3)), iv 2, iv 2] [(.int 1), (.int 4)])) (fun _ k => XS.iconst X36.here hx rfl (hb hby d4_138) k) ?_
      refine Go.st (f' := (mkF m 140 #[rv a1, .val (.int (N i0)), .val (.double (FP.l2d (F i3))), .second, .val (.int (N i3)), iv 2, iv 2] [(.int 5)])) (fun _ k => XS.iadd X36.here hx rfl (hb hby d4_139) rfl k) ?_
      refine Go.st (f' := (mkF m 142 #[rv a1, .val (.int (N i0)), .val (.double (FP.l2d (F i3))), .second, .val (.int (N i3)), iv 2, iv 5] [])) (fun _ k => XS.istore X36.here hx rfl (hb hby d4_140) rfl (l' := #[rv a1, .val (.int (N i0)), .val (.double (FP.l2d (F i3))), .second, .val (.int (N i3)), iv 2, iv 5]) rfl k) ?_
      refine Go.st (f' := (mkF m 44 #[rv a1, .val (.int (N i0)), .val (.double (FP.l2d (F i3))), .second, .val (.int (N i3)), iv 2, iv 5] [])) (fun _ k => XS.goto X36.here hx rfl (pc0 := 142) (pc' := 44) rfl (hb hby d4_142) (by decide) (by decide) k) ?_
      refine Go.st (f' := (mkF m 46 #[rv a1, .val (.int (N i0)), .val (.double (FP.l2d (F i3))), .second, .val (.int (N i3)), iv 2, iv 5] [(.int 5)])) (fun _ k => XS.iload X36.here hx rfl (hb hby d4_44) rfl k) ?_
      refine Go.st (f' := (mkF m 47 #[rv a1, .val (.int (N i0)), .val (.double (FP.l2d (F i3))), .second, .val (.int (N i3)), iv 2, iv 5] [(.ref a1), (.int 5)])) (fun _ k => XS.aloadN X36.here hx rfl (hb hby d4_46) rfl rfl k) ?_
      have ft37 := ((Fw4.other W29 (Or.inl nt_a1_cA)).other W36 (Or.inl nt_a1_nA))
      obtain ⟨T38, X38, e38, st38⟩ := getF X36 hx hZ hown (host := "") (Or.inl (ww hw 20 rfl)) Via.refl e36 ft37 (g := (mkF m 47 #[rv a1, .val (.int (N i0)), .val (.double (FP.l2d (F i3))), .second, .val (.int (N i3)), iv 2, iv 5] [(.ref a1), (.int 5)])) rfl rfl (hb hby d4_47)
      refine Go.st (f' := (mkF m 50 #[rv a1, .val (.int (N i0)), .val (.double (FP.l2d (F i3))), .second, .val (.int (N i3)), iv 2, iv 5] [(.int 3), (.int 5)])) (fun _ k => st38 _ k) ?_
      refine Go.st (f' := (mkF m 145 #[rv a1, .val (.int (N i0)), .val (.double (FP.l2d (F i3))), .second, .val (.int (N i3)), iv 2, iv 5] [])) (fun _ k => XS.icmpYes X38.here hx rfl (pc0 := 50) (pc' := 145) rfl (hb hby d4_50) rfl (by decide) (by decide) (by decide) k) ?_
      refine Go.st (f' := (mkF m 146 #[rv a1, .val (.int (N i0)), .val (.double (FP.l2d (F i3))), .second, .val (.int (N i3)), iv 2, iv 5] [(.ref a1)])) (fun _ k => XS.aloadN X38.here hx rfl (hb hby d4_145) rfl rfl k) ?_
      have ft39 := ((ft5.other W29 (Or.inl nt_a1_cA)).other W36 (Or.inl nt_a1_nA))
      obtain ⟨T40, X40, e40, st40⟩ := getF X38 hx hZ hown (host := "") (Or.inl (ww hw 10 rfl)) Via.refl e38 ft39 (g := (mkF m 146 #[rv a1, .val (.int (N i0)), .val (.double (FP.l2d (F i3))), .second, .val (.int (N i3)), iv 2, iv 5] [(.ref a1)])) rfl rfl (hb hby d4_146)
      refine Go.st (f' := (mkF m 149 #[rv a1, .val (.int (N i0)), .val (.double (FP.l2d (F i3))), .second, .val (.int (N i3)), iv 2, iv 5] [(.ref cA)])) (fun _ k => st40 _ k) ?_
      refine Go.st (f' := (mkF m 151 #[rv a1, .val (.int (N i0)), .val (.double (FP.l2d (F i3))), .second, .val (.int (N i3)), iv 2, iv 5] [(.int 2), (.ref cA)])) (fun _ k => XS.iload X40.here hx rfl (hb hby d4_149) rfl k) ?_
      refine Go.st (f' := (mkF m 152 #[rv a1, .val (.int (N i0)), .val (.double (FP.l2d (F i3))), .second, .val (.int (N i3)), iv 2, iv 5] [(.double (FP.l2d (F i3))), (.int 2), (.ref cA)])) (fun _ k => XS.dloadN X40.here hx rfl (hb hby d4_151) rfl k) ?_
      have ft41 := (V_cA_29.other W36 nn)
      obtain ⟨cl42, Ar42, q42, S42, Nx42, H42, G42⟩ := id ft41
      have hin42 : ¬ ((2 : Int32) < 0 ∨ cl42.slots.size ≤ ((2 : Int32)).toNatClampNeg) := inb_of S42 ⟨by decide, by decide⟩
      obtain ⟨T43, h43, X43, e43, W43, st43⟩ := stD X40 hx hZ e40 Ar42 (j := (2 : Int32)) hin42 (g := (mkF m 152 #[rv a1, .val (.int (N i0)), .val (.double (FP.l2d (F i3))), .second, .val (.int (N i3)), iv 2, iv 5] [(.double (FP.l2d (F i3))), (.int 2), (.ref cA)])) rfl rfl (hb hby d4_152)
      have V_cA_43 : Arv Z h43 cA kA .double (16 : Int32) [(.double (FP.l2d (F i2))), (.double (FP.l2d (F i1))), (.double (FP.l2d (F i3))), (.double (FP.l2d (F i3))), (.double u0)] (.double (FP.l2d 0)) := Arv.set Ar42 q42 S42 Nx42 H42 G42 rfl W43 2 rfl (Nat.le_of_ble_eq_true rfl)
      have N43 := Fr.snoc X43 N36 g_cA
      have O43 : Old Z n0 h43 := O36.wr W43 g_cA
      have K43 : Keep h0 h43 [a1, cA, nA] := K36.wr W43 (Or.inl (List.mem_of_getElem? (i := 1) rfl))
      refine Go.st (f' := (mkF m 153 #[rv a1, .val (.int (N i0)), .val (.double (FP.l2d (F i3))), .second, .val (.int (N i3)), iv 2, iv 5] [])) (fun _ k => st43 _ k) ?_
      refine Go.st (f' := (mkF m 154 #[rv a1, .val (.int (N i0)), .val (.double (FP.l2d (F i3))), .second, .val (.int (N i3)), iv 2, iv 5] [(.ref a1)])) (fun _ k => XS.aloadN X43.here hx rfl (hb hby d4_153) rfl rfl k) ?_
      have ft44 := ((ft30.other W36 (Or.inl nt_a1_nA)).other W43 (Or.inl nt_a1_cA))
      obtain ⟨T45, X45, e45, st45⟩ := getF X43 hx hZ hown (host := "") (Or.inl (ww hw 13 rfl)) Via.refl e43 ft44 (g := (mkF m 154 #[rv a1, .val (.int (N i0)), .val (.double (FP.l2d (F i3))), .second, .val (.int (N i3)), iv 2, iv 5] [(.ref a1)])) rfl rfl (hb hby d4_154)
      refine Go.st (f' := (mkF m 157 #[rv a1, .val (.int (N i0)), .val (.double (FP.l2d (F i3))), .second, .val (.int (N i3)), iv 2, iv 5] [(.ref nA)])) (fun _ k => st45 _ k) ?_
      refine Go.st (f' := (mkF m 159 #[rv a1, .val (.int (N i0)), .val (.double (FP.l2d (F i3))), .second, .val (.int (N i3)), iv 2, iv 5] [(.int 2), (.ref nA)])) (fun _ k => XS.iload X45.here hx rfl (hb hby d4_157) rfl k) ?_
      refine Go.st (f' := (mkF m 161 #[rv a1, .val (.int (N i0)), .val (.double (FP.l2d (F i3))), .second, .val (.int (N i3)), iv 2, iv 5] [(.int (N i3)), (.int 2), (.ref nA)])) (fun _ k => XS.iload X45.here hx rfl (hb hby d4_159) rfl k) ?_
      have ft46 := (V_nA_36.other W43 (Ne.symm nn))
      obtain ⟨cl47, Ar47, q47, S47, Nx47, H47, G47⟩ := id ft46
      have hin47 : ¬ ((2 : Int32) < 0 ∨ cl47.slots.size ≤ ((2 : Int32)).toNatClampNeg) := inb_of S47 ⟨by decide, by decide⟩
      obtain ⟨T48, h48, X48, e48, W48, st48⟩ := stI X45 hx hZ e45 Ar47 (j := (2 : Int32)) hin47 (g := (mkF m 161 #[rv a1, .val (.int (N i0)), .val (.double (FP.l2d (F i3))), .second, .val (.int (N i3)), iv 2, iv 5] [(.int (N i3)), (.int 2), (.ref nA)])) rfl rfl (hb hby d4_161)
      have V_nA_48 : Arv Z h48 nA kN .int (16 : Int32) [(.int (N i2)), (.int (N i1)), (.int (N i3)), (.int (N i3)), (.int s0)] (.int (0 : Int32)) := Arv.set Ar47 q47 S47 Nx47 H47 G47 rfl W48 2 rfl (Nat.le_of_ble_eq_true rfl)
      have N48 := Fr.snoc X48 N43 g_nA
      have O48 : Old Z n0 h48 := O43.wr W48 g_nA
      have K48 : Keep h0 h48 [a1, cA, nA] := K43.wr W48 (Or.inl (List.mem_of_getElem? (i := 2) rfl))
      refine Go.st (f' := (mkF m 162 #[rv a1, .val (.int (N i0)), .val (.double (FP.l2d (F i3))), .second, .val (.int (N i3)), iv 2, iv 5] [])) (fun _ k => st48 _ k) ?_
      refine Go.st (f' := (mkF m 163 #[rv a1, .val (.int (N i0)), .val (.double (FP.l2d (F i3))), .second, .val (.int (N i3)), iv 2, iv 5] [(.int (N i0))])) (fun _ k => XS.iloadN X48.here hx rfl (hb hby d4_162) rfl k) ?_
      refine Go.retV X48 hlk hx (t := .int) hret rfl (Or.inl ⟨rfl, Or.inl rfl, _, rfl⟩) (hb hby d4_163) e48 ?_ (by decide) (by decide)
      have c_cd21 :=  (own_lw (F i2) (F i1)).1.mp cd21
      have c_cd24 :=  (own_lw (F i2) (F i3)).1.mp cd24
      have ft49 := (((((E_a1.wr W4).wr W29).wr W36).wr W43).wr W48)
      have ft50 := ((ft37.other W43 (Or.inl nt_a1_cA)).other W48 (Or.inl nt_a1_nA))
      have ft51 := (ft44.other W48 (Or.inl nt_a1_nA))
      have ft52 := ((ft39.other W43 (Or.inl nt_a1_cA)).other W48 (Or.inl nt_a1_nA))
      have ft53 := (V_cA_43.other W48 nn)
      exact ⟨rfl, N48, K48, ft49, ft50, ft51, ft52, i2, i1, i3, (FP.l2d (F i3)), u0, (N i3), s0, fun w => by omega, by omega, by omega, by omega, ft53, V_nA_48⟩
    · refine Go.st (f' := (mkF m 99 #[rv a1, .val (.int (N i0)), .val (.double (FP.l2d (F i3))), .second, .val (.int (N i3)), iv 0, iv 2] [])) (fun _ k => XS.ifNo X22.here hx rfl (hb hby d4_96) rfl ((if0 _ _).trans (flt cd24).1) k) ?_
      refine Go.st (f' := (mkF m 145 #[rv a1, .val (.int (N i0)), .val (.double (FP.l2d (F i3))), .second, .val (.int (N i3)), iv 0, iv 2] [])) (fun _ k => XS.goto X22.here hx rfl (pc0 := 99) (pc' := 145) rfl (hb hby d4_99) (by decide) (by decide) k) ?_
      refine Go.st (f' := (mkF m 146 #[rv a1, .val (.int (N i0)), .val (.double (FP.l2d (F i3))), .second, .val (.int (N i3)), iv 0, iv 2] [(.ref a1)])) (fun _ k => XS.aloadN X22.here hx rfl (hb hby d4_145) rfl rfl k) ?_
      obtain ⟨T54, X54, e54, st54⟩ := getF X22 hx hZ hown (host := "") (Or.inl (ww hw 10 rfl)) Via.refl e22 ft5 (g := (mkF m 146 #[rv a1, .val (.int (N i0)), .val (.double (FP.l2d (F i3))), .second, .val (.int (N i3)), iv 0, iv 2] [(.ref a1)])) rfl rfl (hb hby d4_146)
      refine Go.st (f' := (mkF m 149 #[rv a1, .val (.int (N i0)), .val (.double (FP.l2d (F i3))), .second, .val (.int (N i3)), iv 0, iv 2] [(.ref cA)])) (fun _ k => st54 _ k) ?_
      refine Go.st (f' := (mkF m 151 #[rv a1, .val (.int (N i0)), .val (.double (FP.l2d (F i3))), .second, .val (.int (N i3)), iv 0, iv 2] [(.int 0), (.ref cA)])) (fun _ k => XS.iload X54.here hx rfl (hb hby d4_149) rfl k) ?_
      refine Go.st (f' := (mkF m 152 #[rv a1, .val (.int (N i0)), .val (.double (FP.l2d (F i3))), .second, .val (.int (N i3)), iv 0, iv 2] [(.double (FP.l2d (F i3))), (.int 0), (.ref cA)])) (fun _ k => XS.dloadN X54.here hx rfl (hb hby d4_151) rfl k) ?_
      obtain ⟨cl55, Ar55, q55, S55, Nx55, H55, G55⟩ := id ft9
      have hin55 : ¬ ((0 : Int32) < 0 ∨ cl55.slots.size ≤ ((0 : Int32)).toNatClampNeg) := inb_of S55 ⟨by decide, by decide⟩
      obtain ⟨T56, h56, X56, e56, W56, st56⟩ := stD X54 hx hZ e54 Ar55 (j := (0 : Int32)) hin55 (g := (mkF m 152 #[rv a1, .val (.int (N i0)), .val (.double (FP.l2d (F i3))), .second, .val (.int (N i3)), iv 0, iv 2] [(.double (FP.l2d (F i3))), (.int 0), (.ref cA)])) rfl rfl (hb hby d4_152)
      have V_cA_56 : Arv Z h56 cA kA .double (16 : Int32) [(.double (FP.l2d (F i3))), (.double (FP.l2d (F i1))), (.double (FP.l2d (F i2))), (.double (FP.l2d (F i3))), (.double u0)] (.double (FP.l2d 0)) := Arv.set Ar55 q55 S55 Nx55 H55 G55 rfl W56 0 rfl (Nat.le_of_ble_eq_true rfl)
      have N56 := Fr.snoc X56 N4 g_cA
      have O56 : Old Z n0 h56 := O4.wr W56 g_cA
      have K56 : Keep h0 h56 [a1, cA, nA] := K4.wr W56 (Or.inl (List.mem_of_getElem? (i := 1) rfl))
      refine Go.st (f' := (mkF m 153 #[rv a1, .val (.int (N i0)), .val (.double (FP.l2d (F i3))), .second, .val (.int (N i3)), iv 0, iv 2] [])) (fun _ k => st56 _ k) ?_
      refine Go.st (f' := (mkF m 154 #[rv a1, .val (.int (N i0)), .val (.double (FP.l2d (F i3))), .second, .val (.int (N i3)), iv 0, iv 2] [(.ref a1)])) (fun _ k => XS.aloadN X56.here hx rfl (hb hby d4_153) rfl rfl k) ?_
      have ft57 := (ft10.other W56 (Or.inl nt_a1_cA))
      obtain ⟨T58, X58, e58, st58⟩ := getF X56 hx hZ hown (host := "") (Or.inl (ww hw 13 rfl)) Via.refl e56 ft57 (g := (mkF m 154 #[rv a1, .val (.int (N i0)), .val (.double (FP.l2d (F i3))), .second, .val (.int (N i3)), iv 0, iv 2] [(.ref a1)])) rfl rfl (hb hby d4_154)
      refine Go.st (f' := (mkF m 157 #[rv a1, .val (.int (N i0)), .val (.double (FP.l2d (F i3))), .second, .val (.int (N i3)), iv 0, iv 2] [(.ref nA)])) (fun _ k => st58 _ k) ?_
      refine Go.st (f' := (mkF m 159 #[rv a1, .val (.int (N i0)), .val (.double (FP.l2d (F i3))), .second, .val (.int (N i3)), iv 0, iv 2] [(.int 0), (.ref nA)])) (fun _ k => XS.iload X58.here hx rfl (hb hby d4_157) rfl k) ?_
      refine Go.st (f' := (mkF m 161 #[rv a1, .val (.int (N i0)), .val (.double (FP.l2d (F i3))), .second, .val (.int (N i3)), iv 0, iv 2] [(.int (N i3)), (.int 0), (.ref nA)])) (fun _ k => XS.iload X58.here hx rfl (hb hby d4_159) rfl k) ?_
      have ft59 := (ft14.other W56 (Ne.symm nn))
      obtain ⟨cl60, Ar60, q60, S60, Nx60, H60, G60⟩ := id ft59
      have hin60 : ¬ ((0 : Int32) < 0 ∨ cl60.slots.size ≤ ((0 : Int32)).toNatClampNeg) := inb_of S60 ⟨by decide, by decide⟩
      obtain ⟨T61, h61, X61, e61, W61, st61⟩ := stI X58 hx hZ e58 Ar60 (j := (0 : Int32)) hin60 (g := (mkF m 161 #[rv a1, .val (.int (N i0)), .val (.double (FP.l2d (F i3))), .second, .val (.int (N i3)), iv 0, iv 2] [(.int (N i3)), (.int 0), (.ref nA)])) rfl rfl (hb hby d4_161)
      have V_nA_61 : Arv Z h61 nA kN .int (16 : Int32) [(.int (N i3)), (.int (N i1)), (.int (N i2)), (.int (N i3)), (.int s0)] (.int (0 : Int32)) := Arv.set Ar60 q60 S60 Nx60 H60 G60 rfl W61 0 rfl (Nat.le_of_ble_eq_true rfl)
      have N61 := Fr.snoc X61 N56 g_nA
      have O61 : Old Z n0 h61 := O56.wr W61 g_nA
      have K61 : Keep h0 h61 [a1, cA, nA] := K56.wr W61 (Or.inl (List.mem_of_getElem? (i := 2) rfl))
      refine Go.st (f' := (mkF m 162 #[rv a1, .val (.int (N i0)), .val (.double (FP.l2d (F i3))), .second, .val (.int (N i3)), iv 0, iv 2] [])) (fun _ k => st61 _ k) ?_
      refine Go.st (f' := (mkF m 163 #[rv a1, .val (.int (N i0)), .val (.double (FP.l2d (F i3))), .second, .val (.int (N i3)), iv 0, iv 2] [(.int (N i0))])) (fun _ k => XS.iloadN X61.here hx rfl (hb hby d4_162) rfl k) ?_
      refine Go.retV X61 hlk hx (t := .int) hret rfl (Or.inl ⟨rfl, Or.inl rfl, _, rfl⟩) (hb hby d4_163) e61 ?_ (by decide) (by decide)
      have c_cd21 :=  (own_lw (F i2) (F i1)).1.mp cd21
      have c_cd24 := (not_congr (own_lw (F i2) (F i3)).1).mp cd24
      have ft62 := (((E_a1.wr W4).wr W56).wr W61)
      have ft63 := ((Fw4.other W56 (Or.inl nt_a1_cA)).other W61 (Or.inl nt_a1_nA))
      have ft64 := (ft57.other W61 (Or.inl nt_a1_nA))
      have ft65 := ((ft5.other W56 (Or.inl nt_a1_cA)).other W61 (Or.inl nt_a1_nA))
      have ft66 := (V_cA_56.other W61 nn)
      exact ⟨rfl, N61, K61, ft62, ft63, ft64, ft65, i3, i1, i2, (FP.l2d (F i3)), u0, (N i3), s0, fun w => by omega, by omega, by omega, by omega, ft66, V_nA_61⟩
  · refine Go.st (f' := (mkF m 87 #[rv a1, .val (.int (N i0)), .val (.double (FP.l2d (F i3))), .second, .val (.int (N i3)), iv 0, iv 1] [])) (fun _ k => XS.ifYes X19.here hx rfl (pc0 := 81) (pc' := 87) rfl (hb hby d4_81) rfl ((if0 _ _).trans (flt cd21).2.1) (by decide) (by decide) k) ?_
    refine Go.st (f' := (mkF m 88 #[rv a1, .val (.int (N i0)), .val (.double (FP.l2d (F i3))), .second, .val (.int (N i3)), iv 0, iv 1] [(.ref a1)])) (fun _ k => XS.aloadN X19.here hx rfl (hb hby d4_87) rfl rfl k) ?_
    obtain ⟨T67, X67, e67, st67⟩ := getF X19 hx hZ hown (host := "") (Or.inl (ww hw 10 rfl)) Via.refl e19 ft5 (g := (mkF m 88 #[rv a1, .val (.int (N i0)), .val (.double (FP.l2d (F i3))), .second, .val (.int (N i3)), iv 0, iv 1] [(.ref a1)])) rfl rfl (hb hby d4_88)
    refine Go.st (f' := (mkF m 91 #[rv a1, .val (.int (N i0)), .val (.double (FP.l2d (F i3))), .second, .val (.int (N i3)), iv 0, iv 1] [(.ref cA)])) (fun _ k => st67 _ k) ?_
    refine Go.st (f' := (mkF m 93 #[rv a1, .val (.int (N i0)), .val (.double (FP.l2d (F i3))), .second, .val (.int (N i3)), iv 0, iv 1] [(.int 1), (.ref cA)])) (fun _ k => XS.iload X67.here hx rfl (hb hby d4_91) rfl k) ?_
    obtain ⟨cl68, Ar68, -, S68, -, H68, -⟩ := id ft9
    have hin68 : ¬ ((1 : Int32) < 0 ∨ cl68.slots.size ≤ ((1 : Int32)).toNatClampNeg) := inb_of S68 ⟨by decide, by decide⟩
    have hat68 : cl68.slots[((1 : Int32)).toNatClampNeg]? = some (.double (FP.l2d (F i1))) := H68.at hin68 rfl
    refine Go.st (f' := (mkF m 94 #[rv a1, .val (.int (N i0)), .val (.double (FP.l2d (F i3))), .second, .val (.int (N i3)), iv 0, iv 1] [(.double (FP.l2d (F i1)))])) (fun _ k => X67.daload hx (j := (1 : Int32)) (v := (.double (FP.l2d (F i1)))) (by rw [e67]; exact Ar68.1) (State.isArrayOf_alike hZ.alike Ar68.2.1) Ar68.2.2 hin68 hat68 (g := (mkF m 93 #[rv a1, .val (.int (N i0)), .val (.double (FP.l2d (F i3))), .second, .val (.int (N i3)), iv 0, iv 1] [(.int 1), (.ref cA)])) rfl rfl (hb hby d4_93) _ k) ?_
    refine Go.st (f' := (mkF m 95 #[rv a1, .val (.int (N i0)), .val (.double (FP.l2d (F i3))), .second, .val (.int (N i3)), iv 0, iv 1] [(.double (FP.l2d (F i3))), (.double (FP.l2d (F i1)))])) (fun _ k => XS.dloadN X67.here hx rfl (hb hby d4_94) rfl k) ?_
    refine Go.st (f' := (mkF m 96 #[rv a1, .val (.int (N i0)), .val (.double (FP.l2d (F i3))), .second, .val (.int (N i3)), iv 0, iv 1] [(.int (lcmpW (F i1) (F i3)))])) (fun _ k => XS.dcmpS X67.here hx rfl (hb hby d4_95) rfl (dcmpV_w (hF _) (hF _) _) k) ?_
    by_cases cd69 : (lcmpW (F i1) (F i3)) < (0 : Int32)
    · refine Go.st (f' := (mkF m 102 #[rv a1, .val (.int (N i0)), .val (.double (FP.l2d (F i3))), .second, .val (.int (N i3)), iv 0, iv 1] [])) (fun _ k => XS.ifYes X67.here hx rfl (pc0 := 96) (pc' := 102) rfl (hb hby d4_96) rfl ((if0 _ _).trans (tlt cd69).1) (by decide) (by decide) k) ?_
      refine Go.st (f' := (mkF m 103 #[rv a1, .val (.int (N i0)), .val (.double (FP.l2d (F i3))), .second, .val (.int (N i3)), iv 0, iv 1] [(.ref a1)])) (fun _ k => XS.aloadN X67.here hx rfl (hb hby d4_102) rfl rfl k) ?_
      obtain ⟨T70, X70, e70, st70⟩ := getF X67 hx hZ hown (host := "") (Or.inl (ww hw 10 rfl)) Via.refl e67 ft5 (g := (mkF m 103 #[rv a1, .val (.int (N i0)), .val (.double (FP.l2d (F i3))), .second, .val (.int (N i3)), iv 0, iv 1] [(.ref a1)])) rfl rfl (hb hby d4_103)
      refine Go.st (f' := (mkF m 106 #[rv a1, .val (.int (N i0)), .val (.double (FP.l2d (F i3))), .second, .val (.int (N i3)), iv 0, iv 1] [(.ref cA)])) (fun _ k => st70 _ k) ?_
      refine Go.st (f' := (mkF m 108 #[rv a1, .val (.int (N i0)), .val (.double (FP.l2d (F i3))), .second, .val (.int (N i3)), iv 0, iv 1] [(.int 0), (.ref cA)])) (fun _ k => XS.iload X70.here hx rfl (hb hby d4_106) rfl k) ?_
      refine Go.st (f' := (mkF m 109 #[rv a1, .val (.int (N i0)), .val (.double (FP.l2d (F i3))), .second, .val (.int (N i3)), iv 0, iv 1] [(.ref a1), (.int 0), (.ref cA)])) (fun _ k => XS.aloadN X70.here hx rfl (hb hby d4_108) rfl rfl k) ?_
      obtain ⟨T71, X71, e71, st71⟩ := getF X70 hx hZ hown (host := "") (Or.inl (ww hw 10 rfl)) Via.refl e70 ft5 (g := (mkF m 109 #[rv a1, .val (.int (N i0)), .val (.double (FP.l2d (F i3))), .second, .val (.int (N i3)), iv 0, iv 1] [(.ref a1), (.int 0), (.ref cA)])) rfl rfl (hb hby d4_109)
      refine Go.st (f' := (mkF m 112 #[rv a1, .val (.int (N i0)), .val (.double (FP.l2d (F i3))), .second, .val (.int (N i3)), iv 0, iv 1] [(.ref cA), (.int 0), (.ref cA)])) (fun _ k => st71 _ k) ?_
      refine Go.st (f' := (mkF m 114 #[rv a1, .val (.int (N i0)), .val (.double (FP.l2d (F i3))), .second, .val (.int (N i3)), iv 0, iv 1] [(.int 1), (.ref cA), (.int 0), (.ref cA)])) (fun _ k => XS.iload X71.here hx rfl (hb hby d4_112) rfl k) ?_
      obtain ⟨cl72, Ar72, -, S72, -, H72, -⟩ := id ft9
      have hin72 : ¬ ((1 : Int32) < 0 ∨ cl72.slots.size ≤ ((1 : Int32)).toNatClampNeg) := inb_of S72 ⟨by decide, by decide⟩
      have hat72 : cl72.slots[((1 : Int32)).toNatClampNeg]? = some (.double (FP.l2d (F i1))) := H72.at hin72 rfl
      refine Go.st (f' := (mkF m 115 #[rv a1, .val (.int (N i0)), .val (.double (FP.l2d (F i3))), .second, .val (.int (N i3)), iv 0, iv 1] [(.double (FP.l2d (F i1))), (.int 0), (.ref cA)])) (fun _ k => X71.daload hx (j := (1 : Int32)) (v := (.double (FP.l2d (F i1)))) (by rw [e71]; exact Ar72.1) (State.isArrayOf_alike hZ.alike Ar72.2.1) Ar72.2.2 hin72 hat72 (g := (mkF m 114 #[rv a1, .val (.int (N i0)), .val (.double (FP.l2d (F i3))), .second, .val (.int (N i3)), iv 0, iv 1] [(.int 1), (.ref cA), (.int 0), (.ref cA)])) rfl rfl (hb hby d4_114) _ k) ?_
      obtain ⟨cl73, Ar73, q73, S73, Nx73, H73, G73⟩ := id ft9
      have hin73 : ¬ ((0 : Int32) < 0 ∨ cl73.slots.size ≤ ((0 : Int32)).toNatClampNeg) := inb_of S73 ⟨by decide, by decide⟩
      obtain ⟨T74, h74, X74, e74, W74, st74⟩ := stD X71 hx hZ e71 Ar73 (j := (0 : Int32)) hin73 (g := (mkF m 115 #[rv a1, .val (.int (N i0)), .val (.double (FP.l2d (F i3))), .second, .val (.int (N i3)), iv 0, iv 1] [(.double (FP.l2d (F i1))), (.int 0), (.ref cA)])) rfl rfl (hb hby d4_115)
      have V_cA_74 : Arv Z h74 cA kA .double (16 : Int32) [(.double (FP.l2d (F i1))), (.double (FP.l2d (F i1))), (.double (FP.l2d (F i2))), (.double (FP.l2d (F i3))), (.double u0)] (.double (FP.l2d 0)) := Arv.set Ar73 q73 S73 Nx73 H73 G73 rfl W74 0 rfl (Nat.le_of_ble_eq_true rfl)
      have N74 := Fr.snoc X74 N4 g_cA
      have O74 : Old Z n0 h74 := O4.wr W74 g_cA
      have K74 : Keep h0 h74 [a1, cA, nA] := K4.wr W74 (Or.inl (List.mem_of_getElem? (i := 1) rfl))
      refine Go.st (f' := (mkF m 116 #[rv a1, .val (.int (N i0)), .val (.double (FP.l2d (F i3))), .second, .val (.int (N i3)), iv 0, iv 1] [])) (fun _ k => st74 _ k) ?_
      refine Go.st (f' := (mkF m 117 #[rv a1, .val (.int (N i0)), .val (.double (FP.l2d (F i3))), .second, .val (.int (N i3)), iv 0, iv 1] [(.ref a1)])) (fun _ k => XS.aloadN X74.here hx rfl (hb hby d4_116) rfl rfl k) ?_
      have ft75 := (ft10.other W74 (Or.inl nt_a1_cA))
      obtain ⟨T76, X76, e76, st76⟩ := getF X74 hx hZ hown (host := "") (Or.inl (ww hw 13 rfl)) Via.refl e74 ft75 (g := (mkF m 117 #[rv a1, .val (.int (N i0)), .val (.double (FP.l2d (F i3))), .second, .val (.int (N i3)), iv 0, iv 1] [(.ref a1)])) rfl rfl (hb hby d4_117)
      refine Go.st (f' := (mkF m 120 #[rv a1, .val (.int (N i0)), .val (.double (FP.l2d (F i3))), .second, .val (.int (N i3)), iv 0, iv 1] [(.ref nA)])) (fun _ k => st76 _ k) ?_
      refine Go.st (f' := (mkF m 122 #[rv a1, .val (.int (N i0)), .val (.double (FP.l2d (F i3))), .second, .val (.int (N i3)), iv 0, iv 1] [(.int 0), (.ref nA)])) (fun _ k => XS.iload X76.here hx rfl (hb hby d4_120) rfl k) ?_
      refine Go.st (f' := (mkF m 123 #[rv a1, .val (.int (N i0)), .val (.double (FP.l2d (F i3))), .second, .val (.int (N i3)), iv 0, iv 1] [(.ref a1), (.int 0), (.ref nA)])) (fun _ k => XS.aloadN X76.here hx rfl (hb hby d4_122) rfl rfl k) ?_
      obtain ⟨T77, X77, e77, st77⟩ := getF X76 hx hZ hown (host := "") (Or.inl (ww hw 13 rfl)) Via.refl e76 ft75 (g := (mkF m 123 #[rv a1, .val (.int (N i0)), .val (.double (FP.l2d (F i3))), .second, .val (.int (N i3)), iv 0, iv 1] [(.ref a1), (.int 0), (.ref nA)])) rfl rfl (hb hby d4_123)
      refine Go.st (f' := (mkF m 126 #[rv a1, .val (.int (N i0)), .val (.double (FP.l2d (F i3))), .second, .val (.int (N i3)), iv 0, iv 1] [(.ref nA), (.int 0), (.ref nA)])) (fun _ k => st77 _ k) ?_
      refine Go.st (f' := (mkF m 128 #[rv a1, .val (.int (N i0)), .val (.double (FP.l2d (F i3))), .second, .val (.int (N i3)), iv 0, iv 1] [(.int 1), (.ref nA), (.int 0), (.ref nA)])) (fun _ k => XS.iload X77.here hx rfl (hb hby d4_126) rfl k) ?_
      have ft79 := (ft14.other W74 (Ne.symm nn))
      obtain ⟨cl78, Ar78, -, S78, -, H78, -⟩ := id ft79
      have hin78 : ¬ ((1 : Int32) < 0 ∨ cl78.slots.size ≤ ((1 : Int32)).toNatClampNeg) := inb_of S78 ⟨by decide, by decide⟩
      have hat78 : cl78.slots[((1 : Int32)).toNatClampNeg]? = some (.int (N i1)) := H78.at hin78 rfl
      refine Go.st (f' := (mkF m 129 #[rv a1, .val (.int (N i0)), .val (.double (FP.l2d (F i3))), .second, .val (.int (N i3)), iv 0, iv 1] [(.int (N i1)), (.int 0), (.ref nA)])) (fun _ k => X77.iaload hx (j := (1 : Int32)) (v := (.int (N i1))) (by rw [e77]; exact Ar78.1) (State.isArrayOf_alike hZ.alike Ar78.2.1) Ar78.2.2 hin78 hat78 (g := (mkF m 128 #[rv a1, .val (.int (N i0)), .val (.double (FP.l2d (F i3))), .second, .val (.int (N i3)), iv 0, iv 1] [(.int 1), (.ref nA), (.int 0), (.ref nA)])) rfl rfl (hb hby d4_128) _ k) ?_
      obtain ⟨cl80, Ar80, q80, S80, Nx80, H80, G80⟩ := id ft79
      have hin80 : ¬ ((0 : Int32) < 0 ∨ cl80.slots.size ≤ ((0 : Int32)).toNatClampNeg) := inb_of S80 ⟨by decide, by decide⟩
      obtain ⟨T81, h81, X81, e81, W81, st81⟩ := stI X77 hx hZ e77 Ar80 (j := (0 : Int32)) hin80 (g := (mkF m 129 #[rv a1, .val (.int (N i0)), .val (.double (FP.l2d (F i3))), .second, .val (.int (N i3)), iv 0, iv 1] [(.int (N i1)), (.int 0), (.ref nA)])) rfl rfl (hb hby d4_129)
      have V_nA_81 : Arv Z h81 nA kN .int (16 : Int32) [(.int (N i1)), (.int (N i1)), (.int (N i2)), (.int (N i3)), (.int s0)] (.int (0 : Int32)) := Arv.set Ar80 q80 S80 Nx80 H80 G80 rfl W81 0 rfl (Nat.le_of_ble_eq_true rfl)
      have N81 := Fr.snoc X81 N74 g_nA
      have O81 : Old Z n0 h81 := O74.wr W81 g_nA
      have K81 : Keep h0 h81 [a1, cA, nA] := K74.wr W81 (Or.inl (List.mem_of_getElem? (i := 2) rfl))
      refine Go.st (f' := (mkF m 130 #[rv a1, .val (.int (N i0)), .val (.double (FP.l2d (F i3))), .second, .val (.int (N i3)), iv 0, iv 1] [])) (fun _ k => st81 _ k) ?_
      refine Go.st (f' := (mkF m 132 #[rv a1, .val (.int (N i0)), .val (.double (FP.l2d (F i3))), .second, .val (.int (N i3)), iv 0, iv 1] [(.int 1)])) (fun _ k => XS.iload X81.here hx rfl (hb hby d4_130) rfl k) ?_
      refine Go.st (f' := (mkF m 134 #[rv a1, .val (.int (N i0)), .val (.double (FP.l2d (F i3))), .second, .val (.int (N i3)), iv 1, iv 1] [])) (fun _ k => XS.istore X81.here hx rfl (hb hby d4_132) rfl (l' := #[rv a1, .val (.int (N i0)), .val (.double (FP.l2d (F i3))), .second, .val (.int (N i3)), iv 1, iv 1]) rfl k) ?_
      refine Go.st (f' := (mkF m 135 #[rv a1, .val (.int (N i0)), .val (.double (FP.l2d (F i3))), .second, .val (.int (N i3)), iv 1, iv 1] [(.int 2)])) (fun _ k => XS.iconst X81.here hx rfl (hb hby d4_134) k) ?_
      refine Go.st (f' := (mkF m 137 #[rv a1, .val (.int (N i0)), .val (.double (FP.l2d (F i3))), .second, .val (.int (N i3)), iv 1, iv 1] [(.int 1), (.int 2)])) (fun _ k => XS.iload X81.here hx rfl (hb hby d4_135) rfl k) ?_
      refine Go.st (f' := (mkF m 138 #[rv a1, .val (.int (N i0)), .val (.double (FP.l2d (F i3))), .second, .val (.int (N i3)), iv 1, iv 1] [(.int 2)])) (fun _ k => XS.imul X81.here hx rfl (hb hby d4_137) rfl k) ?_
      refine Go.st (f' := (mkF m 139 #[rv a1, .val (.int (N i0)), .val (.double (FP.l2d (F i3))), .second, .val (.int (N i3)), iv 1, iv 1] [(.int 1), (.int 2)])) (fun _ k => XS.iconst X81.here hx rfl (hb hby d4_138) k) ?_
      refine Go.st (f' := (mkF m 140 #[rv a1, .val (.int (N i0)), .val (.double (FP.l2d (F i3))), .second, .val (.int (N i3)), iv 1, iv 1] [(.int 3)])) (fun _ k => XS.iadd X81.here hx rfl (hb hby d4_139) rfl k) ?_
      refine Go.st (f' := (mkF m 142 #[rv a1, .val (.int (N i0)), .val (.double (FP.l2d (F i3))), .second, .val (.int (N i3)), iv 1, iv 3] [])) (fun _ k => XS.istore X81.here hx rfl (hb hby d4_140) rfl (l' := #[rv a1, .val (.int (N i0)), .val (.double (FP.l2d (F i3))), .second, .val (.int (N i3)), iv 1, iv 3]) rfl k) ?_
      refine Go.st (f' := (mkF m 44 #[rv a1, .val (.int (N i0)), .val (.double (FP.l2d (F i3))), .second, .val (.int (N i3)), iv 1, iv 3] [])) (fun _ k => XS.goto X81.here hx rfl (pc0 := 142) (pc' := 44) rfl (hb hby d4_142) (by decide) (by decide) k) ?_
      refine Go.st (f' := (mkF m 46 #[rv a1, .val (.int (N i0)), .val (.double (FP.l2d (F i3))), .second, .val (.int (N i3)), iv 1, iv 3] [(.int 3)])) (fun _ k => XS.iload X81.here hx rfl (hb hby d4_44) rfl k) ?_
      refine Go.st (f' := (mkF m 47 #[rv a1, .val (.int (N i0)), .val (.double (FP.l2d (F i3))), .second, .val (.int (N i3)), iv 1, iv 3] [(.ref a1), (.int 3)])) (fun _ k => XS.aloadN X81.here hx rfl (hb hby d4_46) rfl rfl k) ?_
      have ft82 := ((Fw4.other W74 (Or.inl nt_a1_cA)).other W81 (Or.inl nt_a1_nA))
      obtain ⟨T83, X83, e83, st83⟩ := getF X81 hx hZ hown (host := "") (Or.inl (ww hw 20 rfl)) Via.refl e81 ft82 (g := (mkF m 47 #[rv a1, .val (.int (N i0)), .val (.double (FP.l2d (F i3))), .second, .val (.int (N i3)), iv 1, iv 3] [(.ref a1), (.int 3)])) rfl rfl (hb hby d4_47)
      refine Go.st (f' := (mkF m 50 #[rv a1, .val (.int (N i0)), .val (.double (FP.l2d (F i3))), .second, .val (.int (N i3)), iv 1, iv 3] [(.int 3), (.int 3)])) (fun _ k => st83 _ k) ?_
      refine Go.st (f' := (mkF m 145 #[rv a1, .val (.int (N i0)), .val (.double (FP.l2d (F i3))), .second, .val (.int (N i3)), iv 1, iv 3] [])) (fun _ k => XS.icmpYes X83.here hx rfl (pc0 := 50) (pc' := 145) rfl (hb hby d4_50) rfl (by decide) (by decide) (by decide) k) ?_
      refine Go.st (f' := (mkF m 146 #[rv a1, .val (.int (N i0)), .val (.double (FP.l2d (F i3))), .second, .val (.int (N i3)), iv 1, iv 3] [(.ref a1)])) (fun _ k => XS.aloadN X83.here hx rfl (hb hby d4_145) rfl rfl k) ?_
      have ft84 := ((ft5.other W74 (Or.inl nt_a1_cA)).other W81 (Or.inl nt_a1_nA))
      obtain ⟨T85, X85, e85, st85⟩ := getF X83 hx hZ hown (host := "") (Or.inl (ww hw 10 rfl)) Via.refl e83 ft84 (g := (mkF m 146 #[rv a1, .val (.int (N i0)), .val (.double (FP.l2d (F i3))), .second, .val (.int (N i3)), iv 1, iv 3] [(.ref a1)])) rfl rfl (hb hby d4_146)
      refine Go.st (f' := (mkF m 149 #[rv a1, .val (.int (N i0)), .val (.double (FP.l2d (F i3))), .second, .val (.int (N i3)), iv 1, iv 3] [(.ref cA)])) (fun _ k => st85 _ k) ?_
      refine Go.st (f' := (mkF m 151 #[rv a1, .val (.int (N i0)), .val (.double (FP.l2d (F i3))), .second, .val (.int (N i3)), iv 1, iv 3] [(.int 1), (.ref cA)])) (fun _ k => XS.iload X85.here hx rfl (hb hby d4_149) rfl k) ?_
      refine Go.st (f' := (mkF m 152 #[rv a1, .val (.int (N i0)), .val (.double (FP.l2d (F i3))), .second, .val (.int (N i3)), iv 1, iv 3] [(.double (FP.l2d (F i3))), (.int 1), (.ref cA)])) (fun _ k => XS.dloadN X85.here hx rfl (hb hby d4_151) rfl k) ?_
      have ft86 := (V_cA_74.other W81 nn)
      obtain ⟨cl87, Ar87, q87, S87, Nx87, H87, G87⟩ := id ft86
      have hin87 : ¬ ((1 : Int32) < 0 ∨ cl87.slots.size ≤ ((1 : Int32)).toNatClampNeg) := inb_of S87 ⟨by decide, by decide⟩
      obtain ⟨T88, h88, X88, e88, W88, st88⟩ := stD X85 hx hZ e85 Ar87 (j := (1 : Int32)) hin87 (g := (mkF m 152 #[rv a1, .val (.int (N i0)), .val (.double (FP.l2d (F i3))), .second, .val (.int (N i3)), iv 1, iv 3] [(.double (FP.l2d (F i3))), (.int 1), (.ref cA)])) rfl rfl (hb hby d4_152)
      have V_cA_88 : Arv Z h88 cA kA .double (16 : Int32) [(.double (FP.l2d (F i1))), (.double (FP.l2d (F i3))), (.double (FP.l2d (F i2))), (.double (FP.l2d (F i3))), (.double u0)] (.double (FP.l2d 0)) := Arv.set Ar87 q87 S87 Nx87 H87 G87 rfl W88 1 rfl (Nat.le_of_ble_eq_true rfl)
      have N88 := Fr.snoc X88 N81 g_cA
      have O88 : Old Z n0 h88 := O81.wr W88 g_cA
      have K88 : Keep h0 h88 [a1, cA, nA] := K81.wr W88 (Or.inl (List.mem_of_getElem? (i := 1) rfl))
      refine Go.st (f' := (mkF m 153 #[rv a1, .val (.int (N i0)), .val (.double (FP.l2d (F i3))), .second, .val (.int (N i3)), iv 1, iv 3] [])) (fun _ k => st88 _ k) ?_
      refine Go.st (f' := (mkF m 154 #[rv a1, .val (.int (N i0)), .val (.double (FP.l2d (F i3))), .second, .val (.int (N i3)), iv 1, iv 3] [(.ref a1)])) (fun _ k => XS.aloadN X88.here hx rfl (hb hby d4_153) rfl rfl k) ?_
      have ft89 := ((ft75.other W81 (Or.inl nt_a1_nA)).other W88 (Or.inl nt_a1_cA))
      obtain ⟨T90, X90, e90, st90⟩ := getF X88 hx hZ hown (host := "") (Or.inl (ww hw 13 rfl)) Via.refl e88 ft89 (g := (mkF m 154 #[rv a1, .val (.int (N i0)), .val (.double (FP.l2d (F i3))), .second, .val (.int (N i3)), iv 1, iv 3] [(.ref a1)])) rfl rfl (hb hby d4_154)
      refine Go.st (f' := (mkF m 157 #[rv a1, .val (.int (N i0)), .val (.double (FP.l2d (F i3))), .second, .val (.int (N i3)), iv 1, iv 3] [(.ref nA)])) (fun _ k => st90 _ k) ?_
      refine Go.st (f' := (mkF m 159 #[rv a1, .val (.int (N i0)), .val (.double (FP.l2d (F i3))), .second, .val (.int (N i3)), iv 1, iv 3] [(.int 1), (.ref nA)])) (fun _ k => XS.iload X90.here hx rfl (hb hby d4_157) rfl k) ?_
      refine Go.st (f' := (mkF m 161 #[rv a1, .val (.int (N i0)), .val (.double (FP.l2d (F i3))), .second, .val (.int (N i3)), iv 1, iv 3] [(.int (N i3)), (.int 1), (.ref nA)])) (fun _ k => XS.iload X90.here hx rfl (hb hby d4_159) rfl k) ?_
      have ft91 := (V_nA_81.other W88 (Ne.symm nn))
      obtain ⟨cl92, Ar92, q92, S92, Nx92, H92, G92⟩ := id ft91
      have hin92 : ¬ ((1 : Int32) < 0 ∨ cl92.slots.size ≤ ((1 : Int32)).toNatClampNeg) := inb_of S92 ⟨by decide, by decide⟩
      obtain ⟨T93, h93, X93, e93, W93, st93⟩ := stI X90 hx hZ e90 Ar92 (j := (1 : Int32)) hin92 (g := (mkF m 161 #[rv a1, .val (.int (N i0)), .val (.double (FP.l2d (F i3))), .second, .val (.int (N i3)), iv 1, iv 3] [(.int (N i3)), (.int 1), (.ref nA)])) rfl rfl (hb hby d4_161)
      have V_nA_93 : Arv Z h93 nA kN .int (16 : Int32) [(.int (N i1)), (.int (N i3)), (.int (N i2)), (.int (N i3)), (.int s0)] (.int (0 : Int32)) := Arv.set Ar92 q92 S92 Nx92 H92 G92 rfl W93 1 rfl (Nat.le_of_ble_eq_true rfl)
      have N93 := Fr.snoc X93 N88 g_nA
      have O93 : Old Z n0 h93 := O88.wr W93 g_nA
      have K93 : Keep h0 h93 [a1, cA, nA] := K88.wr W93 (Or.inl (List.mem_of_getElem? (i := 2) rfl))
      refine Go.st (f' := (mkF m 162 #[rv a1, .val (.int (N i0)), .val (.double (FP.l2d (F i3))), .second, .val (.int (N i3)), iv 1, iv 3] [])) (fun _ k => st93 _ k) ?_
      refine Go.st (f' := (mkF m 163 #[rv a1, .val (.int (N i0)), .val (.double (FP.l2d (F i3))), .second, .val (.int (N i3)), iv 1, iv 3] [(.int (N i0))])) (fun _ k => XS.iloadN X93.here hx rfl (hb hby d4_162) rfl k) ?_
      refine Go.retV X93 hlk hx (t := .int) hret rfl (Or.inl ⟨rfl, Or.inl rfl, _, rfl⟩) (hb hby d4_163) e93 ?_ (by decide) (by decide)
      have c_cd21 := (not_congr (own_lw (F i2) (F i1)).1).mp cd21
      have c_cd69 :=  (own_lw (F i1) (F i3)).1.mp cd69
      have ft94 := (((((E_a1.wr W4).wr W74).wr W81).wr W88).wr W93)
      have ft95 := ((ft82.other W88 (Or.inl nt_a1_cA)).other W93 (Or.inl nt_a1_nA))
      have ft96 := (ft89.other W93 (Or.inl nt_a1_nA))
      have ft97 := ((ft84.other W88 (Or.inl nt_a1_cA)).other W93 (Or.inl nt_a1_nA))
      have ft98 := (V_cA_88.other W93 nn)
      exact ⟨rfl, N93, K93, ft94, ft95, ft96, ft97, i1, i3, i2, (FP.l2d (F i3)), u0, (N i3), s0, fun w => by omega, by omega, by omega, by omega, ft98, V_nA_93⟩
    · refine Go.st (f' := (mkF m 99 #[rv a1, .val (.int (N i0)), .val (.double (FP.l2d (F i3))), .second, .val (.int (N i3)), iv 0, iv 1] [])) (fun _ k => XS.ifNo X67.here hx rfl (hb hby d4_96) rfl ((if0 _ _).trans (flt cd69).1) k) ?_
      refine Go.st (f' := (mkF m 145 #[rv a1, .val (.int (N i0)), .val (.double (FP.l2d (F i3))), .second, .val (.int (N i3)), iv 0, iv 1] [])) (fun _ k => XS.goto X67.here hx rfl (pc0 := 99) (pc' := 145) rfl (hb hby d4_99) (by decide) (by decide) k) ?_
      refine Go.st (f' := (mkF m 146 #[rv a1, .val (.int (N i0)), .val (.double (FP.l2d (F i3))), .second, .val (.int (N i3)), iv 0, iv 1] [(.ref a1)])) (fun _ k => XS.aloadN X67.here hx rfl (hb hby d4_145) rfl rfl k) ?_
      obtain ⟨T99, X99, e99, st99⟩ := getF X67 hx hZ hown (host := "") (Or.inl (ww hw 10 rfl)) Via.refl e67 ft5 (g := (mkF m 146 #[rv a1, .val (.int (N i0)), .val (.double (FP.l2d (F i3))), .second, .val (.int (N i3)), iv 0, iv 1] [(.ref a1)])) rfl rfl (hb hby d4_146)
      refine Go.st (f' := (mkF m 149 #[rv a1, .val (.int (N i0)), .val (.double (FP.l2d (F i3))), .second, .val (.int (N i3)), iv 0, iv 1] [(.ref cA)])) (fun _ k => st99 _ k) ?_
      refine Go.st (f' := (mkF m 151 #[rv a1, .val (.int (N i0)), .val (.double (FP.l2d (F i3))), .second, .val (.int (N i3)), iv 0, iv 1] [(.int 0), (.ref cA)])) (fun _ k => XS.iload X99.here hx rfl (hb hby d4_149) rfl k) ?_
      refine Go.st (f' := (mkF m 152 #[rv a1, .val (.int (N i0)), .val (.double (FP.l2d (F i3))), .second, .val (.int (N i3)), iv 0, iv 1] [(.double (FP.l2d (F i3))), (.int 0), (.ref cA)])) (fun _ k => XS.dloadN X99.here hx rfl (hb hby d4_151) rfl k) ?_
      obtain ⟨cl100, Ar100, q100, S100, Nx100, H100, G100⟩ := id ft9
      have hin100 : ¬ ((0 : Int32) < 0 ∨ cl100.slots.size ≤ ((0 : Int32)).toNatClampNeg) := inb_of S100 ⟨by decide, by decide⟩
      obtain ⟨T101, h101, X101, e101, W101, st101⟩ := stD X99 hx hZ e99 Ar100 (j := (0 : Int32)) hin100 (g := (mkF m 152 #[rv a1, .val (.int (N i0)), .val (.double (FP.l2d (F i3))), .second, .val (.int (N i3)), iv 0, iv 1] [(.double (FP.l2d (F i3))), (.int 0), (.ref cA)])) rfl rfl (hb hby d4_152)
      have V_cA_101 : Arv Z h101 cA kA .double (16 : Int32) [(.double (FP.l2d (F i3))), (.double (FP.l2d (F i1))), (.double (FP.l2d (F i2))), (.double (FP.l2d (F i3))), (.double u0)] (.double (FP.l2d 0)) := Arv.set Ar100 q100 S100 Nx100 H100 G100 rfl W101 0 rfl (Nat.le_of_ble_eq_true rfl)
      have N101 := Fr.snoc X101 N4 g_cA
      have O101 : Old Z n0 h101 := O4.wr W101 g_cA
      have K101 : Keep h0 h101 [a1, cA, nA] := K4.wr W101 (Or.inl (List.mem_of_getElem? (i := 1) rfl))
      refine Go.st (f' := (mkF m 153 #[rv a1, .val (.int (N i0)), .val (.double (FP.l2d (F i3))), .second, .val (.int (N i3)), iv 0, iv 1] [])) (fun _ k => st101 _ k) ?_
      refine Go.st (f' := (mkF m 154 #[rv a1, .val (.int (N i0)), .val (.double (FP.l2d (F i3))), .second, .val (.int (N i3)), iv 0, iv 1] [(.ref a1)])) (fun _ k => XS.aloadN X101.here hx rfl (hb hby d4_153) rfl rfl k) ?_
      have ft102 := (ft10.other W101 (Or.inl nt_a1_cA))
      obtain ⟨T103, X103, e103, st103⟩ := getF X101 hx hZ hown (host := "") (Or.inl (ww hw 13 rfl)) Via.refl e101 ft102 (g := (mkF m 154 #[rv a1, .val (.int (N i0)), .val (.double (FP.l2d (F i3))), .second, .val (.int (N i3)), iv 0, iv 1] [(.ref a1)])) rfl rfl (hb hby d4_154)
      refine Go.st (f' := (mkF m 157 #[rv a1, .val (.int (N i0)), .val (.double (FP.l2d (F i3))), .second, .val (.int (N i3)), iv 0, iv 1] [(.ref nA)])) (fun _ k => st103 _ k) ?_
      refine Go.st (f' := (mkF m 159 #[rv a1, .val (.int (N i0)), .val (.double (FP.l2d (F i3))), .second, .val (.int (N i3)), iv 0, iv 1] [(.int 0), (.ref nA)])) (fun _ k => XS.iload X103.here hx rfl (hb hby d4_157) rfl k) ?_
      refine Go.st (f' := (mkF m 161 #[rv a1, .val (.int (N i0)), .val (.double (FP.l2d (F i3))), .second, .val (.int (N i3)), iv 0, iv 1] [(.int (N i3)), (.int 0), (.ref nA)])) (fun _ k => XS.iload X103.here hx rfl (hb hby d4_159) rfl k) ?_
      have ft104 := (ft14.other W101 (Ne.symm nn))
      obtain ⟨cl105, Ar105, q105, S105, Nx105, H105, G105⟩ := id ft104
      have hin105 : ¬ ((0 : Int32) < 0 ∨ cl105.slots.size ≤ ((0 : Int32)).toNatClampNeg) := inb_of S105 ⟨by decide, by decide⟩
      obtain ⟨T106, h106, X106, e106, W106, st106⟩ := stI X103 hx hZ e103 Ar105 (j := (0 : Int32)) hin105 (g := (mkF m 161 #[rv a1, .val (.int (N i0)), .val (.double (FP.l2d (F i3))), .second, .val (.int (N i3)), iv 0, iv 1] [(.int (N i3)), (.int 0), (.ref nA)])) rfl rfl (hb hby d4_161)
      have V_nA_106 : Arv Z h106 nA kN .int (16 : Int32) [(.int (N i3)), (.int (N i1)), (.int (N i2)), (.int (N i3)), (.int s0)] (.int (0 : Int32)) := Arv.set Ar105 q105 S105 Nx105 H105 G105 rfl W106 0 rfl (Nat.le_of_ble_eq_true rfl)
      have N106 := Fr.snoc X106 N101 g_nA
      have O106 : Old Z n0 h106 := O101.wr W106 g_nA
      have K106 : Keep h0 h106 [a1, cA, nA] := K101.wr W106 (Or.inl (List.mem_of_getElem? (i := 2) rfl))
      refine Go.st (f' := (mkF m 162 #[rv a1, .val (.int (N i0)), .val (.double (FP.l2d (F i3))), .second, .val (.int (N i3)), iv 0, iv 1] [])) (fun _ k => st106 _ k) ?_
      refine Go.st (f' := (mkF m 163 #[rv a1, .val (.int (N i0)), .val (.double (FP.l2d (F i3))), .second, .val (.int (N i3)), iv 0, iv 1] [(.int (N i0))])) (fun _ k => XS.iloadN X106.here hx rfl (hb hby d4_162) rfl k) ?_
      refine Go.retV X106 hlk hx (t := .int) hret rfl (Or.inl ⟨rfl, Or.inl rfl, _, rfl⟩) (hb hby d4_163) e106 ?_ (by decide) (by decide)
      have c_cd21 := (not_congr (own_lw (F i2) (F i1)).1).mp cd21
      have c_cd69 := (not_congr (own_lw (F i1) (F i3)).1).mp cd69
      have ft107 := (((E_a1.wr W4).wr W101).wr W106)
      have ft108 := ((Fw4.other W101 (Or.inl nt_a1_cA)).other W106 (Or.inl nt_a1_nA))
      have ft109 := (ft102.other W106 (Or.inl nt_a1_nA))
      have ft110 := ((ft5.other W101 (Or.inl nt_a1_cA)).other W106 (Or.inl nt_a1_nA))
      have ft111 := (V_cA_101.other W106 nn)
      exact ⟨rfl, N106, K106, ft107, ft108, ft109, ft110, i3, i1, i2, (FP.l2d (F i3)), u0, (N i3), s0, fun w => by omega, by omega, by omega, by omega, ft111, V_nA_106⟩
set_option maxRecDepth 65536 in
set_option maxHeartbeats 40000000 in
theorem rmR5 (l : Launch) (Z : State) (a0 : Array Value) (hw : ∀ d ∈ tables_1, d.before a0 Z = true) (ws : List Jvm.Cond) (a1 : Addr) (cA : Addr) (nA : Addr) (kA : ClassId) (kN : ClassId) (N : Int32 → Int32) (F : Int32 → Int64) (i0 : Int32) (i1 : Int32) (i2 : Int32) (i3 : Int32) (i4 : Int32) (h0 : Heap) (n0 : Nat) (O0 : Old Z n0 h0) (hF : ∀ i, B53 (F i)) (g_a1 : n0 ≤ a1) (g_cA : n0 ≤ cA) (g_nA : n0 ≤ nA) (hp1 : (F i0).toInt ≤ (F i1).toInt) (hp2 : (F i0).toInt ≤ (F i2).toInt) (hp3 : (F i1).toInt ≤ (F i3).toInt) (hp4 : (F i1).toInt ≤ (F i4).toInt) (E_a1 : Exa Z h0 a1 "com/example/kinetic_city/kineticcity/engine/CostQueue") (F_a1_size : Fld Z h0 a1 "com/example/kinetic_city/kineticcity/engine/CostQueue" "size" "I" (.int 5)) (F_a1_items : Fld Z h0 a1 "com/example/kinetic_city/kineticcity/engine/CostQueue" "items" "[I" (.ref nA)) (F_a1_costs : Fld Z h0 a1 "com/example/kinetic_city/kineticcity/engine/CostQueue" "costs" "[D" (.ref cA)) (V_cA : Arv Z h0 cA kA .double (16 : Int32) [(.double (FP.l2d (F i0))), (.double (FP.l2d (F i1))), (.double (FP.l2d (F i2))), (.double (FP.l2d (F i3))), (.double (FP.l2d (F i4)))] (.double (FP.l2d 0))) (V_nA : Arv Z h0 nA kN .int 16 [(.int (N i0)), (.int (N i1)), (.int (N i2)), (.int (N i3)), (.int (N i4))] (.int 0)) :
    Con l Z (⟨"com/example/kinetic_city/kineticcity/engine/CostQueue", "removeCheapest", "()I"⟩ : MethodName) prog_5_method_5_code 7 (some .int) ws ({ frames := 0, cells := 0, slots := 0, locals := 0 } : Room) #[(.ref a1)] h0 (fun v h L => v = some (.int (N i0)) ∧ Fr n0 L ∧ Keep h0 h [a1, cA, nA] ∧ Exa Z h a1 "com/example/kinetic_city/kineticcity/engine/CostQueue" ∧ Fld Z h a1 "com/example/kinetic_city/kineticcity/engine/CostQueue" "size" "I" (.int 4) ∧ Fld Z h a1 "com/example/kinetic_city/kineticcity/engine/CostQueue" "items" "[I" (.ref nA) ∧ Fld Z h a1 "com/example/kinetic_city/kineticcity/engine/CostQueue" "costs" "[D" (.ref cA) ∧ ∃ (j0 j1 j2 j3 : Int32) (v0 : UInt64) (t0 : Int32), (∀ w : Int32 → Int, w i0 + w j0 + w j1 + w j2 + w j3 = w i0 + w i1 + w i2 + w i3 + w i4) ∧ (F j0).toInt ≤ (F j1).toInt ∧ (F j0).toInt ≤ (F j2).toInt ∧ (F j1).toInt ≤ (F j3).toInt ∧ (F i0).toInt ≤ (F j0).toInt ∧ Arv Z h cA kA .double (16 : Int32) [(.double (FP.l2d (F j0))), (.double (FP.l2d (F j1))), (.double (FP.l2d (F j2))), (.double (FP.l2d (F j3))), (.double v0)] (.double (FP.l2d 0)) ∧ Arv Z h nA kN .int 16 [(.int (N j0)), (.int (N j1)), (.int (N j2)), (.int (N j3)), (.int t0)] (.int 0)) := by
  refine own_body (plainFor_of_name pn_com_example_kinetic_city_kineticcity_engine_CostQueue) ?_
  intro p e s m below meth c s₁ hx hby hml hZ hown hnm hlk hret X0 e0
  have N0 := Fr.nil n0
  have K0 : Keep h0 h0 [a1, cA, nA] := Keep.refl _ _
  refine Go.st (T' := s₁) (f' := (mkF m 0 #[rv a1, .unset, .unset, .unset, .unset, .unset, .unset] [])) (fun _ k => castTop (by first | (simp [entryFrame, mkF, argsToLocals, Value.category]; done) | rfl) k) ?_
  have lt_a1 := E_a1.lt
  have lt_cA := V_cA.lt
  have lt_nA := V_nA.lt
  have nn : cA ≠ nA := own_neArv V_cA V_nA (by decide)
  have nt_a1_cA : a1 ≠ cA := Exa.neArv E_a1 V_cA (ww hw 2 rfl)
  have nt_a1_nA : a1 ≠ nA := Exa.neArv E_a1 V_nA (ww hw 2 rfl)
  refine Go.st (f' := (mkF m 1 #[rv a1, .unset, .unset, .unset, .unset, .unset, .unset] [(.ref a1)])) (fun _ k => XS.aloadN X0.here hx rfl (hb hby d4_0) rfl rfl k) ?_
  obtain ⟨T1, X1, e1, st1⟩ := getF X0 hx hZ hown (host := "") (Or.inl (ww hw 13 rfl)) Via.refl e0 F_a1_items (g := (mkF m 1 #[rv a1, .unset, .unset, .unset, .unset, .unset, .unset] [(.ref a1)])) rfl rfl (hb hby d4_1)
  refine Go.st (f' := (mkF m 4 #[rv a1, .unset, .unset, .unset, .unset, .unset, .unset] [(.ref nA)])) (fun _ k => st1 _ k) ?_
  refine Go.st (f' := (mkF m 5 #[rv a1, .unset, .unset, .unset, .unset, .unset, .unset] [(.int 0), (.ref nA)])) (fun _ k => XS.iconst X1.here hx rfl (hb hby d4_4) k) ?_
  obtain ⟨cl2, Ar2, -, S2, -, H2, -⟩ := id V_nA
  have hin2 : ¬ ((0 : Int32) < 0 ∨ cl2.slots.size ≤ ((0 : Int32)).toNatClampNeg) := inb_of S2 ⟨by decide, by decide⟩
  have hat2 : cl2.slots[((0 : Int32)).toNatClampNeg]? = some (.int (N i0)) := H2.at hin2 rfl
  refine Go.st (f' := (mkF m 6 #[rv a1, .unset, .unset, .unset, .unset, .unset, .unset] [(.int (N i0))])) (fun _ k => X1.iaload hx (j := (0 : Int32)) (v := (.int (N i0))) (by rw [e1]; exact Ar2.1) (State.isArrayOf_alike hZ.alike Ar2.2.1) Ar2.2.2 hin2 hat2 (g := (mkF m 5 #[rv a1, .unset, .unset, .unset, .unset, .unset, .unset] [(.int 0), (.ref nA)])) rfl rfl (hb hby d4_5) _ k) ?_
  refine Go.st (f' := (mkF m 7 #[rv a1, .val (.int (N i0)), .unset, .unset, .unset, .unset, .unset] [])) (fun _ k => XS.istoreN X1.here hx rfl (hb hby d4_6) rfl (l' := #[rv a1, .val (.int (N i0)), .unset, .unset, .unset, .unset, .unset]) rfl k) ?_
  refine Go.st (f' := (mkF m 8 #[rv a1, .val (.int (N i0)), .unset, .unset, .unset, .unset, .unset] [(.ref a1)])) (fun _ k => XS.aloadN X1.here hx rfl (hb hby d4_7) rfl rfl k) ?_
  refine Go.st (f' := (mkF m 9 #[rv a1, .val (.int (N i0)), .unset, .unset, .unset, .unset, .unset] [(.ref a1), (.ref a1)])) (fun _ k => XS.dup X1.here hx rfl (hb hby d4_8) rfl rfl k) ?_
  obtain ⟨T3, X3, e3, st3⟩ := getF X1 hx hZ hown (host := "") (Or.inl (ww hw 20 rfl)) Via.refl e1 F_a1_size (g := (mkF m 9 #[rv a1, .val (.int (N i0)), .unset, .unset, .unset, .unset, .unset] [(.ref a1), (.ref a1)])) rfl rfl (hb hby d4_9)
  refine Go.st (f' := (mkF m 12 #[rv a1, .val (.int (N i0)), .unset, .unset, .unset, .unset, .unset] [(.int 5), (.ref a1)])) (fun _ k => st3 _ k) ?_
  refine Go.st (f' := (mkF m 13 #[rv a1, .val (.int (N i0)), .unset, .unset, .unset, .unset, .unset] [(.int 1), (.int 5), (.ref a1)])) (fun _ k => XS.iconst X3.here hx rfl (hb hby d4_12) k) ?_
  refine Go.st (f' := (mkF m 14 #[rv a1, .val (.int (N i0)), .unset, .unset, .unset, .unset, .unset] [(.int 4), (.ref a1)])) (fun _ k => XS.isub X3.here hx rfl (hb hby d4_13) rfl k) ?_
  obtain ⟨T4, h4, X4, e4, W4, st4⟩ := putF X3 hx hZ hown (host := "") (Or.inl (ww hw 20 rfl)) Via.refl e3 F_a1_size E_a1 (Or.inl (ww hw 21 rfl)) (ww hw 2 rfl) (ty := .int) (by decide) rfl rfl (g := (mkF m 14 #[rv a1, .val (.int (N i0)), .unset, .unset, .unset, .unset, .unset] [(.int 4), (.ref a1)])) rfl rfl (hb hby d4_14)
  have N4 := Fr.snoc X4 N0 g_a1
  have O4 : Old Z n0 h4 := O0.wr W4 g_a1
  have K4 : Keep h0 h4 [a1, cA, nA] := K0.wr W4 (Or.inl (List.mem_of_getElem? (i := 0) rfl))
  have Fw4 := F_a1_size.same W4
  refine Go.st (f' := (mkF m 17 #[rv a1, .val (.int (N i0)), .unset, .unset, .unset, .unset, .unset] [])) (fun _ k => st4 _ k) ?_
  refine Go.st (f' := (mkF m 18 #[rv a1, .val (.int (N i0)), .unset, .unset, .unset, .unset, .unset] [(.ref a1)])) (fun _ k => XS.aloadN X4.here hx rfl (hb hby d4_17) rfl rfl k) ?_
  have ft5 := (F_a1_costs.other W4 (Or.inr (slot_ne (Or.inl (ww hw 11 rfl)) (Or.inl (ww hw 21 rfl)) (by decide) (t := (.array .double)) (t' := .int) (by decide) (by decide))))
  obtain ⟨T6, X6, e6, st6⟩ := getF X4 hx hZ hown (host := "") (Or.inl (ww hw 10 rfl)) Via.refl e4 ft5 (g := (mkF m 18 #[rv a1, .val (.int (N i0)), .unset, .unset, .unset, .unset, .unset] [(.ref a1)])) rfl rfl (hb hby d4_18)
  refine Go.st (f' := (mkF m 21 #[rv a1, .val (.int (N i0)), .unset, .unset, .unset, .unset, .unset] [(.ref cA)])) (fun _ k => st6 _ k) ?_
  refine Go.st (f' := (mkF m 22 #[rv a1, .val (.int (N i0)), .unset, .unset, .unset, .unset, .unset] [(.ref a1), (.ref cA)])) (fun _ k => XS.aloadN X6.here hx rfl (hb hby d4_21) rfl rfl k) ?_
  obtain ⟨T7, X7, e7, st7⟩ := getF X6 hx hZ hown (host := "") (Or.inl (ww hw 20 rfl)) Via.refl e6 Fw4 (g := (mkF m 22 #[rv a1, .val (.int (N i0)), .unset, .unset, .unset, .unset, .unset] [(.ref a1), (.ref cA)])) rfl rfl (hb hby d4_22)
  refine Go.st (f' := (mkF m 25 #[rv a1, .val (.int (N i0)), .unset, .unset, .unset, .unset, .unset] [(.int 4), (.ref cA)])) (fun _ k => st7 _ k) ?_
  have ft9 := (V_cA.other W4 (Ne.symm nt_a1_cA))
  obtain ⟨cl8, Ar8, -, S8, -, H8, -⟩ := id ft9
  have hin8 : ¬ ((4 : Int32) < 0 ∨ cl8.slots.size ≤ ((4 : Int32)).toNatClampNeg) := inb_of S8 ⟨by decide, by decide⟩
  have hat8 : cl8.slots[((4 : Int32)).toNatClampNeg]? = some (.double (FP.l2d (F i4))) := H8.at hin8 rfl
  refine Go.st (f' := (mkF m 26 #[rv a1, .val (.int (N i0)), .unset, .unset, .unset, .unset, .unset] [(.double (FP.l2d (F i4)))])) (fun _ k => X7.daload hx (j := (4 : Int32)) (v := (.double (FP.l2d (F i4)))) (by rw [e7]; exact Ar8.1) (State.isArrayOf_alike hZ.alike Ar8.2.1) Ar8.2.2 hin8 hat8 (g := (mkF m 25 #[rv a1, .val (.int (N i0)), .unset, .unset, .unset, .unset, .unset] [(.int 4), (.ref cA)])) rfl rfl (hb hby d4_25) _ k) ?_
  refine Go.st (f' := (mkF m 27 #[rv a1, .val (.int (N i0)), .val (.double (FP.l2d (F i4))), .second, .unset, .unset, .unset] [])) (fun _ k => XS.dstoreN X7.here hx rfl (hb hby d4_26) rfl (l' := #[rv a1, .val (.int (N i0)), .val (.double (FP.l2d (F i4))), .second, .unset, .unset, .unset]) rfl k) ?_
  refine Go.st (f' := (mkF m 28 #[rv a1, .val (.int (N i0)), .val (.double (FP.l2d (F i4))), .second, .unset, .unset, .unset] [(.ref a1)])) (fun _ k => XS.aloadN X7.here hx rfl (hb hby d4_27) rfl rfl k) ?_
  have ft10 := (F_a1_items.other W4 (Or.inr (slot_ne (Or.inl (ww hw 14 rfl)) (Or.inl (ww hw 21 rfl)) (by decide) (t := (.array .int)) (t' := .int) (by decide) (by decide))))
  obtain ⟨T11, X11, e11, st11⟩ := getF X7 hx hZ hown (host := "") (Or.inl (ww hw 13 rfl)) Via.refl e7 ft10 (g := (mkF m 28 #[rv a1, .val (.int (N i0)), .val (.double (FP.l2d (F i4))), .second, .unset, .unset, .unset] [(.ref a1)])) rfl rfl (hb hby d4_28)
  refine Go.st (f' := (mkF m 31 #[rv a1, .val (.int (N i0)), .val (.double (FP.l2d (F i4))), .second, .unset, .unset, .unset] [(.ref nA)])) (fun _ k => st11 _ k) ?_
  refine Go.st (f' := (mkF m 32 #[rv a1, .val (.int (N i0)), .val (.double (FP.l2d (F i4))), .second, .unset, .unset, .unset] [(.ref a1), (.ref nA)])) (fun _ k => XS.aloadN X11.here hx rfl (hb hby d4_31) rfl rfl k) ?_
  obtain ⟨T12, X12, e12, st12⟩ := getF X11 hx hZ hown (host := "") (Or.inl (ww hw 20 rfl)) Via.refl e11 Fw4 (g := (mkF m 32 #[rv a1, .val (.int (N i0)), .val (.double (FP.l2d (F i4))), .second, .unset, .unset, .unset] [(.ref a1), (.ref nA)])) rfl rfl (hb hby d4_32)
  refine Go.st (f' := (mkF m 35 #[rv a1, .val (.int (N i0)), .val (.double (FP.l2d (F i4))), .second, .unset, .unset, .unset] [(.int 4), (.ref nA)])) (fun _ k => st12 _ k) ?_
  have ft14 := (V_nA.other W4 (Ne.symm nt_a1_nA))
  obtain ⟨cl13, Ar13, -, S13, -, H13, -⟩ := id ft14
  have hin13 : ¬ ((4 : Int32) < 0 ∨ cl13.slots.size ≤ ((4 : Int32)).toNatClampNeg) := inb_of S13 ⟨by decide, by decide⟩
  have hat13 : cl13.slots[((4 : Int32)).toNatClampNeg]? = some (.int (N i4)) := H13.at hin13 rfl
  refine Go.st (f' := (mkF m 36 #[rv a1, .val (.int (N i0)), .val (.double (FP.l2d (F i4))), .second, .unset, .unset, .unset] [(.int (N i4))])) (fun _ k => X12.iaload hx (j := (4 : Int32)) (v := (.int (N i4))) (by rw [e12]; exact Ar13.1) (State.isArrayOf_alike hZ.alike Ar13.2.1) Ar13.2.2 hin13 hat13 (g := (mkF m 35 #[rv a1, .val (.int (N i0)), .val (.double (FP.l2d (F i4))), .second, .unset, .unset, .unset] [(.int 4), (.ref nA)])) rfl rfl (hb hby d4_35) _ k) ?_
  refine Go.st (f' := (mkF m 38 #[rv a1, .val (.int (N i0)), .val (.double (FP.l2d (F i4))), .second, .val (.int (N i4)), .unset, .unset] [])) (fun _ k => XS.istore X12.here hx rfl (hb hby d4_36) rfl (l' := #[rv a1, .val (.int (N i0)), .val (.double (FP.l2d (F i4))), .second, .val (.int (N i4)), .unset, .unset]) rfl k) ?_
  refine Go.st (f' := (mkF m 39 #[rv a1, .val (.int (N i0)), .val (.double (FP.l2d (F i4))), .second, .val (.int (N i4)), .unset, .unset] [(.int 0)])) (fun _ k => XS.iconst X12.here hx rfl (hb hby d4_38) k) ?_
  refine Go.st (f' := (mkF m 41 #[rv a1, .val (.int (N i0)), .val (.double (FP.l2d (F i4))), .second, .val (.int (N i4)), iv 0, .unset] [])) (fun _ k => XS.istore X12.here hx rfl (hb hby d4_39) rfl (l' := #[rv a1, .val (.int (N i0)), .val (.double (FP.l2d (F i4))), .second, .val (.int (N i4)), iv 0, .unset]) rfl k) ?_
  refine Go.st (f' := (mkF m 42 #[rv a1, .val (.int (N i0)), .val (.double (FP.l2d (F i4))), .second, .val (.int (N i4)), iv 0, .unset] [(.int 1)])) (fun _ k => XS.iconst X12.here hx rfl (hb hby d4_41) k) ?_
  refine Go.st (f' := (mkF m 44 #[rv a1, .val (.int (N i0)), .val (.double (FP.l2d (F i4))), .second, .val (.int (N i4)), iv 0, iv 1] [])) (fun _ k => XS.istore X12.here hx rfl (hb hby d4_42) rfl (l' := #[rv a1, .val (.int (N i0)), .val (.double (FP.l2d (F i4))), .second, .val (.int (N i4)), iv 0, iv 1]) rfl k) ?_
  refine Go.st (f' := (mkF m 46 #[rv a1, .val (.int (N i0)), .val (.double (FP.l2d (F i4))), .second, .val (.int (N i4)), iv 0, iv 1] [(.int 1)])) (fun _ k => XS.iload X12.here hx rfl (hb hby d4_44) rfl k) ?_
  refine Go.st (f' := (mkF m 47 #[rv a1, .val (.int (N i0)), .val (.double (FP.l2d (F i4))), .second, .val (.int (N i4)), iv 0, iv 1] [(.ref a1), (.int 1)])) (fun _ k => XS.aloadN X12.here hx rfl (hb hby d4_46) rfl rfl k) ?_
  obtain ⟨T15, X15, e15, st15⟩ := getF X12 hx hZ hown (host := "") (Or.inl (ww hw 20 rfl)) Via.refl e12 Fw4 (g := (mkF m 47 #[rv a1, .val (.int (N i0)), .val (.double (FP.l2d (F i4))), .second, .val (.int (N i4)), iv 0, iv 1] [(.ref a1), (.int 1)])) rfl rfl (hb hby d4_47)
  refine Go.st (f' := (mkF m 50 #[rv a1, .val (.int (N i0)), .val (.double (FP.l2d (F i4))), .second, .val (.int (N i4)), iv 0, iv 1] [(.int 4), (.int 1)])) (fun _ k => st15 _ k) ?_
  refine Go.st (f' := (mkF m 53 #[rv a1, .val (.int (N i0)), .val (.double (FP.l2d (F i4))), .second, .val (.int (N i4)), iv 0, iv 1] [])) (fun _ k => XS.icmpNo X15.here hx rfl (hb hby d4_50) rfl (by decide) k) ?_
  refine Go.st (f' := (mkF m 55 #[rv a1, .val (.int (N i0)), .val (.double (FP.l2d (F i4))), .second, .val (.int (N i4)), iv 0, iv 1] [(.int 1)])) (fun _ k => XS.iload X15.here hx rfl (hb hby d4_53) rfl k) ?_
  refine Go.st (f' := (mkF m 56 #[rv a1, .val (.int (N i0)), .val (.double (FP.l2d (F i4))), .second, .val (.int (N i4)), iv 0, iv 1] [(.int 1), (.int 1)])) (fun _ k => XS.iconst X15.here hx rfl (hb hby d4_55) k) ?_
  refine Go.st (f' := (mkF m 57 #[rv a1, .val (.int (N i0)), .val (.double (FP.l2d (F i4))), .second, .val (.int (N i4)), iv 0, iv 1] [(.int 2)])) (fun _ k => XS.iadd X15.here hx rfl (hb hby d4_56) rfl k) ?_
  refine Go.st (f' := (mkF m 58 #[rv a1, .val (.int (N i0)), .val (.double (FP.l2d (F i4))), .second, .val (.int (N i4)), iv 0, iv 1] [(.ref a1), (.int 2)])) (fun _ k => XS.aloadN X15.here hx rfl (hb hby d4_57) rfl rfl k) ?_
  obtain ⟨T16, X16, e16, st16⟩ := getF X15 hx hZ hown (host := "") (Or.inl (ww hw 20 rfl)) Via.refl e15 Fw4 (g := (mkF m 58 #[rv a1, .val (.int (N i0)), .val (.double (FP.l2d (F i4))), .second, .val (.int (N i4)), iv 0, iv 1] [(.ref a1), (.int 2)])) rfl rfl (hb hby d4_58)
  refine Go.st (f' := (mkF m 61 #[rv a1, .val (.int (N i0)), .val (.double (FP.l2d (F i4))), .second, .val (.int (N i4)), iv 0, iv 1] [(.int 4), (.int 2)])) (fun _ k => st16 _ k) ?_
  refine Go.st (f' := (mkF m 64 #[rv a1, .val (.int (N i0)), .val (.double (FP.l2d (F i4))), .second, .val (.int (N i4)), iv 0, iv 1] [])) (fun _ k => XS.icmpNo X16.here hx rfl (hb hby d4_61) rfl (by decide) k) ?_
  refine Go.st (f' := (mkF m 65 #[rv a1, .val (.int (N i0)), .val (.double (FP.l2d (F i4))), .second, .val (.int (N i4)), iv 0, iv 1] [(.ref a1)])) (fun _ k => XS.aloadN X16.here hx rfl (hb hby d4_64) rfl rfl k) ?_
  obtain ⟨T17, X17, e17, st17⟩ := getF X16 hx hZ hown (host := "") (Or.inl (ww hw 10 rfl)) Via.refl e16 ft5 (g := (mkF m 65 #[rv a1, .val (.int (N i0)), .val (.double (FP.l2d (F i4))), .second, .val (.int (N i4)), iv 0, iv 1] [(.ref a1)])) rfl rfl (hb hby d4_65)
  refine Go.st (f' := (mkF m 68 #[rv a1, .val (.int (N i0)), .val (.double (FP.l2d (F i4))), .second, .val (.int (N i4)), iv 0, iv 1] [(.ref cA)])) (fun _ k => st17 _ k) ?_
  refine Go.st (f' := (mkF m 70 #[rv a1, .val (.int (N i0)), .val (.double (FP.l2d (F i4))), .second, .val (.int (N i4)), iv 0, iv 1] [(.int 1), (.ref cA)])) (fun _ k => XS.iload X17.here hx rfl (hb hby d4_68) rfl k) ?_
  refine Go.st (f' := (mkF m 71 #[rv a1, .val (.int (N i0)), .val (.double (FP.l2d (F i4))), .second, .val (.int (N i4)), iv 0, iv 1] [(.int 1), (.int 1), (.ref cA)])) (fun _ k => XS.iconst X17.here hx rfl (hb hby d4_70) k) ?_
  refine Go.st (f' := (mkF m 72 #[rv a1, .val (.int (N i0)), .val (.double (FP.l2d (F i4))), .second, .val (.int (N i4)), iv 0, iv 1] [(.int 2), (.ref cA)])) (fun _ k => XS.iadd X17.here hx rfl (hb hby d4_71) rfl k) ?_
  obtain ⟨cl18, Ar18, -, S18, -, H18, -⟩ := id ft9
  have hin18 : ¬ ((2 : Int32) < 0 ∨ cl18.slots.size ≤ ((2 : Int32)).toNatClampNeg) := inb_of S18 ⟨by decide, by decide⟩
  have hat18 : cl18.slots[((2 : Int32)).toNatClampNeg]? = some (.double (FP.l2d (F i2))) := H18.at hin18 rfl
  refine Go.st (f' := (mkF m 73 #[rv a1, .val (.int (N i0)), .val (.double (FP.l2d (F i4))), .second, .val (.int (N i4)), iv 0, iv 1] [(.double (FP.l2d (F i2)))])) (fun _ k => X17.daload hx (j := (2 : Int32)) (v := (.double (FP.l2d (F i2)))) (by rw [e17]; exact Ar18.1) (State.isArrayOf_alike hZ.alike Ar18.2.1) Ar18.2.2 hin18 hat18 (g := (mkF m 72 #[rv a1, .val (.int (N i0)), .val (.double (FP.l2d (F i4))), .second, .val (.int (N i4)), iv 0, iv 1] [(.int 2), (.ref cA)])) rfl rfl (hb hby d4_72) _ k) ?_
  refine Go.st (f' := (mkF m 74 #[rv a1, .val (.int (N i0)), .val (.double (FP.l2d (F i4))), .second, .val (.int (N i4)), iv 0, iv 1] [(.ref a1), (.double (FP.l2d (F i2)))])) (fun _ k => XS.aloadN X17.here hx rfl (hb hby d4_73) rfl rfl k) ?_
  obtain ⟨T19, X19, e19, st19⟩ := getF X17 hx hZ hown (host := "") (Or.inl (ww hw 10 rfl)) Via.refl e17 ft5 (g := (mkF m 74 #[rv a1, .val (.int (N i0)), .val (.double (FP.l2d (F i4))), .second, .val (.int (N i4)), iv 0, iv 1] [(.ref a1), (.double (FP.l2d (F i2)))])) rfl rfl (hb hby d4_74)
  refine Go.st (f' := (mkF m 77 #[rv a1, .val (.int (N i0)), .val (.double (FP.l2d (F i4))), .second, .val (.int (N i4)), iv 0, iv 1] [(.ref cA), (.double (FP.l2d (F i2)))])) (fun _ k => st19 _ k) ?_
  refine Go.st (f' := (mkF m 79 #[rv a1, .val (.int (N i0)), .val (.double (FP.l2d (F i4))), .second, .val (.int (N i4)), iv 0, iv 1] [(.int 1), (.ref cA), (.double (FP.l2d (F i2)))])) (fun _ k => XS.iload X19.here hx rfl (hb hby d4_77) rfl k) ?_
  obtain ⟨cl20, Ar20, -, S20, -, H20, -⟩ := id ft9
  have hin20 : ¬ ((1 : Int32) < 0 ∨ cl20.slots.size ≤ ((1 : Int32)).toNatClampNeg) := inb_of S20 ⟨by decide, by decide⟩
  have hat20 : cl20.slots[((1 : Int32)).toNatClampNeg]? = some (.double (FP.l2d (F i1))) := H20.at hin20 rfl
  refine Go.st (f' := (mkF m 80 #[rv a1, .val (.int (N i0)), .val (.double (FP.l2d (F i4))), .second, .val (.int (N i4)), iv 0, iv 1] [(.double (FP.l2d (F i1))), (.double (FP.l2d (F i2)))])) (fun _ k => X19.daload hx (j := (1 : Int32)) (v := (.double (FP.l2d (F i1)))) (by rw [e19]; exact Ar20.1) (State.isArrayOf_alike hZ.alike Ar20.2.1) Ar20.2.2 hin20 hat20 (g := (mkF m 79 #[rv a1, .val (.int (N i0)), .val (.double (FP.l2d (F i4))), .second, .val (.int (N i4)), iv 0, iv 1] [(.int 1), (.ref cA), (.double (FP.l2d (F i2)))])) rfl rfl (hb hby d4_79) _ k) ?_
  refine Go.st (f' := (mkF m 81 #[rv a1, .val (.int (N i0)), .val (.double (FP.l2d (F i4))), .second, .val (.int (N i4)), iv 0, iv 1] [(.int (lcmpW (F i2) (F i1)))])) (fun _ k => XS.dcmpS X19.here hx rfl (hb hby d4_80) rfl (dcmpV_w (hF _) (hF _) _) k) ?_
  by_cases cd21 : (lcmpW (F i2) (F i1)) < (0 : Int32)
  · refine Go.st (f' := (mkF m 84 #[rv a1, .val (.int (N i0)), .val (.double (FP.l2d (F i4))), .second, .val (.int (N i4)), iv 0, iv 1] [])) (fun _ k => XS.ifNo X19.here hx rfl (hb hby d4_81) rfl ((if0 _ _).trans (tlt cd21).2.1) k) ?_
    refine Go.st (f' := (mkF m 87 #[rv a1, .val (.int (N i0)), .val (.double (FP.l2d (F i4))), .second, .val (.int (N i4)), iv 0, iv 2] [])) (fun _ k => XS.iinc X19.here hx rfl (hb hby d4_84) rfl (l' := #[rv a1, .val (.int (N i0)), .val (.double (FP.l2d (F i4))), .second, .val (.int (N i4)), iv 0, iv 2]) rfl k) ?_
    refine Go.st (f' := (mkF m 88 #[rv a1, .val (.int (N i0)), .val (.double (FP.l2d (F i4))), .second, .val (.int (N i4)), iv 0, iv 2] [(.ref a1)])) (fun _ k => XS.aloadN X19.here hx rfl (hb hby d4_87) rfl rfl k) ?_
    obtain ⟨T22, X22, e22, st22⟩ := getF X19 hx hZ hown (host := "") (Or.inl (ww hw 10 rfl)) Via.refl e19 ft5 (g := (mkF m 88 #[rv a1, .val (.int (N i0)), .val (.double (FP.l2d (F i4))), .second, .val (.int (N i4)), iv 0, iv 2] [(.ref a1)])) rfl rfl (hb hby d4_88)
    refine Go.st (f' := (mkF m 91 #[rv a1, .val (.int (N i0)), .val (.double (FP.l2d (F i4))), .second, .val (.int (N i4)), iv 0, iv 2] [(.ref cA)])) (fun _ k => st22 _ k) ?_
    refine Go.st (f' := (mkF m 93 #[rv a1, .val (.int (N i0)), .val (.double (FP.l2d (F i4))), .second, .val (.int (N i4)), iv 0, iv 2] [(.int 2), (.ref cA)])) (fun _ k => XS.iload X22.here hx rfl (hb hby d4_91) rfl k) ?_
    obtain ⟨cl23, Ar23, -, S23, -, H23, -⟩ := id ft9
    have hin23 : ¬ ((2 : Int32) < 0 ∨ cl23.slots.size ≤ ((2 : Int32)).toNatClampNeg) := inb_of S23 ⟨by decide, by decide⟩
    have hat23 : cl23.slots[((2 : Int32)).toNatClampNeg]? = some (.double (FP.l2d (F i2))) := H23.at hin23 rfl
    refine Go.st (f' := (mkF m 94 #[rv a1, .val (.int (N i0)), .val (.double (FP.l2d (F i4))), .second, .val (.int (N i4)), iv 0, iv 2] [(.double (FP.l2d (F i2)))])) (fun _ k => X22.daload hx (j := (2 : Int32)) (v := (.double (FP.l2d (F i2)))) (by rw [e22]; exact Ar23.1) (State.isArrayOf_alike hZ.alike Ar23.2.1) Ar23.2.2 hin23 hat23 (g := (mkF m 93 #[rv a1, .val (.int (N i0)), .val (.double (FP.l2d (F i4))), .second, .val (.int (N i4)), iv 0, iv 2] [(.int 2), (.ref cA)])) rfl rfl (hb hby d4_93) _ k) ?_
    refine Go.st (f' := (mkF m 95 #[rv a1, .val (.int (N i0)), .val (.double (FP.l2d (F i4))), .second, .val (.int (N i4)), iv 0, iv 2] [(.double (FP.l2d (F i4))), (.double (FP.l2d (F i2)))])) (fun _ k => XS.dloadN X22.here hx rfl (hb hby d4_94) rfl k) ?_
    refine Go.st (f' := (mkF m 96 #[rv a1, .val (.int (N i0)), .val (.double (FP.l2d (F i4))), .second, .val (.int (N i4)), iv 0, iv 2] [(.int (lcmpW (F i2) (F i4)))])) (fun _ k => XS.dcmpS X22.here hx rfl (hb hby d4_95) rfl (dcmpV_w (hF _) (hF _) _) k) ?_
    by_cases cd24 : (lcmpW (F i2) (F i4)) < (0 : Int32)
    · refine Go.st (f' := (mkF m 102 #[rv a1, .val (.int (N i0)), .val (.double (FP.l2d (F i4))), .second, .val (.int (N i4)), iv 0, iv 2] [])) (fun _ k => XS.ifYes X22.here hx rfl (pc0 := 96) (pc' := 102) rfl (hb hby d4_96) rfl ((if0 _ _).trans (tlt cd24).1) (by decide) (by decide) k) ?_
      refine Go.st (f' := (mkF m 103 #[rv a1, .val (.int (N i0)), .val (.double (FP.l2d (F i4))), .second, .val (.int (N i4)), iv 0, iv 2] [(.ref a1)])) (fun _ k => XS.aloadN X22.here hx rfl (hb hby d4_102) rfl rfl k) ?_
      obtain ⟨T25, X25, e25, st25⟩ := getF X22 hx hZ hown (host := "") (Or.inl (ww hw 10 rfl)) Via.refl e22 ft5 (g := (mkF m 103 #[rv a1, .val (.int (N i0)), .val (.double (FP.l2d (F i4))), .second, .val (.int (N i4)), iv 0, iv 2] [(.ref a1)])) rfl rfl (hb hby d4_103)
      refine Go.st (f' := (mkF m 106 #[rv a1, .val (.int (N i0)), .val (.double (FP.l2d (F i4))), .second, .val (.int (N i4)), iv 0, iv 2] [(.ref cA)])) (fun _ k => st25 _ k) ?_
      refine Go.st (f' := (mkF m 108 #[rv a1, .val (.int (N i0)), .val (.double (FP.l2d (F i4))), .second, .val (.int (N i4)), iv 0, iv 2] [(.int 0), (.ref cA)])) (fun _ k => XS.iload X25.here hx rfl (hb hby d4_106) rfl k) ?_
      refine Go.st (f' := (mkF m 109 #[rv a1, .val (.int (N i0)), .val (.double (FP.l2d (F i4))), .second, .val (.int (N i4)), iv 0, iv 2] [(.ref a1), (.int 0), (.ref cA)])) (fun _ k => XS.aloadN X25.here hx rfl (hb hby d4_108) rfl rfl k) ?_
      obtain ⟨T26, X26, e26, st26⟩ := getF X25 hx hZ hown (host := "") (Or.inl (ww hw 10 rfl)) Via.refl e25 ft5 (g := (mkF m 109 #[rv a1, .val (.int (N i0)), .val (.double (FP.l2d (F i4))), .second, .val (.int (N i4)), iv 0, iv 2] [(.ref a1), (.int 0), (.ref cA)])) rfl rfl (hb hby d4_109)
      refine Go.st (f' := (mkF m 112 #[rv a1, .val (.int (N i0)), .val (.double (FP.l2d (F i4))), .second, .val (.int (N i4)), iv 0, iv 2] [(.ref cA), (.int 0), (.ref cA)])) (fun _ k => st26 _ k) ?_
      refine Go.st (f' := (mkF m 114 #[rv a1, .val (.int (N i0)), .val (.double (FP.l2d (F i4))), .second, .val (.int (N i4)), iv 0, iv 2] [(.int 2), (.ref cA), (.int 0), (.ref cA)])) (fun _ k => XS.iload X26.here hx rfl (hb hby d4_112) rfl k) ?_
      obtain ⟨cl27, Ar27, -, S27, -, H27, -⟩ := id ft9
      have hin27 : ¬ ((2 : Int32) < 0 ∨ cl27.slots.size ≤ ((2 : Int32)).toNatClampNeg) := inb_of S27 ⟨by decide, by decide⟩
      have hat27 : cl27.slots[((2 : Int32)).toNatClampNeg]? = some (.double (FP.l2d (F i2))) := H27.at hin27 rfl
      refine Go.st (f' := (mkF m 115 #[rv a1, .val (.int (N i0)), .val (.double (FP.l2d (F i4))), .second, .val (.int (N i4)), iv 0, iv 2] [(.double (FP.l2d (F i2))), (.int 0), (.ref cA)])) (fun _ k => X26.daload hx (j := (2 : Int32)) (v := (.double (FP.l2d (F i2)))) (by rw [e26]; exact Ar27.1) (State.isArrayOf_alike hZ.alike Ar27.2.1) Ar27.2.2 hin27 hat27 (g := (mkF m 114 #[rv a1, .val (.int (N i0)), .val (.double (FP.l2d (F i4))), .second, .val (.int (N i4)), iv 0, iv 2] [(.int 2), (.ref cA), (.int 0), (.ref cA)])) rfl rfl (hb hby d4_114) _ k) ?_
      obtain ⟨cl28, Ar28, q28, S28, Nx28, H28, G28⟩ := id ft9
      have hin28 : ¬ ((0 : Int32) < 0 ∨ cl28.slots.size ≤ ((0 : Int32)).toNatClampNeg) := inb_of S28 ⟨by decide, by decide⟩
      obtain ⟨T29, h29, X29, e29, W29, st29⟩ := stD X26 hx hZ e26 Ar28 (j := (0 : Int32)) hin28 (g := (mkF m 115 #[rv a1, .val (.int (N i0)), .val (.double (FP.l2d (F i4))), .second, .val (.int (N i4)), iv 0, iv 2] [(.double (FP.l2d (F i2))), (.int 0), (.ref cA)])) rfl rfl (hb hby d4_115)
      have V_cA_29 : Arv Z h29 cA kA .double (16 : Int32) [(.double (FP.l2d (F i2))), (.double (FP.l2d (F i1))), (.double (FP.l2d (F i2))), (.double (FP.l2d (F i3))), (.double (FP.l2d (F i4)))] (.double (FP.l2d 0)) := Arv.set Ar28 q28 S28 Nx28 H28 G28 rfl W29 0 rfl (Nat.le_of_ble_eq_true rfl)
      have N29 := Fr.snoc X29 N4 g_cA
      have O29 : Old Z n0 h29 := O4.wr W29 g_cA
      have K29 : Keep h0 h29 [a1, cA, nA] := K4.wr W29 (Or.inl (List.mem_of_getElem? (i := 1) rfl))
      refine Go.st (f' := (mkF m 116 #[rv a1, .val (.int (N i0)), .val (.double (FP.l2d (F i4))), .second, .val (.int (N i4)), iv 0, iv 2] [])) (fun _ k => st29 _ k) ?_
      refine Go.st (f' := (mkF m 117 #[rv a1, .val (.int (N i0)), .val (.double (FP.l2d (F i4))), .second, .val (.int (N i4)), iv 0, iv 2] [(.ref a1)])) (fun _ k => XS.aloadN X29.here hx rfl (hb hby d4_116) rfl rfl k) ?_
      have ft30 := (ft10.other W29 (Or.inl nt_a1_cA))
      obtain ⟨T31, X31, e31, st31⟩ := getF X29 hx hZ hown (host := "") (Or.inl (ww hw 13 rfl)) Via.refl e29 ft30 (g := (mkF m 117 #[rv a1, .val (.int (N i0)), .val (.double (FP.l2d (F i4))), .second, .val (.int (N i4)), iv 0, iv 2] [(.ref a1)])) rfl rfl (hb hby d4_117)
      refine Go.st (f' := (mkF m 120 #[rv a1, .val (.int (N i0)), .val (.double (FP.l2d (F i4))), .second, .val (.int (N i4)), iv 0, iv 2] [(.ref nA)])) (fun _ k => st31 _ k) ?_
      refine Go.st (f' := (mkF m 122 #[rv a1, .val (.int (N i0)), .val (.double (FP.l2d (F i4))), .second, .val (.int (N i4)), iv 0, iv 2] [(.int 0), (.ref nA)])) (fun _ k => XS.iload X31.here hx rfl (hb hby d4_120) rfl k) ?_
      refine Go.st (f' := (mkF m 123 #[rv a1, .val (.int (N i0)), .val (.double (FP.l2d (F i4))), .second, .val (.int (N i4)), iv 0, iv 2] [(.ref a1), (.int 0), (.ref nA)])) (fun _ k => XS.aloadN X31.here hx rfl (hb hby d4_122) rfl rfl k) ?_
      obtain ⟨T32, X32, e32, st32⟩ := getF X31 hx hZ hown (host := "") (Or.inl (ww hw 13 rfl)) Via.refl e31 ft30 (g := (mkF m 123 #[rv a1, .val (.int (N i0)), .val (.double (FP.l2d (F i4))), .second, .val (.int (N i4)), iv 0, iv 2] [(.ref a1), (.int 0), (.ref nA)])) rfl rfl (hb hby d4_123)
      refine Go.st (f' := (mkF m 126 #[rv a1, .val (.int (N i0)), .val (.double (FP.l2d (F i4))), .second, .val (.int (N i4)), iv 0, iv 2] [(.ref nA), (.int 0), (.ref nA)])) (fun _ k => st32 _ k) ?_
      refine Go.st (f' := (mkF m 128 #[rv a1, .val (.int (N i0)), .val (.double (FP.l2d (F i4))), .second, .val (.int (N i4)), iv 0, iv 2] [(.int 2), (.ref nA), (.int 0), (.ref nA)])) (fun _ k => XS.iload X32.here hx rfl (hb hby d4_126) rfl k) ?_
      have ft34 := (ft14.other W29 (Ne.symm nn))
      obtain ⟨cl33, Ar33, -, S33, -, H33, -⟩ := id ft34
      have hin33 : ¬ ((2 : Int32) < 0 ∨ cl33.slots.size ≤ ((2 : Int32)).toNatClampNeg) := inb_of S33 ⟨by decide, by decide⟩
      have hat33 : cl33.slots[((2 : Int32)).toNatClampNeg]? = some (.int (N i2)) := H33.at hin33 rfl
      refine Go.st (f' := (mkF m 129 #[rv a1, .val (.int (N i0)), .val (.double (FP.l2d (F i4))), .second, .val (.int (N i4)), iv 0, iv 2] [(.int (N i2)), (.int 0), (.ref nA)])) (fun _ k => X32.iaload hx (j := (2 : Int32)) (v := (.int (N i2))) (by rw [e32]; exact Ar33.1) (State.isArrayOf_alike hZ.alike Ar33.2.1) Ar33.2.2 hin33 hat33 (g := (mkF m 128 #[rv a1, .val (.int (N i0)), .val (.double (FP.l2d (F i4))), .second, .val (.int (N i4)), iv 0, iv 2] [(.int 2), (.ref nA), (.int 0), (.ref nA)])) rfl rfl (hb hby d4_128) _ k) ?_
      obtain ⟨cl35, Ar35, q35, S35, Nx35, H35, G35⟩ := id ft34
      have hin35 : ¬ ((0 : Int32) < 0 ∨ cl35.slots.size ≤ ((0 : Int32)).toNatClampNeg) := inb_of S35 ⟨by decide, by decide⟩
      obtain ⟨T36, h36, X36, e36, W36, st36⟩ := stI X32 hx hZ e32 Ar35 (j := (0 : Int32)) hin35 (g := (mkF m 129 #[rv a1, .val (.int (N i0)), .val (.double (FP.l2d (F i4))), .second, .val (.int (N i4)), iv 0, iv 2] [(.int (N i2)), (.int 0), (.ref nA)])) rfl rfl (hb hby d4_129)
      have V_nA_36 : Arv Z h36 nA kN .int (16 : Int32) [(.int (N i2)), (.int (N i1)), (.int (N i2)), (.int (N i3)), (.int (N i4))] (.int (0 : Int32)) := Arv.set Ar35 q35 S35 Nx35 H35 G35 rfl W36 0 rfl (Nat.le_of_ble_eq_true rfl)
      have N36 := Fr.snoc X36 N29 g_nA
      have O36 : Old Z n0 h36 := O29.wr W36 g_nA
      have K36 : Keep h0 h36 [a1, cA, nA] := K29.wr W36 (Or.inl (List.mem_of_getElem? (i := 2) rfl))
      refine Go.st (f' := (mkF m 130 #[rv a1, .val (.int (N i0)), .val (.double (FP.l2d (F i4))), .second, .val (.int (N i4)), iv 0, iv 2] [])) (fun _ k => st36 _ k) ?_
      refine Go.st (f' := (mkF m 132 #[rv a1, .val (.int (N i0)), .val (.double (FP.l2d (F i4))), .second, .val (.int (N i4)), iv 0, iv 2] [(.int 2)])) (fun _ k => XS.iload X36.here hx rfl (hb hby d4_130) rfl k) ?_
      refine Go.st (f' := (mkF m 134 #[rv a1, .val (.int (N i0)), .val (.double (FP.l2d (F i4))), .second, .val (.int (N i4)), iv 2, iv 2] [])) (fun _ k => XS.istore X36.here hx rfl (hb hby d4_132) rfl (l' := #[rv a1, .val (.int (N i0)), .val (.double (FP.l2d (F i4))), .second, .val (.int (N i4)), iv 2, iv 2]) rfl k) ?_
      refine Go.st (f' := (mkF m 135 #[rv a1, .val (.int (N i0)), .val (.double (FP.l2d (F i4))), .second, .val (.int (N i4)), iv 2, iv 2] [(.int 2)])) (fun _ k => XS.iconst X36.here hx rfl (hb hby d4_134) k) ?_
      refine Go.st (f' := (mkF m 137 #[rv a1, .val (.int (N i0)), .val (.double (FP.l2d (F i4))), .second, .val (.int (N i4)), iv 2, iv 2] [(.int 2), (.int 2)])) (fun _ k => XS.iload X36.here hx rfl (hb hby d4_135) rfl k) ?_
      refine Go.st (f' := (mkF m 138 #[rv a1, .val (.int (N i0)), .val (.double (FP.l2d (F i4))), .second, .val (.int (N i4)), iv 2, iv 2] [(.int 4)])) (fun _ k => XS.imul X36.here hx rfl (hb hby d4_137) rfl k) ?_
      refine Go.st (f' := (mkF m 139 #[rv a1, .val (.int (N i0)), .val (.double (FP.l2d (F i4))), .second, .val (.int (N i4)), iv 2, iv 2] [(.int 1), (.int 4)])) (fun _ k => XS.iconst X36.here hx rfl (hb hby d4_138) k) ?_
      refine Go.st (f' := (mkF m 140 #[rv a1, .val (.int (N i0)), .val (.double (FP.l2d (F i4))), .second, .val (.int (N i4)), iv 2, iv 2] [(.int 5)])) (fun _ k => XS.iadd X36.here hx rfl (hb hby d4_139) rfl k) ?_
      refine Go.st (f' := (mkF m 142 #[rv a1, .val (.int (N i0)), .val (.double (FP.l2d (F i4))), .second, .val (.int (N i4)), iv 2, iv 5] [])) (fun _ k => XS.istore X36.here hx rfl (hb hby d4_140) rfl (l' := #[rv a1, .val (.int (N i0)), .val (.double (FP.l2d (F i4))), .second, .val (.int (N i4)), iv 2, iv 5]) rfl k) ?_
      refine Go.st (f' := (mkF m 44 #[rv a1, .val (.int (N i0)), .val (.double (FP.l2d (F i4))), .second, .val (.int (N i4)), iv 2, iv 5] [])) (fun _ k => XS.goto X36.here hx rfl (pc0 := 142) (pc' := 44) rfl (hb hby d4_142) (by decide) (by decide) k) ?_
      refine Go.st (f' := (mkF m 46 #[rv a1, .val (.int (N i0)), .val (.double (FP.l2d (F i4))), .second, .val (.int (N i4)), iv 2, iv 5] [(.int 5)])) (fun _ k => XS.iload X36.here hx rfl (hb hby d4_44) rfl k) ?_
      refine Go.st (f' := (mkF m 47 #[rv a1, .val (.int (N i0)), .val (.double (FP.l2d (F i4))), .second, .val (.int (N i4)), iv 2, iv 5] [(.ref a1), (.int 5)])) (fun _ k => XS.aloadN X36.here hx rfl (hb hby d4_46) rfl rfl k) ?_
      have ft37 := ((Fw4.other W29 (Or.inl nt_a1_cA)).other W36 (Or.inl nt_a1_nA))
      obtain ⟨T38, X38, e38, st38⟩ := getF X36 hx hZ hown (host := "") (Or.inl (ww hw 20 rfl)) Via.refl e36 ft37 (g := (mkF m 47 #[rv a1, .val (.int (N i0)), .val (.double (FP.l2d (F i4))), .second, .val (.int (N i4)), iv 2, iv 5] [(.ref a1), (.int 5)])) rfl rfl (hb hby d4_47)
      refine Go.st (f' := (mkF m 50 #[rv a1, .val (.int (N i0)), .val (.double (FP.l2d (F i4))), .second, .val (.int (N i4)), iv 2, iv 5] [(.int 4), (.int 5)])) (fun _ k => st38 _ k) ?_
      refine Go.st (f' := (mkF m 145 #[rv a1, .val (.int (N i0)), .val (.double (FP.l2d (F i4))), .second, .val (.int (N i4)), iv 2, iv 5] [])) (fun _ k => XS.icmpYes X38.here hx rfl (pc0 := 50) (pc' := 145) rfl (hb hby d4_50) rfl (by decide) (by decide) (by decide) k) ?_
      refine Go.st (f' := (mkF m 146 #[rv a1, .val (.int (N i0)), .val (.double (FP.l2d (F i4))), .second, .val (.int (N i4)), iv 2, iv 5] [(.ref a1)])) (fun _ k => XS.aloadN X38.here hx rfl (hb hby d4_145) rfl rfl k) ?_
      have ft39 := ((ft5.other W29 (Or.inl nt_a1_cA)).other W36 (Or.inl nt_a1_nA))
      obtain ⟨T40, X40, e40, st40⟩ := getF X38 hx hZ hown (host := "") (Or.inl (ww hw 10 rfl)) Via.refl e38 ft39 (g := (mkF m 146 #[rv a1, .val (.int (N i0)), .val (.double (FP.l2d (F i4))), .second, .val (.int (N i4)), iv 2, iv 5] [(.ref a1)])) rfl rfl (hb hby d4_146)
      refine Go.st (f' := (mkF m 149 #[rv a1, .val (.int (N i0)), .val (.double (FP.l2d (F i4))), .second, .val (.int (N i4)), iv 2, iv 5] [(.ref cA)])) (fun _ k => st40 _ k) ?_
      refine Go.st (f' := (mkF m 151 #[rv a1, .val (.int (N i0)), .val (.double (FP.l2d (F i4))), .second, .val (.int (N i4)), iv 2, iv 5] [(.int 2), (.ref cA)])) (fun _ k => XS.iload X40.here hx rfl (hb hby d4_149) rfl k) ?_
      refine Go.st (f' := (mkF m 152 #[rv a1, .val (.int (N i0)), .val (.double (FP.l2d (F i4))), .second, .val (.int (N i4)), iv 2, iv 5] [(.double (FP.l2d (F i4))), (.int 2), (.ref cA)])) (fun _ k => XS.dloadN X40.here hx rfl (hb hby d4_151) rfl k) ?_
      have ft41 := (V_cA_29.other W36 nn)
      obtain ⟨cl42, Ar42, q42, S42, Nx42, H42, G42⟩ := id ft41
      have hin42 : ¬ ((2 : Int32) < 0 ∨ cl42.slots.size ≤ ((2 : Int32)).toNatClampNeg) := inb_of S42 ⟨by decide, by decide⟩
      obtain ⟨T43, h43, X43, e43, W43, st43⟩ := stD X40 hx hZ e40 Ar42 (j := (2 : Int32)) hin42 (g := (mkF m 152 #[rv a1, .val (.int (N i0)), .val (.double (FP.l2d (F i4))), .second, .val (.int (N i4)), iv 2, iv 5] [(.double (FP.l2d (F i4))), (.int 2), (.ref cA)])) rfl rfl (hb hby d4_152)
      have V_cA_43 : Arv Z h43 cA kA .double (16 : Int32) [(.double (FP.l2d (F i2))), (.double (FP.l2d (F i1))), (.double (FP.l2d (F i4))), (.double (FP.l2d (F i3))), (.double (FP.l2d (F i4)))] (.double (FP.l2d 0)) := Arv.set Ar42 q42 S42 Nx42 H42 G42 rfl W43 2 rfl (Nat.le_of_ble_eq_true rfl)
      have N43 := Fr.snoc X43 N36 g_cA
      have O43 : Old Z n0 h43 := O36.wr W43 g_cA
      have K43 : Keep h0 h43 [a1, cA, nA] := K36.wr W43 (Or.inl (List.mem_of_getElem? (i := 1) rfl))
      refine Go.st (f' := (mkF m 153 #[rv a1, .val (.int (N i0)), .val (.double (FP.l2d (F i4))), .second, .val (.int (N i4)), iv 2, iv 5] [])) (fun _ k => st43 _ k) ?_
      refine Go.st (f' := (mkF m 154 #[rv a1, .val (.int (N i0)), .val (.double (FP.l2d (F i4))), .second, .val (.int (N i4)), iv 2, iv 5] [(.ref a1)])) (fun _ k => XS.aloadN X43.here hx rfl (hb hby d4_153) rfl rfl k) ?_
      have ft44 := ((ft30.other W36 (Or.inl nt_a1_nA)).other W43 (Or.inl nt_a1_cA))
      obtain ⟨T45, X45, e45, st45⟩ := getF X43 hx hZ hown (host := "") (Or.inl (ww hw 13 rfl)) Via.refl e43 ft44 (g := (mkF m 154 #[rv a1, .val (.int (N i0)), .val (.double (FP.l2d (F i4))), .second, .val (.int (N i4)), iv 2, iv 5] [(.ref a1)])) rfl rfl (hb hby d4_154)
      refine Go.st (f' := (mkF m 157 #[rv a1, .val (.int (N i0)), .val (.double (FP.l2d (F i4))), .second, .val (.int (N i4)), iv 2, iv 5] [(.ref nA)])) (fun _ k => st45 _ k) ?_
      refine Go.st (f' := (mkF m 159 #[rv a1, .val (.int (N i0)), .val (.double (FP.l2d (F i4))), .second, .val (.int (N i4)), iv 2, iv 5] [(.int 2), (.ref nA)])) (fun _ k => XS.iload X45.here hx rfl (hb hby d4_157) rfl k) ?_
      refine Go.st (f' := (mkF m 161 #[rv a1, .val (.int (N i0)), .val (.double (FP.l2d (F i4))), .second, .val (.int (N i4)), iv 2, iv 5] [(.int (N i4)), (.int 2), (.ref nA)])) (fun _ k => XS.iload X45.here hx rfl (hb hby d4_159) rfl k) ?_
      have ft46 := (V_nA_36.other W43 (Ne.symm nn))
      obtain ⟨cl47, Ar47, q47, S47, Nx47, H47, G47⟩ := id ft46
      have hin47 : ¬ ((2 : Int32) < 0 ∨ cl47.slots.size ≤ ((2 : Int32)).toNatClampNeg) := inb_of S47 ⟨by decide, by decide⟩
      obtain ⟨T48, h48, X48, e48, W48, st48⟩ := stI X45 hx hZ e45 Ar47 (j := (2 : Int32)) hin47 (g := (mkF m 161 #[rv a1, .val (.int (N i0)), .val (.double (FP.l2d (F i4))), .second, .val (.int (N i4)), iv 2, iv 5] [(.int (N i4)), (.int 2), (.ref nA)])) rfl rfl (hb hby d4_161)
      have V_nA_48 : Arv Z h48 nA kN .int (16 : Int32) [(.int (N i2)), (.int (N i1)), (.int (N i4)), (.int (N i3)), (.int (N i4))] (.int (0 : Int32)) := Arv.set Ar47 q47 S47 Nx47 H47 G47 rfl W48 2 rfl (Nat.le_of_ble_eq_true rfl)
      have N48 := Fr.snoc X48 N43 g_nA
      have O48 : Old Z n0 h48 := O43.wr W48 g_nA
      have K48 : Keep h0 h48 [a1, cA, nA] := K43.wr W48 (Or.inl (List.mem_of_getElem? (i := 2) rfl))
      refine Go.st (f' := (mkF m 162 #[rv a1, .val (.int (N i0)), .val (.double (FP.l2d (F i4))), .second, .val (.int (N i4)), iv 2, iv 5] [])) (fun _ k => st48 _ k) ?_
      refine Go.st (f' := (mkF m 163 #[rv a1, .val (.int (N i0)), .val (.double (FP.l2d (F i4))), .second, .val (.int (N i4)), iv 2, iv 5] [(.int (N i0))])) (fun _ k => XS.iloadN X48.here hx rfl (hb hby d4_162) rfl k) ?_
      refine Go.retV X48 hlk hx (t := .int) hret rfl (Or.inl ⟨rfl, Or.inl rfl, _, rfl⟩) (hb hby d4_163) e48 ?_ (by decide) (by decide)
      have c_cd21 :=  (own_lw (F i2) (F i1)).1.mp cd21
      have c_cd24 :=  (own_lw (F i2) (F i4)).1.mp cd24
      have ft49 := (((((E_a1.wr W4).wr W29).wr W36).wr W43).wr W48)
      have ft50 := ((ft37.other W43 (Or.inl nt_a1_cA)).other W48 (Or.inl nt_a1_nA))
      have ft51 := (ft44.other W48 (Or.inl nt_a1_nA))
      have ft52 := ((ft39.other W43 (Or.inl nt_a1_cA)).other W48 (Or.inl nt_a1_nA))
      have ft53 := (V_cA_43.other W48 nn)
      exact ⟨rfl, N48, K48, ft49, ft50, ft51, ft52, i2, i1, i4, i3, (FP.l2d (F i4)), (N i4), fun w => by omega, by omega, by omega, by omega, by omega, ft53, V_nA_48⟩
    · refine Go.st (f' := (mkF m 99 #[rv a1, .val (.int (N i0)), .val (.double (FP.l2d (F i4))), .second, .val (.int (N i4)), iv 0, iv 2] [])) (fun _ k => XS.ifNo X22.here hx rfl (hb hby d4_96) rfl ((if0 _ _).trans (flt cd24).1) k) ?_
      refine Go.st (f' := (mkF m 145 #[rv a1, .val (.int (N i0)), .val (.double (FP.l2d (F i4))), .second, .val (.int (N i4)), iv 0, iv 2] [])) (fun _ k => XS.goto X22.here hx rfl (pc0 := 99) (pc' := 145) rfl (hb hby d4_99) (by decide) (by decide) k) ?_
      refine Go.st (f' := (mkF m 146 #[rv a1, .val (.int (N i0)), .val (.double (FP.l2d (F i4))), .second, .val (.int (N i4)), iv 0, iv 2] [(.ref a1)])) (fun _ k => XS.aloadN X22.here hx rfl (hb hby d4_145) rfl rfl k) ?_
      obtain ⟨T54, X54, e54, st54⟩ := getF X22 hx hZ hown (host := "") (Or.inl (ww hw 10 rfl)) Via.refl e22 ft5 (g := (mkF m 146 #[rv a1, .val (.int (N i0)), .val (.double (FP.l2d (F i4))), .second, .val (.int (N i4)), iv 0, iv 2] [(.ref a1)])) rfl rfl (hb hby d4_146)
      refine Go.st (f' := (mkF m 149 #[rv a1, .val (.int (N i0)), .val (.double (FP.l2d (F i4))), .second, .val (.int (N i4)), iv 0, iv 2] [(.ref cA)])) (fun _ k => st54 _ k) ?_
      refine Go.st (f' := (mkF m 151 #[rv a1, .val (.int (N i0)), .val (.double (FP.l2d (F i4))), .second, .val (.int (N i4)), iv 0, iv 2] [(.int 0), (.ref cA)])) (fun _ k => XS.iload X54.here hx rfl (hb hby d4_149) rfl k) ?_
      refine Go.st (f' := (mkF m 152 #[rv a1, .val (.int (N i0)), .val (.double (FP.l2d (F i4))), .second, .val (.int (N i4)), iv 0, iv 2] [(.double (FP.l2d (F i4))), (.int 0), (.ref cA)])) (fun _ k => XS.dloadN X54.here hx rfl (hb hby d4_151) rfl k) ?_
      obtain ⟨cl55, Ar55, q55, S55, Nx55, H55, G55⟩ := id ft9
      have hin55 : ¬ ((0 : Int32) < 0 ∨ cl55.slots.size ≤ ((0 : Int32)).toNatClampNeg) := inb_of S55 ⟨by decide, by decide⟩
      obtain ⟨T56, h56, X56, e56, W56, st56⟩ := stD X54 hx hZ e54 Ar55 (j := (0 : Int32)) hin55 (g := (mkF m 152 #[rv a1, .val (.int (N i0)), .val (.double (FP.l2d (F i4))), .second, .val (.int (N i4)), iv 0, iv 2] [(.double (FP.l2d (F i4))), (.int 0), (.ref cA)])) rfl rfl (hb hby d4_152)
      have V_cA_56 : Arv Z h56 cA kA .double (16 : Int32) [(.double (FP.l2d (F i4))), (.double (FP.l2d (F i1))), (.double (FP.l2d (F i2))), (.double (FP.l2d (F i3))), (.double (FP.l2d (F i4)))] (.double (FP.l2d 0)) := Arv.set Ar55 q55 S55 Nx55 H55 G55 rfl W56 0 rfl (Nat.le_of_ble_eq_true rfl)
      have N56 := Fr.snoc X56 N4 g_cA
      have O56 : Old Z n0 h56 := O4.wr W56 g_cA
      have K56 : Keep h0 h56 [a1, cA, nA] := K4.wr W56 (Or.inl (List.mem_of_getElem? (i := 1) rfl))
      refine Go.st (f' := (mkF m 153 #[rv a1, .val (.int (N i0)), .val (.double (FP.l2d (F i4))), .second, .val (.int (N i4)), iv 0, iv 2] [])) (fun _ k => st56 _ k) ?_
      refine Go.st (f' := (mkF m 154 #[rv a1, .val (.int (N i0)), .val (.double (FP.l2d (F i4))), .second, .val (.int (N i4)), iv 0, iv 2] [(.ref a1)])) (fun _ k => XS.aloadN X56.here hx rfl (hb hby d4_153) rfl rfl k) ?_
      have ft57 := (ft10.other W56 (Or.inl nt_a1_cA))
      obtain ⟨T58, X58, e58, st58⟩ := getF X56 hx hZ hown (host := "") (Or.inl (ww hw 13 rfl)) Via.refl e56 ft57 (g := (mkF m 154 #[rv a1, .val (.int (N i0)), .val (.double (FP.l2d (F i4))), .second, .val (.int (N i4)), iv 0, iv 2] [(.ref a1)])) rfl rfl (hb hby d4_154)
      refine Go.st (f' := (mkF m 157 #[rv a1, .val (.int (N i0)), .val (.double (FP.l2d (F i4))), .second, .val (.int (N i4)), iv 0, iv 2] [(.ref nA)])) (fun _ k => st58 _ k) ?_
      refine Go.st (f' := (mkF m 159 #[rv a1, .val (.int (N i0)), .val (.double (FP.l2d (F i4))), .second, .val (.int (N i4)), iv 0, iv 2] [(.int 0), (.ref nA)])) (fun _ k => XS.iload X58.here hx rfl (hb hby d4_157) rfl k) ?_
      refine Go.st (f' := (mkF m 161 #[rv a1, .val (.int (N i0)), .val (.double (FP.l2d (F i4))), .second, .val (.int (N i4)), iv 0, iv 2] [(.int (N i4)), (.int 0), (.ref nA)])) (fun _ k => XS.iload X58.here hx rfl (hb hby d4_159) rfl k) ?_
      have ft59 := (ft14.other W56 (Ne.symm nn))
      obtain ⟨cl60, Ar60, q60, S60, Nx60, H60, G60⟩ := id ft59
      have hin60 : ¬ ((0 : Int32) < 0 ∨ cl60.slots.size ≤ ((0 : Int32)).toNatClampNeg) := inb_of S60 ⟨by decide, by decide⟩
      obtain ⟨T61, h61, X61, e61, W61, st61⟩ := stI X58 hx hZ e58 Ar60 (j := (0 : Int32)) hin60 (g := (mkF m 161 #[rv a1, .val (.int (N i0)), .val (.double (FP.l2d (F i4))), .second, .val (.int (N i4)), iv 0, iv 2] [(.int (N i4)), (.int 0), (.ref nA)])) rfl rfl (hb hby d4_161)
      have V_nA_61 : Arv Z h61 nA kN .int (16 : Int32) [(.int (N i4)), (.int (N i1)), (.int (N i2)), (.int (N i3)), (.int (N i4))] (.int (0 : Int32)) := Arv.set Ar60 q60 S60 Nx60 H60 G60 rfl W61 0 rfl (Nat.le_of_ble_eq_true rfl)
      have N61 := Fr.snoc X61 N56 g_nA
      have O61 : Old Z n0 h61 := O56.wr W61 g_nA
      have K61 : Keep h0 h61 [a1, cA, nA] := K56.wr W61 (Or.inl (List.mem_of_getElem? (i := 2) rfl))
      refine Go.st (f' := (mkF m 162 #[rv a1, .val (.int (N i0)), .val (.double (FP.l2d (F i4))), .second, .val (.int (N i4)), iv 0, iv 2] [])) (fun _ k => st61 _ k) ?_
      refine Go.st (f' := (mkF m 163 #[rv a1, .val (.int (N i0)), .val (.double (FP.l2d (F i4))), .second, .val (.int (N i4)), iv 0, iv 2] [(.int (N i0))])) (fun _ k => XS.iloadN X61.here hx rfl (hb hby d4_162) rfl k) ?_
      refine Go.retV X61 hlk hx (t := .int) hret rfl (Or.inl ⟨rfl, Or.inl rfl, _, rfl⟩) (hb hby d4_163) e61 ?_ (by decide) (by decide)
      have c_cd21 :=  (own_lw (F i2) (F i1)).1.mp cd21
      have c_cd24 := (not_congr (own_lw (F i2) (F i4)).1).mp cd24
      have ft62 := (((E_a1.wr W4).wr W56).wr W61)
      have ft63 := ((Fw4.other W56 (Or.inl nt_a1_cA)).other W61 (Or.inl nt_a1_nA))
      have ft64 := (ft57.other W61 (Or.inl nt_a1_nA))
      have ft65 := ((ft5.other W56 (Or.inl nt_a1_cA)).other W61 (Or.inl nt_a1_nA))
      have ft66 := (V_cA_56.other W61 nn)
      exact ⟨rfl, N61, K61, ft62, ft63, ft64, ft65, i4, i1, i2, i3, (FP.l2d (F i4)), (N i4), fun w => by omega, by omega, by omega, by omega, by omega, ft66, V_nA_61⟩
  · refine Go.st (f' := (mkF m 87 #[rv a1, .val (.int (N i0)), .val (.double (FP.l2d (F i4))), .second, .val (.int (N i4)), iv 0, iv 1] [])) (fun _ k => XS.ifYes X19.here hx rfl (pc0 := 81) (pc' := 87) rfl (hb hby d4_81) rfl ((if0 _ _).trans (flt cd21).2.1) (by decide) (by decide) k) ?_
    refine Go.st (f' := (mkF m 88 #[rv a1, .val (.int (N i0)), .val (.double (FP.l2d (F i4))), .second, .val (.int (N i4)), iv 0, iv 1] [(.ref a1)])) (fun _ k => XS.aloadN X19.here hx rfl (hb hby d4_87) rfl rfl k) ?_
    obtain ⟨T67, X67, e67, st67⟩ := getF X19 hx hZ hown (host := "") (Or.inl (ww hw 10 rfl)) Via.refl e19 ft5 (g := (mkF m 88 #[rv a1, .val (.int (N i0)), .val (.double (FP.l2d (F i4))), .second, .val (.int (N i4)), iv 0, iv 1] [(.ref a1)])) rfl rfl (hb hby d4_88)
    refine Go.st (f' := (mkF m 91 #[rv a1, .val (.int (N i0)), .val (.double (FP.l2d (F i4))), .second, .val (.int (N i4)), iv 0, iv 1] [(.ref cA)])) (fun _ k => st67 _ k) ?_
    refine Go.st (f' := (mkF m 93 #[rv a1, .val (.int (N i0)), .val (.double (FP.l2d (F i4))), .second, .val (.int (N i4)), iv 0, iv 1] [(.int 1), (.ref cA)])) (fun _ k => XS.iload X67.here hx rfl (hb hby d4_91) rfl k) ?_
    obtain ⟨cl68, Ar68, -, S68, -, H68, -⟩ := id ft9
    have hin68 : ¬ ((1 : Int32) < 0 ∨ cl68.slots.size ≤ ((1 : Int32)).toNatClampNeg) := inb_of S68 ⟨by decide, by decide⟩
    have hat68 : cl68.slots[((1 : Int32)).toNatClampNeg]? = some (.double (FP.l2d (F i1))) := H68.at hin68 rfl
    refine Go.st (f' := (mkF m 94 #[rv a1, .val (.int (N i0)), .val (.double (FP.l2d (F i4))), .second, .val (.int (N i4)), iv 0, iv 1] [(.double (FP.l2d (F i1)))])) (fun _ k => X67.daload hx (j := (1 : Int32)) (v := (.double (FP.l2d (F i1)))) (by rw [e67]; exact Ar68.1) (State.isArrayOf_alike hZ.alike Ar68.2.1) Ar68.2.2 hin68 hat68 (g := (mkF m 93 #[rv a1, .val (.int (N i0)), .val (.double (FP.l2d (F i4))), .second, .val (.int (N i4)), iv 0, iv 1] [(.int 1), (.ref cA)])) rfl rfl (hb hby d4_93) _ k) ?_
    refine Go.st (f' := (mkF m 95 #[rv a1, .val (.int (N i0)), .val (.double (FP.l2d (F i4))), .second, .val (.int (N i4)), iv 0, iv 1] [(.double (FP.l2d (F i4))), (.double (FP.l2d (F i1)))])) (fun _ k => XS.dloadN X67.here hx rfl (hb hby d4_94) rfl k) ?_
    refine Go.st (f' := (mkF m 96 #[rv a1, .val (.int (N i0)), .val (.double (FP.l2d (F i4))), .second, .val (.int (N i4)), iv 0, iv 1] [(.int (lcmpW (F i1) (F i4)))])) (fun _ k => XS.dcmpS X67.here hx rfl (hb hby d4_95) rfl (dcmpV_w (hF _) (hF _) _) k) ?_
    by_cases cd69 : (lcmpW (F i1) (F i4)) < (0 : Int32)
    · refine Go.st (f' := (mkF m 102 #[rv a1, .val (.int (N i0)), .val (.double (FP.l2d (F i4))), .second, .val (.int (N i4)), iv 0, iv 1] [])) (fun _ k => XS.ifYes X67.here hx rfl (pc0 := 96) (pc' := 102) rfl (hb hby d4_96) rfl ((if0 _ _).trans (tlt cd69).1) (by decide) (by decide) k) ?_
      refine Go.st (f' := (mkF m 103 #[rv a1, .val (.int (N i0)), .val (.double (FP.l2d (F i4))), .second, .val (.int (N i4)), iv 0, iv 1] [(.ref a1)])) (fun _ k => XS.aloadN X67.here hx rfl (hb hby d4_102) rfl rfl k) ?_
      obtain ⟨T70, X70, e70, st70⟩ := getF X67 hx hZ hown (host := "") (Or.inl (ww hw 10 rfl)) Via.refl e67 ft5 (g := (mkF m 103 #[rv a1, .val (.int (N i0)), .val (.double (FP.l2d (F i4))), .second, .val (.int (N i4)), iv 0, iv 1] [(.ref a1)])) rfl rfl (hb hby d4_103)
      refine Go.st (f' := (mkF m 106 #[rv a1, .val (.int (N i0)), .val (.double (FP.l2d (F i4))), .second, .val (.int (N i4)), iv 0, iv 1] [(.ref cA)])) (fun _ k => st70 _ k) ?_
      refine Go.st (f' := (mkF m 108 #[rv a1, .val (.int (N i0)), .val (.double (FP.l2d (F i4))), .second, .val (.int (N i4)), iv 0, iv 1] [(.int 0), (.ref cA)])) (fun _ k => XS.iload X70.here hx rfl (hb hby d4_106) rfl k) ?_
      refine Go.st (f' := (mkF m 109 #[rv a1, .val (.int (N i0)), .val (.double (FP.l2d (F i4))), .second, .val (.int (N i4)), iv 0, iv 1] [(.ref a1), (.int 0), (.ref cA)])) (fun _ k => XS.aloadN X70.here hx rfl (hb hby d4_108) rfl rfl k) ?_
      obtain ⟨T71, X71, e71, st71⟩ := getF X70 hx hZ hown (host := "") (Or.inl (ww hw 10 rfl)) Via.refl e70 ft5 (g := (mkF m 109 #[rv a1, .val (.int (N i0)), .val (.double (FP.l2d (F i4))), .second, .val (.int (N i4)), iv 0, iv 1] [(.ref a1), (.int 0), (.ref cA)])) rfl rfl (hb hby d4_109)
      refine Go.st (f' := (mkF m 112 #[rv a1, .val (.int (N i0)), .val (.double (FP.l2d (F i4))), .second, .val (.int (N i4)), iv 0, iv 1] [(.ref cA), (.int 0), (.ref cA)])) (fun _ k => st71 _ k) ?_
      refine Go.st (f' := (mkF m 114 #[rv a1, .val (.int (N i0)), .val (.double (FP.l2d (F i4))), .second, .val (.int (N i4)), iv 0, iv 1] [(.int 1), (.ref cA), (.int 0), (.ref cA)])) (fun _ k => XS.iload X71.here hx rfl (hb hby d4_112) rfl k) ?_
      obtain ⟨cl72, Ar72, -, S72, -, H72, -⟩ := id ft9
      have hin72 : ¬ ((1 : Int32) < 0 ∨ cl72.slots.size ≤ ((1 : Int32)).toNatClampNeg) := inb_of S72 ⟨by decide, by decide⟩
      have hat72 : cl72.slots[((1 : Int32)).toNatClampNeg]? = some (.double (FP.l2d (F i1))) := H72.at hin72 rfl
      refine Go.st (f' := (mkF m 115 #[rv a1, .val (.int (N i0)), .val (.double (FP.l2d (F i4))), .second, .val (.int (N i4)), iv 0, iv 1] [(.double (FP.l2d (F i1))), (.int 0), (.ref cA)])) (fun _ k => X71.daload hx (j := (1 : Int32)) (v := (.double (FP.l2d (F i1)))) (by rw [e71]; exact Ar72.1) (State.isArrayOf_alike hZ.alike Ar72.2.1) Ar72.2.2 hin72 hat72 (g := (mkF m 114 #[rv a1, .val (.int (N i0)), .val (.double (FP.l2d (F i4))), .second, .val (.int (N i4)), iv 0, iv 1] [(.int 1), (.ref cA), (.int 0), (.ref cA)])) rfl rfl (hb hby d4_114) _ k) ?_
      obtain ⟨cl73, Ar73, q73, S73, Nx73, H73, G73⟩ := id ft9
      have hin73 : ¬ ((0 : Int32) < 0 ∨ cl73.slots.size ≤ ((0 : Int32)).toNatClampNeg) := inb_of S73 ⟨by decide, by decide⟩
      obtain ⟨T74, h74, X74, e74, W74, st74⟩ := stD X71 hx hZ e71 Ar73 (j := (0 : Int32)) hin73 (g := (mkF m 115 #[rv a1, .val (.int (N i0)), .val (.double (FP.l2d (F i4))), .second, .val (.int (N i4)), iv 0, iv 1] [(.double (FP.l2d (F i1))), (.int 0), (.ref cA)])) rfl rfl (hb hby d4_115)
      have V_cA_74 : Arv Z h74 cA kA .double (16 : Int32) [(.double (FP.l2d (F i1))), (.double (FP.l2d (F i1))), (.double (FP.l2d (F i2))), (.double (FP.l2d (F i3))), (.double (FP.l2d (F i4)))] (.double (FP.l2d 0)) := Arv.set Ar73 q73 S73 Nx73 H73 G73 rfl W74 0 rfl (Nat.le_of_ble_eq_true rfl)
      have N74 := Fr.snoc X74 N4 g_cA
      have O74 : Old Z n0 h74 := O4.wr W74 g_cA
      have K74 : Keep h0 h74 [a1, cA, nA] := K4.wr W74 (Or.inl (List.mem_of_getElem? (i := 1) rfl))
      refine Go.st (f' := (mkF m 116 #[rv a1, .val (.int (N i0)), .val (.double (FP.l2d (F i4))), .second, .val (.int (N i4)), iv 0, iv 1] [])) (fun _ k => st74 _ k) ?_
      refine Go.st (f' := (mkF m 117 #[rv a1, .val (.int (N i0)), .val (.double (FP.l2d (F i4))), .second, .val (.int (N i4)), iv 0, iv 1] [(.ref a1)])) (fun _ k => XS.aloadN X74.here hx rfl (hb hby d4_116) rfl rfl k) ?_
      have ft75 := (ft10.other W74 (Or.inl nt_a1_cA))
      obtain ⟨T76, X76, e76, st76⟩ := getF X74 hx hZ hown (host := "") (Or.inl (ww hw 13 rfl)) Via.refl e74 ft75 (g := (mkF m 117 #[rv a1, .val (.int (N i0)), .val (.double (FP.l2d (F i4))), .second, .val (.int (N i4)), iv 0, iv 1] [(.ref a1)])) rfl rfl (hb hby d4_117)
      refine Go.st (f' := (mkF m 120 #[rv a1, .val (.int (N i0)), .val (.double (FP.l2d (F i4))), .second, .val (.int (N i4)), iv 0, iv 1] [(.ref nA)])) (fun _ k => st76 _ k) ?_
      refine Go.st (f' := (mkF m 122 #[rv a1, .val (.int (N i0)), .val (.double (FP.l2d (F i4))), .second, .val (.int (N i4)), iv 0, iv 1] [(.int 0), (.ref nA)])) (fun _ k => XS.iload X76.here hx rfl (hb hby d4_120) rfl k) ?_
      refine Go.st (f' := (mkF m 123 #[rv a1, .val (.int (N i0)), .val (.double (FP.l2d (F i4))), .second, .val (.int (N i4)), iv 0, iv 1] [(.ref a1), (.int 0), (.ref nA)])) (fun _ k => XS.aloadN X76.here hx rfl (hb hby d4_122) rfl rfl k) ?_
      obtain ⟨T77, X77, e77, st77⟩ := getF X76 hx hZ hown (host := "") (Or.inl (ww hw 13 rfl)) Via.refl e76 ft75 (g := (mkF m 123 #[rv a1, .val (.int (N i0)), .val (.double (FP.l2d (F i4))), .second, .val (.int (N i4)), iv 0, iv 1] [(.ref a1), (.int 0), (.ref nA)])) rfl rfl (hb hby d4_123)
      refine Go.st (f' := (mkF m 126 #[rv a1, .val (.int (N i0)), .val (.double (FP.l2d (F i4))), .second, .val (.int (N i4)), iv 0, iv 1] [(.ref nA), (.int 0), (.ref nA)])) (fun _ k => st77 _ k) ?_
      refine Go.st (f' := (mkF m 128 #[rv a1, .val (.int (N i0)), .val (.double (FP.l2d (F i4))), .second, .val (.int (N i4)), iv 0, iv 1] [(.int 1), (.ref nA), (.int 0), (.ref nA)])) (fun _ k => XS.iload X77.here hx rfl (hb hby d4_126) rfl k) ?_
      have ft79 := (ft14.other W74 (Ne.symm nn))
      obtain ⟨cl78, Ar78, -, S78, -, H78, -⟩ := id ft79
      have hin78 : ¬ ((1 : Int32) < 0 ∨ cl78.slots.size ≤ ((1 : Int32)).toNatClampNeg) := inb_of S78 ⟨by decide, by decide⟩
      have hat78 : cl78.slots[((1 : Int32)).toNatClampNeg]? = some (.int (N i1)) := H78.at hin78 rfl
      refine Go.st (f' := (mkF m 129 #[rv a1, .val (.int (N i0)), .val (.double (FP.l2d (F i4))), .second, .val (.int (N i4)), iv 0, iv 1] [(.int (N i1)), (.int 0), (.ref nA)])) (fun _ k => X77.iaload hx (j := (1 : Int32)) (v := (.int (N i1))) (by rw [e77]; exact Ar78.1) (State.isArrayOf_alike hZ.alike Ar78.2.1) Ar78.2.2 hin78 hat78 (g := (mkF m 128 #[rv a1, .val (.int (N i0)), .val (.double (FP.l2d (F i4))), .second, .val (.int (N i4)), iv 0, iv 1] [(.int 1), (.ref nA), (.int 0), (.ref nA)])) rfl rfl (hb hby d4_128) _ k) ?_
      obtain ⟨cl80, Ar80, q80, S80, Nx80, H80, G80⟩ := id ft79
      have hin80 : ¬ ((0 : Int32) < 0 ∨ cl80.slots.size ≤ ((0 : Int32)).toNatClampNeg) := inb_of S80 ⟨by decide, by decide⟩
      obtain ⟨T81, h81, X81, e81, W81, st81⟩ := stI X77 hx hZ e77 Ar80 (j := (0 : Int32)) hin80 (g := (mkF m 129 #[rv a1, .val (.int (N i0)), .val (.double (FP.l2d (F i4))), .second, .val (.int (N i4)), iv 0, iv 1] [(.int (N i1)), (.int 0), (.ref nA)])) rfl rfl (hb hby d4_129)
      have V_nA_81 : Arv Z h81 nA kN .int (16 : Int32) [(.int (N i1)), (.int (N i1)), (.int (N i2)), (.int (N i3)), (.int (N i4))] (.int (0 : Int32)) := Arv.set Ar80 q80 S80 Nx80 H80 G80 rfl W81 0 rfl (Nat.le_of_ble_eq_true rfl)
      have N81 := Fr.snoc X81 N74 g_nA
      have O81 : Old Z n0 h81 := O74.wr W81 g_nA
      have K81 : Keep h0 h81 [a1, cA, nA] := K74.wr W81 (Or.inl (List.mem_of_getElem? (i := 2) rfl))
      refine Go.st (f' := (mkF m 130 #[rv a1, .val (.int (N i0)), .val (.double (FP.l2d (F i4))), .second, .val (.int (N i4)), iv 0, iv 1] [])) (fun _ k => st81 _ k) ?_
      refine Go.st (f' := (mkF m 132 #[rv a1, .val (.int (N i0)), .val (.double (FP.l2d (F i4))), .second, .val (.int (N i4)), iv 0, iv 1] [(.int 1)])) (fun _ k => XS.iload X81.here hx rfl (hb hby d4_130) rfl k) ?_
      refine Go.st (f' := (mkF m 134 #[rv a1, .val (.int (N i0)), .val (.double (FP.l2d (F i4))), .second, .val (.int (N i4)), iv 1, iv 1] [])) (fun _ k => XS.istore X81.here hx rfl (hb hby d4_132) rfl (l' := #[rv a1, .val (.int (N i0)), .val (.double (FP.l2d (F i4))), .second, .val (.int (N i4)), iv 1, iv 1]) rfl k) ?_
      refine Go.st (f' := (mkF m 135 #[rv a1, .val (.int (N i0)), .val (.double (FP.l2d (F i4))), .second, .val (.int (N i4)), iv 1, iv 1] [(.int 2)])) (fun _ k => XS.iconst X81.here hx rfl (hb hby d4_134) k) ?_
      refine Go.st (f' := (mkF m 137 #[rv a1, .val (.int (N i0)), .val (.double (FP.l2d (F i4))), .second, .val (.int (N i4)), iv 1, iv 1] [(.int 1), (.int 2)])) (fun _ k => XS.iload X81.here hx rfl (hb hby d4_135) rfl k) ?_
      refine Go.st (f' := (mkF m 138 #[rv a1, .val (.int (N i0)), .val (.double (FP.l2d (F i4))), .second, .val (.int (N i4)), iv 1, iv 1] [(.int 2)])) (fun _ k => XS.imul X81.here hx rfl (hb hby d4_137) rfl k) ?_
      refine Go.st (f' := (mkF m 139 #[rv a1, .val (.int (N i0)), .val (.double (FP.l2d (F i4))), .second, .val (.int (N i4)), iv 1, iv 1] [(.int 1), (.int 2)])) (fun _ k => XS.iconst X81.here hx rfl (hb hby d4_138) k) ?_
      refine Go.st (f' := (mkF m 140 #[rv a1, .val (.int (N i0)), .val (.double (FP.l2d (F i4))), .second, .val (.int (N i4)), iv 1, iv 1] [(.int 3)])) (fun _ k => XS.iadd X81.here hx rfl (hb hby d4_139) rfl k) ?_
      refine Go.st (f' := (mkF m 142 #[rv a1, .val (.int (N i0)), .val (.double (FP.l2d (F i4))), .second, .val (.int (N i4)), iv 1, iv 3] [])) (fun _ k => XS.istore X81.here hx rfl (hb hby d4_140) rfl (l' := #[rv a1, .val (.int (N i0)), .val (.double (FP.l2d (F i4))), .second, .val (.int (N i4)), iv 1, iv 3]) rfl k) ?_
      refine Go.st (f' := (mkF m 44 #[rv a1, .val (.int (N i0)), .val (.double (FP.l2d (F i4))), .second, .val (.int (N i4)), iv 1, iv 3] [])) (fun _ k => XS.goto X81.here hx rfl (pc0 := 142) (pc' := 44) rfl (hb hby d4_142) (by decide) (by decide) k) ?_
      refine Go.st (f' := (mkF m 46 #[rv a1, .val (.int (N i0)), .val (.double (FP.l2d (F i4))), .second, .val (.int (N i4)), iv 1, iv 3] [(.int 3)])) (fun _ k => XS.iload X81.here hx rfl (hb hby d4_44) rfl k) ?_
      refine Go.st (f' := (mkF m 47 #[rv a1, .val (.int (N i0)), .val (.double (FP.l2d (F i4))), .second, .val (.int (N i4)), iv 1, iv 3] [(.ref a1), (.int 3)])) (fun _ k => XS.aloadN X81.here hx rfl (hb hby d4_46) rfl rfl k) ?_
      have ft82 := ((Fw4.other W74 (Or.inl nt_a1_cA)).other W81 (Or.inl nt_a1_nA))
      obtain ⟨T83, X83, e83, st83⟩ := getF X81 hx hZ hown (host := "") (Or.inl (ww hw 20 rfl)) Via.refl e81 ft82 (g := (mkF m 47 #[rv a1, .val (.int (N i0)), .val (.double (FP.l2d (F i4))), .second, .val (.int (N i4)), iv 1, iv 3] [(.ref a1), (.int 3)])) rfl rfl (hb hby d4_47)
      refine Go.st (f' := (mkF m 50 #[rv a1, .val (.int (N i0)), .val (.double (FP.l2d (F i4))), .second, .val (.int (N i4)), iv 1, iv 3] [(.int 4), (.int 3)])) (fun _ k => st83 _ k) ?_
      refine Go.st (f' := (mkF m 53 #[rv a1, .val (.int (N i0)), .val (.double (FP.l2d (F i4))), .second, .val (.int (N i4)), iv 1, iv 3] [])) (fun _ k => XS.icmpNo X83.here hx rfl (hb hby d4_50) rfl (by decide) k) ?_
      refine Go.st (f' := (mkF m 55 #[rv a1, .val (.int (N i0)), .val (.double (FP.l2d (F i4))), .second, .val (.int (N i4)), iv 1, iv 3] [(.int 3)])) (fun _ k => XS.iload X83.here hx rfl (hb hby d4_53) rfl k) ?_
      refine Go.st (f' := (mkF m 56 #[rv a1, .val (.int (N i0)), .val (.double (FP.l2d (F i4))), .second, .val (.int (N i4)), iv 1, iv 3] [(.int 1), (.int 3)])) (fun _ k => XS.iconst X83.here hx rfl (hb hby d4_55) k) ?_
      refine Go.st (f' := (mkF m 57 #[rv a1, .val (.int (N i0)), .val (.double (FP.l2d (F i4))), .second, .val (.int (N i4)), iv 1, iv 3] [(.int 4)])) (fun _ k => XS.iadd X83.here hx rfl (hb hby d4_56) rfl k) ?_
      refine Go.st (f' := (mkF m 58 #[rv a1, .val (.int (N i0)), .val (.double (FP.l2d (F i4))), .second, .val (.int (N i4)), iv 1, iv 3] [(.ref a1), (.int 4)])) (fun _ k => XS.aloadN X83.here hx rfl (hb hby d4_57) rfl rfl k) ?_
      obtain ⟨T84, X84, e84, st84⟩ := getF X83 hx hZ hown (host := "") (Or.inl (ww hw 20 rfl)) Via.refl e83 ft82 (g := (mkF m 58 #[rv a1, .val (.int (N i0)), .val (.double (FP.l2d (F i4))), .second, .val (.int (N i4)), iv 1, iv 3] [(.ref a1), (.int 4)])) rfl rfl (hb hby d4_58)
      refine Go.st (f' := (mkF m 61 #[rv a1, .val (.int (N i0)), .val (.double (FP.l2d (F i4))), .second, .val (.int (N i4)), iv 1, iv 3] [(.int 4), (.int 4)])) (fun _ k => st84 _ k) ?_
      refine Go.st (f' := (mkF m 87 #[rv a1, .val (.int (N i0)), .val (.double (FP.l2d (F i4))), .second, .val (.int (N i4)), iv 1, iv 3] [])) (fun _ k => XS.icmpYes X84.here hx rfl (pc0 := 61) (pc' := 87) rfl (hb hby d4_61) rfl (by decide) (by decide) (by decide) k) ?_
      refine Go.st (f' := (mkF m 88 #[rv a1, .val (.int (N i0)), .val (.double (FP.l2d (F i4))), .second, .val (.int (N i4)), iv 1, iv 3] [(.ref a1)])) (fun _ k => XS.aloadN X84.here hx rfl (hb hby d4_87) rfl rfl k) ?_
      have ft85 := ((ft5.other W74 (Or.inl nt_a1_cA)).other W81 (Or.inl nt_a1_nA))
      obtain ⟨T86, X86, e86, st86⟩ := getF X84 hx hZ hown (host := "") (Or.inl (ww hw 10 rfl)) Via.refl e84 ft85 (g := (mkF m 88 #[rv a1, .val (.int (N i0)), .val (.double (FP.l2d (F i4))), .second, .val (.int (N i4)), iv 1, iv 3] [(.ref a1)])) rfl rfl (hb hby d4_88)
      refine Go.st (f' := (mkF m 91 #[rv a1, .val (.int (N i0)), .val (.double (FP.l2d (F i4))), .second, .val (.int (N i4)), iv 1, iv 3] [(.ref cA)])) (fun _ k => st86 _ k) ?_
      refine Go.st (f' := (mkF m 93 #[rv a1, .val (.int (N i0)), .val (.double (FP.l2d (F i4))), .second, .val (.int (N i4)), iv 1, iv 3] [(.int 3), (.ref cA)])) (fun _ k => XS.iload X86.here hx rfl (hb hby d4_91) rfl k) ?_
      have ft88 := (V_cA_74.other W81 nn)
      obtain ⟨cl87, Ar87, -, S87, -, H87, -⟩ := id ft88
      have hin87 : ¬ ((3 : Int32) < 0 ∨ cl87.slots.size ≤ ((3 : Int32)).toNatClampNeg) := inb_of S87 ⟨by decide, by decide⟩
      have hat87 : cl87.slots[((3 : Int32)).toNatClampNeg]? = some (.double (FP.l2d (F i3))) := H87.at hin87 rfl
      refine Go.st (f' := (mkF m 94 #[rv a1, .val (.int (N i0)), .val (.double (FP.l2d (F i4))), .second, .val (.int (N i4)), iv 1, iv 3] [(.double (FP.l2d (F i3)))])) (fun _ k => X86.daload hx (j := (3 : Int32)) (v := (.double (FP.l2d (F i3)))) (by rw [e86]; exact Ar87.1) (State.isArrayOf_alike hZ.alike Ar87.2.1) Ar87.2.2 hin87 hat87 (g := (mkF m 93 #[rv a1, .val (.int (N i0)), .val (.double (FP.l2d (F i4))), .second, .val (.int (N i4)), iv 1, iv 3] [(.int 3), (.ref cA)])) rfl rfl (hb hby d4_93) _ k) ?_
      refine Go.st (f' := (mkF m 95 #[rv a1, .val (.int (N i0)), .val (.double (FP.l2d (F i4))), .second, .val (.int (N i4)), iv 1, iv 3] [(.double (FP.l2d (F i4))), (.double (FP.l2d (F i3)))])) (fun _ k => XS.dloadN X86.here hx rfl (hb hby d4_94) rfl k) ?_
      refine Go.st (f' := (mkF m 96 #[rv a1, .val (.int (N i0)), .val (.double (FP.l2d (F i4))), .second, .val (.int (N i4)), iv 1, iv 3] [(.int (lcmpW (F i3) (F i4)))])) (fun _ k => XS.dcmpS X86.here hx rfl (hb hby d4_95) rfl (dcmpV_w (hF _) (hF _) _) k) ?_
      by_cases cd89 : (lcmpW (F i3) (F i4)) < (0 : Int32)
      · refine Go.st (f' := (mkF m 102 #[rv a1, .val (.int (N i0)), .val (.double (FP.l2d (F i4))), .second, .val (.int (N i4)), iv 1, iv 3] [])) (fun _ k => XS.ifYes X86.here hx rfl (pc0 := 96) (pc' := 102) rfl (hb hby d4_96) rfl ((if0 _ _).trans (tlt cd89).1) (by decide) (by decide) k) ?_
        refine Go.st (f' := (mkF m 103 #[rv a1, .val (.int (N i0)), .val (.double (FP.l2d (F i4))), .second, .val (.int (N i4)), iv 1, iv 3] [(.ref a1)])) (fun _ k => XS.aloadN X86.here hx rfl (hb hby d4_102) rfl rfl k) ?_
        obtain ⟨T90, X90, e90, st90⟩ := getF X86 hx hZ hown (host := "") (Or.inl (ww hw 10 rfl)) Via.refl e86 ft85 (g := (mkF m 103 #[rv a1, .val (.int (N i0)), .val (.double (FP.l2d (F i4))), .second, .val (.int (N i4)), iv 1, iv 3] [(.ref a1)])) rfl rfl (hb hby d4_103)
        refine Go.st (f' := (mkF m 106 #[rv a1, .val (.int (N i0)), .val (.double (FP.l2d (F i4))), .second, .val (.int (N i4)), iv 1, iv 3] [(.ref cA)])) (fun _ k => st90 _ k) ?_
        refine Go.st (f' := (mkF m 108 #[rv a1, .val (.int (N i0)), .val (.double (FP.l2d (F i4))), .second, .val (.int (N i4)), iv 1, iv 3] [(.int 1), (.ref cA)])) (fun _ k => XS.iload X90.here hx rfl (hb hby d4_106) rfl k) ?_
        refine Go.st (f' := (mkF m 109 #[rv a1, .val (.int (N i0)), .val (.double (FP.l2d (F i4))), .second, .val (.int (N i4)), iv 1, iv 3] [(.ref a1), (.int 1), (.ref cA)])) (fun _ k => XS.aloadN X90.here hx rfl (hb hby d4_108) rfl rfl k) ?_
        obtain ⟨T91, X91, e91, st91⟩ := getF X90 hx hZ hown (host := "") (Or.inl (ww hw 10 rfl)) Via.refl e90 ft85 (g := (mkF m 109 #[rv a1, .val (.int (N i0)), .val (.double (FP.l2d (F i4))), .second, .val (.int (N i4)), iv 1, iv 3] [(.ref a1), (.int 1), (.ref cA)])) rfl rfl (hb hby d4_109)
        refine Go.st (f' := (mkF m 112 #[rv a1, .val (.int (N i0)), .val (.double (FP.l2d (F i4))), .second, .val (.int (N i4)), iv 1, iv 3] [(.ref cA), (.int 1), (.ref cA)])) (fun _ k => st91 _ k) ?_
        refine Go.st (f' := (mkF m 114 #[rv a1, .val (.int (N i0)), .val (.double (FP.l2d (F i4))), .second, .val (.int (N i4)), iv 1, iv 3] [(.int 3), (.ref cA), (.int 1), (.ref cA)])) (fun _ k => XS.iload X91.here hx rfl (hb hby d4_112) rfl k) ?_
        obtain ⟨cl92, Ar92, -, S92, -, H92, -⟩ := id ft88
        have hin92 : ¬ ((3 : Int32) < 0 ∨ cl92.slots.size ≤ ((3 : Int32)).toNatClampNeg) := inb_of S92 ⟨by decide, by decide⟩
        have hat92 : cl92.slots[((3 : Int32)).toNatClampNeg]? = some (.double (FP.l2d (F i3))) := H92.at hin92 rfl
        refine Go.st (f' := (mkF m 115 #[rv a1, .val (.int (N i0)), .val (.double (FP.l2d (F i4))), .second, .val (.int (N i4)), iv 1, iv 3] [(.double (FP.l2d (F i3))), (.int 1), (.ref cA)])) (fun _ k => X91.daload hx (j := (3 : Int32)) (v := (.double (FP.l2d (F i3)))) (by rw [e91]; exact Ar92.1) (State.isArrayOf_alike hZ.alike Ar92.2.1) Ar92.2.2 hin92 hat92 (g := (mkF m 114 #[rv a1, .val (.int (N i0)), .val (.double (FP.l2d (F i4))), .second, .val (.int (N i4)), iv 1, iv 3] [(.int 3), (.ref cA), (.int 1), (.ref cA)])) rfl rfl (hb hby d4_114) _ k) ?_
        obtain ⟨cl93, Ar93, q93, S93, Nx93, H93, G93⟩ := id ft88
        have hin93 : ¬ ((1 : Int32) < 0 ∨ cl93.slots.size ≤ ((1 : Int32)).toNatClampNeg) := inb_of S93 ⟨by decide, by decide⟩
        obtain ⟨T94, h94, X94, e94, W94, st94⟩ := stD X91 hx hZ e91 Ar93 (j := (1 : Int32)) hin93 (g := (mkF m 115 #[rv a1, .val (.int (N i0)), .val (.double (FP.l2d (F i4))), .second, .val (.int (N i4)), iv 1, iv 3] [(.double (FP.l2d (F i3))), (.int 1), (.ref cA)])) rfl rfl (hb hby d4_115)
        have V_cA_94 : Arv Z h94 cA kA .double (16 : Int32) [(.double (FP.l2d (F i1))), (.double (FP.l2d (F i3))), (.double (FP.l2d (F i2))), (.double (FP.l2d (F i3))), (.double (FP.l2d (F i4)))] (.double (FP.l2d 0)) := Arv.set Ar93 q93 S93 Nx93 H93 G93 rfl W94 1 rfl (Nat.le_of_ble_eq_true rfl)
        have N94 := Fr.snoc X94 N81 g_cA
        have O94 : Old Z n0 h94 := O81.wr W94 g_cA
        have K94 : Keep h0 h94 [a1, cA, nA] := K81.wr W94 (Or.inl (List.mem_of_getElem? (i := 1) rfl))
        refine Go.st (f' := (mkF m 116 #[rv a1, .val (.int (N i0)), .val (.double (FP.l2d (F i4))), .second, .val (.int (N i4)), iv 1, iv 3] [])) (fun _ k => st94 _ k) ?_
        refine Go.st (f' := (mkF m 117 #[rv a1, .val (.int (N i0)), .val (.double (FP.l2d (F i4))), .second, .val (.int (N i4)), iv 1, iv 3] [(.ref a1)])) (fun _ k => XS.aloadN X94.here hx rfl (hb hby d4_116) rfl rfl k) ?_
        have ft95 := ((ft75.other W81 (Or.inl nt_a1_nA)).other W94 (Or.inl nt_a1_cA))
        obtain ⟨T96, X96, e96, st96⟩ := getF X94 hx hZ hown (host := "") (Or.inl (ww hw 13 rfl)) Via.refl e94 ft95 (g := (mkF m 117 #[rv a1, .val (.int (N i0)), .val (.double (FP.l2d (F i4))), .second, .val (.int (N i4)), iv 1, iv 3] [(.ref a1)])) rfl rfl (hb hby d4_117)
        refine Go.st (f' := (mkF m 120 #[rv a1, .val (.int (N i0)), .val (.double (FP.l2d (F i4))), .second, .val (.int (N i4)), iv 1, iv 3] [(.ref nA)])) (fun _ k => st96 _ k) ?_
        refine Go.st (f' := (mkF m 122 #[rv a1, .val (.int (N i0)), .val (.double (FP.l2d (F i4))), .second, .val (.int (N i4)), iv 1, iv 3] [(.int 1), (.ref nA)])) (fun _ k => XS.iload X96.here hx rfl (hb hby d4_120) rfl k) ?_
        refine Go.st (f' := (mkF m 123 #[rv a1, .val (.int (N i0)), .val (.double (FP.l2d (F i4))), .second, .val (.int (N i4)), iv 1, iv 3] [(.ref a1), (.int 1), (.ref nA)])) (fun _ k => XS.aloadN X96.here hx rfl (hb hby d4_122) rfl rfl k) ?_
        obtain ⟨T97, X97, e97, st97⟩ := getF X96 hx hZ hown (host := "") (Or.inl (ww hw 13 rfl)) Via.refl e96 ft95 (g := (mkF m 123 #[rv a1, .val (.int (N i0)), .val (.double (FP.l2d (F i4))), .second, .val (.int (N i4)), iv 1, iv 3] [(.ref a1), (.int 1), (.ref nA)])) rfl rfl (hb hby d4_123)
        refine Go.st (f' := (mkF m 126 #[rv a1, .val (.int (N i0)), .val (.double (FP.l2d (F i4))), .second, .val (.int (N i4)), iv 1, iv 3] [(.ref nA), (.int 1), (.ref nA)])) (fun _ k => st97 _ k) ?_
        refine Go.st (f' := (mkF m 128 #[rv a1, .val (.int (N i0)), .val (.double (FP.l2d (F i4))), .second, .val (.int (N i4)), iv 1, iv 3] [(.int 3), (.ref nA), (.int 1), (.ref nA)])) (fun _ k => XS.iload X97.here hx rfl (hb hby d4_126) rfl k) ?_
        have ft99 := (V_nA_81.other W94 (Ne.symm nn))
        obtain ⟨cl98, Ar98, -, S98, -, H98, -⟩ := id ft99
        have hin98 : ¬ ((3 : Int32) < 0 ∨ cl98.slots.size ≤ ((3 : Int32)).toNatClampNeg) := inb_of S98 ⟨by decide, by decide⟩
        have hat98 : cl98.slots[((3 : Int32)).toNatClampNeg]? = some (.int (N i3)) := H98.at hin98 rfl
        refine Go.st (f' := (mkF m 129 #[rv a1, .val (.int (N i0)), .val (.double (FP.l2d (F i4))), .second, .val (.int (N i4)), iv 1, iv 3] [(.int (N i3)), (.int 1), (.ref nA)])) (fun _ k => X97.iaload hx (j := (3 : Int32)) (v := (.int (N i3))) (by rw [e97]; exact Ar98.1) (State.isArrayOf_alike hZ.alike Ar98.2.1) Ar98.2.2 hin98 hat98 (g := (mkF m 128 #[rv a1, .val (.int (N i0)), .val (.double (FP.l2d (F i4))), .second, .val (.int (N i4)), iv 1, iv 3] [(.int 3), (.ref nA), (.int 1), (.ref nA)])) rfl rfl (hb hby d4_128) _ k) ?_
        obtain ⟨cl100, Ar100, q100, S100, Nx100, H100, G100⟩ := id ft99
        have hin100 : ¬ ((1 : Int32) < 0 ∨ cl100.slots.size ≤ ((1 : Int32)).toNatClampNeg) := inb_of S100 ⟨by decide, by decide⟩
        obtain ⟨T101, h101, X101, e101, W101, st101⟩ := stI X97 hx hZ e97 Ar100 (j := (1 : Int32)) hin100 (g := (mkF m 129 #[rv a1, .val (.int (N i0)), .val (.double (FP.l2d (F i4))), .second, .val (.int (N i4)), iv 1, iv 3] [(.int (N i3)), (.int 1), (.ref nA)])) rfl rfl (hb hby d4_129)
        have V_nA_101 : Arv Z h101 nA kN .int (16 : Int32) [(.int (N i1)), (.int (N i3)), (.int (N i2)), (.int (N i3)), (.int (N i4))] (.int (0 : Int32)) := Arv.set Ar100 q100 S100 Nx100 H100 G100 rfl W101 1 rfl (Nat.le_of_ble_eq_true rfl)
        have N101 := Fr.snoc X101 N94 g_nA
        have O101 : Old Z n0 h101 := O94.wr W101 g_nA
        have K101 : Keep h0 h101 [a1, cA, nA] := K94.wr W101 (Or.inl (List.mem_of_getElem? (i := 2) rfl))
        refine Go.st (f' := (mkF m 130 #[rv a1, .val (.int (N i0)), .val (.double (FP.l2d (F i4))), .second, .val (.int (N i4)), iv 1, iv 3] [])) (fun _ k => st101 _ k) ?_
        refine Go.st (f' := (mkF m 132 #[rv a1, .val (.int (N i0)), .val (.double (FP.l2d (F i4))), .second, .val (.int (N i4)), iv 1, iv 3] [(.int 3)])) (fun _ k => XS.iload X101.here hx rfl (hb hby d4_130) rfl k) ?_
        refine Go.st (f' := (mkF m 134 #[rv a1, .val (.int (N i0)), .val (.double (FP.l2d (F i4))), .second, .val (.int (N i4)), iv 3, iv 3] [])) (fun _ k => XS.istore X101.here hx rfl (hb hby d4_132) rfl (l' := #[rv a1, .val (.int (N i0)), .val (.double (FP.l2d (F i4))), .second, .val (.int (N i4)), iv 3, iv 3]) rfl k) ?_
        refine Go.st (f' := (mkF m 135 #[rv a1, .val (.int (N i0)), .val (.double (FP.l2d (F i4))), .second, .val (.int (N i4)), iv 3, iv 3] [(.int 2)])) (fun _ k => XS.iconst X101.here hx rfl (hb hby d4_134) k) ?_
        refine Go.st (f' := (mkF m 137 #[rv a1, .val (.int (N i0)), .val (.double (FP.l2d (F i4))), .second, .val (.int (N i4)), iv 3, iv 3] [(.int 3), (.int 2)])) (fun _ k => XS.iload X101.here hx rfl (hb hby d4_135) rfl k) ?_
        refine Go.st (f' := (mkF m 138 #[rv a1, .val (.int (N i0)), .val (.double (FP.l2d (F i4))), .second, .val (.int (N i4)), iv 3, iv 3] [(.int 6)])) (fun _ k => XS.imul X101.here hx rfl (hb hby d4_137) rfl k) ?_
        refine Go.st (f' := (mkF m 139 #[rv a1, .val (.int (N i0)), .val (.double (FP.l2d (F i4))), .second, .val (.int (N i4)), iv 3, iv 3] [(.int 1), (.int 6)])) (fun _ k => XS.iconst X101.here hx rfl (hb hby d4_138) k) ?_
        refine Go.st (f' := (mkF m 140 #[rv a1, .val (.int (N i0)), .val (.double (FP.l2d (F i4))), .second, .val (.int (N i4)), iv 3, iv 3] [(.int 7)])) (fun _ k => XS.iadd X101.here hx rfl (hb hby d4_139) rfl k) ?_
        refine Go.st (f' := (mkF m 142 #[rv a1, .val (.int (N i0)), .val (.double (FP.l2d (F i4))), .second, .val (.int (N i4)), iv 3, iv 7] [])) (fun _ k => XS.istore X101.here hx rfl (hb hby d4_140) rfl (l' := #[rv a1, .val (.int (N i0)), .val (.double (FP.l2d (F i4))), .second, .val (.int (N i4)), iv 3, iv 7]) rfl k) ?_
        refine Go.st (f' := (mkF m 44 #[rv a1, .val (.int (N i0)), .val (.double (FP.l2d (F i4))), .second, .val (.int (N i4)), iv 3, iv 7] [])) (fun _ k => XS.goto X101.here hx rfl (pc0 := 142) (pc' := 44) rfl (hb hby d4_142) (by decide) (by decide) k) ?_
        refine Go.st (f' := (mkF m 46 #[rv a1, .val (.int (N i0)), .val (.double (FP.l2d (F i4))), .second, .val (.int (N i4)), iv 3, iv 7] [(.int 7)])) (fun _ k => XS.iload X101.here hx rfl (hb hby d4_44) rfl k) ?_
        refine Go.st (f' := (mkF m 47 #[rv a1, .val (.int (N i0)), .val (.double (FP.l2d (F i4))), .second, .val (.int (N i4)), iv 3, iv 7] [(.ref a1), (.int 7)])) (fun _ k => XS.aloadN X101.here hx rfl (hb hby d4_46) rfl rfl k) ?_
        have ft102 := ((ft82.other W94 (Or.inl nt_a1_cA)).other W101 (Or.inl nt_a1_nA))
        obtain ⟨T103, X103, e103, st103⟩ := getF X101 hx hZ hown (host := "") (Or.inl (ww hw 20 rfl)) Via.refl e101 ft102 (g := (mkF m 47 #[rv a1, .val (.int (N i0)), .val (.double (FP.l2d (F i4))), .second, .val (.int (N i4)), iv 3, iv 7] [(.ref a1), (.int 7)])) rfl rfl (hb hby d4_47)
        refine Go.st (f' := (mkF m 50 #[rv a1, .val (.int (N i0)), .val (.double (FP.l2d (F i4))), .second, .val (.int (N i4)), iv 3, iv 7] [(.int 4), (.int 7)])) (fun _ k => st103 _ k) ?_
        refine Go.st (f' := (mkF m 145 #[rv a1, .val (.int (N i0)), .val (.double (FP.l2d (F i4))), .second, .val (.int (N i4)), iv 3, iv 7] [])) (fun _ k => XS.icmpYes X103.here hx rfl (pc0 := 50) (pc' := 145) rfl (hb hby d4_50) rfl (by decide) (by decide) (by decide) k) ?_
        refine Go.st (f' := (mkF m 146 #[rv a1, .val (.int (N i0)), .val (.double (FP.l2d (F i4))), .second, .val (.int (N i4)), iv 3, iv 7] [(.ref a1)])) (fun _ k => XS.aloadN X103.here hx rfl (hb hby d4_145) rfl rfl k) ?_
        have ft104 := ((ft85.other W94 (Or.inl nt_a1_cA)).other W101 (Or.inl nt_a1_nA))
        obtain ⟨T105, X105, e105, st105⟩ := getF X103 hx hZ hown (host := "") (Or.inl (ww hw 10 rfl)) Via.refl e103 ft104 (g := (mkF m 146 #[rv a1, .val (.int (N i0)), .val (.double (FP.l2d (F i4))), .second, .val (.int (N i4)), iv 3, iv 7] [(.ref a1)])) rfl rfl (hb hby d4_146)
        refine Go.st (f' := (mkF m 149 #[rv a1, .val (.int (N i0)), .val (.double (FP.l2d (F i4))), .second, .val (.int (N i4)), iv 3, iv 7] [(.ref cA)])) (fun _ k => st105 _ k) ?_
        refine Go.st (f' := (mkF m 151 #[rv a1, .val (.int (N i0)), .val (.double (FP.l2d (F i4))), .second, .val (.int (N i4)), iv 3, iv 7] [(.int 3), (.ref cA)])) (fun _ k => XS.iload X105.here hx rfl (hb hby d4_149) rfl k) ?_
        refine Go.st (f' := (mkF m 152 #[rv a1, .val (.int (N i0)), .val (.double (FP.l2d (F i4))), .second, .val (.int (N i4)), iv 3, iv 7] [(.double (FP.l2d (F i4))), (.int 3), (.ref cA)])) (fun _ k => XS.dloadN X105.here hx rfl (hb hby d4_151) rfl k) ?_
        have ft106 := (V_cA_94.other W101 nn)
        obtain ⟨cl107, Ar107, q107, S107, Nx107, H107, G107⟩ := id ft106
        have hin107 : ¬ ((3 : Int32) < 0 ∨ cl107.slots.size ≤ ((3 : Int32)).toNatClampNeg) := inb_of S107 ⟨by decide, by decide⟩
        obtain ⟨T108, h108, X108, e108, W108, st108⟩ := stD X105 hx hZ e105 Ar107 (j := (3 : Int32)) hin107 (g := (mkF m 152 #[rv a1, .val (.int (N i0)), .val (.double (FP.l2d (F i4))), .second, .val (.int (N i4)), iv 3, iv 7] [(.double (FP.l2d (F i4))), (.int 3), (.ref cA)])) rfl rfl (hb hby d4_152)
        have V_cA_108 : Arv Z h108 cA kA .double (16 : Int32) [(.double (FP.l2d (F i1))), (.double (FP.l2d (F i3))), (.double (FP.l2d (F i2))), (.double (FP.l2d (F i4))), (.double (FP.l2d (F i4)))] (.double (FP.l2d 0)) := Arv.set Ar107 q107 S107 Nx107 H107 G107 rfl W108 3 rfl (Nat.le_of_ble_eq_true rfl)
        have N108 := Fr.snoc X108 N101 g_cA
        have O108 : Old Z n0 h108 := O101.wr W108 g_cA
        have K108 : Keep h0 h108 [a1, cA, nA] := K101.wr W108 (Or.inl (List.mem_of_getElem? (i := 1) rfl))
        refine Go.st (f' := (mkF m 153 #[rv a1, .val (.int (N i0)), .val (.double (FP.l2d (F i4))), .second, .val (.int (N i4)), iv 3, iv 7] [])) (fun _ k => st108 _ k) ?_
        refine Go.st (f' := (mkF m 154 #[rv a1, .val (.int (N i0)), .val (.double (FP.l2d (F i4))), .second, .val (.int (N i4)), iv 3, iv 7] [(.ref a1)])) (fun _ k => XS.aloadN X108.here hx rfl (hb hby d4_153) rfl rfl k) ?_
        have ft109 := ((ft95.other W101 (Or.inl nt_a1_nA)).other W108 (Or.inl nt_a1_cA))
        obtain ⟨T110, X110, e110, st110⟩ := getF X108 hx hZ hown (host := "") (Or.inl (ww hw 13 rfl)) Via.refl e108 ft109 (g := (mkF m 154 #[rv a1, .val (.int (N i0)), .val (.double (FP.l2d (F i4))), .second, .val (.int (N i4)), iv 3, iv 7] [(.ref a1)])) rfl rfl (hb hby d4_154)
        refine Go.st (f' := (mkF m 157 #[rv a1, .val (.int (N i0)), .val (.double (FP.l2d (F i4))), .second, .val (.int (N i4)), iv 3, iv 7] [(.ref nA)])) (fun _ k => st110 _ k) ?_
        refine Go.st (f' := (mkF m 159 #[rv a1, .val (.int (N i0)), .val (.double (FP.l2d (F i4))), .second, .val (.int (N i4)), iv 3, iv 7] [(.int 3), (.ref nA)])) (fun _ k => XS.iload X110.here hx rfl (hb hby d4_157) rfl k) ?_
        refine Go.st (f' := (mkF m 161 #[rv a1, .val (.int (N i0)), .val (.double (FP.l2d (F i4))), .second, .val (.int (N i4)), iv 3, iv 7] [(.int (N i4)), (.int 3), (.ref nA)])) (fun _ k => XS.iload X110.here hx rfl (hb hby d4_159) rfl k) ?_
        have ft111 := (V_nA_101.other W108 (Ne.symm nn))
        obtain ⟨cl112, Ar112, q112, S112, Nx112, H112, G112⟩ := id ft111
        have hin112 : ¬ ((3 : Int32) < 0 ∨ cl112.slots.size ≤ ((3 : Int32)).toNatClampNeg) := inb_of S112 ⟨by decide, by decide⟩
        obtain ⟨T113, h113, X113, e113, W113, st113⟩ := stI X110 hx hZ e110 Ar112 (j := (3 : Int32)) hin112 (g := (mkF m 161 #[rv a1, .val (.int (N i0)), .val (.double (FP.l2d (F i4))), .second, .val (.int (N i4)), iv 3, iv 7] [(.int (N i4)), (.int 3), (.ref nA)])) rfl rfl (hb hby d4_161)
        have V_nA_113 : Arv Z h113 nA kN .int (16 : Int32) [(.int (N i1)), (.int (N i3)), (.int (N i2)), (.int (N i4)), (.int (N i4))] (.int (0 : Int32)) := Arv.set Ar112 q112 S112 Nx112 H112 G112 rfl W113 3 rfl (Nat.le_of_ble_eq_true rfl)
        have N113 := Fr.snoc X113 N108 g_nA
        have O113 : Old Z n0 h113 := O108.wr W113 g_nA
        have K113 : Keep h0 h113 [a1, cA, nA] := K108.wr W113 (Or.inl (List.mem_of_getElem? (i := 2) rfl))
        refine Go.st (f' := (mkF m 162 #[rv a1, .val (.int (N i0)), .val (.double (FP.l2d (F i4))), .second, .val (.int (N i4)), iv 3, iv 7] [])) (fun _ k => st113 _ k) ?_
        refine Go.st (f' := (mkF m 163 #[rv a1, .val (.int (N i0)), .val (.double (FP.l2d (F i4))), .second, .val (.int (N i4)), iv 3, iv 7] [(.int (N i0))])) (fun _ k => XS.iloadN X113.here hx rfl (hb hby d4_162) rfl k) ?_
        refine Go.retV X113 hlk hx (t := .int) hret rfl (Or.inl ⟨rfl, Or.inl rfl, _, rfl⟩) (hb hby d4_163) e113 ?_ (by decide) (by decide)
        have c_cd21 := (not_congr (own_lw (F i2) (F i1)).1).mp cd21
        have c_cd69 :=  (own_lw (F i1) (F i4)).1.mp cd69
        have c_cd89 :=  (own_lw (F i3) (F i4)).1.mp cd89
        have ft114 := (((((((E_a1.wr W4).wr W74).wr W81).wr W94).wr W101).wr W108).wr W113)
        have ft115 := ((ft102.other W108 (Or.inl nt_a1_cA)).other W113 (Or.inl nt_a1_nA))
        have ft116 := (ft109.other W113 (Or.inl nt_a1_nA))
        have ft117 := ((ft104.other W108 (Or.inl nt_a1_cA)).other W113 (Or.inl nt_a1_nA))
        have ft118 := (V_cA_108.other W113 nn)
        exact ⟨rfl, N113, K113, ft114, ft115, ft116, ft117, i1, i3, i2, i4, (FP.l2d (F i4)), (N i4), fun w => by omega, by omega, by omega, by omega, by omega, ft118, V_nA_113⟩
      · refine Go.st (f' := (mkF m 99 #[rv a1, .val (.int (N i0)), .val (.double (FP.l2d (F i4))), .second, .val (.int (N i4)), iv 1, iv 3] [])) (fun _ k => XS.ifNo X86.here hx rfl (hb hby d4_96) rfl ((if0 _ _).trans (flt cd89).1) k) ?_
        refine Go.st (f' := (mkF m 145 #[rv a1, .val (.int (N i0)), .val (.double (FP.l2d (F i4))), .second, .val (.int (N i4)), iv 1, iv 3] [])) (fun _ k => XS.goto X86.here hx rfl (pc0 := 99) (pc' := 145) rfl (hb hby d4_99) (by decide) (by decide) k) ?_
        refine Go.st (f' := (mkF m 146 #[rv a1, .val (.int (N i0)), .val (.double (FP.l2d (F i4))), .second, .val (.int (N i4)), iv 1, iv 3] [(.ref a1)])) (fun _ k => XS.aloadN X86.here hx rfl (hb hby d4_145) rfl rfl k) ?_
        obtain ⟨T119, X119, e119, st119⟩ := getF X86 hx hZ hown (host := "") (Or.inl (ww hw 10 rfl)) Via.refl e86 ft85 (g := (mkF m 146 #[rv a1, .val (.int (N i0)), .val (.double (FP.l2d (F i4))), .second, .val (.int (N i4)), iv 1, iv 3] [(.ref a1)])) rfl rfl (hb hby d4_146)
        refine Go.st (f' := (mkF m 149 #[rv a1, .val (.int (N i0)), .val (.double (FP.l2d (F i4))), .second, .val (.int (N i4)), iv 1, iv 3] [(.ref cA)])) (fun _ k => st119 _ k) ?_
        refine Go.st (f' := (mkF m 151 #[rv a1, .val (.int (N i0)), .val (.double (FP.l2d (F i4))), .second, .val (.int (N i4)), iv 1, iv 3] [(.int 1), (.ref cA)])) (fun _ k => XS.iload X119.here hx rfl (hb hby d4_149) rfl k) ?_
        refine Go.st (f' := (mkF m 152 #[rv a1, .val (.int (N i0)), .val (.double (FP.l2d (F i4))), .second, .val (.int (N i4)), iv 1, iv 3] [(.double (FP.l2d (F i4))), (.int 1), (.ref cA)])) (fun _ k => XS.dloadN X119.here hx rfl (hb hby d4_151) rfl k) ?_
        obtain ⟨cl120, Ar120, q120, S120, Nx120, H120, G120⟩ := id ft88
        have hin120 : ¬ ((1 : Int32) < 0 ∨ cl120.slots.size ≤ ((1 : Int32)).toNatClampNeg) := inb_of S120 ⟨by decide, by decide⟩
        obtain ⟨T121, h121, X121, e121, W121, st121⟩ := stD X119 hx hZ e119 Ar120 (j := (1 : Int32)) hin120 (g := (mkF m 152 #[rv a1, .val (.int (N i0)), .val (.double (FP.l2d (F i4))), .second, .val (.int (N i4)), iv 1, iv 3] [(.double (FP.l2d (F i4))), (.int 1), (.ref cA)])) rfl rfl (hb hby d4_152)
        have V_cA_121 : Arv Z h121 cA kA .double (16 : Int32) [(.double (FP.l2d (F i1))), (.double (FP.l2d (F i4))), (.double (FP.l2d (F i2))), (.double (FP.l2d (F i3))), (.double (FP.l2d (F i4)))] (.double (FP.l2d 0)) := Arv.set Ar120 q120 S120 Nx120 H120 G120 rfl W121 1 rfl (Nat.le_of_ble_eq_true rfl)
        have N121 := Fr.snoc X121 N81 g_cA
        have O121 : Old Z n0 h121 := O81.wr W121 g_cA
        have K121 : Keep h0 h121 [a1, cA, nA] := K81.wr W121 (Or.inl (List.mem_of_getElem? (i := 1) rfl))
        refine Go.st (f' := (mkF m 153 #[rv a1, .val (.int (N i0)), .val (.double (FP.l2d (F i4))), .second, .val (.int (N i4)), iv 1, iv 3] [])) (fun _ k => st121 _ k) ?_
        refine Go.st (f' := (mkF m 154 #[rv a1, .val (.int (N i0)), .val (.double (FP.l2d (F i4))), .second, .val (.int (N i4)), iv 1, iv 3] [(.ref a1)])) (fun _ k => XS.aloadN X121.here hx rfl (hb hby d4_153) rfl rfl k) ?_
        have ft122 := ((ft75.other W81 (Or.inl nt_a1_nA)).other W121 (Or.inl nt_a1_cA))
        obtain ⟨T123, X123, e123, st123⟩ := getF X121 hx hZ hown (host := "") (Or.inl (ww hw 13 rfl)) Via.refl e121 ft122 (g := (mkF m 154 #[rv a1, .val (.int (N i0)), .val (.double (FP.l2d (F i4))), .second, .val (.int (N i4)), iv 1, iv 3] [(.ref a1)])) rfl rfl (hb hby d4_154)
        refine Go.st (f' := (mkF m 157 #[rv a1, .val (.int (N i0)), .val (.double (FP.l2d (F i4))), .second, .val (.int (N i4)), iv 1, iv 3] [(.ref nA)])) (fun _ k => st123 _ k) ?_
        refine Go.st (f' := (mkF m 159 #[rv a1, .val (.int (N i0)), .val (.double (FP.l2d (F i4))), .second, .val (.int (N i4)), iv 1, iv 3] [(.int 1), (.ref nA)])) (fun _ k => XS.iload X123.here hx rfl (hb hby d4_157) rfl k) ?_
        refine Go.st (f' := (mkF m 161 #[rv a1, .val (.int (N i0)), .val (.double (FP.l2d (F i4))), .second, .val (.int (N i4)), iv 1, iv 3] [(.int (N i4)), (.int 1), (.ref nA)])) (fun _ k => XS.iload X123.here hx rfl (hb hby d4_159) rfl k) ?_
        have ft124 := (V_nA_81.other W121 (Ne.symm nn))
        obtain ⟨cl125, Ar125, q125, S125, Nx125, H125, G125⟩ := id ft124
        have hin125 : ¬ ((1 : Int32) < 0 ∨ cl125.slots.size ≤ ((1 : Int32)).toNatClampNeg) := inb_of S125 ⟨by decide, by decide⟩
        obtain ⟨T126, h126, X126, e126, W126, st126⟩ := stI X123 hx hZ e123 Ar125 (j := (1 : Int32)) hin125 (g := (mkF m 161 #[rv a1, .val (.int (N i0)), .val (.double (FP.l2d (F i4))), .second, .val (.int (N i4)), iv 1, iv 3] [(.int (N i4)), (.int 1), (.ref nA)])) rfl rfl (hb hby d4_161)
        have V_nA_126 : Arv Z h126 nA kN .int (16 : Int32) [(.int (N i1)), (.int (N i4)), (.int (N i2)), (.int (N i3)), (.int (N i4))] (.int (0 : Int32)) := Arv.set Ar125 q125 S125 Nx125 H125 G125 rfl W126 1 rfl (Nat.le_of_ble_eq_true rfl)
        have N126 := Fr.snoc X126 N121 g_nA
        have O126 : Old Z n0 h126 := O121.wr W126 g_nA
        have K126 : Keep h0 h126 [a1, cA, nA] := K121.wr W126 (Or.inl (List.mem_of_getElem? (i := 2) rfl))
        refine Go.st (f' := (mkF m 162 #[rv a1, .val (.int (N i0)), .val (.double (FP.l2d (F i4))), .second, .val (.int (N i4)), iv 1, iv 3] [])) (fun _ k => st126 _ k) ?_
        refine Go.st (f' := (mkF m 163 #[rv a1, .val (.int (N i0)), .val (.double (FP.l2d (F i4))), .second, .val (.int (N i4)), iv 1, iv 3] [(.int (N i0))])) (fun _ k => XS.iloadN X126.here hx rfl (hb hby d4_162) rfl k) ?_
        refine Go.retV X126 hlk hx (t := .int) hret rfl (Or.inl ⟨rfl, Or.inl rfl, _, rfl⟩) (hb hby d4_163) e126 ?_ (by decide) (by decide)
        have c_cd21 := (not_congr (own_lw (F i2) (F i1)).1).mp cd21
        have c_cd69 :=  (own_lw (F i1) (F i4)).1.mp cd69
        have c_cd89 := (not_congr (own_lw (F i3) (F i4)).1).mp cd89
        have ft127 := (((((E_a1.wr W4).wr W74).wr W81).wr W121).wr W126)
        have ft128 := ((ft82.other W121 (Or.inl nt_a1_cA)).other W126 (Or.inl nt_a1_nA))
        have ft129 := (ft122.other W126 (Or.inl nt_a1_nA))
        have ft130 := ((ft85.other W121 (Or.inl nt_a1_cA)).other W126 (Or.inl nt_a1_nA))
        have ft131 := (V_cA_121.other W126 nn)
        exact ⟨rfl, N126, K126, ft127, ft128, ft129, ft130, i1, i4, i2, i3, (FP.l2d (F i4)), (N i4), fun w => by omega, by omega, by omega, by omega, by omega, ft131, V_nA_126⟩
    · refine Go.st (f' := (mkF m 99 #[rv a1, .val (.int (N i0)), .val (.double (FP.l2d (F i4))), .second, .val (.int (N i4)), iv 0, iv 1] [])) (fun _ k => XS.ifNo X67.here hx rfl (hb hby d4_96) rfl ((if0 _ _).trans (flt cd69).1) k) ?_
      refine Go.st (f' := (mkF m 145 #[rv a1, .val (.int (N i0)), .val (.double (FP.l2d (F i4))), .second, .val (.int (N i4)), iv 0, iv 1] [])) (fun _ k => XS.goto X67.here hx rfl (pc0 := 99) (pc' := 145) rfl (hb hby d4_99) (by decide) (by decide) k) ?_
      refine Go.st (f' := (mkF m 146 #[rv a1, .val (.int (N i0)), .val (.double (FP.l2d (F i4))), .second, .val (.int (N i4)), iv 0, iv 1] [(.ref a1)])) (fun _ k => XS.aloadN X67.here hx rfl (hb hby d4_145) rfl rfl k) ?_
      obtain ⟨T132, X132, e132, st132⟩ := getF X67 hx hZ hown (host := "") (Or.inl (ww hw 10 rfl)) Via.refl e67 ft5 (g := (mkF m 146 #[rv a1, .val (.int (N i0)), .val (.double (FP.l2d (F i4))), .second, .val (.int (N i4)), iv 0, iv 1] [(.ref a1)])) rfl rfl (hb hby d4_146)
      refine Go.st (f' := (mkF m 149 #[rv a1, .val (.int (N i0)), .val (.double (FP.l2d (F i4))), .second, .val (.int (N i4)), iv 0, iv 1] [(.ref cA)])) (fun _ k => st132 _ k) ?_
      refine Go.st (f' := (mkF m 151 #[rv a1, .val (.int (N i0)), .val (.double (FP.l2d (F i4))), .second, .val (.int (N i4)), iv 0, iv 1] [(.int 0), (.ref cA)])) (fun _ k => XS.iload X132.here hx rfl (hb hby d4_149) rfl k) ?_
      refine Go.st (f' := (mkF m 152 #[rv a1, .val (.int (N i0)), .val (.double (FP.l2d (F i4))), .second, .val (.int (N i4)), iv 0, iv 1] [(.double (FP.l2d (F i4))), (.int 0), (.ref cA)])) (fun _ k => XS.dloadN X132.here hx rfl (hb hby d4_151) rfl k) ?_
      obtain ⟨cl133, Ar133, q133, S133, Nx133, H133, G133⟩ := id ft9
      have hin133 : ¬ ((0 : Int32) < 0 ∨ cl133.slots.size ≤ ((0 : Int32)).toNatClampNeg) := inb_of S133 ⟨by decide, by decide⟩
      obtain ⟨T134, h134, X134, e134, W134, st134⟩ := stD X132 hx hZ e132 Ar133 (j := (0 : Int32)) hin133 (g := (mkF m 152 #[rv a1, .val (.int (N i0)), .val (.double (FP.l2d (F i4))), .second, .val (.int (N i4)), iv 0, iv 1] [(.double (FP.l2d (F i4))), (.int 0), (.ref cA)])) rfl rfl (hb hby d4_152)
      have V_cA_134 : Arv Z h134 cA kA .double (16 : Int32) [(.double (FP.l2d (F i4))), (.double (FP.l2d (F i1))), (.double (FP.l2d (F i2))), (.double (FP.l2d (F i3))), (.double (FP.l2d (F i4)))] (.double (FP.l2d 0)) := Arv.set Ar133 q133 S133 Nx133 H133 G133 rfl W134 0 rfl (Nat.le_of_ble_eq_true rfl)
      have N134 := Fr.snoc X134 N4 g_cA
      have O134 : Old Z n0 h134 := O4.wr W134 g_cA
      have K134 : Keep h0 h134 [a1, cA, nA] := K4.wr W134 (Or.inl (List.mem_of_getElem? (i := 1) rfl))
      refine Go.st (f' := (mkF m 153 #[rv a1, .val (.int (N i0)), .val (.double (FP.l2d (F i4))), .second, .val (.int (N i4)), iv 0, iv 1] [])) (fun _ k => st134 _ k) ?_
      refine Go.st (f' := (mkF m 154 #[rv a1, .val (.int (N i0)), .val (.double (FP.l2d (F i4))), .second, .val (.int (N i4)), iv 0, iv 1] [(.ref a1)])) (fun _ k => XS.aloadN X134.here hx rfl (hb hby d4_153) rfl rfl k) ?_
      have ft135 := (ft10.other W134 (Or.inl nt_a1_cA))
      obtain ⟨T136, X136, e136, st136⟩ := getF X134 hx hZ hown (host := "") (Or.inl (ww hw 13 rfl)) Via.refl e134 ft135 (g := (mkF m 154 #[rv a1, .val (.int (N i0)), .val (.double (FP.l2d (F i4))), .second, .val (.int (N i4)), iv 0, iv 1] [(.ref a1)])) rfl rfl (hb hby d4_154)
      refine Go.st (f' := (mkF m 157 #[rv a1, .val (.int (N i0)), .val (.double (FP.l2d (F i4))), .second, .val (.int (N i4)), iv 0, iv 1] [(.ref nA)])) (fun _ k => st136 _ k) ?_
      refine Go.st (f' := (mkF m 159 #[rv a1, .val (.int (N i0)), .val (.double (FP.l2d (F i4))), .second, .val (.int (N i4)), iv 0, iv 1] [(.int 0), (.ref nA)])) (fun _ k => XS.iload X136.here hx rfl (hb hby d4_157) rfl k) ?_
      refine Go.st (f' := (mkF m 161 #[rv a1, .val (.int (N i0)), .val (.double (FP.l2d (F i4))), .second, .val (.int (N i4)), iv 0, iv 1] [(.int (N i4)), (.int 0), (.ref nA)])) (fun _ k => XS.iload X136.here hx rfl (hb hby d4_159) rfl k) ?_
      have ft137 := (ft14.other W134 (Ne.symm nn))
      obtain ⟨cl138, Ar138, q138, S138, Nx138, H138, G138⟩ := id ft137
      have hin138 : ¬ ((0 : Int32) < 0 ∨ cl138.slots.size ≤ ((0 : Int32)).toNatClampNeg) := inb_of S138 ⟨by decide, by decide⟩
      obtain ⟨T139, h139, X139, e139, W139, st139⟩ := stI X136 hx hZ e136 Ar138 (j := (0 : Int32)) hin138 (g := (mkF m 161 #[rv a1, .val (.int (N i0)), .val (.double (FP.l2d (F i4))), .second, .val (.int (N i4)), iv 0, iv 1] [(.int (N i4)), (.int 0), (.ref nA)])) rfl rfl (hb hby d4_161)
      have V_nA_139 : Arv Z h139 nA kN .int (16 : Int32) [(.int (N i4)), (.int (N i1)), (.int (N i2)), (.int (N i3)), (.int (N i4))] (.int (0 : Int32)) := Arv.set Ar138 q138 S138 Nx138 H138 G138 rfl W139 0 rfl (Nat.le_of_ble_eq_true rfl)
      have N139 := Fr.snoc X139 N134 g_nA
      have O139 : Old Z n0 h139 := O134.wr W139 g_nA
      have K139 : Keep h0 h139 [a1, cA, nA] := K134.wr W139 (Or.inl (List.mem_of_getElem? (i := 2) rfl))
      refine Go.st (f' := (mkF m 162 #[rv a1, .val (.int (N i0)), .val (.double (FP.l2d (F i4))), .second, .val (.int (N i4)), iv 0, iv 1] [])) (fun _ k => st139 _ k) ?_
      refine Go.st (f' := (mkF m 163 #[rv a1, .val (.int (N i0)), .val (.double (FP.l2d (F i4))), .second, .val (.int (N i4)), iv 0, iv 1] [(.int (N i0))])) (fun _ k => XS.iloadN X139.here hx rfl (hb hby d4_162) rfl k) ?_
      refine Go.retV X139 hlk hx (t := .int) hret rfl (Or.inl ⟨rfl, Or.inl rfl, _, rfl⟩) (hb hby d4_163) e139 ?_ (by decide) (by decide)
      have c_cd21 := (not_congr (own_lw (F i2) (F i1)).1).mp cd21
      have c_cd69 := (not_congr (own_lw (F i1) (F i4)).1).mp cd69
      have ft140 := (((E_a1.wr W4).wr W134).wr W139)
      have ft141 := ((Fw4.other W134 (Or.inl nt_a1_cA)).other W139 (Or.inl nt_a1_nA))
      have ft142 := (ft135.other W139 (Or.inl nt_a1_nA))
      have ft143 := ((ft5.other W134 (Or.inl nt_a1_cA)).other W139 (Or.inl nt_a1_nA))
      have ft144 := (V_cA_134.other W139 nn)
      exact ⟨rfl, N139, K139, ft140, ft141, ft142, ft143, i4, i1, i2, i3, (FP.l2d (F i4)), (N i4), fun w => by omega, by omega, by omega, by omega, by omega, ft144, V_nA_139⟩
theorem pn_com_example_kinetic_city_kineticcity_engine_CostQueueRemoveCheapestPinLaw : plainName "com/example/kinetic_city/kineticcity/engine/CostQueueRemoveCheapestPinLaw" = true := by first | (simp [plainName, overriddenIn]; done) | decide +kernel
theorem d5_0 : decode method_3_code 0 = .ok (.iload_n 0, 1) := by decide +kernel
theorem d5_1 : decode method_3_code 1 = .ok (.ifCond .lt 12, 3) := by decide +kernel
theorem d5_13 : decode method_3_code 13 = .ok (.iconst 0, 1) := by decide +kernel
theorem d5_14 : decode method_3_code 14 = .ok (.ireturn, 1) := by decide +kernel
theorem d5_4 : decode method_3_code 4 = .ok (.iload_n 0, 1) := by decide +kernel
theorem d5_5 : decode method_3_code 5 = .ok (.iconst 5, 1) := by decide +kernel
theorem d5_6 : decode method_3_code 6 = .ok (.if_icmp .ge 7, 3) := by decide +kernel
theorem d5_9 : decode method_3_code 9 = .ok (.iconst 1, 1) := by decide +kernel
theorem d5_10 : decode method_3_code 10 = .ok (.goto 4, 3) := by decide +kernel
def inI (p1 : Int32) : Int32 := (if p1 < (0 : Int32) then (0 : Int32) else (if p1 < (5 : Int32) then (1 : Int32) else (0 : Int32)))
set_option maxRecDepth 65536 in
set_option maxHeartbeats 40000000 in
theorem rmIn (l : Launch) (Z : State) (a0 : Array Value) (hw : ∀ d ∈ tables_1, d.before a0 Z = true) (ws : List Jvm.Cond) (p1 : Int32) (h0 : Heap) (n0 : Nat) (O0 : Old Z n0 h0)  :
    Con l Z (⟨"com/example/kinetic_city/kineticcity/engine/CostQueueRemoveCheapestPinLaw", "in", "(I)Z"⟩ : MethodName) method_3_code 1 (some .boolean) ws ({ frames := 0, cells := 0, slots := 0, locals := 0 } : Room) #[(.int p1)] h0 (fun v h L => v = some (.int (inI p1)) ∧ Fr n0 L ∧ h = h0) := by
  refine own_body (plainFor_of_name pn_com_example_kinetic_city_kineticcity_engine_CostQueueRemoveCheapestPinLaw) ?_
  intro p e s m below meth c s₁ hx hby hml hZ hown hnm hlk hret X0 e0
  have N0 := Fr.nil n0
  refine Go.st (T' := s₁) (f' := (mkF m 0 #[iv p1] [])) (fun _ k => castTop (by first | (simp [entryFrame, mkF, argsToLocals, Value.category]; done) | rfl) k) ?_
  refine Go.st (f' := (mkF m 1 #[iv p1] [(.int p1)])) (fun _ k => XS.iloadN X0.here hx rfl (hb hby d5_0) rfl k) ?_
  by_cases cd1 : p1 < (0 : Int32)
  · refine Go.st (f' := (mkF m 13 #[iv p1] [])) (fun _ k => XS.ifYes X0.here hx rfl (pc0 := 1) (pc' := 13) rfl (hb hby d5_1) rfl ((if0 _ _).trans (tlt cd1).1) (by decide) (by decide) k) ?_
    refine Go.st (f' := (mkF m 14 #[iv p1] [(.int 0)])) (fun _ k => XS.iconst X0.here hx rfl (hb hby d5_13) k) ?_
    refine Go.retB X0 hlk hx (t := .boolean) hret (by simp) (hb hby d5_14) e0 ?_ (by decide) (by decide)
    show (some (.int (0 : Int32)) : Option Value) = some (.int (inI p1)) ∧ _
    exact ⟨by rw [inI, if_pos cd1], N0, rfl⟩
  · refine Go.st (f' := (mkF m 4 #[iv p1] [])) (fun _ k => XS.ifNo X0.here hx rfl (hb hby d5_1) rfl ((if0 _ _).trans (flt cd1).1) k) ?_
    refine Go.st (f' := (mkF m 5 #[iv p1] [(.int p1)])) (fun _ k => XS.iloadN X0.here hx rfl (hb hby d5_4) rfl k) ?_
    refine Go.st (f' := (mkF m 6 #[iv p1] [(.int 5), (.int p1)])) (fun _ k => XS.iconst X0.here hx rfl (hb hby d5_5) k) ?_
    by_cases cd2 : p1 < (5 : Int32)
    · refine Go.st (f' := (mkF m 9 #[iv p1] [])) (fun _ k => XS.icmpNo X0.here hx rfl (hb hby d5_6) rfl (tlt cd2).2.1 k) ?_
      refine Go.st (f' := (mkF m 10 #[iv p1] [(.int 1)])) (fun _ k => XS.iconst X0.here hx rfl (hb hby d5_9) k) ?_
      refine Go.st (f' := (mkF m 14 #[iv p1] [(.int 1)])) (fun _ k => XS.goto X0.here hx rfl (pc0 := 10) (pc' := 14) rfl (hb hby d5_10) (by decide) (by decide) k) ?_
      refine Go.retB X0 hlk hx (t := .boolean) hret (by simp) (hb hby d5_14) e0 ?_ (by decide) (by decide)
      show (some (.int (1 : Int32)) : Option Value) = some (.int (inI p1)) ∧ _
      exact ⟨by rw [inI, if_neg cd1, if_pos cd2], N0, rfl⟩
    · refine Go.st (f' := (mkF m 13 #[iv p1] [])) (fun _ k => XS.icmpYes X0.here hx rfl (pc0 := 6) (pc' := 13) rfl (hb hby d5_6) rfl (flt cd2).2.1 (by decide) (by decide) k) ?_
      refine Go.st (f' := (mkF m 14 #[iv p1] [(.int 0)])) (fun _ k => XS.iconst X0.here hx rfl (hb hby d5_13) k) ?_
      refine Go.retB X0 hlk hx (t := .boolean) hret (by simp) (hb hby d5_14) e0 ?_ (by decide) (by decide)
      show (some (.int (0 : Int32)) : Option Value) = some (.int (inI p1)) ∧ _
      exact ⟨by rw [inI, if_neg cd1, if_neg cd2], N0, rfl⟩
def ndF (b i : Int32) : Int32 := b + i
theorem ndF_0 (b : Int32) : b = ndF b (0 : Int32) := by unfold ndF; rw [Int32.add_zero]
theorem own_cancel (b j : Int32) : ndF b j - b = j := by unfold ndF; rw [Int32.add_comm, Int32.add_sub_cancel]
def Cx (c0 c1 c2 c3 c4 : Int64) (i : Int32) : Int64 := if i = (0 : Int32) then c0 else if i = (1 : Int32) then c1 else if i = (2 : Int32) then c2 else if i = (3 : Int32) then c3 else c4
theorem Cx_0 (c0 c1 c2 c3 c4 : Int64) : c0 = Cx c0 c1 c2 c3 c4 (0 : Int32) := rfl
theorem Cx_1 (c0 c1 c2 c3 c4 : Int64) : c1 = Cx c0 c1 c2 c3 c4 (1 : Int32) := rfl
theorem Cx_2 (c0 c1 c2 c3 c4 : Int64) : c2 = Cx c0 c1 c2 c3 c4 (2 : Int32) := rfl
theorem Cx_3 (c0 c1 c2 c3 c4 : Int64) : c3 = Cx c0 c1 c2 c3 c4 (3 : Int32) := rfl
theorem Cx_4 (c0 c1 c2 c3 c4 : Int64) : c4 = Cx c0 c1 c2 c3 c4 (4 : Int32) := rfl
theorem own_cost (x : Int32) : B53 (((x &&& (15 : Int32)) - (8 : Int32)).toInt64) := by
  have h1 := c_and x 15 (by decide)
  have h2 := c_isub (x &&& 15) 8
  have h3 := rng32 ((x &&& 15) - 8)
  have h4 := c_i2l ((x &&& 15) - 8)
  have e1 : (15 : Int32).toInt = 15 := by decide
  have e2 : (8 : Int32).toInt = 8 := by decide
  exact ⟨by omega, by omega⟩
theorem own_hF {c0 c1 c2 c3 c4 : Int64} (h0 : B53 c0) (h1 : B53 c1) (h2 : B53 c2) (h3 : B53 c3) (h4 : B53 c4) : ∀ i, B53 (Cx c0 c1 c2 c3 c4 i) := fun i => by
  unfold Cx; repeat' split
  all_goals assumption
def inR (x : Int32) : Int := if (x = (0 : Int32) ∨ x = (1 : Int32) ∨ x = (2 : Int32) ∨ x = (3 : Int32) ∨ x = (4 : Int32)) then 0 else 1
def pw2 (x : Int32) : Int := if x = (0 : Int32) then 1 else if x = (1 : Int32) then 2 else if x = (2 : Int32) then 4 else if x = (3 : Int32) then 8 else if x = (4 : Int32) then 16 else 0
theorem inR_nn (x : Int32) : 0 ≤ inR x := by unfold inR; split <;> decide
theorem inR_z {x : Int32} (h : inR x = 0) : (x = (0 : Int32) ∨ x = (1 : Int32) ∨ x = (2 : Int32) ∨ x = (3 : Int32) ∨ x = (4 : Int32)) := by
  unfold inR at h; split at h
  · assumption
  · exact absurd h (by decide)
theorem own_rng {r0 r1 r2 r3 r4 : Int32} (h : ∀ w : Int32 → Int, w r0 + w r1 + w r2 + w r3 + w r4 = w (0 : Int32) + w (1 : Int32) + w (2 : Int32) + w (3 : Int32) + w (4 : Int32)) : (r0 = (0 : Int32) ∨ r0 = (1 : Int32) ∨ r0 = (2 : Int32) ∨ r0 = (3 : Int32) ∨ r0 = (4 : Int32)) ∧ (r1 = (0 : Int32) ∨ r1 = (1 : Int32) ∨ r1 = (2 : Int32) ∨ r1 = (3 : Int32) ∨ r1 = (4 : Int32)) ∧ (r2 = (0 : Int32) ∨ r2 = (1 : Int32) ∨ r2 = (2 : Int32) ∨ r2 = (3 : Int32) ∨ r2 = (4 : Int32)) ∧ (r3 = (0 : Int32) ∨ r3 = (1 : Int32) ∨ r3 = (2 : Int32) ∨ r3 = (3 : Int32) ∨ r3 = (4 : Int32)) ∧ (r4 = (0 : Int32) ∨ r4 = (1 : Int32) ∨ r4 = (2 : Int32) ∨ r4 = (3 : Int32) ∨ r4 = (4 : Int32)) := by
  have q := h inR
  have e : inR 0 + inR 1 + inR 2 + inR 3 + inR 4 = 0 := by decide
  rw [e] at q
  have n0 := inR_nn r0
  have n1 := inR_nn r1
  have n2 := inR_nn r2
  have n3 := inR_nn r3
  have n4 := inR_nn r4
  exact ⟨inR_z (by omega), inR_z (by omega), inR_z (by omega), inR_z (by omega), inR_z (by omega)⟩
theorem own_seenF : ∀ a b c d e : Fin 5, (pw2 (Int32.ofNat a.val) + pw2 (Int32.ofNat b.val) + pw2 (Int32.ofNat c.val) + pw2 (Int32.ofNat d.val) + pw2 (Int32.ofNat e.val) = 31) → ((((((1 : Int32) <<< (Int32.ofNat a.val &&& 31)) ||| ((1 : Int32) <<< (Int32.ofNat b.val &&& 31))) ||| ((1 : Int32) <<< (Int32.ofNat c.val &&& 31))) ||| ((1 : Int32) <<< (Int32.ofNat d.val &&& 31))) ||| ((1 : Int32) <<< (Int32.ofNat e.val &&& 31))) = (31 : Int32) := by decide +kernel
theorem own_fin {r : Int32} (h : (r = (0 : Int32) ∨ r = (1 : Int32) ∨ r = (2 : Int32) ∨ r = (3 : Int32) ∨ r = (4 : Int32))) : ∃ a : Fin 5, r = Int32.ofNat a.val := by
  rcases h with rfl | rfl | rfl | rfl | rfl
  · exact ⟨0, rfl⟩
  · exact ⟨1, rfl⟩
  · exact ⟨2, rfl⟩
  · exact ⟨3, rfl⟩
  · exact ⟨4, rfl⟩
theorem own_seen {r0 r1 r2 r3 r4 : Int32} (h : ∀ w : Int32 → Int, w r0 + w r1 + w r2 + w r3 + w r4 = w (0 : Int32) + w (1 : Int32) + w (2 : Int32) + w (3 : Int32) + w (4 : Int32)) : ((((((1 : Int32) <<< (r0 &&& 31)) ||| ((1 : Int32) <<< (r1 &&& 31))) ||| ((1 : Int32) <<< (r2 &&& 31))) ||| ((1 : Int32) <<< (r3 &&& 31))) ||| ((1 : Int32) <<< (r4 &&& 31))) = (31 : Int32) := by
  obtain ⟨h0, h1, h2, h3, h4⟩ := own_rng h
  obtain ⟨a, rfl⟩ := own_fin h0
  obtain ⟨b, rfl⟩ := own_fin h1
  obtain ⟨c, rfl⟩ := own_fin h2
  obtain ⟨d, rfl⟩ := own_fin h3
  obtain ⟨e, rfl⟩ := own_fin h4
  exact own_seenF a b c d e ((h pw2).trans (by decide))
theorem own_in {r : Int32} (h : (r = (0 : Int32) ∨ r = (1 : Int32) ∨ r = (2 : Int32) ∨ r = (3 : Int32) ∨ r = (4 : Int32))) : ¬ inI r = (0 : Int32) := by
  rcases h with rfl | rfl | rfl | rfl | rfl <;> decide
theorem own_lo {r : Int32} (h : (r = (0 : Int32) ∨ r = (1 : Int32) ∨ r = (2 : Int32) ∨ r = (3 : Int32) ∨ r = (4 : Int32))) : ¬ r < (0 : Int32) := by
  rcases h with rfl | rfl | rfl | rfl | rfl <;> decide
theorem own_hi {r : Int32} (h : (r = (0 : Int32) ∨ r = (1 : Int32) ∨ r = (2 : Int32) ∨ r = (3 : Int32) ∨ r = (4 : Int32))) : r < (5 : Int32) := by
  rcases h with rfl | rfl | rfl | rfl | rfl <;> decide
theorem own_get {c0 c1 c2 c3 c4 : Int64} {d : Value} {r : Int32} (h : (r = (0 : Int32) ∨ r = (1 : Int32) ∨ r = (2 : Int32) ∨ r = (3 : Int32) ∨ r = (4 : Int32))) : [Value.double (FP.l2d c0), Value.double (FP.l2d c1), Value.double (FP.l2d c2), Value.double (FP.l2d c3), Value.double (FP.l2d c4)].getD r.toNatClampNeg d = .double (FP.l2d (Cx c0 c1 c2 c3 c4 r)) := by
  rcases h with rfl | rfl | rfl | rfl | rfl <;> rfl
theorem pd___V : parseMethodDescriptor "()V" = some ⟨[], none⟩ := by decide +kernel
theorem pd__ID_V : parseMethodDescriptor "(ID)V" = some ⟨[.int, .double], none⟩ := by decide +kernel
theorem pd___I : parseMethodDescriptor "()I" = some ⟨[], some .int⟩ := by decide +kernel
theorem pd__I_Z : parseMethodDescriptor "(I)Z" = some ⟨[.int], some .boolean⟩ := by decide +kernel
set_option maxRecDepth 65536 in
set_option maxHeartbeats 40000000 in
theorem rm0 (l : Launch) (Z : State) (a0 : Array Value) (hw : ∀ d ∈ tables_1, d.before a0 Z = true) (ws : List Jvm.Cond) (p1 : Int32) (p2 : Int32) (p3 : Int32) (p4 : Int32) (p5 : Int32) (p6 : Int32) (h0 : Heap) (n0 : Nat) (O0 : Old Z n0 h0) (WW : World1 Z ) :
    MetFree l x (head1 (Jvm.Cond.code x code maxLocals ret :: ws) room_1) (fun a U => a = #[(.int p1), (.int p2), (.int p3), (.int p4), (.int p5), (.int p6)] ∧ Z.Warmed39 U.vm ∧ U.heap = h0) (fun _ _ _ _ _ => True) (fun _ U o U' => ∃ v L, o = .returned v ∧ (fun v h L => v = some (.int (1 : Int32)) ∧ Fr n0 L) v U'.heap L ∧ FrameEnd U o U' L 16 192) := by
  refine MetFree.of_bodySF (plainFor_of_name pn_com_example_kinetic_city_kineticcity_engine_CostQueueRemoveCheapestPinLaw) hisR ?_
  intro p e s m args below meth c s₁ Bd hml0 hP hK
  obtain ⟨rfl, hZ, hh⟩ := hP
  have hx := Bd.exec
  have hby := Bd.bytes
  have hml : c.maxLocals = 14 := hml0
  have hlk := Bd.notSynchronized
  have hret := Bd.returns
  have hown : s.vm.findClass "com/example/kinetic_city/kineticcity/engine/CostQueueRemoveCheapestPinLaw" = some m.cls := findClass_of_methodNamed Bd.named
  have hnm := (name_of_methodNamed Bd.named Bd.method).1
  have X0 : Stand p l e room_1 s m #[(.int p1), (.int p2), (.int p3), (.int p4), (.int p5), (.int p6)] below meth c s₁ [] 0 0 := Stand.of_body Bd
  have e0 : s₁.heap = h0 := by rw [← hh, Bd.state]; rfl
  show Go p e below (Done s (fun v h L => v = some (.int (1 : Int32)) ∧ Fr n0 L) 16 192) s₁ _
  have N0 := Fr.nil n0
  refine Go.st (T' := s₁) (f' := (mkF m 0 #[iv p1, iv p2, iv p3, iv p4, iv p5, iv p6, .unset, .unset, .unset, .unset, .unset, .unset, .unset, .unset] [])) (fun _ k => castTop (by first | (simp [entryFrame, mkF, argsToLocals, Value.category, maxLocals]; done) | rfl) k) ?_
  have ⟨⟩ := WW
  refine Go.st (f' := (mkF m 1 #[iv p1, iv p2, iv p3, iv p4, iv p5, iv p6, .unset, .unset, .unset, .unset, .unset, .unset, .unset, .unset] [(.int 5)])) (fun _ k => XS.iconst X0.here hx rfl (hb hby at_0) k) ?_
  obtain ⟨T1, h1, kc1, X1, e1, E1, A1, st1⟩ := newP X0 hx hZ (ww hw 0 rfl) e0 (g := (mkF m 1 #[iv p1, iv p2, iv p3, iv p4, iv p5, iv p6, .unset, .unset, .unset, .unset, .unset, .unset, .unset, .unset] [(.int 5)])) rfl (hb hby at_1) rfl (by decide) (cap := 5) (by decide) (by decide) (by decide) (by decide)
  obtain ⟨b1, g1⟩ : ∃ z, z = h0.size := ⟨_, rfl⟩
  rw [← g1] at A1 st1
  have g_b1 : n0 ≤ b1 := Nat.le_trans (O0.1 ▸ O0.2.1) (Nat.le_of_eq g1.symm)
  have O1 : Old Z n0 h1 := O0.ext E1
  have V_b1 : Arv Z h1 b1 kc1 .double (5 : Int32) [(.double (FP.l2d 0)), (.double (FP.l2d 0)), (.double (FP.l2d 0)), (.double (FP.l2d 0)), (.double (FP.l2d 0))] (.double (FP.l2d 0)) := (Arv.newD A1 (by decide)).pad (pad_rep [] (.double (FP.l2d 0)) 5)
  have lt_b1 := V_b1.lt
  refine Go.st (f' := (mkF m 3 #[iv p1, iv p2, iv p3, iv p4, iv p5, iv p6, .unset, .unset, .unset, .unset, .unset, .unset, .unset, .unset] [(.ref b1)])) (fun _ k => st1 _ k) ?_
  refine Go.st (f' := (mkF m 5 #[iv p1, iv p2, iv p3, iv p4, iv p5, iv p6, rv b1, .unset, .unset, .unset, .unset, .unset, .unset, .unset] [])) (fun _ k => XS.astore X1.here hx rfl (hb hby at_3) rfl rfl (l' := #[iv p1, iv p2, iv p3, iv p4, iv p5, iv p6, rv b1, .unset, .unset, .unset, .unset, .unset, .unset, .unset]) rfl k) ?_
  refine Go.st (f' := (mkF m 7 #[iv p1, iv p2, iv p3, iv p4, iv p5, iv p6, rv b1, .unset, .unset, .unset, .unset, .unset, .unset, .unset] [(.ref b1)])) (fun _ k => XS.aload X1.here hx rfl (hb hby at_5) rfl rfl k) ?_
  refine Go.st (f' := (mkF m 8 #[iv p1, iv p2, iv p3, iv p4, iv p5, iv p6, rv b1, .unset, .unset, .unset, .unset, .unset, .unset, .unset] [(.int 0), (.ref b1)])) (fun _ k => XS.iconst X1.here hx rfl (hb hby at_7) k) ?_
  refine Go.st (f' := (mkF m 9 #[iv p1, iv p2, iv p3, iv p4, iv p5, iv p6, rv b1, .unset, .unset, .unset, .unset, .unset, .unset, .unset] [(.int p1), (.int 0), (.ref b1)])) (fun _ k => XS.iloadN X1.here hx rfl (hb hby at_8) rfl k) ?_
  refine Go.st (f' := (mkF m 11 #[iv p1, iv p2, iv p3, iv p4, iv p5, iv p6, rv b1, .unset, .unset, .unset, .unset, .unset, .unset, .unset] [(.int 15), (.int p1), (.int 0), (.ref b1)])) (fun _ k => XS.bipush X1.here hx rfl (hb hby at_9) k) ?_
  refine Go.st (f' := (mkF m 12 #[iv p1, iv p2, iv p3, iv p4, iv p5, iv p6, rv b1, .unset, .unset, .unset, .unset, .unset, .unset, .unset] [(.int (p1 &&& (15 : Int32))), (.int 0), (.ref b1)])) (fun _ k => XS.iand X1.here hx rfl (hb hby at_11) rfl k) ?_
  refine Go.st (f' := (mkF m 14 #[iv p1, iv p2, iv p3, iv p4, iv p5, iv p6, rv b1, .unset, .unset, .unset, .unset, .unset, .unset, .unset] [(.int 8), (.int (p1 &&& (15 : Int32))), (.int 0), (.ref b1)])) (fun _ k => XS.bipush X1.here hx rfl (hb hby at_12) k) ?_
  refine Go.st (f' := (mkF m 15 #[iv p1, iv p2, iv p3, iv p4, iv p5, iv p6, rv b1, .unset, .unset, .unset, .unset, .unset, .unset, .unset] [(.int ((p1 &&& (15 : Int32)) - (8 : Int32))), (.int 0), (.ref b1)])) (fun _ k => XS.isub X1.here hx rfl (hb hby at_14) rfl k) ?_
  obtain ⟨yy2, hyy2⟩ : ∃ z, z = ((p1 &&& (15 : Int32)) - (8 : Int32)) := ⟨_, rfl⟩
  rw [← hyy2]
  have hb_yy2 : B53 (yy2.toInt64) := hyy2 ▸ own_cost _
  refine Go.st (f' := (mkF m 16 #[iv p1, iv p2, iv p3, iv p4, iv p5, iv p6, rv b1, .unset, .unset, .unset, .unset, .unset, .unset, .unset] [(.double (FP.l2d (yy2.toInt64))), (.int 0), (.ref b1)])) (fun _ k => XS.i2dS X1.here hx rfl (hb hby at_15) rfl (i2d_w _) k) ?_
  obtain ⟨cl3, Ar3, q3, S3, Nx3, H3, G3⟩ := id V_b1
  have hin3 : ¬ ((0 : Int32) < 0 ∨ cl3.slots.size ≤ ((0 : Int32)).toNatClampNeg) := inb_of S3 ⟨by decide, by decide⟩
  obtain ⟨T4, h4, X4, e4, W4, st4⟩ := stD X1 hx hZ e1 Ar3 (j := (0 : Int32)) hin3 (g := (mkF m 16 #[iv p1, iv p2, iv p3, iv p4, iv p5, iv p6, rv b1, .unset, .unset, .unset, .unset, .unset, .unset, .unset] [(.double (FP.l2d (yy2.toInt64))), (.int 0), (.ref b1)])) rfl rfl (hb hby at_16)
  have V_b1_4 : Arv Z h4 b1 kc1 .double (5 : Int32) [(.double (FP.l2d (yy2.toInt64))), (.double (FP.l2d 0)), (.double (FP.l2d 0)), (.double (FP.l2d 0)), (.double (FP.l2d 0))] (.double (FP.l2d 0)) := Arv.set Ar3 q3 S3 Nx3 H3 G3 rfl W4 0 rfl (Nat.le_of_ble_eq_true rfl)
  have N4 := Fr.snoc X4 N0 g_b1
  have O4 : Old Z n0 h4 := O1.wr W4 g_b1
  refine Go.st (f' := (mkF m 17 #[iv p1, iv p2, iv p3, iv p4, iv p5, iv p6, rv b1, .unset, .unset, .unset, .unset, .unset, .unset, .unset] [])) (fun _ k => st4 _ k) ?_
  refine Go.st (f' := (mkF m 19 #[iv p1, iv p2, iv p3, iv p4, iv p5, iv p6, rv b1, .unset, .unset, .unset, .unset, .unset, .unset, .unset] [(.ref b1)])) (fun _ k => XS.aload X4.here hx rfl (hb hby at_17) rfl rfl k) ?_
  refine Go.st (f' := (mkF m 20 #[iv p1, iv p2, iv p3, iv p4, iv p5, iv p6, rv b1, .unset, .unset, .unset, .unset, .unset, .unset, .unset] [(.int 1), (.ref b1)])) (fun _ k => XS.iconst X4.here hx rfl (hb hby at_19) k) ?_
  refine Go.st (f' := (mkF m 21 #[iv p1, iv p2, iv p3, iv p4, iv p5, iv p6, rv b1, .unset, .unset, .unset, .unset, .unset, .unset, .unset] [(.int p2), (.int 1), (.ref b1)])) (fun _ k => XS.iloadN X4.here hx rfl (hb hby at_20) rfl k) ?_
  refine Go.st (f' := (mkF m 23 #[iv p1, iv p2, iv p3, iv p4, iv p5, iv p6, rv b1, .unset, .unset, .unset, .unset, .unset, .unset, .unset] [(.int 15), (.int p2), (.int 1), (.ref b1)])) (fun _ k => XS.bipush X4.here hx rfl (hb hby at_21) k) ?_
  refine Go.st (f' := (mkF m 24 #[iv p1, iv p2, iv p3, iv p4, iv p5, iv p6, rv b1, .unset, .unset, .unset, .unset, .unset, .unset, .unset] [(.int (p2 &&& (15 : Int32))), (.int 1), (.ref b1)])) (fun _ k => XS.iand X4.here hx rfl (hb hby at_23) rfl k) ?_
  refine Go.st (f' := (mkF m 26 #[iv p1, iv p2, iv p3, iv p4, iv p5, iv p6, rv b1, .unset, .unset, .unset, .unset, .unset, .unset, .unset] [(.int 8), (.int (p2 &&& (15 : Int32))), (.int 1), (.ref b1)])) (fun _ k => XS.bipush X4.here hx rfl (hb hby at_24) k) ?_
  refine Go.st (f' := (mkF m 27 #[iv p1, iv p2, iv p3, iv p4, iv p5, iv p6, rv b1, .unset, .unset, .unset, .unset, .unset, .unset, .unset] [(.int ((p2 &&& (15 : Int32)) - (8 : Int32))), (.int 1), (.ref b1)])) (fun _ k => XS.isub X4.here hx rfl (hb hby at_26) rfl k) ?_
  obtain ⟨yy5, hyy5⟩ : ∃ z, z = ((p2 &&& (15 : Int32)) - (8 : Int32)) := ⟨_, rfl⟩
  rw [← hyy5]
  have hb_yy5 : B53 (yy5.toInt64) := hyy5 ▸ own_cost _
  refine Go.st (f' := (mkF m 28 #[iv p1, iv p2, iv p3, iv p4, iv p5, iv p6, rv b1, .unset, .unset, .unset, .unset, .unset, .unset, .unset] [(.double (FP.l2d (yy5.toInt64))), (.int 1), (.ref b1)])) (fun _ k => XS.i2dS X4.here hx rfl (hb hby at_27) rfl (i2d_w _) k) ?_
  obtain ⟨cl6, Ar6, q6, S6, Nx6, H6, G6⟩ := id V_b1_4
  have hin6 : ¬ ((1 : Int32) < 0 ∨ cl6.slots.size ≤ ((1 : Int32)).toNatClampNeg) := inb_of S6 ⟨by decide, by decide⟩
  obtain ⟨T7, h7, X7, e7, W7, st7⟩ := stD X4 hx hZ e4 Ar6 (j := (1 : Int32)) hin6 (g := (mkF m 28 #[iv p1, iv p2, iv p3, iv p4, iv p5, iv p6, rv b1, .unset, .unset, .unset, .unset, .unset, .unset, .unset] [(.double (FP.l2d (yy5.toInt64))), (.int 1), (.ref b1)])) rfl rfl (hb hby at_28)
  have V_b1_7 : Arv Z h7 b1 kc1 .double (5 : Int32) [(.double (FP.l2d (yy2.toInt64))), (.double (FP.l2d (yy5.toInt64))), (.double (FP.l2d 0)), (.double (FP.l2d 0)), (.double (FP.l2d 0))] (.double (FP.l2d 0)) := Arv.set Ar6 q6 S6 Nx6 H6 G6 rfl W7 1 rfl (Nat.le_of_ble_eq_true rfl)
  have N7 := Fr.snoc X7 N4 g_b1
  have O7 : Old Z n0 h7 := O4.wr W7 g_b1
  refine Go.st (f' := (mkF m 29 #[iv p1, iv p2, iv p3, iv p4, iv p5, iv p6, rv b1, .unset, .unset, .unset, .unset, .unset, .unset, .unset] [])) (fun _ k => st7 _ k) ?_
  refine Go.st (f' := (mkF m 31 #[iv p1, iv p2, iv p3, iv p4, iv p5, iv p6, rv b1, .unset, .unset, .unset, .unset, .unset, .unset, .unset] [(.ref b1)])) (fun _ k => XS.aload X7.here hx rfl (hb hby at_29) rfl rfl k) ?_
  refine Go.st (f' := (mkF m 32 #[iv p1, iv p2, iv p3, iv p4, iv p5, iv p6, rv b1, .unset, .unset, .unset, .unset, .unset, .unset, .unset] [(.int 2), (.ref b1)])) (fun _ k => XS.iconst X7.here hx rfl (hb hby at_31) k) ?_
  refine Go.st (f' := (mkF m 33 #[iv p1, iv p2, iv p3, iv p4, iv p5, iv p6, rv b1, .unset, .unset, .unset, .unset, .unset, .unset, .unset] [(.int p3), (.int 2), (.ref b1)])) (fun _ k => XS.iloadN X7.here hx rfl (hb hby at_32) rfl k) ?_
  refine Go.st (f' := (mkF m 35 #[iv p1, iv p2, iv p3, iv p4, iv p5, iv p6, rv b1, .unset, .unset, .unset, .unset, .unset, .unset, .unset] [(.int 15), (.int p3), (.int 2), (.ref b1)])) (fun _ k => XS.bipush X7.here hx rfl (hb hby at_33) k) ?_
  refine Go.st (f' := (mkF m 36 #[iv p1, iv p2, iv p3, iv p4, iv p5, iv p6, rv b1, .unset, .unset, .unset, .unset, .unset, .unset, .unset] [(.int (p3 &&& (15 : Int32))), (.int 2), (.ref b1)])) (fun _ k => XS.iand X7.here hx rfl (hb hby at_35) rfl k) ?_
  refine Go.st (f' := (mkF m 38 #[iv p1, iv p2, iv p3, iv p4, iv p5, iv p6, rv b1, .unset, .unset, .unset, .unset, .unset, .unset, .unset] [(.int 8), (.int (p3 &&& (15 : Int32))), (.int 2), (.ref b1)])) (fun _ k => XS.bipush X7.here hx rfl (hb hby at_36) k) ?_
  refine Go.st (f' := (mkF m 39 #[iv p1, iv p2, iv p3, iv p4, iv p5, iv p6, rv b1, .unset, .unset, .unset, .unset, .unset, .unset, .unset] [(.int ((p3 &&& (15 : Int32)) - (8 : Int32))), (.int 2), (.ref b1)])) (fun _ k => XS.isub X7.here hx rfl (hb hby at_38) rfl k) ?_
  obtain ⟨yy8, hyy8⟩ : ∃ z, z = ((p3 &&& (15 : Int32)) - (8 : Int32)) := ⟨_, rfl⟩
  rw [← hyy8]
  have hb_yy8 : B53 (yy8.toInt64) := hyy8 ▸ own_cost _
  refine Go.st (f' := (mkF m 40 #[iv p1, iv p2, iv p3, iv p4, iv p5, iv p6, rv b1, .unset, .unset, .unset, .unset, .unset, .unset, .unset] [(.double (FP.l2d (yy8.toInt64))), (.int 2), (.ref b1)])) (fun _ k => XS.i2dS X7.here hx rfl (hb hby at_39) rfl (i2d_w _) k) ?_
  obtain ⟨cl9, Ar9, q9, S9, Nx9, H9, G9⟩ := id V_b1_7
  have hin9 : ¬ ((2 : Int32) < 0 ∨ cl9.slots.size ≤ ((2 : Int32)).toNatClampNeg) := inb_of S9 ⟨by decide, by decide⟩
  obtain ⟨T10, h10, X10, e10, W10, st10⟩ := stD X7 hx hZ e7 Ar9 (j := (2 : Int32)) hin9 (g := (mkF m 40 #[iv p1, iv p2, iv p3, iv p4, iv p5, iv p6, rv b1, .unset, .unset, .unset, .unset, .unset, .unset, .unset] [(.double (FP.l2d (yy8.toInt64))), (.int 2), (.ref b1)])) rfl rfl (hb hby at_40)
  have V_b1_10 : Arv Z h10 b1 kc1 .double (5 : Int32) [(.double (FP.l2d (yy2.toInt64))), (.double (FP.l2d (yy5.toInt64))), (.double (FP.l2d (yy8.toInt64))), (.double (FP.l2d 0)), (.double (FP.l2d 0))] (.double (FP.l2d 0)) := Arv.set Ar9 q9 S9 Nx9 H9 G9 rfl W10 2 rfl (Nat.le_of_ble_eq_true rfl)
  have N10 := Fr.snoc X10 N7 g_b1
  have O10 : Old Z n0 h10 := O7.wr W10 g_b1
  refine Go.st (f' := (mkF m 41 #[iv p1, iv p2, iv p3, iv p4, iv p5, iv p6, rv b1, .unset, .unset, .unset, .unset, .unset, .unset, .unset] [])) (fun _ k => st10 _ k) ?_
  refine Go.st (f' := (mkF m 43 #[iv p1, iv p2, iv p3, iv p4, iv p5, iv p6, rv b1, .unset, .unset, .unset, .unset, .unset, .unset, .unset] [(.ref b1)])) (fun _ k => XS.aload X10.here hx rfl (hb hby at_41) rfl rfl k) ?_
  refine Go.st (f' := (mkF m 44 #[iv p1, iv p2, iv p3, iv p4, iv p5, iv p6, rv b1, .unset, .unset, .unset, .unset, .unset, .unset, .unset] [(.int 3), (.ref b1)])) (fun _ k => XS.iconst X10.here hx rfl (hb hby at_43) k) ?_
  refine Go.st (f' := (mkF m 45 #[iv p1, iv p2, iv p3, iv p4, iv p5, iv p6, rv b1, .unset, .unset, .unset, .unset, .unset, .unset, .unset] [(.int p4), (.int 3), (.ref b1)])) (fun _ k => XS.iloadN X10.here hx rfl (hb hby at_44) rfl k) ?_
  refine Go.st (f' := (mkF m 47 #[iv p1, iv p2, iv p3, iv p4, iv p5, iv p6, rv b1, .unset, .unset, .unset, .unset, .unset, .unset, .unset] [(.int 15), (.int p4), (.int 3), (.ref b1)])) (fun _ k => XS.bipush X10.here hx rfl (hb hby at_45) k) ?_
  refine Go.st (f' := (mkF m 48 #[iv p1, iv p2, iv p3, iv p4, iv p5, iv p6, rv b1, .unset, .unset, .unset, .unset, .unset, .unset, .unset] [(.int (p4 &&& (15 : Int32))), (.int 3), (.ref b1)])) (fun _ k => XS.iand X10.here hx rfl (hb hby at_47) rfl k) ?_
  refine Go.st (f' := (mkF m 50 #[iv p1, iv p2, iv p3, iv p4, iv p5, iv p6, rv b1, .unset, .unset, .unset, .unset, .unset, .unset, .unset] [(.int 8), (.int (p4 &&& (15 : Int32))), (.int 3), (.ref b1)])) (fun _ k => XS.bipush X10.here hx rfl (hb hby at_48) k) ?_
  refine Go.st (f' := (mkF m 51 #[iv p1, iv p2, iv p3, iv p4, iv p5, iv p6, rv b1, .unset, .unset, .unset, .unset, .unset, .unset, .unset] [(.int ((p4 &&& (15 : Int32)) - (8 : Int32))), (.int 3), (.ref b1)])) (fun _ k => XS.isub X10.here hx rfl (hb hby at_50) rfl k) ?_
  obtain ⟨yy11, hyy11⟩ : ∃ z, z = ((p4 &&& (15 : Int32)) - (8 : Int32)) := ⟨_, rfl⟩
  rw [← hyy11]
  have hb_yy11 : B53 (yy11.toInt64) := hyy11 ▸ own_cost _
  refine Go.st (f' := (mkF m 52 #[iv p1, iv p2, iv p3, iv p4, iv p5, iv p6, rv b1, .unset, .unset, .unset, .unset, .unset, .unset, .unset] [(.double (FP.l2d (yy11.toInt64))), (.int 3), (.ref b1)])) (fun _ k => XS.i2dS X10.here hx rfl (hb hby at_51) rfl (i2d_w _) k) ?_
  obtain ⟨cl12, Ar12, q12, S12, Nx12, H12, G12⟩ := id V_b1_10
  have hin12 : ¬ ((3 : Int32) < 0 ∨ cl12.slots.size ≤ ((3 : Int32)).toNatClampNeg) := inb_of S12 ⟨by decide, by decide⟩
  obtain ⟨T13, h13, X13, e13, W13, st13⟩ := stD X10 hx hZ e10 Ar12 (j := (3 : Int32)) hin12 (g := (mkF m 52 #[iv p1, iv p2, iv p3, iv p4, iv p5, iv p6, rv b1, .unset, .unset, .unset, .unset, .unset, .unset, .unset] [(.double (FP.l2d (yy11.toInt64))), (.int 3), (.ref b1)])) rfl rfl (hb hby at_52)
  have V_b1_13 : Arv Z h13 b1 kc1 .double (5 : Int32) [(.double (FP.l2d (yy2.toInt64))), (.double (FP.l2d (yy5.toInt64))), (.double (FP.l2d (yy8.toInt64))), (.double (FP.l2d (yy11.toInt64))), (.double (FP.l2d 0))] (.double (FP.l2d 0)) := Arv.set Ar12 q12 S12 Nx12 H12 G12 rfl W13 3 rfl (Nat.le_of_ble_eq_true rfl)
  have N13 := Fr.snoc X13 N10 g_b1
  have O13 : Old Z n0 h13 := O10.wr W13 g_b1
  refine Go.st (f' := (mkF m 53 #[iv p1, iv p2, iv p3, iv p4, iv p5, iv p6, rv b1, .unset, .unset, .unset, .unset, .unset, .unset, .unset] [])) (fun _ k => st13 _ k) ?_
  refine Go.st (f' := (mkF m 55 #[iv p1, iv p2, iv p3, iv p4, iv p5, iv p6, rv b1, .unset, .unset, .unset, .unset, .unset, .unset, .unset] [(.ref b1)])) (fun _ k => XS.aload X13.here hx rfl (hb hby at_53) rfl rfl k) ?_
  refine Go.st (f' := (mkF m 56 #[iv p1, iv p2, iv p3, iv p4, iv p5, iv p6, rv b1, .unset, .unset, .unset, .unset, .unset, .unset, .unset] [(.int 4), (.ref b1)])) (fun _ k => XS.iconst X13.here hx rfl (hb hby at_55) k) ?_
  refine Go.st (f' := (mkF m 58 #[iv p1, iv p2, iv p3, iv p4, iv p5, iv p6, rv b1, .unset, .unset, .unset, .unset, .unset, .unset, .unset] [(.int p5), (.int 4), (.ref b1)])) (fun _ k => XS.iload X13.here hx rfl (hb hby at_56) rfl k) ?_
  refine Go.st (f' := (mkF m 60 #[iv p1, iv p2, iv p3, iv p4, iv p5, iv p6, rv b1, .unset, .unset, .unset, .unset, .unset, .unset, .unset] [(.int 15), (.int p5), (.int 4), (.ref b1)])) (fun _ k => XS.bipush X13.here hx rfl (hb hby at_58) k) ?_
  refine Go.st (f' := (mkF m 61 #[iv p1, iv p2, iv p3, iv p4, iv p5, iv p6, rv b1, .unset, .unset, .unset, .unset, .unset, .unset, .unset] [(.int (p5 &&& (15 : Int32))), (.int 4), (.ref b1)])) (fun _ k => XS.iand X13.here hx rfl (hb hby at_60) rfl k) ?_
  refine Go.st (f' := (mkF m 63 #[iv p1, iv p2, iv p3, iv p4, iv p5, iv p6, rv b1, .unset, .unset, .unset, .unset, .unset, .unset, .unset] [(.int 8), (.int (p5 &&& (15 : Int32))), (.int 4), (.ref b1)])) (fun _ k => XS.bipush X13.here hx rfl (hb hby at_61) k) ?_
  refine Go.st (f' := (mkF m 64 #[iv p1, iv p2, iv p3, iv p4, iv p5, iv p6, rv b1, .unset, .unset, .unset, .unset, .unset, .unset, .unset] [(.int ((p5 &&& (15 : Int32)) - (8 : Int32))), (.int 4), (.ref b1)])) (fun _ k => XS.isub X13.here hx rfl (hb hby at_63) rfl k) ?_
  obtain ⟨yy14, hyy14⟩ : ∃ z, z = ((p5 &&& (15 : Int32)) - (8 : Int32)) := ⟨_, rfl⟩
  rw [← hyy14]
  have hb_yy14 : B53 (yy14.toInt64) := hyy14 ▸ own_cost _
  refine Go.st (f' := (mkF m 65 #[iv p1, iv p2, iv p3, iv p4, iv p5, iv p6, rv b1, .unset, .unset, .unset, .unset, .unset, .unset, .unset] [(.double (FP.l2d (yy14.toInt64))), (.int 4), (.ref b1)])) (fun _ k => XS.i2dS X13.here hx rfl (hb hby at_64) rfl (i2d_w _) k) ?_
  have hF := own_hF hb_yy2 hb_yy5 hb_yy8 hb_yy11 hb_yy14
  obtain ⟨cl15, Ar15, q15, S15, Nx15, H15, G15⟩ := id V_b1_13
  have hin15 : ¬ ((4 : Int32) < 0 ∨ cl15.slots.size ≤ ((4 : Int32)).toNatClampNeg) := inb_of S15 ⟨by decide, by decide⟩
  obtain ⟨T16, h16, X16, e16, W16, st16⟩ := stD X13 hx hZ e13 Ar15 (j := (4 : Int32)) hin15 (g := (mkF m 65 #[iv p1, iv p2, iv p3, iv p4, iv p5, iv p6, rv b1, .unset, .unset, .unset, .unset, .unset, .unset, .unset] [(.double (FP.l2d (yy14.toInt64))), (.int 4), (.ref b1)])) rfl rfl (hb hby at_65)
  have V_b1_16 : Arv Z h16 b1 kc1 .double (5 : Int32) [(.double (FP.l2d (yy2.toInt64))), (.double (FP.l2d (yy5.toInt64))), (.double (FP.l2d (yy8.toInt64))), (.double (FP.l2d (yy11.toInt64))), (.double (FP.l2d (yy14.toInt64)))] (.double (FP.l2d 0)) := Arv.set Ar15 q15 S15 Nx15 H15 G15 rfl W16 4 rfl (Nat.le_of_ble_eq_true rfl)
  have N16 := Fr.snoc X16 N13 g_b1
  have O16 : Old Z n0 h16 := O13.wr W16 g_b1
  refine Go.st (f' := (mkF m 66 #[iv p1, iv p2, iv p3, iv p4, iv p5, iv p6, rv b1, .unset, .unset, .unset, .unset, .unset, .unset, .unset] [])) (fun _ k => st16 _ k) ?_
  obtain ⟨T17, h17, X17, e17, E17, A17, D17, -, st17⟩ := newO X16 hx hZ hown (ww hw 1 rfl) (ww hw 2 rfl) (ww hw 3 rfl) e16 (g := (mkF m 66 #[iv p1, iv p2, iv p3, iv p4, iv p5, iv p6, rv b1, .unset, .unset, .unset, .unset, .unset, .unset, .unset] [])) rfl (hb hby at_66) (by decide) (by decide)
  obtain ⟨b17, g17⟩ : ∃ z, z = h16.size := ⟨_, rfl⟩
  rw [← g17] at A17 D17 st17
  have ft18 := (Nat.lt_of_lt_of_eq (Nat.lt_of_lt_of_eq (Nat.lt_of_lt_of_eq (Nat.lt_of_lt_of_eq (Nat.lt_of_lt_of_eq lt_b1 W4.size.symm) W7.size.symm) W10.size.symm) W13.size.symm) W16.size.symm)
  have ne_b1_b17 : b1 ≠ b17 := Nat.ne_of_lt (Nat.lt_of_lt_of_eq ft18 g17.symm)
  have g_b17 : n0 ≤ b17 := Nat.le_trans (O16.1 ▸ O16.2.1) (Nat.le_of_eq g17.symm)
  have O17 : Old Z n0 h17 := O16.ext E17
  have lt_b17 := A17.lt
  have F_costs_b17 : Fld Z h17 b17 "com/example/kinetic_city/kineticcity/engine/CostQueue" "costs" "[D" .null := D17 (Or.inl (ww hw 11 rfl)) (ty := (.array .double)) (by decide)
  have F_items_b17 : Fld Z h17 b17 "com/example/kinetic_city/kineticcity/engine/CostQueue" "items" "[I" .null := D17 (Or.inl (ww hw 14 rfl)) (ty := (.array .int)) (by decide)
  have F_size_b17 : Fld Z h17 b17 "com/example/kinetic_city/kineticcity/engine/CostQueue" "size" "I" (.int (0 : Int32)) := D17 (Or.inl (ww hw 21 rfl)) (ty := .int) (by decide)
  refine Go.st (f' := (mkF m 69 #[iv p1, iv p2, iv p3, iv p4, iv p5, iv p6, rv b1, .unset, .unset, .unset, .unset, .unset, .unset, .unset] [(.ref b17)])) (fun _ k => st17 _ k) ?_
  refine Go.st (f' := (mkF m 70 #[iv p1, iv p2, iv p3, iv p4, iv p5, iv p6, rv b1, .unset, .unset, .unset, .unset, .unset, .unset, .unset] [(.ref b17), (.ref b17)])) (fun _ k => XS.dup X17.here hx rfl (hb hby at_69) rfl rfl k) ?_
  obtain ⟨_, _, ⟨T19, L19, kk19, nn19⟩, -, X19, ⟨Lc19, hQ19, lq19, yq19, zz19⟩, st19⟩ := X17.specialBack hx (y := (⟨"com/example/kinetic_city/kineticcity/engine/CostQueue", "<init>", "()V"⟩ : MethodName)) rfl hown (mvT hZ (ww hw 4 rfl)) (mvT hZ (ww hw 5 rfl)) (mvT hZ (ww hw 6 rfl)) (by decide) (own_back (W := 1) (rmI l Z a0 hw [] b17 h17 n0 O17 g_b17 A17 F_size_b17 F_items_b17 F_costs_b17) hZ (ww hw 6 rfl) (ww hw 3 rfl) (by decide) (by decide)) (g := (mkF m 70 #[iv p1, iv p2, iv p3, iv p4, iv p5, iv p6, rv b1, .unset, .unset, .unset, .unset, .unset, .unset, .unset] [(.ref b17), (.ref b17)])) rfl (by rw [hml]; rfl) (Steps.refl _) (a := b17) (argsL := []) (rest := [(.ref b17)]) (lenOf pd___V rfl) rfl (by show 2 * 0 + _ ≤ _; exact Nat.le_of_eq rfl) (hb hby at_70) (fun _ _ => ⟨rfl, e17, (by decide : 2 + 2 ≤ _), (by decide : 8 + 32 ≤ _)⟩)
  dsimp only [Pt.U, Pt.locs, Pt.cells, Pt.slots] at X19 lq19 yq19 zz19 st19 hQ19
  subst lq19 yq19 zz19
  obtain ⟨rfl, Nq19, kq19, cA19, nA19, kA19, kN19, zc19, zn19, eq19, sq19, iq19, cq19, vq19, wq19⟩ := hQ19
  have N19 := Fr.app N16 Nq19
  have ft20 := (Nat.lt_of_lt_of_le ft18 E17.1)
  have ne_b1_cA19 : b1 ≠ cA19 := Nat.ne_of_lt (Nat.lt_of_lt_of_le ft20 zc19)
  have ne_b17_cA19 : b17 ≠ cA19 := Nat.ne_of_lt (Nat.lt_of_lt_of_le lt_b17 zc19)
  have g_cA19 : n0 ≤ cA19 := Nat.le_trans (O17.1 ▸ O17.2.1) zc19
  have ne_b1_nA19 : b1 ≠ nA19 := Nat.ne_of_lt (Nat.lt_of_lt_of_le ft20 zn19)
  have ne_b17_nA19 : b17 ≠ nA19 := Nat.ne_of_lt (Nat.lt_of_lt_of_le lt_b17 zn19)
  have g_nA19 : n0 ≤ nA19 := Nat.le_trans (O17.1 ▸ O17.2.1) zn19
  have O19 : Old Z n0 T19.heap := O17.keep kq19 (allS g_b17 all0)
  have lt_cA19 := vq19.lt
  have lt_nA19 := wq19.lt
  have nn19 : cA19 ≠ nA19 := own_neArv vq19 wq19 (by decide)
  refine Go.tr (f' := (mkF m 73 #[iv p1, iv p2, iv p3, iv p4, iv p5, iv p6, rv b1, .unset, .unset, .unset, .unset, .unset, .unset, .unset] [(.ref b17)])) st19 ?_
  refine Go.st (f' := (mkF m 75 #[iv p1, iv p2, iv p3, iv p4, iv p5, iv p6, rv b1, rv b17, .unset, .unset, .unset, .unset, .unset, .unset] [])) (fun _ k => XS.astore X19.here hx rfl (hb hby at_73) rfl rfl (l' := #[iv p1, iv p2, iv p3, iv p4, iv p5, iv p6, rv b1, rv b17, .unset, .unset, .unset, .unset, .unset, .unset]) rfl k) ?_
  refine Go.st (f' := (mkF m 77 #[iv p1, iv p2, iv p3, iv p4, iv p5, iv p6, rv b1, rv b17, .unset, .unset, .unset, .unset, .unset, .unset] [(.ref b17)])) (fun _ k => XS.aload X19.here hx rfl (hb hby at_75) rfl rfl k) ?_
  refine Go.st (f' := (mkF m 79 #[iv p1, iv p2, iv p3, iv p4, iv p5, iv p6, rv b1, rv b17, .unset, .unset, .unset, .unset, .unset, .unset] [(.int p6), (.ref b17)])) (fun _ k => XS.iload X19.here hx rfl (hb hby at_77) rfl k) ?_
  refine Go.st (f' := (mkF m 81 #[iv p1, iv p2, iv p3, iv p4, iv p5, iv p6, rv b1, rv b17, .unset, .unset, .unset, .unset, .unset, .unset] [(.ref b1), (.int p6), (.ref b17)])) (fun _ k => XS.aload X19.here hx rfl (hb hby at_79) rfl rfl k) ?_
  refine Go.st (f' := (mkF m 82 #[iv p1, iv p2, iv p3, iv p4, iv p5, iv p6, rv b1, rv b17, .unset, .unset, .unset, .unset, .unset, .unset] [(.int 0), (.ref b1), (.int p6), (.ref b17)])) (fun _ k => XS.iconst X19.here hx rfl (hb hby at_81) k) ?_
  have ft22 := ((V_b1_16.ext E17).keep kq19 (ninS ne_b1_b17 nin0))
  obtain ⟨cl21, Ar21, -, S21, -, H21, -⟩ := id ft22
  have hin21 : ¬ ((0 : Int32) < 0 ∨ cl21.slots.size ≤ ((0 : Int32)).toNatClampNeg) := inb_of S21 ⟨by decide, by decide⟩
  have hat21 : cl21.slots[((0 : Int32)).toNatClampNeg]? = some (.double (FP.l2d (yy2.toInt64))) := H21.at hin21 rfl
  refine Go.st (f' := (mkF m 83 #[iv p1, iv p2, iv p3, iv p4, iv p5, iv p6, rv b1, rv b17, .unset, .unset, .unset, .unset, .unset, .unset] [(.double (FP.l2d (yy2.toInt64))), (.int p6), (.ref b17)])) (fun _ k => X19.daload hx (j := (0 : Int32)) (v := (.double (FP.l2d (yy2.toInt64)))) Ar21.1 (State.isArrayOf_alike hZ.alike Ar21.2.1) Ar21.2.2 hin21 hat21 (g := (mkF m 82 #[iv p1, iv p2, iv p3, iv p4, iv p5, iv p6, rv b1, rv b17, .unset, .unset, .unset, .unset, .unset, .unset] [(.int 0), (.ref b1), (.int p6), (.ref b17)])) rfl rfl (hb hby at_82) _ k) ?_
  obtain ⟨cq23, kq23, q23a, q23b, q23c⟩ := isOf hZ rfl eq19
  obtain ⟨_, _, ⟨T23, L23, kk23, nn23⟩, -, X23, ⟨Lc23, hQ23, lq23, yq23, zz23⟩, st23⟩ := X19.virtualBack hx (y := (⟨"com/example/kinetic_city/kineticcity/engine/CostQueue", "add", "(ID)V"⟩ : MethodName)) (z := (⟨"com/example/kinetic_city/kineticcity/engine/CostQueue", "add", "(ID)V"⟩ : MethodName)) hown (mvT hZ (ww hw 15 rfl)) (mvT hZ (ww hw 16 rfl)) (notFace_of_selects (args := #[]) (mvT hZ (ww hw 18 rfl))) (mvT hZ (ww hw 18 rfl)) (mvT hZ (ww hw 17 rfl)) (by decide) (own_back (W := 0) (rmA0 l Z a0 hw [] b17 cA19 nA19 kA19 kN19 (ndF p6) (Cx (yy2.toInt64) (yy5.toInt64) (yy8.toInt64) (yy11.toInt64) (yy14.toInt64))  (0 : Int32) p6 (yy2.toInt64) T19.heap n0 O19 (ndF_0 _) (Cx_0 _ _ _ _ _) hF g_b17 g_cA19 g_nA19  eq19 sq19 iq19 cq19 vq19 wq19) hZ (ww hw 19 rfl) (ww hw 3 rfl) (by decide) (by decide)) q23a q23c (g := (mkF m 83 #[iv p1, iv p2, iv p3, iv p4, iv p5, iv p6, rv b1, rv b17, .unset, .unset, .unset, .unset, .unset, .unset] [(.double (FP.l2d (yy2.toInt64))), (.int p6), (.ref b17)])) rfl (by rw [hml]; rfl) (Steps.refl _) (argsL := [(.int p6), (.double (FP.l2d (yy2.toInt64)))]) (rest := []) (lenOf pd__ID_V rfl) rfl (by show 2 * 0 + _ ≤ _; exact Nat.le_of_eq rfl) (hb hby at_83) (fun _ _ => ⟨rfl, rfl, (by decide : 4 + 0 ≤ _), (by decide : 40 + 0 ≤ _)⟩)
  dsimp only [Pt.U, Pt.locs, Pt.cells, Pt.slots] at X23 lq23 yq23 zz23 st23 hQ23
  subst lq23 yq23 zz23
  obtain ⟨rfl, Nq23, kq23, eq23, sq23, iq23, cq23, j23_0, hw23, vq23, wq23⟩ := hQ23
  have N23 := Fr.app N19 Nq23
  have O23 : Old Z n0 T23.heap := O19.keep kq23 (allS g_b17 (allS g_cA19 (allS g_nA19 all0)))
  refine Go.tr (f' := (mkF m 86 #[iv p1, iv p2, iv p3, iv p4, iv p5, iv p6, rv b1, rv b17, .unset, .unset, .unset, .unset, .unset, .unset] [])) st23 ?_
  refine Go.st (f' := (mkF m 88 #[iv p1, iv p2, iv p3, iv p4, iv p5, iv p6, rv b1, rv b17, .unset, .unset, .unset, .unset, .unset, .unset] [(.ref b17)])) (fun _ k => XS.aload X23.here hx rfl (hb hby at_86) rfl rfl k) ?_
  refine Go.st (f' := (mkF m 90 #[iv p1, iv p2, iv p3, iv p4, iv p5, iv p6, rv b1, rv b17, .unset, .unset, .unset, .unset, .unset, .unset] [(.int p6), (.ref b17)])) (fun _ k => XS.iload X23.here hx rfl (hb hby at_88) rfl k) ?_
  refine Go.st (f' := (mkF m 91 #[iv p1, iv p2, iv p3, iv p4, iv p5, iv p6, rv b1, rv b17, .unset, .unset, .unset, .unset, .unset, .unset] [(.int 1), (.int p6), (.ref b17)])) (fun _ k => XS.iconst X23.here hx rfl (hb hby at_90) k) ?_
  refine Go.st (f' := (mkF m 92 #[iv p1, iv p2, iv p3, iv p4, iv p5, iv p6, rv b1, rv b17, .unset, .unset, .unset, .unset, .unset, .unset] [(.int (p6 + (1 : Int32))), (.ref b17)])) (fun _ k => XS.iadd X23.here hx rfl (hb hby at_91) rfl k) ?_
  refine Go.st (f' := (mkF m 94 #[iv p1, iv p2, iv p3, iv p4, iv p5, iv p6, rv b1, rv b17, .unset, .unset, .unset, .unset, .unset, .unset] [(.ref b1), (.int (p6 + (1 : Int32))), (.ref b17)])) (fun _ k => XS.aload X23.here hx rfl (hb hby at_92) rfl rfl k) ?_
  refine Go.st (f' := (mkF m 95 #[iv p1, iv p2, iv p3, iv p4, iv p5, iv p6, rv b1, rv b17, .unset, .unset, .unset, .unset, .unset, .unset] [(.int 1), (.ref b1), (.int (p6 + (1 : Int32))), (.ref b17)])) (fun _ k => XS.iconst X23.here hx rfl (hb hby at_94) k) ?_
  have ft25 := (ft22.keep kq23 (ninS ne_b1_b17 (ninS ne_b1_cA19 (ninS ne_b1_nA19 nin0))))
  obtain ⟨cl24, Ar24, -, S24, -, H24, -⟩ := id ft25
  have hin24 : ¬ ((1 : Int32) < 0 ∨ cl24.slots.size ≤ ((1 : Int32)).toNatClampNeg) := inb_of S24 ⟨by decide, by decide⟩
  have hat24 : cl24.slots[((1 : Int32)).toNatClampNeg]? = some (.double (FP.l2d (yy5.toInt64))) := H24.at hin24 rfl
  refine Go.st (f' := (mkF m 96 #[iv p1, iv p2, iv p3, iv p4, iv p5, iv p6, rv b1, rv b17, .unset, .unset, .unset, .unset, .unset, .unset] [(.double (FP.l2d (yy5.toInt64))), (.int (p6 + (1 : Int32))), (.ref b17)])) (fun _ k => X23.daload hx (j := (1 : Int32)) (v := (.double (FP.l2d (yy5.toInt64)))) Ar24.1 (State.isArrayOf_alike hZ.alike Ar24.2.1) Ar24.2.2 hin24 hat24 (g := (mkF m 95 #[iv p1, iv p2, iv p3, iv p4, iv p5, iv p6, rv b1, rv b17, .unset, .unset, .unset, .unset, .unset, .unset] [(.int 1), (.ref b1), (.int (p6 + (1 : Int32))), (.ref b17)])) rfl rfl (hb hby at_95) _ k) ?_
  obtain ⟨cq26, kq26, q26a, q26b, q26c⟩ := isOf hZ rfl eq23
  obtain ⟨_, _, ⟨T26, L26, kk26, nn26⟩, -, X26, ⟨Lc26, hQ26, lq26, yq26, zz26⟩, st26⟩ := X23.virtualBack hx (y := (⟨"com/example/kinetic_city/kineticcity/engine/CostQueue", "add", "(ID)V"⟩ : MethodName)) (z := (⟨"com/example/kinetic_city/kineticcity/engine/CostQueue", "add", "(ID)V"⟩ : MethodName)) hown (mvT hZ (ww hw 15 rfl)) (mvT hZ (ww hw 16 rfl)) (notFace_of_selects (args := #[]) (mvT hZ (ww hw 18 rfl))) (mvT hZ (ww hw 18 rfl)) (mvT hZ (ww hw 17 rfl)) (by decide) (own_back (W := 0) (rmA1 l Z a0 hw [] b17 cA19 nA19 kA19 kN19 (ndF p6) (Cx (yy2.toInt64) (yy5.toInt64) (yy8.toInt64) (yy11.toInt64) (yy14.toInt64)) j23_0 (1 : Int32) (p6 + (1 : Int32)) (yy5.toInt64) T23.heap n0 O23 (rfl) (Cx_1 _ _ _ _ _) hF g_b17 g_cA19 g_nA19  eq23 sq23 iq23 cq23 vq23 wq23) hZ (ww hw 19 rfl) (ww hw 3 rfl) (by decide) (by decide)) q26a q26c (g := (mkF m 96 #[iv p1, iv p2, iv p3, iv p4, iv p5, iv p6, rv b1, rv b17, .unset, .unset, .unset, .unset, .unset, .unset] [(.double (FP.l2d (yy5.toInt64))), (.int (p6 + (1 : Int32))), (.ref b17)])) rfl (by rw [hml]; rfl) (Steps.refl _) (argsL := [(.int (p6 + (1 : Int32))), (.double (FP.l2d (yy5.toInt64)))]) (rest := []) (lenOf pd__ID_V rfl) rfl (by show 2 * 0 + _ ≤ _; exact Nat.le_of_eq rfl) (hb hby at_96) (fun _ _ => ⟨rfl, rfl, (by decide : 4 + 0 ≤ _), (by decide : 40 + 0 ≤ _)⟩)
  dsimp only [Pt.U, Pt.locs, Pt.cells, Pt.slots] at X26 lq26 yq26 zz26 st26 hQ26
  subst lq26 yq26 zz26
  obtain ⟨rfl, Nq26, kq26, eq26, sq26, iq26, cq26, j26_0, j26_1, hw26, hp26_1, vq26, wq26⟩ := hQ26
  have N26 := Fr.app N23 Nq26
  have O26 : Old Z n0 T26.heap := O23.keep kq26 (allS g_b17 (allS g_cA19 (allS g_nA19 all0)))
  refine Go.tr (f' := (mkF m 99 #[iv p1, iv p2, iv p3, iv p4, iv p5, iv p6, rv b1, rv b17, .unset, .unset, .unset, .unset, .unset, .unset] [])) st26 ?_
  refine Go.st (f' := (mkF m 101 #[iv p1, iv p2, iv p3, iv p4, iv p5, iv p6, rv b1, rv b17, .unset, .unset, .unset, .unset, .unset, .unset] [(.ref b17)])) (fun _ k => XS.aload X26.here hx rfl (hb hby at_99) rfl rfl k) ?_
  refine Go.st (f' := (mkF m 103 #[iv p1, iv p2, iv p3, iv p4, iv p5, iv p6, rv b1, rv b17, .unset, .unset, .unset, .unset, .unset, .unset] [(.int p6), (.ref b17)])) (fun _ k => XS.iload X26.here hx rfl (hb hby at_101) rfl k) ?_
  refine Go.st (f' := (mkF m 104 #[iv p1, iv p2, iv p3, iv p4, iv p5, iv p6, rv b1, rv b17, .unset, .unset, .unset, .unset, .unset, .unset] [(.int 2), (.int p6), (.ref b17)])) (fun _ k => XS.iconst X26.here hx rfl (hb hby at_103) k) ?_
  refine Go.st (f' := (mkF m 105 #[iv p1, iv p2, iv p3, iv p4, iv p5, iv p6, rv b1, rv b17, .unset, .unset, .unset, .unset, .unset, .unset] [(.int (p6 + (2 : Int32))), (.ref b17)])) (fun _ k => XS.iadd X26.here hx rfl (hb hby at_104) rfl k) ?_
  refine Go.st (f' := (mkF m 107 #[iv p1, iv p2, iv p3, iv p4, iv p5, iv p6, rv b1, rv b17, .unset, .unset, .unset, .unset, .unset, .unset] [(.ref b1), (.int (p6 + (2 : Int32))), (.ref b17)])) (fun _ k => XS.aload X26.here hx rfl (hb hby at_105) rfl rfl k) ?_
  refine Go.st (f' := (mkF m 108 #[iv p1, iv p2, iv p3, iv p4, iv p5, iv p6, rv b1, rv b17, .unset, .unset, .unset, .unset, .unset, .unset] [(.int 2), (.ref b1), (.int (p6 + (2 : Int32))), (.ref b17)])) (fun _ k => XS.iconst X26.here hx rfl (hb hby at_107) k) ?_
  have ft28 := (ft25.keep kq26 (ninS ne_b1_b17 (ninS ne_b1_cA19 (ninS ne_b1_nA19 nin0))))
  obtain ⟨cl27, Ar27, -, S27, -, H27, -⟩ := id ft28
  have hin27 : ¬ ((2 : Int32) < 0 ∨ cl27.slots.size ≤ ((2 : Int32)).toNatClampNeg) := inb_of S27 ⟨by decide, by decide⟩
  have hat27 : cl27.slots[((2 : Int32)).toNatClampNeg]? = some (.double (FP.l2d (yy8.toInt64))) := H27.at hin27 rfl
  refine Go.st (f' := (mkF m 109 #[iv p1, iv p2, iv p3, iv p4, iv p5, iv p6, rv b1, rv b17, .unset, .unset, .unset, .unset, .unset, .unset] [(.double (FP.l2d (yy8.toInt64))), (.int (p6 + (2 : Int32))), (.ref b17)])) (fun _ k => X26.daload hx (j := (2 : Int32)) (v := (.double (FP.l2d (yy8.toInt64)))) Ar27.1 (State.isArrayOf_alike hZ.alike Ar27.2.1) Ar27.2.2 hin27 hat27 (g := (mkF m 108 #[iv p1, iv p2, iv p3, iv p4, iv p5, iv p6, rv b1, rv b17, .unset, .unset, .unset, .unset, .unset, .unset] [(.int 2), (.ref b1), (.int (p6 + (2 : Int32))), (.ref b17)])) rfl rfl (hb hby at_108) _ k) ?_
  obtain ⟨cq29, kq29, q29a, q29b, q29c⟩ := isOf hZ rfl eq26
  obtain ⟨_, _, ⟨T29, L29, kk29, nn29⟩, -, X29, ⟨Lc29, hQ29, lq29, yq29, zz29⟩, st29⟩ := X26.virtualBack hx (y := (⟨"com/example/kinetic_city/kineticcity/engine/CostQueue", "add", "(ID)V"⟩ : MethodName)) (z := (⟨"com/example/kinetic_city/kineticcity/engine/CostQueue", "add", "(ID)V"⟩ : MethodName)) hown (mvT hZ (ww hw 15 rfl)) (mvT hZ (ww hw 16 rfl)) (notFace_of_selects (args := #[]) (mvT hZ (ww hw 18 rfl))) (mvT hZ (ww hw 18 rfl)) (mvT hZ (ww hw 17 rfl)) (by decide) (own_back (W := 0) (rmA2 l Z a0 hw [] b17 cA19 nA19 kA19 kN19 (ndF p6) (Cx (yy2.toInt64) (yy5.toInt64) (yy8.toInt64) (yy11.toInt64) (yy14.toInt64)) j26_0 j26_1 (2 : Int32) (p6 + (2 : Int32)) (yy8.toInt64) T26.heap n0 O26 (rfl) (Cx_2 _ _ _ _ _) hF g_b17 g_cA19 g_nA19 hp26_1 eq26 sq26 iq26 cq26 vq26 wq26) hZ (ww hw 19 rfl) (ww hw 3 rfl) (by decide) (by decide)) q29a q29c (g := (mkF m 109 #[iv p1, iv p2, iv p3, iv p4, iv p5, iv p6, rv b1, rv b17, .unset, .unset, .unset, .unset, .unset, .unset] [(.double (FP.l2d (yy8.toInt64))), (.int (p6 + (2 : Int32))), (.ref b17)])) rfl (by rw [hml]; rfl) (Steps.refl _) (argsL := [(.int (p6 + (2 : Int32))), (.double (FP.l2d (yy8.toInt64)))]) (rest := []) (lenOf pd__ID_V rfl) rfl (by show 2 * 0 + _ ≤ _; exact Nat.le_of_eq rfl) (hb hby at_109) (fun _ _ => ⟨rfl, rfl, (by decide : 4 + 0 ≤ _), (by decide : 40 + 0 ≤ _)⟩)
  dsimp only [Pt.U, Pt.locs, Pt.cells, Pt.slots] at X29 lq29 yq29 zz29 st29 hQ29
  subst lq29 yq29 zz29
  obtain ⟨rfl, Nq29, kq29, eq29, sq29, iq29, cq29, j29_0, j29_1, j29_2, hw29, hp29_1, hp29_2, vq29, wq29⟩ := hQ29
  have N29 := Fr.app N26 Nq29
  have O29 : Old Z n0 T29.heap := O26.keep kq29 (allS g_b17 (allS g_cA19 (allS g_nA19 all0)))
  refine Go.tr (f' := (mkF m 112 #[iv p1, iv p2, iv p3, iv p4, iv p5, iv p6, rv b1, rv b17, .unset, .unset, .unset, .unset, .unset, .unset] [])) st29 ?_
  refine Go.st (f' := (mkF m 114 #[iv p1, iv p2, iv p3, iv p4, iv p5, iv p6, rv b1, rv b17, .unset, .unset, .unset, .unset, .unset, .unset] [(.ref b17)])) (fun _ k => XS.aload X29.here hx rfl (hb hby at_112) rfl rfl k) ?_
  refine Go.st (f' := (mkF m 116 #[iv p1, iv p2, iv p3, iv p4, iv p5, iv p6, rv b1, rv b17, .unset, .unset, .unset, .unset, .unset, .unset] [(.int p6), (.ref b17)])) (fun _ k => XS.iload X29.here hx rfl (hb hby at_114) rfl k) ?_
  refine Go.st (f' := (mkF m 117 #[iv p1, iv p2, iv p3, iv p4, iv p5, iv p6, rv b1, rv b17, .unset, .unset, .unset, .unset, .unset, .unset] [(.int 3), (.int p6), (.ref b17)])) (fun _ k => XS.iconst X29.here hx rfl (hb hby at_116) k) ?_
  refine Go.st (f' := (mkF m 118 #[iv p1, iv p2, iv p3, iv p4, iv p5, iv p6, rv b1, rv b17, .unset, .unset, .unset, .unset, .unset, .unset] [(.int (p6 + (3 : Int32))), (.ref b17)])) (fun _ k => XS.iadd X29.here hx rfl (hb hby at_117) rfl k) ?_
  refine Go.st (f' := (mkF m 120 #[iv p1, iv p2, iv p3, iv p4, iv p5, iv p6, rv b1, rv b17, .unset, .unset, .unset, .unset, .unset, .unset] [(.ref b1), (.int (p6 + (3 : Int32))), (.ref b17)])) (fun _ k => XS.aload X29.here hx rfl (hb hby at_118) rfl rfl k) ?_
  refine Go.st (f' := (mkF m 121 #[iv p1, iv p2, iv p3, iv p4, iv p5, iv p6, rv b1, rv b17, .unset, .unset, .unset, .unset, .unset, .unset] [(.int 3), (.ref b1), (.int (p6 + (3 : Int32))), (.ref b17)])) (fun _ k => XS.iconst X29.here hx rfl (hb hby at_120) k) ?_
  have ft31 := (ft28.keep kq29 (ninS ne_b1_b17 (ninS ne_b1_cA19 (ninS ne_b1_nA19 nin0))))
  obtain ⟨cl30, Ar30, -, S30, -, H30, -⟩ := id ft31
  have hin30 : ¬ ((3 : Int32) < 0 ∨ cl30.slots.size ≤ ((3 : Int32)).toNatClampNeg) := inb_of S30 ⟨by decide, by decide⟩
  have hat30 : cl30.slots[((3 : Int32)).toNatClampNeg]? = some (.double (FP.l2d (yy11.toInt64))) := H30.at hin30 rfl
  refine Go.st (f' := (mkF m 122 #[iv p1, iv p2, iv p3, iv p4, iv p5, iv p6, rv b1, rv b17, .unset, .unset, .unset, .unset, .unset, .unset] [(.double (FP.l2d (yy11.toInt64))), (.int (p6 + (3 : Int32))), (.ref b17)])) (fun _ k => X29.daload hx (j := (3 : Int32)) (v := (.double (FP.l2d (yy11.toInt64)))) Ar30.1 (State.isArrayOf_alike hZ.alike Ar30.2.1) Ar30.2.2 hin30 hat30 (g := (mkF m 121 #[iv p1, iv p2, iv p3, iv p4, iv p5, iv p6, rv b1, rv b17, .unset, .unset, .unset, .unset, .unset, .unset] [(.int 3), (.ref b1), (.int (p6 + (3 : Int32))), (.ref b17)])) rfl rfl (hb hby at_121) _ k) ?_
  obtain ⟨cq32, kq32, q32a, q32b, q32c⟩ := isOf hZ rfl eq29
  obtain ⟨_, _, ⟨T32, L32, kk32, nn32⟩, -, X32, ⟨Lc32, hQ32, lq32, yq32, zz32⟩, st32⟩ := X29.virtualBack hx (y := (⟨"com/example/kinetic_city/kineticcity/engine/CostQueue", "add", "(ID)V"⟩ : MethodName)) (z := (⟨"com/example/kinetic_city/kineticcity/engine/CostQueue", "add", "(ID)V"⟩ : MethodName)) hown (mvT hZ (ww hw 15 rfl)) (mvT hZ (ww hw 16 rfl)) (notFace_of_selects (args := #[]) (mvT hZ (ww hw 18 rfl))) (mvT hZ (ww hw 18 rfl)) (mvT hZ (ww hw 17 rfl)) (by decide) (own_back (W := 0) (rmA3 l Z a0 hw [] b17 cA19 nA19 kA19 kN19 (ndF p6) (Cx (yy2.toInt64) (yy5.toInt64) (yy8.toInt64) (yy11.toInt64) (yy14.toInt64)) j29_0 j29_1 j29_2 (3 : Int32) (p6 + (3 : Int32)) (yy11.toInt64) T29.heap n0 O29 (rfl) (Cx_3 _ _ _ _ _) hF g_b17 g_cA19 g_nA19 hp29_1 hp29_2 eq29 sq29 iq29 cq29 vq29 wq29) hZ (ww hw 19 rfl) (ww hw 3 rfl) (by decide) (by decide)) q32a q32c (g := (mkF m 122 #[iv p1, iv p2, iv p3, iv p4, iv p5, iv p6, rv b1, rv b17, .unset, .unset, .unset, .unset, .unset, .unset] [(.double (FP.l2d (yy11.toInt64))), (.int (p6 + (3 : Int32))), (.ref b17)])) rfl (by rw [hml]; rfl) (Steps.refl _) (argsL := [(.int (p6 + (3 : Int32))), (.double (FP.l2d (yy11.toInt64)))]) (rest := []) (lenOf pd__ID_V rfl) rfl (by show 2 * 0 + _ ≤ _; exact Nat.le_of_eq rfl) (hb hby at_122) (fun _ _ => ⟨rfl, rfl, (by decide : 4 + 0 ≤ _), (by decide : 40 + 0 ≤ _)⟩)
  dsimp only [Pt.U, Pt.locs, Pt.cells, Pt.slots] at X32 lq32 yq32 zz32 st32 hQ32
  subst lq32 yq32 zz32
  obtain ⟨rfl, Nq32, kq32, eq32, sq32, iq32, cq32, j32_0, j32_1, j32_2, j32_3, hw32, hp32_1, hp32_2, hp32_3, vq32, wq32⟩ := hQ32
  have N32 := Fr.app N29 Nq32
  have O32 : Old Z n0 T32.heap := O29.keep kq32 (allS g_b17 (allS g_cA19 (allS g_nA19 all0)))
  refine Go.tr (f' := (mkF m 125 #[iv p1, iv p2, iv p3, iv p4, iv p5, iv p6, rv b1, rv b17, .unset, .unset, .unset, .unset, .unset, .unset] [])) st32 ?_
  refine Go.st (f' := (mkF m 127 #[iv p1, iv p2, iv p3, iv p4, iv p5, iv p6, rv b1, rv b17, .unset, .unset, .unset, .unset, .unset, .unset] [(.ref b17)])) (fun _ k => XS.aload X32.here hx rfl (hb hby at_125) rfl rfl k) ?_
  refine Go.st (f' := (mkF m 129 #[iv p1, iv p2, iv p3, iv p4, iv p5, iv p6, rv b1, rv b17, .unset, .unset, .unset, .unset, .unset, .unset] [(.int p6), (.ref b17)])) (fun _ k => XS.iload X32.here hx rfl (hb hby at_127) rfl k) ?_
  refine Go.st (f' := (mkF m 130 #[iv p1, iv p2, iv p3, iv p4, iv p5, iv p6, rv b1, rv b17, .unset, .unset, .unset, .unset, .unset, .unset] [(.int 4), (.int p6), (.ref b17)])) (fun _ k => XS.iconst X32.here hx rfl (hb hby at_129) k) ?_
  refine Go.st (f' := (mkF m 131 #[iv p1, iv p2, iv p3, iv p4, iv p5, iv p6, rv b1, rv b17, .unset, .unset, .unset, .unset, .unset, .unset] [(.int (p6 + (4 : Int32))), (.ref b17)])) (fun _ k => XS.iadd X32.here hx rfl (hb hby at_130) rfl k) ?_
  refine Go.st (f' := (mkF m 133 #[iv p1, iv p2, iv p3, iv p4, iv p5, iv p6, rv b1, rv b17, .unset, .unset, .unset, .unset, .unset, .unset] [(.ref b1), (.int (p6 + (4 : Int32))), (.ref b17)])) (fun _ k => XS.aload X32.here hx rfl (hb hby at_131) rfl rfl k) ?_
  refine Go.st (f' := (mkF m 134 #[iv p1, iv p2, iv p3, iv p4, iv p5, iv p6, rv b1, rv b17, .unset, .unset, .unset, .unset, .unset, .unset] [(.int 4), (.ref b1), (.int (p6 + (4 : Int32))), (.ref b17)])) (fun _ k => XS.iconst X32.here hx rfl (hb hby at_133) k) ?_
  have ft34 := (ft31.keep kq32 (ninS ne_b1_b17 (ninS ne_b1_cA19 (ninS ne_b1_nA19 nin0))))
  obtain ⟨cl33, Ar33, -, S33, -, H33, -⟩ := id ft34
  have hin33 : ¬ ((4 : Int32) < 0 ∨ cl33.slots.size ≤ ((4 : Int32)).toNatClampNeg) := inb_of S33 ⟨by decide, by decide⟩
  have hat33 : cl33.slots[((4 : Int32)).toNatClampNeg]? = some (.double (FP.l2d (yy14.toInt64))) := H33.at hin33 rfl
  refine Go.st (f' := (mkF m 135 #[iv p1, iv p2, iv p3, iv p4, iv p5, iv p6, rv b1, rv b17, .unset, .unset, .unset, .unset, .unset, .unset] [(.double (FP.l2d (yy14.toInt64))), (.int (p6 + (4 : Int32))), (.ref b17)])) (fun _ k => X32.daload hx (j := (4 : Int32)) (v := (.double (FP.l2d (yy14.toInt64)))) Ar33.1 (State.isArrayOf_alike hZ.alike Ar33.2.1) Ar33.2.2 hin33 hat33 (g := (mkF m 134 #[iv p1, iv p2, iv p3, iv p4, iv p5, iv p6, rv b1, rv b17, .unset, .unset, .unset, .unset, .unset, .unset] [(.int 4), (.ref b1), (.int (p6 + (4 : Int32))), (.ref b17)])) rfl rfl (hb hby at_134) _ k) ?_
  obtain ⟨cq35, kq35, q35a, q35b, q35c⟩ := isOf hZ rfl eq32
  obtain ⟨_, _, ⟨T35, L35, kk35, nn35⟩, -, X35, ⟨Lc35, hQ35, lq35, yq35, zz35⟩, st35⟩ := X32.virtualBack hx (y := (⟨"com/example/kinetic_city/kineticcity/engine/CostQueue", "add", "(ID)V"⟩ : MethodName)) (z := (⟨"com/example/kinetic_city/kineticcity/engine/CostQueue", "add", "(ID)V"⟩ : MethodName)) hown (mvT hZ (ww hw 15 rfl)) (mvT hZ (ww hw 16 rfl)) (notFace_of_selects (args := #[]) (mvT hZ (ww hw 18 rfl))) (mvT hZ (ww hw 18 rfl)) (mvT hZ (ww hw 17 rfl)) (by decide) (own_back (W := 0) (rmA4 l Z a0 hw [] b17 cA19 nA19 kA19 kN19 (ndF p6) (Cx (yy2.toInt64) (yy5.toInt64) (yy8.toInt64) (yy11.toInt64) (yy14.toInt64)) j32_0 j32_1 j32_2 j32_3 (4 : Int32) (p6 + (4 : Int32)) (yy14.toInt64) T32.heap n0 O32 (rfl) (Cx_4 _ _ _ _ _) hF g_b17 g_cA19 g_nA19 hp32_1 hp32_2 hp32_3 eq32 sq32 iq32 cq32 vq32 wq32) hZ (ww hw 19 rfl) (ww hw 3 rfl) (by decide) (by decide)) q35a q35c (g := (mkF m 135 #[iv p1, iv p2, iv p3, iv p4, iv p5, iv p6, rv b1, rv b17, .unset, .unset, .unset, .unset, .unset, .unset] [(.double (FP.l2d (yy14.toInt64))), (.int (p6 + (4 : Int32))), (.ref b17)])) rfl (by rw [hml]; rfl) (Steps.refl _) (argsL := [(.int (p6 + (4 : Int32))), (.double (FP.l2d (yy14.toInt64)))]) (rest := []) (lenOf pd__ID_V rfl) rfl (by show 2 * 0 + _ ≤ _; exact Nat.le_of_eq rfl) (hb hby at_135) (fun _ _ => ⟨rfl, rfl, (by decide : 4 + 0 ≤ _), (by decide : 40 + 0 ≤ _)⟩)
  dsimp only [Pt.U, Pt.locs, Pt.cells, Pt.slots] at X35 lq35 yq35 zz35 st35 hQ35
  subst lq35 yq35 zz35
  obtain ⟨rfl, Nq35, kq35, eq35, sq35, iq35, cq35, j35_0, j35_1, j35_2, j35_3, j35_4, hw35, hp35_1, hp35_2, hp35_3, hp35_4, vq35, wq35⟩ := hQ35
  have N35 := Fr.app N32 Nq35
  have O35 : Old Z n0 T35.heap := O32.keep kq35 (allS g_b17 (allS g_cA19 (allS g_nA19 all0)))
  refine Go.tr (f' := (mkF m 138 #[iv p1, iv p2, iv p3, iv p4, iv p5, iv p6, rv b1, rv b17, .unset, .unset, .unset, .unset, .unset, .unset] [])) st35 ?_
  refine Go.st (f' := (mkF m 140 #[iv p1, iv p2, iv p3, iv p4, iv p5, iv p6, rv b1, rv b17, .unset, .unset, .unset, .unset, .unset, .unset] [(.ref b17)])) (fun _ k => XS.aload X35.here hx rfl (hb hby at_138) rfl rfl k) ?_
  obtain ⟨cq36, kq36, q36a, q36b, q36c⟩ := isOf hZ rfl eq35
  obtain ⟨_, _, ⟨T36, L36, kk36, nn36⟩, -, X36, ⟨Lc36, hQ36, lq36, yq36, zz36⟩, st36⟩ := X35.virtualBack hx (y := (⟨"com/example/kinetic_city/kineticcity/engine/CostQueue", "removeCheapest", "()I"⟩ : MethodName)) (z := (⟨"com/example/kinetic_city/kineticcity/engine/CostQueue", "removeCheapest", "()I"⟩ : MethodName)) hown (mvT hZ (ww hw 22 rfl)) (mvT hZ (ww hw 23 rfl)) (notFace_of_selects (args := #[]) (mvT hZ (ww hw 25 rfl))) (mvT hZ (ww hw 25 rfl)) (mvT hZ (ww hw 24 rfl)) (by decide) (own_back (W := 0) (rmR5 l Z a0 hw [] b17 cA19 nA19 kA19 kN19 (ndF p6) (Cx (yy2.toInt64) (yy5.toInt64) (yy8.toInt64) (yy11.toInt64) (yy14.toInt64)) j35_0 j35_1 j35_2 j35_3 j35_4   T35.heap n0 O35 hF g_b17 g_cA19 g_nA19 hp35_1 hp35_2 hp35_3 hp35_4 eq35 sq35 iq35 cq35 vq35 wq35) hZ (ww hw 26 rfl) (ww hw 3 rfl) (by decide) (by decide)) q36a q36c (g := (mkF m 140 #[iv p1, iv p2, iv p3, iv p4, iv p5, iv p6, rv b1, rv b17, .unset, .unset, .unset, .unset, .unset, .unset] [(.ref b17)])) rfl (by rw [hml]; rfl) (Steps.refl _) (argsL := []) (rest := []) (lenOf pd___I rfl) rfl (by show 2 * 0 + _ ≤ _; exact Nat.le_of_eq rfl) (hb hby at_140) (fun _ _ => ⟨rfl, rfl, (by decide : 4 + 0 ≤ _), (by decide : 40 + 0 ≤ _)⟩)
  dsimp only [Pt.U, Pt.locs, Pt.cells, Pt.slots] at X36 lq36 yq36 zz36 st36 hQ36
  subst lq36 yq36 zz36
  obtain ⟨rfl, Nq36, kq36, eq36, sq36, iq36, cq36, j36_0, j36_1, j36_2, j36_3, u36_0, s36_0, hw36, hp36_1, hp36_2, hp36_3, le36, vq36, wq36⟩ := hQ36
  have N36 := Fr.app N35 Nq36
  have O36 : Old Z n0 T36.heap := O35.keep kq36 (allS g_b17 (allS g_cA19 (allS g_nA19 all0)))
  refine Go.tr (f' := (mkF m 143 #[iv p1, iv p2, iv p3, iv p4, iv p5, iv p6, rv b1, rv b17, .unset, .unset, .unset, .unset, .unset, .unset] [(.int ((ndF p6) j35_0))])) st36 ?_
  refine Go.st (f' := (mkF m 145 #[iv p1, iv p2, iv p3, iv p4, iv p5, iv p6, rv b1, rv b17, .unset, .unset, .unset, .unset, .unset, .unset] [(.int p6), (.int ((ndF p6) j35_0))])) (fun _ k => XS.iload X36.here hx rfl (hb hby at_143) rfl k) ?_
  refine Go.st (f' := (mkF m 146 #[iv p1, iv p2, iv p3, iv p4, iv p5, iv p6, rv b1, rv b17, .unset, .unset, .unset, .unset, .unset, .unset] [(.int (((ndF p6) j35_0) - p6))])) (fun _ k => XS.isub X36.here hx rfl (hb hby at_145) rfl k) ?_
  obtain ⟨yy37, hyy37⟩ : ∃ z, z = (((ndF p6) j35_0) - p6) := ⟨_, rfl⟩
  rw [← hyy37]
  have er_yy37 : yy37 = j35_0 := hyy37.trans (own_cancel _ _)
  refine Go.st (f' := (mkF m 148 #[iv p1, iv p2, iv p3, iv p4, iv p5, iv p6, rv b1, rv b17, iv yy37, .unset, .unset, .unset, .unset, .unset] [])) (fun _ k => XS.istore X36.here hx rfl (hb hby at_146) rfl (l' := #[iv p1, iv p2, iv p3, iv p4, iv p5, iv p6, rv b1, rv b17, iv yy37, .unset, .unset, .unset, .unset, .unset]) rfl k) ?_
  refine Go.st (f' := (mkF m 150 #[iv p1, iv p2, iv p3, iv p4, iv p5, iv p6, rv b1, rv b17, iv yy37, .unset, .unset, .unset, .unset, .unset] [(.ref b17)])) (fun _ k => XS.aload X36.here hx rfl (hb hby at_148) rfl rfl k) ?_
  obtain ⟨cq38, kq38, q38a, q38b, q38c⟩ := isOf hZ rfl eq36
  obtain ⟨_, _, ⟨T38, L38, kk38, nn38⟩, -, X38, ⟨Lc38, hQ38, lq38, yq38, zz38⟩, st38⟩ := X36.virtualBack hx (y := (⟨"com/example/kinetic_city/kineticcity/engine/CostQueue", "removeCheapest", "()I"⟩ : MethodName)) (z := (⟨"com/example/kinetic_city/kineticcity/engine/CostQueue", "removeCheapest", "()I"⟩ : MethodName)) hown (mvT hZ (ww hw 22 rfl)) (mvT hZ (ww hw 23 rfl)) (notFace_of_selects (args := #[]) (mvT hZ (ww hw 25 rfl))) (mvT hZ (ww hw 25 rfl)) (mvT hZ (ww hw 24 rfl)) (by decide) (own_back (W := 0) (rmR4 l Z a0 hw [] b17 cA19 nA19 kA19 kN19 (ndF p6) (Cx (yy2.toInt64) (yy5.toInt64) (yy8.toInt64) (yy11.toInt64) (yy14.toInt64)) j36_0 j36_1 j36_2 j36_3 u36_0 s36_0 T36.heap n0 O36 hF g_b17 g_cA19 g_nA19 hp36_1 hp36_2 hp36_3 eq36 sq36 iq36 cq36 vq36 wq36) hZ (ww hw 26 rfl) (ww hw 3 rfl) (by decide) (by decide)) q38a q38c (g := (mkF m 150 #[iv p1, iv p2, iv p3, iv p4, iv p5, iv p6, rv b1, rv b17, iv yy37, .unset, .unset, .unset, .unset, .unset] [(.ref b17)])) rfl (by rw [hml]; rfl) (Steps.refl _) (argsL := []) (rest := []) (lenOf pd___I rfl) rfl (by show 2 * 0 + _ ≤ _; exact Nat.le_of_eq rfl) (hb hby at_150) (fun _ _ => ⟨rfl, rfl, (by decide : 4 + 0 ≤ _), (by decide : 40 + 0 ≤ _)⟩)
  dsimp only [Pt.U, Pt.locs, Pt.cells, Pt.slots] at X38 lq38 yq38 zz38 st38 hQ38
  subst lq38 yq38 zz38
  obtain ⟨rfl, Nq38, kq38, eq38, sq38, iq38, cq38, j38_0, j38_1, j38_2, u38_0, u38_1, s38_0, s38_1, hw38, hp38_1, hp38_2, le38, vq38, wq38⟩ := hQ38
  have N38 := Fr.app N36 Nq38
  have O38 : Old Z n0 T38.heap := O36.keep kq38 (allS g_b17 (allS g_cA19 (allS g_nA19 all0)))
  refine Go.tr (f' := (mkF m 153 #[iv p1, iv p2, iv p3, iv p4, iv p5, iv p6, rv b1, rv b17, iv yy37, .unset, .unset, .unset, .unset, .unset] [(.int ((ndF p6) j36_0))])) st38 ?_
  refine Go.st (f' := (mkF m 155 #[iv p1, iv p2, iv p3, iv p4, iv p5, iv p6, rv b1, rv b17, iv yy37, .unset, .unset, .unset, .unset, .unset] [(.int p6), (.int ((ndF p6) j36_0))])) (fun _ k => XS.iload X38.here hx rfl (hb hby at_153) rfl k) ?_
  refine Go.st (f' := (mkF m 156 #[iv p1, iv p2, iv p3, iv p4, iv p5, iv p6, rv b1, rv b17, iv yy37, .unset, .unset, .unset, .unset, .unset] [(.int (((ndF p6) j36_0) - p6))])) (fun _ k => XS.isub X38.here hx rfl (hb hby at_155) rfl k) ?_
  obtain ⟨yy39, hyy39⟩ : ∃ z, z = (((ndF p6) j36_0) - p6) := ⟨_, rfl⟩
  rw [← hyy39]
  have er_yy39 : yy39 = j36_0 := hyy39.trans (own_cancel _ _)
  refine Go.st (f' := (mkF m 158 #[iv p1, iv p2, iv p3, iv p4, iv p5, iv p6, rv b1, rv b17, iv yy37, iv yy39, .unset, .unset, .unset, .unset] [])) (fun _ k => XS.istore X38.here hx rfl (hb hby at_156) rfl (l' := #[iv p1, iv p2, iv p3, iv p4, iv p5, iv p6, rv b1, rv b17, iv yy37, iv yy39, .unset, .unset, .unset, .unset]) rfl k) ?_
  refine Go.st (f' := (mkF m 160 #[iv p1, iv p2, iv p3, iv p4, iv p5, iv p6, rv b1, rv b17, iv yy37, iv yy39, .unset, .unset, .unset, .unset] [(.ref b17)])) (fun _ k => XS.aload X38.here hx rfl (hb hby at_158) rfl rfl k) ?_
  obtain ⟨cq40, kq40, q40a, q40b, q40c⟩ := isOf hZ rfl eq38
  obtain ⟨_, _, ⟨T40, L40, kk40, nn40⟩, -, X40, ⟨Lc40, hQ40, lq40, yq40, zz40⟩, st40⟩ := X38.virtualBack hx (y := (⟨"com/example/kinetic_city/kineticcity/engine/CostQueue", "removeCheapest", "()I"⟩ : MethodName)) (z := (⟨"com/example/kinetic_city/kineticcity/engine/CostQueue", "removeCheapest", "()I"⟩ : MethodName)) hown (mvT hZ (ww hw 22 rfl)) (mvT hZ (ww hw 23 rfl)) (notFace_of_selects (args := #[]) (mvT hZ (ww hw 25 rfl))) (mvT hZ (ww hw 25 rfl)) (mvT hZ (ww hw 24 rfl)) (by decide) (own_back (W := 0) (rmR3 l Z a0 hw [] b17 cA19 nA19 kA19 kN19 (ndF p6) (Cx (yy2.toInt64) (yy5.toInt64) (yy8.toInt64) (yy11.toInt64) (yy14.toInt64)) j38_0 j38_1 j38_2 u38_0 u38_1 s38_0 s38_1 T38.heap n0 O38 hF g_b17 g_cA19 g_nA19 hp38_1 hp38_2 eq38 sq38 iq38 cq38 vq38 wq38) hZ (ww hw 26 rfl) (ww hw 3 rfl) (by decide) (by decide)) q40a q40c (g := (mkF m 160 #[iv p1, iv p2, iv p3, iv p4, iv p5, iv p6, rv b1, rv b17, iv yy37, iv yy39, .unset, .unset, .unset, .unset] [(.ref b17)])) rfl (by rw [hml]; rfl) (Steps.refl _) (argsL := []) (rest := []) (lenOf pd___I rfl) rfl (by show 2 * 0 + _ ≤ _; exact Nat.le_of_eq rfl) (hb hby at_160) (fun _ _ => ⟨rfl, rfl, (by decide : 4 + 0 ≤ _), (by decide : 40 + 0 ≤ _)⟩)
  dsimp only [Pt.U, Pt.locs, Pt.cells, Pt.slots] at X40 lq40 yq40 zz40 st40 hQ40
  subst lq40 yq40 zz40
  obtain ⟨rfl, Nq40, kq40, eq40, sq40, iq40, cq40, j40_0, j40_1, u40_0, u40_1, u40_2, s40_0, s40_1, s40_2, hw40, hp40_1, le40, vq40, wq40⟩ := hQ40
  have N40 := Fr.app N38 Nq40
  have O40 : Old Z n0 T40.heap := O38.keep kq40 (allS g_b17 (allS g_cA19 (allS g_nA19 all0)))
  refine Go.tr (f' := (mkF m 163 #[iv p1, iv p2, iv p3, iv p4, iv p5, iv p6, rv b1, rv b17, iv yy37, iv yy39, .unset, .unset, .unset, .unset] [(.int ((ndF p6) j38_0))])) st40 ?_
  refine Go.st (f' := (mkF m 165 #[iv p1, iv p2, iv p3, iv p4, iv p5, iv p6, rv b1, rv b17, iv yy37, iv yy39, .unset, .unset, .unset, .unset] [(.int p6), (.int ((ndF p6) j38_0))])) (fun _ k => XS.iload X40.here hx rfl (hb hby at_163) rfl k) ?_
  refine Go.st (f' := (mkF m 166 #[iv p1, iv p2, iv p3, iv p4, iv p5, iv p6, rv b1, rv b17, iv yy37, iv yy39, .unset, .unset, .unset, .unset] [(.int (((ndF p6) j38_0) - p6))])) (fun _ k => XS.isub X40.here hx rfl (hb hby at_165) rfl k) ?_
  obtain ⟨yy41, hyy41⟩ : ∃ z, z = (((ndF p6) j38_0) - p6) := ⟨_, rfl⟩
  rw [← hyy41]
  have er_yy41 : yy41 = j38_0 := hyy41.trans (own_cancel _ _)
  refine Go.st (f' := (mkF m 168 #[iv p1, iv p2, iv p3, iv p4, iv p5, iv p6, rv b1, rv b17, iv yy37, iv yy39, iv yy41, .unset, .unset, .unset] [])) (fun _ k => XS.istore X40.here hx rfl (hb hby at_166) rfl (l' := #[iv p1, iv p2, iv p3, iv p4, iv p5, iv p6, rv b1, rv b17, iv yy37, iv yy39, iv yy41, .unset, .unset, .unset]) rfl k) ?_
  refine Go.st (f' := (mkF m 170 #[iv p1, iv p2, iv p3, iv p4, iv p5, iv p6, rv b1, rv b17, iv yy37, iv yy39, iv yy41, .unset, .unset, .unset] [(.ref b17)])) (fun _ k => XS.aload X40.here hx rfl (hb hby at_168) rfl rfl k) ?_
  obtain ⟨cq42, kq42, q42a, q42b, q42c⟩ := isOf hZ rfl eq40
  obtain ⟨_, _, ⟨T42, L42, kk42, nn42⟩, -, X42, ⟨Lc42, hQ42, lq42, yq42, zz42⟩, st42⟩ := X40.virtualBack hx (y := (⟨"com/example/kinetic_city/kineticcity/engine/CostQueue", "removeCheapest", "()I"⟩ : MethodName)) (z := (⟨"com/example/kinetic_city/kineticcity/engine/CostQueue", "removeCheapest", "()I"⟩ : MethodName)) hown (mvT hZ (ww hw 22 rfl)) (mvT hZ (ww hw 23 rfl)) (notFace_of_selects (args := #[]) (mvT hZ (ww hw 25 rfl))) (mvT hZ (ww hw 25 rfl)) (mvT hZ (ww hw 24 rfl)) (by decide) (own_back (W := 0) (rmR2 l Z a0 hw [] b17 cA19 nA19 kA19 kN19 (ndF p6) (Cx (yy2.toInt64) (yy5.toInt64) (yy8.toInt64) (yy11.toInt64) (yy14.toInt64)) j40_0 j40_1 u40_0 u40_1 u40_2 s40_0 s40_1 s40_2 T40.heap n0 O40 hF g_b17 g_cA19 g_nA19 hp40_1 eq40 sq40 iq40 cq40 vq40 wq40) hZ (ww hw 26 rfl) (ww hw 3 rfl) (by decide) (by decide)) q42a q42c (g := (mkF m 170 #[iv p1, iv p2, iv p3, iv p4, iv p5, iv p6, rv b1, rv b17, iv yy37, iv yy39, iv yy41, .unset, .unset, .unset] [(.ref b17)])) rfl (by rw [hml]; rfl) (Steps.refl _) (argsL := []) (rest := []) (lenOf pd___I rfl) rfl (by show 2 * 0 + _ ≤ _; exact Nat.le_of_eq rfl) (hb hby at_170) (fun _ _ => ⟨rfl, rfl, (by decide : 4 + 0 ≤ _), (by decide : 40 + 0 ≤ _)⟩)
  dsimp only [Pt.U, Pt.locs, Pt.cells, Pt.slots] at X42 lq42 yq42 zz42 st42 hQ42
  subst lq42 yq42 zz42
  obtain ⟨rfl, Nq42, kq42, eq42, sq42, iq42, cq42, j42_0, u42_0, u42_1, u42_2, u42_3, s42_0, s42_1, s42_2, s42_3, hw42, le42, vq42, wq42⟩ := hQ42
  have N42 := Fr.app N40 Nq42
  have O42 : Old Z n0 T42.heap := O40.keep kq42 (allS g_b17 (allS g_cA19 (allS g_nA19 all0)))
  refine Go.tr (f' := (mkF m 173 #[iv p1, iv p2, iv p3, iv p4, iv p5, iv p6, rv b1, rv b17, iv yy37, iv yy39, iv yy41, .unset, .unset, .unset] [(.int ((ndF p6) j40_0))])) st42 ?_
  refine Go.st (f' := (mkF m 175 #[iv p1, iv p2, iv p3, iv p4, iv p5, iv p6, rv b1, rv b17, iv yy37, iv yy39, iv yy41, .unset, .unset, .unset] [(.int p6), (.int ((ndF p6) j40_0))])) (fun _ k => XS.iload X42.here hx rfl (hb hby at_173) rfl k) ?_
  refine Go.st (f' := (mkF m 176 #[iv p1, iv p2, iv p3, iv p4, iv p5, iv p6, rv b1, rv b17, iv yy37, iv yy39, iv yy41, .unset, .unset, .unset] [(.int (((ndF p6) j40_0) - p6))])) (fun _ k => XS.isub X42.here hx rfl (hb hby at_175) rfl k) ?_
  obtain ⟨yy43, hyy43⟩ : ∃ z, z = (((ndF p6) j40_0) - p6) := ⟨_, rfl⟩
  rw [← hyy43]
  have er_yy43 : yy43 = j40_0 := hyy43.trans (own_cancel _ _)
  refine Go.st (f' := (mkF m 178 #[iv p1, iv p2, iv p3, iv p4, iv p5, iv p6, rv b1, rv b17, iv yy37, iv yy39, iv yy41, iv yy43, .unset, .unset] [])) (fun _ k => XS.istore X42.here hx rfl (hb hby at_176) rfl (l' := #[iv p1, iv p2, iv p3, iv p4, iv p5, iv p6, rv b1, rv b17, iv yy37, iv yy39, iv yy41, iv yy43, .unset, .unset]) rfl k) ?_
  refine Go.st (f' := (mkF m 180 #[iv p1, iv p2, iv p3, iv p4, iv p5, iv p6, rv b1, rv b17, iv yy37, iv yy39, iv yy41, iv yy43, .unset, .unset] [(.ref b17)])) (fun _ k => XS.aload X42.here hx rfl (hb hby at_178) rfl rfl k) ?_
  obtain ⟨cq44, kq44, q44a, q44b, q44c⟩ := isOf hZ rfl eq42
  obtain ⟨_, _, ⟨T44, L44, kk44, nn44⟩, -, X44, ⟨Lc44, hQ44, lq44, yq44, zz44⟩, st44⟩ := X42.virtualBack hx (y := (⟨"com/example/kinetic_city/kineticcity/engine/CostQueue", "removeCheapest", "()I"⟩ : MethodName)) (z := (⟨"com/example/kinetic_city/kineticcity/engine/CostQueue", "removeCheapest", "()I"⟩ : MethodName)) hown (mvT hZ (ww hw 22 rfl)) (mvT hZ (ww hw 23 rfl)) (notFace_of_selects (args := #[]) (mvT hZ (ww hw 25 rfl))) (mvT hZ (ww hw 25 rfl)) (mvT hZ (ww hw 24 rfl)) (by decide) (own_back (W := 0) (rmR1 l Z a0 hw [] b17 cA19 nA19 kA19 kN19 (ndF p6) (Cx (yy2.toInt64) (yy5.toInt64) (yy8.toInt64) (yy11.toInt64) (yy14.toInt64)) j42_0 u42_0 u42_1 u42_2 u42_3 s42_0 s42_1 s42_2 s42_3 T42.heap n0 O42 hF g_b17 g_cA19 g_nA19  eq42 sq42 iq42 cq42 vq42 wq42) hZ (ww hw 26 rfl) (ww hw 3 rfl) (by decide) (by decide)) q44a q44c (g := (mkF m 180 #[iv p1, iv p2, iv p3, iv p4, iv p5, iv p6, rv b1, rv b17, iv yy37, iv yy39, iv yy41, iv yy43, .unset, .unset] [(.ref b17)])) rfl (by rw [hml]; rfl) (Steps.refl _) (argsL := []) (rest := []) (lenOf pd___I rfl) rfl (by show 2 * 0 + _ ≤ _; exact Nat.le_of_eq rfl) (hb hby at_180) (fun _ _ => ⟨rfl, rfl, (by decide : 4 + 0 ≤ _), (by decide : 40 + 0 ≤ _)⟩)
  dsimp only [Pt.U, Pt.locs, Pt.cells, Pt.slots] at X44 lq44 yq44 zz44 st44 hQ44
  subst lq44 yq44 zz44
  obtain ⟨rfl, Nq44, kq44, eq44, sq44, iq44, cq44, _, u44_0, u44_1, u44_2, u44_3, u44_4, s44_0, s44_1, s44_2, s44_3, s44_4, hw44, vq44, wq44⟩ := hQ44
  have N44 := Fr.app N42 Nq44
  have O44 : Old Z n0 T44.heap := O42.keep kq44 (allS g_b17 (allS g_cA19 (allS g_nA19 all0)))
  refine Go.tr (f' := (mkF m 183 #[iv p1, iv p2, iv p3, iv p4, iv p5, iv p6, rv b1, rv b17, iv yy37, iv yy39, iv yy41, iv yy43, .unset, .unset] [(.int ((ndF p6) j42_0))])) st44 ?_
  refine Go.st (f' := (mkF m 185 #[iv p1, iv p2, iv p3, iv p4, iv p5, iv p6, rv b1, rv b17, iv yy37, iv yy39, iv yy41, iv yy43, .unset, .unset] [(.int p6), (.int ((ndF p6) j42_0))])) (fun _ k => XS.iload X44.here hx rfl (hb hby at_183) rfl k) ?_
  refine Go.st (f' := (mkF m 186 #[iv p1, iv p2, iv p3, iv p4, iv p5, iv p6, rv b1, rv b17, iv yy37, iv yy39, iv yy41, iv yy43, .unset, .unset] [(.int (((ndF p6) j42_0) - p6))])) (fun _ k => XS.isub X44.here hx rfl (hb hby at_185) rfl k) ?_
  obtain ⟨yy45, hyy45⟩ : ∃ z, z = (((ndF p6) j42_0) - p6) := ⟨_, rfl⟩
  rw [← hyy45]
  have er_yy45 : yy45 = j42_0 := hyy45.trans (own_cancel _ _)
  refine Go.st (f' := (mkF m 188 #[iv p1, iv p2, iv p3, iv p4, iv p5, iv p6, rv b1, rv b17, iv yy37, iv yy39, iv yy41, iv yy43, iv yy45, .unset] [])) (fun _ k => XS.istore X44.here hx rfl (hb hby at_186) rfl (l' := #[iv p1, iv p2, iv p3, iv p4, iv p5, iv p6, rv b1, rv b17, iv yy37, iv yy39, iv yy41, iv yy43, iv yy45, .unset]) rfl k) ?_
  have hW : ∀ w : Int32 → Int, w yy37 + w yy39 + w yy41 + w yy43 + w yy45 = w (0 : Int32) + w (1 : Int32) + w (2 : Int32) + w (3 : Int32) + w (4 : Int32) := fun w => by
    rw [er_yy37, er_yy39, er_yy41, er_yy43, er_yy45]
    have q0 := hw23 w
    have q1 := hw26 w
    have q2 := hw29 w
    have q3 := hw32 w
    have q4 := hw35 w
    have q5 := hw36 w
    have q6 := hw38 w
    have q7 := hw40 w
    have q8 := hw42 w
    have q9 := hw44 w
    omega
  obtain ⟨hr_yy37, hr_yy39, hr_yy41, hr_yy43, hr_yy45⟩ := own_rng hW
  have le_0 : ((Cx (yy2.toInt64) (yy5.toInt64) (yy8.toInt64) (yy11.toInt64) (yy14.toInt64)) yy37).toInt ≤ ((Cx (yy2.toInt64) (yy5.toInt64) (yy8.toInt64) (yy11.toInt64) (yy14.toInt64)) yy39).toInt := by rw [er_yy37, er_yy39]; exact le36
  have le_1 : ((Cx (yy2.toInt64) (yy5.toInt64) (yy8.toInt64) (yy11.toInt64) (yy14.toInt64)) yy39).toInt ≤ ((Cx (yy2.toInt64) (yy5.toInt64) (yy8.toInt64) (yy11.toInt64) (yy14.toInt64)) yy41).toInt := by rw [er_yy39, er_yy41]; exact le38
  have le_2 : ((Cx (yy2.toInt64) (yy5.toInt64) (yy8.toInt64) (yy11.toInt64) (yy14.toInt64)) yy41).toInt ≤ ((Cx (yy2.toInt64) (yy5.toInt64) (yy8.toInt64) (yy11.toInt64) (yy14.toInt64)) yy43).toInt := by rw [er_yy41, er_yy43]; exact le40
  have le_3 : ((Cx (yy2.toInt64) (yy5.toInt64) (yy8.toInt64) (yy11.toInt64) (yy14.toInt64)) yy43).toInt ≤ ((Cx (yy2.toInt64) (yy5.toInt64) (yy8.toInt64) (yy11.toInt64) (yy14.toInt64)) yy45).toInt := by rw [er_yy43, er_yy45]; exact le42
  refine Go.st (f' := (mkF m 190 #[iv p1, iv p2, iv p3, iv p4, iv p5, iv p6, rv b1, rv b17, iv yy37, iv yy39, iv yy41, iv yy43, iv yy45, .unset] [(.int yy37)])) (fun _ k => XS.iload X44.here hx rfl (hb hby at_188) rfl k) ?_
  obtain ⟨_, _, ⟨T46, L46, kk46, nn46⟩, -, X46, ⟨Lc46, hQ46, lq46, yq46, zz46⟩, st46⟩ := Jvm.LawKit.callS X44 hx (y := (⟨"com/example/kinetic_city/kineticcity/engine/CostQueueRemoveCheapestPinLaw", "in", "(I)Z"⟩ : MethodName)) hown (mvT hZ (ww hw 27 rfl)) (mvT hZ (ww hw 28 rfl)) (mvT hZ (ww hw 29 rfl)) (mvT hZ (ww hw 30 rfl)) (by decide) (own_back (W := 0) (rmIn l Z a0 hw [] yy37 T44.heap n0 O44) hZ (ww hw 30 rfl) (ww hw 29 rfl) (by decide) (by decide)) (g := (mkF m 190 #[iv p1, iv p2, iv p3, iv p4, iv p5, iv p6, rv b1, rv b17, iv yy37, iv yy39, iv yy41, iv yy43, iv yy45, .unset] [(.int yy37)])) rfl (by rw [hml]; rfl) (argsL := [(.int yy37)]) (rest := []) (lenOf pd__I_Z rfl) rfl (by show 2 * 0 + _ ≤ _; exact Nat.le_of_eq rfl) (hb hby at_190) (fun _ _ => ⟨rfl, rfl, (by decide : 4 + 0 ≤ _), (by decide : 40 + 0 ≤ _)⟩)
  dsimp only [Pt.U, Pt.locs, Pt.cells, Pt.slots] at X46 lq46 yq46 zz46 st46 hQ46
  subst lq46 yq46 zz46
  obtain ⟨rfl, Nq46, kq46⟩ := hQ46
  have N46 := Fr.app N44 Nq46
  refine Go.st (f' := (mkF m 193 #[iv p1, iv p2, iv p3, iv p4, iv p5, iv p6, rv b1, rv b17, iv yy37, iv yy39, iv yy41, iv yy43, iv yy45, .unset] [(.int (inI yy37))])) (fun _ k => st46 _ k) ?_
  refine Go.st (f' := (mkF m 196 #[iv p1, iv p2, iv p3, iv p4, iv p5, iv p6, rv b1, rv b17, iv yy37, iv yy39, iv yy41, iv yy43, iv yy45, .unset] [])) (fun _ k => XS.ifNo X46.here hx rfl (hb hby at_193) rfl ((if0 _ _).trans (feq (own_in hr_yy37)).1) k) ?_
  refine Go.st (f' := (mkF m 198 #[iv p1, iv p2, iv p3, iv p4, iv p5, iv p6, rv b1, rv b17, iv yy37, iv yy39, iv yy41, iv yy43, iv yy45, .unset] [(.int yy39)])) (fun _ k => XS.iload X46.here hx rfl (hb hby at_196) rfl k) ?_
  obtain ⟨_, _, ⟨T47, L47, kk47, nn47⟩, -, X47, ⟨Lc47, hQ47, lq47, yq47, zz47⟩, st47⟩ := Jvm.LawKit.callS X46 hx (y := (⟨"com/example/kinetic_city/kineticcity/engine/CostQueueRemoveCheapestPinLaw", "in", "(I)Z"⟩ : MethodName)) hown (mvT hZ (ww hw 27 rfl)) (mvT hZ (ww hw 28 rfl)) (mvT hZ (ww hw 29 rfl)) (mvT hZ (ww hw 30 rfl)) (by decide) (own_back (W := 0) (rmIn l Z a0 hw [] yy39 T44.heap n0 O44) hZ (ww hw 30 rfl) (ww hw 29 rfl) (by decide) (by decide)) (g := (mkF m 198 #[iv p1, iv p2, iv p3, iv p4, iv p5, iv p6, rv b1, rv b17, iv yy37, iv yy39, iv yy41, iv yy43, iv yy45, .unset] [(.int yy39)])) rfl (by rw [hml]; rfl) (argsL := [(.int yy39)]) (rest := []) (lenOf pd__I_Z rfl) rfl (by show 2 * 0 + _ ≤ _; exact Nat.le_of_eq rfl) (hb hby at_198) (fun _ _ => ⟨rfl, kq46, (by decide : 4 + 0 ≤ _), (by decide : 40 + 0 ≤ _)⟩)
  dsimp only [Pt.U, Pt.locs, Pt.cells, Pt.slots] at X47 lq47 yq47 zz47 st47 hQ47
  subst lq47 yq47 zz47
  obtain ⟨rfl, Nq47, kq47⟩ := hQ47
  have N47 := Fr.app N46 Nq47
  refine Go.st (f' := (mkF m 201 #[iv p1, iv p2, iv p3, iv p4, iv p5, iv p6, rv b1, rv b17, iv yy37, iv yy39, iv yy41, iv yy43, iv yy45, .unset] [(.int (inI yy39))])) (fun _ k => st47 _ k) ?_
  refine Go.st (f' := (mkF m 204 #[iv p1, iv p2, iv p3, iv p4, iv p5, iv p6, rv b1, rv b17, iv yy37, iv yy39, iv yy41, iv yy43, iv yy45, .unset] [])) (fun _ k => XS.ifNo X47.here hx rfl (hb hby at_201) rfl ((if0 _ _).trans (feq (own_in hr_yy39)).1) k) ?_
  refine Go.st (f' := (mkF m 206 #[iv p1, iv p2, iv p3, iv p4, iv p5, iv p6, rv b1, rv b17, iv yy37, iv yy39, iv yy41, iv yy43, iv yy45, .unset] [(.int yy41)])) (fun _ k => XS.iload X47.here hx rfl (hb hby at_204) rfl k) ?_
  obtain ⟨_, _, ⟨T48, L48, kk48, nn48⟩, -, X48, ⟨Lc48, hQ48, lq48, yq48, zz48⟩, st48⟩ := Jvm.LawKit.callS X47 hx (y := (⟨"com/example/kinetic_city/kineticcity/engine/CostQueueRemoveCheapestPinLaw", "in", "(I)Z"⟩ : MethodName)) hown (mvT hZ (ww hw 27 rfl)) (mvT hZ (ww hw 28 rfl)) (mvT hZ (ww hw 29 rfl)) (mvT hZ (ww hw 30 rfl)) (by decide) (own_back (W := 0) (rmIn l Z a0 hw [] yy41 T44.heap n0 O44) hZ (ww hw 30 rfl) (ww hw 29 rfl) (by decide) (by decide)) (g := (mkF m 206 #[iv p1, iv p2, iv p3, iv p4, iv p5, iv p6, rv b1, rv b17, iv yy37, iv yy39, iv yy41, iv yy43, iv yy45, .unset] [(.int yy41)])) rfl (by rw [hml]; rfl) (argsL := [(.int yy41)]) (rest := []) (lenOf pd__I_Z rfl) rfl (by show 2 * 0 + _ ≤ _; exact Nat.le_of_eq rfl) (hb hby at_206) (fun _ _ => ⟨rfl, kq47, (by decide : 4 + 0 ≤ _), (by decide : 40 + 0 ≤ _)⟩)
  dsimp only [Pt.U, Pt.locs, Pt.cells, Pt.slots] at X48 lq48 yq48 zz48 st48 hQ48
  subst lq48 yq48 zz48
  obtain ⟨rfl, Nq48, kq48⟩ := hQ48
  have N48 := Fr.app N47 Nq48
  refine Go.st (f' := (mkF m 209 #[iv p1, iv p2, iv p3, iv p4, iv p5, iv p6, rv b1, rv b17, iv yy37, iv yy39, iv yy41, iv yy43, iv yy45, .unset] [(.int (inI yy41))])) (fun _ k => st48 _ k) ?_
  refine Go.st (f' := (mkF m 212 #[iv p1, iv p2, iv p3, iv p4, iv p5, iv p6, rv b1, rv b17, iv yy37, iv yy39, iv yy41, iv yy43, iv yy45, .unset] [])) (fun _ k => XS.ifNo X48.here hx rfl (hb hby at_209) rfl ((if0 _ _).trans (feq (own_in hr_yy41)).1) k) ?_
  refine Go.st (f' := (mkF m 214 #[iv p1, iv p2, iv p3, iv p4, iv p5, iv p6, rv b1, rv b17, iv yy37, iv yy39, iv yy41, iv yy43, iv yy45, .unset] [(.int yy43)])) (fun _ k => XS.iload X48.here hx rfl (hb hby at_212) rfl k) ?_
  obtain ⟨_, _, ⟨T49, L49, kk49, nn49⟩, -, X49, ⟨Lc49, hQ49, lq49, yq49, zz49⟩, st49⟩ := Jvm.LawKit.callS X48 hx (y := (⟨"com/example/kinetic_city/kineticcity/engine/CostQueueRemoveCheapestPinLaw", "in", "(I)Z"⟩ : MethodName)) hown (mvT hZ (ww hw 27 rfl)) (mvT hZ (ww hw 28 rfl)) (mvT hZ (ww hw 29 rfl)) (mvT hZ (ww hw 30 rfl)) (by decide) (own_back (W := 0) (rmIn l Z a0 hw [] yy43 T44.heap n0 O44) hZ (ww hw 30 rfl) (ww hw 29 rfl) (by decide) (by decide)) (g := (mkF m 214 #[iv p1, iv p2, iv p3, iv p4, iv p5, iv p6, rv b1, rv b17, iv yy37, iv yy39, iv yy41, iv yy43, iv yy45, .unset] [(.int yy43)])) rfl (by rw [hml]; rfl) (argsL := [(.int yy43)]) (rest := []) (lenOf pd__I_Z rfl) rfl (by show 2 * 0 + _ ≤ _; exact Nat.le_of_eq rfl) (hb hby at_214) (fun _ _ => ⟨rfl, kq48, (by decide : 4 + 0 ≤ _), (by decide : 40 + 0 ≤ _)⟩)
  dsimp only [Pt.U, Pt.locs, Pt.cells, Pt.slots] at X49 lq49 yq49 zz49 st49 hQ49
  subst lq49 yq49 zz49
  obtain ⟨rfl, Nq49, kq49⟩ := hQ49
  have N49 := Fr.app N48 Nq49
  refine Go.st (f' := (mkF m 217 #[iv p1, iv p2, iv p3, iv p4, iv p5, iv p6, rv b1, rv b17, iv yy37, iv yy39, iv yy41, iv yy43, iv yy45, .unset] [(.int (inI yy43))])) (fun _ k => st49 _ k) ?_
  refine Go.st (f' := (mkF m 220 #[iv p1, iv p2, iv p3, iv p4, iv p5, iv p6, rv b1, rv b17, iv yy37, iv yy39, iv yy41, iv yy43, iv yy45, .unset] [])) (fun _ k => XS.ifNo X49.here hx rfl (hb hby at_217) rfl ((if0 _ _).trans (feq (own_in hr_yy43)).1) k) ?_
  refine Go.st (f' := (mkF m 222 #[iv p1, iv p2, iv p3, iv p4, iv p5, iv p6, rv b1, rv b17, iv yy37, iv yy39, iv yy41, iv yy43, iv yy45, .unset] [(.int yy45)])) (fun _ k => XS.iload X49.here hx rfl (hb hby at_220) rfl k) ?_
  obtain ⟨_, _, ⟨T50, L50, kk50, nn50⟩, -, X50, ⟨Lc50, hQ50, lq50, yq50, zz50⟩, st50⟩ := Jvm.LawKit.callS X49 hx (y := (⟨"com/example/kinetic_city/kineticcity/engine/CostQueueRemoveCheapestPinLaw", "in", "(I)Z"⟩ : MethodName)) hown (mvT hZ (ww hw 27 rfl)) (mvT hZ (ww hw 28 rfl)) (mvT hZ (ww hw 29 rfl)) (mvT hZ (ww hw 30 rfl)) (by decide) (own_back (W := 0) (rmIn l Z a0 hw [] yy45 T44.heap n0 O44) hZ (ww hw 30 rfl) (ww hw 29 rfl) (by decide) (by decide)) (g := (mkF m 222 #[iv p1, iv p2, iv p3, iv p4, iv p5, iv p6, rv b1, rv b17, iv yy37, iv yy39, iv yy41, iv yy43, iv yy45, .unset] [(.int yy45)])) rfl (by rw [hml]; rfl) (argsL := [(.int yy45)]) (rest := []) (lenOf pd__I_Z rfl) rfl (by show 2 * 0 + _ ≤ _; exact Nat.le_of_eq rfl) (hb hby at_222) (fun _ _ => ⟨rfl, kq49, (by decide : 4 + 0 ≤ _), (by decide : 40 + 0 ≤ _)⟩)
  dsimp only [Pt.U, Pt.locs, Pt.cells, Pt.slots] at X50 lq50 yq50 zz50 st50 hQ50
  subst lq50 yq50 zz50
  obtain ⟨rfl, Nq50, kq50⟩ := hQ50
  have N50 := Fr.app N49 Nq50
  refine Go.st (f' := (mkF m 225 #[iv p1, iv p2, iv p3, iv p4, iv p5, iv p6, rv b1, rv b17, iv yy37, iv yy39, iv yy41, iv yy43, iv yy45, .unset] [(.int (inI yy45))])) (fun _ k => st50 _ k) ?_
  refine Go.st (f' := (mkF m 230 #[iv p1, iv p2, iv p3, iv p4, iv p5, iv p6, rv b1, rv b17, iv yy37, iv yy39, iv yy41, iv yy43, iv yy45, .unset] [])) (fun _ k => XS.ifYes X50.here hx rfl (pc0 := 225) (pc' := 230) rfl (hb hby at_225) rfl ((if0 _ _).trans (feq (own_in hr_yy45)).2) (by decide) (by decide) k) ?_
  refine Go.st (f' := (mkF m 231 #[iv p1, iv p2, iv p3, iv p4, iv p5, iv p6, rv b1, rv b17, iv yy37, iv yy39, iv yy41, iv yy43, iv yy45, .unset] [(.int 1)])) (fun _ k => XS.iconst X50.here hx rfl (hb hby at_230) k) ?_
  refine Go.st (f' := (mkF m 233 #[iv p1, iv p2, iv p3, iv p4, iv p5, iv p6, rv b1, rv b17, iv yy37, iv yy39, iv yy41, iv yy43, iv yy45, .unset] [(.int yy37), (.int 1)])) (fun _ k => XS.iload X50.here hx rfl (hb hby at_231) rfl k) ?_
  refine Go.st (f' := (mkF m 234 #[iv p1, iv p2, iv p3, iv p4, iv p5, iv p6, rv b1, rv b17, iv yy37, iv yy39, iv yy41, iv yy43, iv yy45, .unset] [(.int ((1 : Int32) <<< (yy37 &&& 31)))])) (fun _ k => XS.ishl X50.here hx rfl (hb hby at_233) rfl k) ?_
  refine Go.st (f' := (mkF m 235 #[iv p1, iv p2, iv p3, iv p4, iv p5, iv p6, rv b1, rv b17, iv yy37, iv yy39, iv yy41, iv yy43, iv yy45, .unset] [(.int 1), (.int ((1 : Int32) <<< (yy37 &&& 31)))])) (fun _ k => XS.iconst X50.here hx rfl (hb hby at_234) k) ?_
  refine Go.st (f' := (mkF m 237 #[iv p1, iv p2, iv p3, iv p4, iv p5, iv p6, rv b1, rv b17, iv yy37, iv yy39, iv yy41, iv yy43, iv yy45, .unset] [(.int yy39), (.int 1), (.int ((1 : Int32) <<< (yy37 &&& 31)))])) (fun _ k => XS.iload X50.here hx rfl (hb hby at_235) rfl k) ?_
  refine Go.st (f' := (mkF m 238 #[iv p1, iv p2, iv p3, iv p4, iv p5, iv p6, rv b1, rv b17, iv yy37, iv yy39, iv yy41, iv yy43, iv yy45, .unset] [(.int ((1 : Int32) <<< (yy39 &&& 31))), (.int ((1 : Int32) <<< (yy37 &&& 31)))])) (fun _ k => XS.ishl X50.here hx rfl (hb hby at_237) rfl k) ?_
  refine Go.st (f' := (mkF m 239 #[iv p1, iv p2, iv p3, iv p4, iv p5, iv p6, rv b1, rv b17, iv yy37, iv yy39, iv yy41, iv yy43, iv yy45, .unset] [(.int (((1 : Int32) <<< (yy37 &&& 31)) ||| ((1 : Int32) <<< (yy39 &&& 31))))])) (fun _ k => XS.ior X50.here hx rfl (hb hby at_238) rfl k) ?_
  refine Go.st (f' := (mkF m 240 #[iv p1, iv p2, iv p3, iv p4, iv p5, iv p6, rv b1, rv b17, iv yy37, iv yy39, iv yy41, iv yy43, iv yy45, .unset] [(.int 1), (.int (((1 : Int32) <<< (yy37 &&& 31)) ||| ((1 : Int32) <<< (yy39 &&& 31))))])) (fun _ k => XS.iconst X50.here hx rfl (hb hby at_239) k) ?_
  refine Go.st (f' := (mkF m 242 #[iv p1, iv p2, iv p3, iv p4, iv p5, iv p6, rv b1, rv b17, iv yy37, iv yy39, iv yy41, iv yy43, iv yy45, .unset] [(.int yy41), (.int 1), (.int (((1 : Int32) <<< (yy37 &&& 31)) ||| ((1 : Int32) <<< (yy39 &&& 31))))])) (fun _ k => XS.iload X50.here hx rfl (hb hby at_240) rfl k) ?_
  refine Go.st (f' := (mkF m 243 #[iv p1, iv p2, iv p3, iv p4, iv p5, iv p6, rv b1, rv b17, iv yy37, iv yy39, iv yy41, iv yy43, iv yy45, .unset] [(.int ((1 : Int32) <<< (yy41 &&& 31))), (.int (((1 : Int32) <<< (yy37 &&& 31)) ||| ((1 : Int32) <<< (yy39 &&& 31))))])) (fun _ k => XS.ishl X50.here hx rfl (hb hby at_242) rfl k) ?_
  refine Go.st (f' := (mkF m 244 #[iv p1, iv p2, iv p3, iv p4, iv p5, iv p6, rv b1, rv b17, iv yy37, iv yy39, iv yy41, iv yy43, iv yy45, .unset] [(.int ((((1 : Int32) <<< (yy37 &&& 31)) ||| ((1 : Int32) <<< (yy39 &&& 31))) ||| ((1 : Int32) <<< (yy41 &&& 31))))])) (fun _ k => XS.ior X50.here hx rfl (hb hby at_243) rfl k) ?_
  refine Go.st (f' := (mkF m 245 #[iv p1, iv p2, iv p3, iv p4, iv p5, iv p6, rv b1, rv b17, iv yy37, iv yy39, iv yy41, iv yy43, iv yy45, .unset] [(.int 1), (.int ((((1 : Int32) <<< (yy37 &&& 31)) ||| ((1 : Int32) <<< (yy39 &&& 31))) ||| ((1 : Int32) <<< (yy41 &&& 31))))])) (fun _ k => XS.iconst X50.here hx rfl (hb hby at_244) k) ?_
  refine Go.st (f' := (mkF m 247 #[iv p1, iv p2, iv p3, iv p4, iv p5, iv p6, rv b1, rv b17, iv yy37, iv yy39, iv yy41, iv yy43, iv yy45, .unset] [(.int yy43), (.int 1), (.int ((((1 : Int32) <<< (yy37 &&& 31)) ||| ((1 : Int32) <<< (yy39 &&& 31))) ||| ((1 : Int32) <<< (yy41 &&& 31))))])) (fun _ k => XS.iload X50.here hx rfl (hb hby at_245) rfl k) ?_
  refine Go.st (f' := (mkF m 248 #[iv p1, iv p2, iv p3, iv p4, iv p5, iv p6, rv b1, rv b17, iv yy37, iv yy39, iv yy41, iv yy43, iv yy45, .unset] [(.int ((1 : Int32) <<< (yy43 &&& 31))), (.int ((((1 : Int32) <<< (yy37 &&& 31)) ||| ((1 : Int32) <<< (yy39 &&& 31))) ||| ((1 : Int32) <<< (yy41 &&& 31))))])) (fun _ k => XS.ishl X50.here hx rfl (hb hby at_247) rfl k) ?_
  refine Go.st (f' := (mkF m 249 #[iv p1, iv p2, iv p3, iv p4, iv p5, iv p6, rv b1, rv b17, iv yy37, iv yy39, iv yy41, iv yy43, iv yy45, .unset] [(.int (((((1 : Int32) <<< (yy37 &&& 31)) ||| ((1 : Int32) <<< (yy39 &&& 31))) ||| ((1 : Int32) <<< (yy41 &&& 31))) ||| ((1 : Int32) <<< (yy43 &&& 31))))])) (fun _ k => XS.ior X50.here hx rfl (hb hby at_248) rfl k) ?_
  refine Go.st (f' := (mkF m 250 #[iv p1, iv p2, iv p3, iv p4, iv p5, iv p6, rv b1, rv b17, iv yy37, iv yy39, iv yy41, iv yy43, iv yy45, .unset] [(.int 1), (.int (((((1 : Int32) <<< (yy37 &&& 31)) ||| ((1 : Int32) <<< (yy39 &&& 31))) ||| ((1 : Int32) <<< (yy41 &&& 31))) ||| ((1 : Int32) <<< (yy43 &&& 31))))])) (fun _ k => XS.iconst X50.here hx rfl (hb hby at_249) k) ?_
  refine Go.st (f' := (mkF m 252 #[iv p1, iv p2, iv p3, iv p4, iv p5, iv p6, rv b1, rv b17, iv yy37, iv yy39, iv yy41, iv yy43, iv yy45, .unset] [(.int yy45), (.int 1), (.int (((((1 : Int32) <<< (yy37 &&& 31)) ||| ((1 : Int32) <<< (yy39 &&& 31))) ||| ((1 : Int32) <<< (yy41 &&& 31))) ||| ((1 : Int32) <<< (yy43 &&& 31))))])) (fun _ k => XS.iload X50.here hx rfl (hb hby at_250) rfl k) ?_
  refine Go.st (f' := (mkF m 253 #[iv p1, iv p2, iv p3, iv p4, iv p5, iv p6, rv b1, rv b17, iv yy37, iv yy39, iv yy41, iv yy43, iv yy45, .unset] [(.int ((1 : Int32) <<< (yy45 &&& 31))), (.int (((((1 : Int32) <<< (yy37 &&& 31)) ||| ((1 : Int32) <<< (yy39 &&& 31))) ||| ((1 : Int32) <<< (yy41 &&& 31))) ||| ((1 : Int32) <<< (yy43 &&& 31))))])) (fun _ k => XS.ishl X50.here hx rfl (hb hby at_252) rfl k) ?_
  refine Go.st (f' := (mkF m 254 #[iv p1, iv p2, iv p3, iv p4, iv p5, iv p6, rv b1, rv b17, iv yy37, iv yy39, iv yy41, iv yy43, iv yy45, .unset] [(.int ((((((1 : Int32) <<< (yy37 &&& 31)) ||| ((1 : Int32) <<< (yy39 &&& 31))) ||| ((1 : Int32) <<< (yy41 &&& 31))) ||| ((1 : Int32) <<< (yy43 &&& 31))) ||| ((1 : Int32) <<< (yy45 &&& 31))))])) (fun _ k => XS.ior X50.here hx rfl (hb hby at_253) rfl k) ?_
  obtain ⟨yy51, hyy51⟩ : ∃ z, z = ((((((1 : Int32) <<< (yy37 &&& 31)) ||| ((1 : Int32) <<< (yy39 &&& 31))) ||| ((1 : Int32) <<< (yy41 &&& 31))) ||| ((1 : Int32) <<< (yy43 &&& 31))) ||| ((1 : Int32) <<< (yy45 &&& 31))) := ⟨_, rfl⟩
  rw [← hyy51]
  refine Go.st (f' := (mkF m 256 #[iv p1, iv p2, iv p3, iv p4, iv p5, iv p6, rv b1, rv b17, iv yy37, iv yy39, iv yy41, iv yy43, iv yy45, iv yy51] [])) (fun _ k => XS.istore X50.here hx rfl (hb hby at_254) rfl (l' := #[iv p1, iv p2, iv p3, iv p4, iv p5, iv p6, rv b1, rv b17, iv yy37, iv yy39, iv yy41, iv yy43, iv yy45, iv yy51]) rfl k) ?_
  refine Go.st (f' := (mkF m 258 #[iv p1, iv p2, iv p3, iv p4, iv p5, iv p6, rv b1, rv b17, iv yy37, iv yy39, iv yy41, iv yy43, iv yy45, iv yy51] [(.int yy51)])) (fun _ k => XS.iload X50.here hx rfl (hb hby at_256) rfl k) ?_
  refine Go.st (f' := (mkF m 260 #[iv p1, iv p2, iv p3, iv p4, iv p5, iv p6, rv b1, rv b17, iv yy37, iv yy39, iv yy41, iv yy43, iv yy45, iv yy51] [(.int 31), (.int yy51)])) (fun _ k => XS.bipush X50.here hx rfl (hb hby at_258) k) ?_
  refine Go.st (f' := (mkF m 265 #[iv p1, iv p2, iv p3, iv p4, iv p5, iv p6, rv b1, rv b17, iv yy37, iv yy39, iv yy41, iv yy43, iv yy45, iv yy51] [])) (fun _ k => XS.icmpYes X50.here hx rfl (pc0 := 260) (pc' := 265) rfl (hb hby at_260) rfl (teq (hyy51.trans (own_seen hW))).1 (by decide) (by decide) k) ?_
  refine Go.st (f' := (mkF m 267 #[iv p1, iv p2, iv p3, iv p4, iv p5, iv p6, rv b1, rv b17, iv yy37, iv yy39, iv yy41, iv yy43, iv yy45, iv yy51] [(.ref b1)])) (fun _ k => XS.aload X50.here hx rfl (hb hby at_265) rfl rfl k) ?_
  refine Go.st (f' := (mkF m 269 #[iv p1, iv p2, iv p3, iv p4, iv p5, iv p6, rv b1, rv b17, iv yy37, iv yy39, iv yy41, iv yy43, iv yy45, iv yy51] [(.int yy37), (.ref b1)])) (fun _ k => XS.iload X50.here hx rfl (hb hby at_267) rfl k) ?_
  have ft53 := ((((((ft34.keep kq35 (ninS ne_b1_b17 (ninS ne_b1_cA19 (ninS ne_b1_nA19 nin0)))).keep kq36 (ninS ne_b1_b17 (ninS ne_b1_cA19 (ninS ne_b1_nA19 nin0)))).keep kq38 (ninS ne_b1_b17 (ninS ne_b1_cA19 (ninS ne_b1_nA19 nin0)))).keep kq40 (ninS ne_b1_b17 (ninS ne_b1_cA19 (ninS ne_b1_nA19 nin0)))).keep kq42 (ninS ne_b1_b17 (ninS ne_b1_cA19 (ninS ne_b1_nA19 nin0)))).keep kq44 (ninS ne_b1_b17 (ninS ne_b1_cA19 (ninS ne_b1_nA19 nin0))))
  obtain ⟨cl52, Ar52, -, S52, -, H52, -⟩ := id ft53
  have hin52 : ¬ (yy37 < 0 ∨ cl52.slots.size ≤ (yy37).toNatClampNeg) := inb_of S52 ⟨(own_lo hr_yy37), (own_hi hr_yy37)⟩
  have hat52 : cl52.slots[(yy37).toNatClampNeg]? = some (.double (FP.l2d ((Cx (yy2.toInt64) (yy5.toInt64) (yy8.toInt64) (yy11.toInt64) (yy14.toInt64)) yy37))) := H52.at hin52 (own_get hr_yy37)
  refine Go.st (f' := (mkF m 270 #[iv p1, iv p2, iv p3, iv p4, iv p5, iv p6, rv b1, rv b17, iv yy37, iv yy39, iv yy41, iv yy43, iv yy45, iv yy51] [(.double (FP.l2d ((Cx (yy2.toInt64) (yy5.toInt64) (yy8.toInt64) (yy11.toInt64) (yy14.toInt64)) yy37)))])) (fun _ k => X50.daload hx (j := yy37) (v := (.double (FP.l2d ((Cx (yy2.toInt64) (yy5.toInt64) (yy8.toInt64) (yy11.toInt64) (yy14.toInt64)) yy37)))) (by rw [kq50]; exact Ar52.1) (State.isArrayOf_alike hZ.alike Ar52.2.1) Ar52.2.2 hin52 hat52 (g := (mkF m 269 #[iv p1, iv p2, iv p3, iv p4, iv p5, iv p6, rv b1, rv b17, iv yy37, iv yy39, iv yy41, iv yy43, iv yy45, iv yy51] [(.int yy37), (.ref b1)])) rfl rfl (hb hby at_269) _ k) ?_
  refine Go.st (f' := (mkF m 272 #[iv p1, iv p2, iv p3, iv p4, iv p5, iv p6, rv b1, rv b17, iv yy37, iv yy39, iv yy41, iv yy43, iv yy45, iv yy51] [(.ref b1), (.double (FP.l2d ((Cx (yy2.toInt64) (yy5.toInt64) (yy8.toInt64) (yy11.toInt64) (yy14.toInt64)) yy37)))])) (fun _ k => XS.aload X50.here hx rfl (hb hby at_270) rfl rfl k) ?_
  refine Go.st (f' := (mkF m 274 #[iv p1, iv p2, iv p3, iv p4, iv p5, iv p6, rv b1, rv b17, iv yy37, iv yy39, iv yy41, iv yy43, iv yy45, iv yy51] [(.int yy39), (.ref b1), (.double (FP.l2d ((Cx (yy2.toInt64) (yy5.toInt64) (yy8.toInt64) (yy11.toInt64) (yy14.toInt64)) yy37)))])) (fun _ k => XS.iload X50.here hx rfl (hb hby at_272) rfl k) ?_
  obtain ⟨cl54, Ar54, -, S54, -, H54, -⟩ := id ft53
  have hin54 : ¬ (yy39 < 0 ∨ cl54.slots.size ≤ (yy39).toNatClampNeg) := inb_of S54 ⟨(own_lo hr_yy39), (own_hi hr_yy39)⟩
  have hat54 : cl54.slots[(yy39).toNatClampNeg]? = some (.double (FP.l2d ((Cx (yy2.toInt64) (yy5.toInt64) (yy8.toInt64) (yy11.toInt64) (yy14.toInt64)) yy39))) := H54.at hin54 (own_get hr_yy39)
  refine Go.st (f' := (mkF m 275 #[iv p1, iv p2, iv p3, iv p4, iv p5, iv p6, rv b1, rv b17, iv yy37, iv yy39, iv yy41, iv yy43, iv yy45, iv yy51] [(.double (FP.l2d ((Cx (yy2.toInt64) (yy5.toInt64) (yy8.toInt64) (yy11.toInt64) (yy14.toInt64)) yy39))), (.double (FP.l2d ((Cx (yy2.toInt64) (yy5.toInt64) (yy8.toInt64) (yy11.toInt64) (yy14.toInt64)) yy37)))])) (fun _ k => X50.daload hx (j := yy39) (v := (.double (FP.l2d ((Cx (yy2.toInt64) (yy5.toInt64) (yy8.toInt64) (yy11.toInt64) (yy14.toInt64)) yy39)))) (by rw [kq50]; exact Ar54.1) (State.isArrayOf_alike hZ.alike Ar54.2.1) Ar54.2.2 hin54 hat54 (g := (mkF m 274 #[iv p1, iv p2, iv p3, iv p4, iv p5, iv p6, rv b1, rv b17, iv yy37, iv yy39, iv yy41, iv yy43, iv yy45, iv yy51] [(.int yy39), (.ref b1), (.double (FP.l2d ((Cx (yy2.toInt64) (yy5.toInt64) (yy8.toInt64) (yy11.toInt64) (yy14.toInt64)) yy37)))])) rfl rfl (hb hby at_274) _ k) ?_
  refine Go.st (f' := (mkF m 276 #[iv p1, iv p2, iv p3, iv p4, iv p5, iv p6, rv b1, rv b17, iv yy37, iv yy39, iv yy41, iv yy43, iv yy45, iv yy51] [(.int (lcmpW ((Cx (yy2.toInt64) (yy5.toInt64) (yy8.toInt64) (yy11.toInt64) (yy14.toInt64)) yy37) ((Cx (yy2.toInt64) (yy5.toInt64) (yy8.toInt64) (yy11.toInt64) (yy14.toInt64)) yy39)))])) (fun _ k => XS.dcmpS X50.here hx rfl (hb hby at_275) rfl (dcmpV_w (hF _) (hF _) _) k) ?_
  refine Go.st (f' := (mkF m 279 #[iv p1, iv p2, iv p3, iv p4, iv p5, iv p6, rv b1, rv b17, iv yy37, iv yy39, iv yy41, iv yy43, iv yy45, iv yy51] [])) (fun _ k => XS.ifNo X50.here hx rfl (hb hby at_276) rfl ((if0 _ _).trans (flt ((not_congr (own_lw _ _).2).mpr (by omega))).2.2.1) k) ?_
  refine Go.st (f' := (mkF m 281 #[iv p1, iv p2, iv p3, iv p4, iv p5, iv p6, rv b1, rv b17, iv yy37, iv yy39, iv yy41, iv yy43, iv yy45, iv yy51] [(.ref b1)])) (fun _ k => XS.aload X50.here hx rfl (hb hby at_279) rfl rfl k) ?_
  refine Go.st (f' := (mkF m 283 #[iv p1, iv p2, iv p3, iv p4, iv p5, iv p6, rv b1, rv b17, iv yy37, iv yy39, iv yy41, iv yy43, iv yy45, iv yy51] [(.int yy39), (.ref b1)])) (fun _ k => XS.iload X50.here hx rfl (hb hby at_281) rfl k) ?_
  obtain ⟨cl55, Ar55, -, S55, -, H55, -⟩ := id ft53
  have hin55 : ¬ (yy39 < 0 ∨ cl55.slots.size ≤ (yy39).toNatClampNeg) := inb_of S55 ⟨(own_lo hr_yy39), (own_hi hr_yy39)⟩
  have hat55 : cl55.slots[(yy39).toNatClampNeg]? = some (.double (FP.l2d ((Cx (yy2.toInt64) (yy5.toInt64) (yy8.toInt64) (yy11.toInt64) (yy14.toInt64)) yy39))) := H55.at hin55 (own_get hr_yy39)
  refine Go.st (f' := (mkF m 284 #[iv p1, iv p2, iv p3, iv p4, iv p5, iv p6, rv b1, rv b17, iv yy37, iv yy39, iv yy41, iv yy43, iv yy45, iv yy51] [(.double (FP.l2d ((Cx (yy2.toInt64) (yy5.toInt64) (yy8.toInt64) (yy11.toInt64) (yy14.toInt64)) yy39)))])) (fun _ k => X50.daload hx (j := yy39) (v := (.double (FP.l2d ((Cx (yy2.toInt64) (yy5.toInt64) (yy8.toInt64) (yy11.toInt64) (yy14.toInt64)) yy39)))) (by rw [kq50]; exact Ar55.1) (State.isArrayOf_alike hZ.alike Ar55.2.1) Ar55.2.2 hin55 hat55 (g := (mkF m 283 #[iv p1, iv p2, iv p3, iv p4, iv p5, iv p6, rv b1, rv b17, iv yy37, iv yy39, iv yy41, iv yy43, iv yy45, iv yy51] [(.int yy39), (.ref b1)])) rfl rfl (hb hby at_283) _ k) ?_
  refine Go.st (f' := (mkF m 286 #[iv p1, iv p2, iv p3, iv p4, iv p5, iv p6, rv b1, rv b17, iv yy37, iv yy39, iv yy41, iv yy43, iv yy45, iv yy51] [(.ref b1), (.double (FP.l2d ((Cx (yy2.toInt64) (yy5.toInt64) (yy8.toInt64) (yy11.toInt64) (yy14.toInt64)) yy39)))])) (fun _ k => XS.aload X50.here hx rfl (hb hby at_284) rfl rfl k) ?_
  refine Go.st (f' := (mkF m 288 #[iv p1, iv p2, iv p3, iv p4, iv p5, iv p6, rv b1, rv b17, iv yy37, iv yy39, iv yy41, iv yy43, iv yy45, iv yy51] [(.int yy41), (.ref b1), (.double (FP.l2d ((Cx (yy2.toInt64) (yy5.toInt64) (yy8.toInt64) (yy11.toInt64) (yy14.toInt64)) yy39)))])) (fun _ k => XS.iload X50.here hx rfl (hb hby at_286) rfl k) ?_
  obtain ⟨cl56, Ar56, -, S56, -, H56, -⟩ := id ft53
  have hin56 : ¬ (yy41 < 0 ∨ cl56.slots.size ≤ (yy41).toNatClampNeg) := inb_of S56 ⟨(own_lo hr_yy41), (own_hi hr_yy41)⟩
  have hat56 : cl56.slots[(yy41).toNatClampNeg]? = some (.double (FP.l2d ((Cx (yy2.toInt64) (yy5.toInt64) (yy8.toInt64) (yy11.toInt64) (yy14.toInt64)) yy41))) := H56.at hin56 (own_get hr_yy41)
  refine Go.st (f' := (mkF m 289 #[iv p1, iv p2, iv p3, iv p4, iv p5, iv p6, rv b1, rv b17, iv yy37, iv yy39, iv yy41, iv yy43, iv yy45, iv yy51] [(.double (FP.l2d ((Cx (yy2.toInt64) (yy5.toInt64) (yy8.toInt64) (yy11.toInt64) (yy14.toInt64)) yy41))), (.double (FP.l2d ((Cx (yy2.toInt64) (yy5.toInt64) (yy8.toInt64) (yy11.toInt64) (yy14.toInt64)) yy39)))])) (fun _ k => X50.daload hx (j := yy41) (v := (.double (FP.l2d ((Cx (yy2.toInt64) (yy5.toInt64) (yy8.toInt64) (yy11.toInt64) (yy14.toInt64)) yy41)))) (by rw [kq50]; exact Ar56.1) (State.isArrayOf_alike hZ.alike Ar56.2.1) Ar56.2.2 hin56 hat56 (g := (mkF m 288 #[iv p1, iv p2, iv p3, iv p4, iv p5, iv p6, rv b1, rv b17, iv yy37, iv yy39, iv yy41, iv yy43, iv yy45, iv yy51] [(.int yy41), (.ref b1), (.double (FP.l2d ((Cx (yy2.toInt64) (yy5.toInt64) (yy8.toInt64) (yy11.toInt64) (yy14.toInt64)) yy39)))])) rfl rfl (hb hby at_288) _ k) ?_
  refine Go.st (f' := (mkF m 290 #[iv p1, iv p2, iv p3, iv p4, iv p5, iv p6, rv b1, rv b17, iv yy37, iv yy39, iv yy41, iv yy43, iv yy45, iv yy51] [(.int (lcmpW ((Cx (yy2.toInt64) (yy5.toInt64) (yy8.toInt64) (yy11.toInt64) (yy14.toInt64)) yy39) ((Cx (yy2.toInt64) (yy5.toInt64) (yy8.toInt64) (yy11.toInt64) (yy14.toInt64)) yy41)))])) (fun _ k => XS.dcmpS X50.here hx rfl (hb hby at_289) rfl (dcmpV_w (hF _) (hF _) _) k) ?_
  refine Go.st (f' := (mkF m 293 #[iv p1, iv p2, iv p3, iv p4, iv p5, iv p6, rv b1, rv b17, iv yy37, iv yy39, iv yy41, iv yy43, iv yy45, iv yy51] [])) (fun _ k => XS.ifNo X50.here hx rfl (hb hby at_290) rfl ((if0 _ _).trans (flt ((not_congr (own_lw _ _).2).mpr (by omega))).2.2.1) k) ?_
  refine Go.st (f' := (mkF m 295 #[iv p1, iv p2, iv p3, iv p4, iv p5, iv p6, rv b1, rv b17, iv yy37, iv yy39, iv yy41, iv yy43, iv yy45, iv yy51] [(.ref b1)])) (fun _ k => XS.aload X50.here hx rfl (hb hby at_293) rfl rfl k) ?_
  refine Go.st (f' := (mkF m 297 #[iv p1, iv p2, iv p3, iv p4, iv p5, iv p6, rv b1, rv b17, iv yy37, iv yy39, iv yy41, iv yy43, iv yy45, iv yy51] [(.int yy41), (.ref b1)])) (fun _ k => XS.iload X50.here hx rfl (hb hby at_295) rfl k) ?_
  obtain ⟨cl57, Ar57, -, S57, -, H57, -⟩ := id ft53
  have hin57 : ¬ (yy41 < 0 ∨ cl57.slots.size ≤ (yy41).toNatClampNeg) := inb_of S57 ⟨(own_lo hr_yy41), (own_hi hr_yy41)⟩
  have hat57 : cl57.slots[(yy41).toNatClampNeg]? = some (.double (FP.l2d ((Cx (yy2.toInt64) (yy5.toInt64) (yy8.toInt64) (yy11.toInt64) (yy14.toInt64)) yy41))) := H57.at hin57 (own_get hr_yy41)
  refine Go.st (f' := (mkF m 298 #[iv p1, iv p2, iv p3, iv p4, iv p5, iv p6, rv b1, rv b17, iv yy37, iv yy39, iv yy41, iv yy43, iv yy45, iv yy51] [(.double (FP.l2d ((Cx (yy2.toInt64) (yy5.toInt64) (yy8.toInt64) (yy11.toInt64) (yy14.toInt64)) yy41)))])) (fun _ k => X50.daload hx (j := yy41) (v := (.double (FP.l2d ((Cx (yy2.toInt64) (yy5.toInt64) (yy8.toInt64) (yy11.toInt64) (yy14.toInt64)) yy41)))) (by rw [kq50]; exact Ar57.1) (State.isArrayOf_alike hZ.alike Ar57.2.1) Ar57.2.2 hin57 hat57 (g := (mkF m 297 #[iv p1, iv p2, iv p3, iv p4, iv p5, iv p6, rv b1, rv b17, iv yy37, iv yy39, iv yy41, iv yy43, iv yy45, iv yy51] [(.int yy41), (.ref b1)])) rfl rfl (hb hby at_297) _ k) ?_
  refine Go.st (f' := (mkF m 300 #[iv p1, iv p2, iv p3, iv p4, iv p5, iv p6, rv b1, rv b17, iv yy37, iv yy39, iv yy41, iv yy43, iv yy45, iv yy51] [(.ref b1), (.double (FP.l2d ((Cx (yy2.toInt64) (yy5.toInt64) (yy8.toInt64) (yy11.toInt64) (yy14.toInt64)) yy41)))])) (fun _ k => XS.aload X50.here hx rfl (hb hby at_298) rfl rfl k) ?_
  refine Go.st (f' := (mkF m 302 #[iv p1, iv p2, iv p3, iv p4, iv p5, iv p6, rv b1, rv b17, iv yy37, iv yy39, iv yy41, iv yy43, iv yy45, iv yy51] [(.int yy43), (.ref b1), (.double (FP.l2d ((Cx (yy2.toInt64) (yy5.toInt64) (yy8.toInt64) (yy11.toInt64) (yy14.toInt64)) yy41)))])) (fun _ k => XS.iload X50.here hx rfl (hb hby at_300) rfl k) ?_
  obtain ⟨cl58, Ar58, -, S58, -, H58, -⟩ := id ft53
  have hin58 : ¬ (yy43 < 0 ∨ cl58.slots.size ≤ (yy43).toNatClampNeg) := inb_of S58 ⟨(own_lo hr_yy43), (own_hi hr_yy43)⟩
  have hat58 : cl58.slots[(yy43).toNatClampNeg]? = some (.double (FP.l2d ((Cx (yy2.toInt64) (yy5.toInt64) (yy8.toInt64) (yy11.toInt64) (yy14.toInt64)) yy43))) := H58.at hin58 (own_get hr_yy43)
  refine Go.st (f' := (mkF m 303 #[iv p1, iv p2, iv p3, iv p4, iv p5, iv p6, rv b1, rv b17, iv yy37, iv yy39, iv yy41, iv yy43, iv yy45, iv yy51] [(.double (FP.l2d ((Cx (yy2.toInt64) (yy5.toInt64) (yy8.toInt64) (yy11.toInt64) (yy14.toInt64)) yy43))), (.double (FP.l2d ((Cx (yy2.toInt64) (yy5.toInt64) (yy8.toInt64) (yy11.toInt64) (yy14.toInt64)) yy41)))])) (fun _ k => X50.daload hx (j := yy43) (v := (.double (FP.l2d ((Cx (yy2.toInt64) (yy5.toInt64) (yy8.toInt64) (yy11.toInt64) (yy14.toInt64)) yy43)))) (by rw [kq50]; exact Ar58.1) (State.isArrayOf_alike hZ.alike Ar58.2.1) Ar58.2.2 hin58 hat58 (g := (mkF m 302 #[iv p1, iv p2, iv p3, iv p4, iv p5, iv p6, rv b1, rv b17, iv yy37, iv yy39, iv yy41, iv yy43, iv yy45, iv yy51] [(.int yy43), (.ref b1), (.double (FP.l2d ((Cx (yy2.toInt64) (yy5.toInt64) (yy8.toInt64) (yy11.toInt64) (yy14.toInt64)) yy41)))])) rfl rfl (hb hby at_302) _ k) ?_
  refine Go.st (f' := (mkF m 304 #[iv p1, iv p2, iv p3, iv p4, iv p5, iv p6, rv b1, rv b17, iv yy37, iv yy39, iv yy41, iv yy43, iv yy45, iv yy51] [(.int (lcmpW ((Cx (yy2.toInt64) (yy5.toInt64) (yy8.toInt64) (yy11.toInt64) (yy14.toInt64)) yy41) ((Cx (yy2.toInt64) (yy5.toInt64) (yy8.toInt64) (yy11.toInt64) (yy14.toInt64)) yy43)))])) (fun _ k => XS.dcmpS X50.here hx rfl (hb hby at_303) rfl (dcmpV_w (hF _) (hF _) _) k) ?_
  refine Go.st (f' := (mkF m 307 #[iv p1, iv p2, iv p3, iv p4, iv p5, iv p6, rv b1, rv b17, iv yy37, iv yy39, iv yy41, iv yy43, iv yy45, iv yy51] [])) (fun _ k => XS.ifNo X50.here hx rfl (hb hby at_304) rfl ((if0 _ _).trans (flt ((not_congr (own_lw _ _).2).mpr (by omega))).2.2.1) k) ?_
  refine Go.st (f' := (mkF m 309 #[iv p1, iv p2, iv p3, iv p4, iv p5, iv p6, rv b1, rv b17, iv yy37, iv yy39, iv yy41, iv yy43, iv yy45, iv yy51] [(.ref b1)])) (fun _ k => XS.aload X50.here hx rfl (hb hby at_307) rfl rfl k) ?_
  refine Go.st (f' := (mkF m 311 #[iv p1, iv p2, iv p3, iv p4, iv p5, iv p6, rv b1, rv b17, iv yy37, iv yy39, iv yy41, iv yy43, iv yy45, iv yy51] [(.int yy43), (.ref b1)])) (fun _ k => XS.iload X50.here hx rfl (hb hby at_309) rfl k) ?_
  obtain ⟨cl59, Ar59, -, S59, -, H59, -⟩ := id ft53
  have hin59 : ¬ (yy43 < 0 ∨ cl59.slots.size ≤ (yy43).toNatClampNeg) := inb_of S59 ⟨(own_lo hr_yy43), (own_hi hr_yy43)⟩
  have hat59 : cl59.slots[(yy43).toNatClampNeg]? = some (.double (FP.l2d ((Cx (yy2.toInt64) (yy5.toInt64) (yy8.toInt64) (yy11.toInt64) (yy14.toInt64)) yy43))) := H59.at hin59 (own_get hr_yy43)
  refine Go.st (f' := (mkF m 312 #[iv p1, iv p2, iv p3, iv p4, iv p5, iv p6, rv b1, rv b17, iv yy37, iv yy39, iv yy41, iv yy43, iv yy45, iv yy51] [(.double (FP.l2d ((Cx (yy2.toInt64) (yy5.toInt64) (yy8.toInt64) (yy11.toInt64) (yy14.toInt64)) yy43)))])) (fun _ k => X50.daload hx (j := yy43) (v := (.double (FP.l2d ((Cx (yy2.toInt64) (yy5.toInt64) (yy8.toInt64) (yy11.toInt64) (yy14.toInt64)) yy43)))) (by rw [kq50]; exact Ar59.1) (State.isArrayOf_alike hZ.alike Ar59.2.1) Ar59.2.2 hin59 hat59 (g := (mkF m 311 #[iv p1, iv p2, iv p3, iv p4, iv p5, iv p6, rv b1, rv b17, iv yy37, iv yy39, iv yy41, iv yy43, iv yy45, iv yy51] [(.int yy43), (.ref b1)])) rfl rfl (hb hby at_311) _ k) ?_
  refine Go.st (f' := (mkF m 314 #[iv p1, iv p2, iv p3, iv p4, iv p5, iv p6, rv b1, rv b17, iv yy37, iv yy39, iv yy41, iv yy43, iv yy45, iv yy51] [(.ref b1), (.double (FP.l2d ((Cx (yy2.toInt64) (yy5.toInt64) (yy8.toInt64) (yy11.toInt64) (yy14.toInt64)) yy43)))])) (fun _ k => XS.aload X50.here hx rfl (hb hby at_312) rfl rfl k) ?_
  refine Go.st (f' := (mkF m 316 #[iv p1, iv p2, iv p3, iv p4, iv p5, iv p6, rv b1, rv b17, iv yy37, iv yy39, iv yy41, iv yy43, iv yy45, iv yy51] [(.int yy45), (.ref b1), (.double (FP.l2d ((Cx (yy2.toInt64) (yy5.toInt64) (yy8.toInt64) (yy11.toInt64) (yy14.toInt64)) yy43)))])) (fun _ k => XS.iload X50.here hx rfl (hb hby at_314) rfl k) ?_
  obtain ⟨cl60, Ar60, -, S60, -, H60, -⟩ := id ft53
  have hin60 : ¬ (yy45 < 0 ∨ cl60.slots.size ≤ (yy45).toNatClampNeg) := inb_of S60 ⟨(own_lo hr_yy45), (own_hi hr_yy45)⟩
  have hat60 : cl60.slots[(yy45).toNatClampNeg]? = some (.double (FP.l2d ((Cx (yy2.toInt64) (yy5.toInt64) (yy8.toInt64) (yy11.toInt64) (yy14.toInt64)) yy45))) := H60.at hin60 (own_get hr_yy45)
  refine Go.st (f' := (mkF m 317 #[iv p1, iv p2, iv p3, iv p4, iv p5, iv p6, rv b1, rv b17, iv yy37, iv yy39, iv yy41, iv yy43, iv yy45, iv yy51] [(.double (FP.l2d ((Cx (yy2.toInt64) (yy5.toInt64) (yy8.toInt64) (yy11.toInt64) (yy14.toInt64)) yy45))), (.double (FP.l2d ((Cx (yy2.toInt64) (yy5.toInt64) (yy8.toInt64) (yy11.toInt64) (yy14.toInt64)) yy43)))])) (fun _ k => X50.daload hx (j := yy45) (v := (.double (FP.l2d ((Cx (yy2.toInt64) (yy5.toInt64) (yy8.toInt64) (yy11.toInt64) (yy14.toInt64)) yy45)))) (by rw [kq50]; exact Ar60.1) (State.isArrayOf_alike hZ.alike Ar60.2.1) Ar60.2.2 hin60 hat60 (g := (mkF m 316 #[iv p1, iv p2, iv p3, iv p4, iv p5, iv p6, rv b1, rv b17, iv yy37, iv yy39, iv yy41, iv yy43, iv yy45, iv yy51] [(.int yy45), (.ref b1), (.double (FP.l2d ((Cx (yy2.toInt64) (yy5.toInt64) (yy8.toInt64) (yy11.toInt64) (yy14.toInt64)) yy43)))])) rfl rfl (hb hby at_316) _ k) ?_
  refine Go.st (f' := (mkF m 318 #[iv p1, iv p2, iv p3, iv p4, iv p5, iv p6, rv b1, rv b17, iv yy37, iv yy39, iv yy41, iv yy43, iv yy45, iv yy51] [(.int (lcmpW ((Cx (yy2.toInt64) (yy5.toInt64) (yy8.toInt64) (yy11.toInt64) (yy14.toInt64)) yy43) ((Cx (yy2.toInt64) (yy5.toInt64) (yy8.toInt64) (yy11.toInt64) (yy14.toInt64)) yy45)))])) (fun _ k => XS.dcmpS X50.here hx rfl (hb hby at_317) rfl (dcmpV_w (hF _) (hF _) _) k) ?_
  refine Go.st (f' := (mkF m 321 #[iv p1, iv p2, iv p3, iv p4, iv p5, iv p6, rv b1, rv b17, iv yy37, iv yy39, iv yy41, iv yy43, iv yy45, iv yy51] [])) (fun _ k => XS.ifNo X50.here hx rfl (hb hby at_318) rfl ((if0 _ _).trans (flt ((not_congr (own_lw _ _).2).mpr (by omega))).2.2.1) k) ?_
  refine Go.st (f' := (mkF m 322 #[iv p1, iv p2, iv p3, iv p4, iv p5, iv p6, rv b1, rv b17, iv yy37, iv yy39, iv yy41, iv yy43, iv yy45, iv yy51] [(.int 1)])) (fun _ k => XS.iconst X50.here hx rfl (hb hby at_321) k) ?_
  refine Go.st (f' := (mkF m 326 #[iv p1, iv p2, iv p3, iv p4, iv p5, iv p6, rv b1, rv b17, iv yy37, iv yy39, iv yy41, iv yy43, iv yy45, iv yy51] [(.int 1)])) (fun _ k => XS.goto X50.here hx rfl (pc0 := 322) (pc' := 326) rfl (hb hby at_322) (by decide) (by decide) k) ?_
  refine Go.retB X50 hlk hx (t := .boolean) hret (by simp) (hb hby at_326) kq50 ?_ (by decide) (by decide)
  exact ⟨rfl, N50⟩
set_option maxRecDepth 65536 in
set_option maxHeartbeats 40000000 in
theorem comes_1 {Post : Tables → Env → Array Value → State → Outcome → State → Prop} (hpost : ∀ tb e args s v u, (limb_1_1.after args s (.returned v) u = true ∧ limb_1_2.after args s (.returned v) u = true ∧ True) → FrameEnd s (.returned v) u (Jvm.fieldLocs frame_1_writes args s ++ Jvm.arrayLocs frame_1_arrays args s ++ Jvm.staticLocs frame_1_statics s) 16 192 → Post tb e args s (.returned v) u) :
    ArmFor flags0 classFile x code maxLocals ret World_1 tables_1 room_1 Calls_1 rest_1 Pre_1 Post := by
  intro l hfl _ _ p e ha hc hk s m args below hf hA hF happ hP
  obtain ⟨hcalls, hrest, hpre⟩ := hP
  obtain ⟨-, -, -, hnamed, -, -, -, hat⟩ := (Spec.applies_iff hf).mp happ
  obtain ⟨hg, hn⟩ := and_e (Cond.before_iff.mp (show (Jvm.Cond.and given_1 narrow_1).before args s = true from hpre))
  obtain ⟨g1, g2⟩ := and_e hg
  obtain ⟨g3, g4⟩ := and_e g2
  obtain ⟨g5, g6⟩ := and_e g4
  obtain ⟨g7, g8⟩ := and_e g6
  obtain ⟨g9, g10⟩ := and_e g8
  obtain ⟨g11, g12⟩ := and_e g10
  obtain ⟨v0, v1, v2, v3, v4, v5, rfl⟩ : ∃ v0 v1 v2 v3 v4 v5 : Value, args = #[v0, v1, v2, v3, v4, v5] := by
    have hs : args.size = 6 := by simpa [Cond.value, given_1] using g1
    obtain ⟨L⟩ := args
    match L, hs with
    | [v0, v1, v2, v3, v4, v5], _ => exact ⟨v0, v1, v2, v3, v4, v5, rfl⟩
  have hw := fun d (hd : d ∈ tables_1) => atoms_spec (ws := Jvm.Cond.code x code maxLocals ret :: tables_1) hat d (List.mem_cons_of_mem _ hd)
  have hfit : Fit s := fun {y c} hc i hi => by
    obtain ⟨ha, rfl⟩ := Array.getElem?_eq_some_iff.mp hc
    have q := List.all_eq_true.mp ((Array.all_eq_true_iff_forall_mem.mp hF) _ (Array.getElem_mem ha)) i (List.mem_range.mpr hi)
    simpa [Array.getElem?_eq_getElem hi] using q
  obtain ⟨i0, ei0⟩ := is_v g3
  obtain rfl : v0 = (.int i0) := Option.some.inj ei0
  obtain ⟨i1, ei1⟩ := is_v g5
  obtain rfl : v1 = (.int i1) := Option.some.inj ei1
  obtain ⟨i2, ei2⟩ := is_v g7
  obtain rfl : v2 = (.int i2) := Option.some.inj ei2
  obtain ⟨i3, ei3⟩ := is_v g9
  obtain rfl : v3 = (.int i3) := Option.some.inj ei3
  obtain ⟨i4, ei4⟩ := is_v g11
  obtain rfl : v4 = (.int i4) := Option.some.inj ei4
  obtain ⟨i5, ei5⟩ := is_v g12
  obtain rfl : v5 = (.int i5) := Option.some.inj ei5
  have WW : World1 s := trivial
  obtain ⟨n, o, h1, h2, h3, _, L, rfl, ⟨rfl, N⟩, hq⟩ := rm0 l s _ hw tables_1 i0 i1 i2 i3 i4 i5      s.heap s.heap.size (Old.start s) WW  p e ha hc hk s m _ below hf ((Spec.applies_iff_loose hf).mp happ).1 ⟨rfl, State.Warmed39.refl s, rfl⟩ trivial
  refine ⟨n, _, h1, h2, h3, hpost _ _ _ _ _ _ ⟨Cond.after_iff.mpr rfl, Cond.after_iff.mpr (eq_i res_at (Term.int_eval (1)) rfl), trivial⟩ ⟨hq.1, hq.2.1, (hq.2.2.sift fun y hy => Or.inr (N y hy)).mono (by decide) (by decide)⟩⟩
theorem main_1_1 : Claimed_1_1 := comes_1 fun _ _ _ _ _ _ h hF => ⟨h.1, hF⟩
theorem main_1_2 : Claimed_1_2 := comes_1 fun _ _ _ _ _ _ h hF => ⟨h.2.1, hF⟩
end Jvm.Pilot.@@N@@
namespace Jvm.Pilot.@@N@@
open Jvm Jvm.ClassFile Sem Op Lib Jvm.Free Jvm.Stand Jvm.Pilot.@@N@@.Jvm.D
/-! MADE BY PROGRAM (witnessworld.py) out of the Statement's table words and the real class files: 9 classes; the members and pool entries that the words name. The judged class is class 1, her method 1. -/
namespace start1
open Jvm.ClassFile
def u (s : String) : CpInfo := .utf8 (stringToUtf16 s)
/-- a pool by its gaps: so many unusable entries, then the entry; so many at the end -/
def gap : Nat → List CpInfo → List CpInfo
  | 0, r => r
  | n + 1, r => .unusable :: gap n r
def poolList (es : List (Nat × CpInfo)) (last : Nat) : List CpInfo := es.foldr (fun e r => gap e.1 (e.2 :: r)) (gap last [])
def pool (es : List (Nat × CpInfo)) (last : Nat) : Array CpInfo := ⟨poolList es last⟩
def fileOf (pool : Array CpInfo) (this : Nat) (attrs : Array Attribute := #[]) (ms : Array MethodInfo := #[]) (fl : Nat := 33) (sup : Nat := 0) (ifs : Array Nat := #[]) (fds : Array FieldInfo := #[]) : ClassFile where
  minorVersion := 0
  majorVersion := 65
  constantPool := pool
  accessFlags := fl
  thisClass := this
  superClass := sup
  interfaces := ifs
  fields := fds
  methods := ms
  attributes := attrs
def plain (name : String) (sup : Option ClassId) : Class where
  name := name
  kind := .ordinary
  loader := none
  accessFlags := 33
  super := sup
  interfaces := #[]
  cf := none
  fields := #[]
  methods := #[]
  instanceTypes := #[]
  staticTypes := #[]
  resolved := #[]
  callSites := []
  init := .initialized
  statics := none
  mirror := none

def pool0 : Array CpInfo := pool [(5, u "<init>"), (0, u "()V"), (1, .class_ 10), (1, u "java/lang/Object")] 113

def k0c0 : Code := { maxStack := 0, maxLocals := 1, code := object_method_1_code, exceptionTable := #[], attributes := #[] }
def k0m0 : Method := { name := "<init>", desc := "()V", sig := { parameters := [], returnType := none }, accessFlags := 1, code := some k0c0 }
/-- java/lang/Object -/
def k0 : Class := { plain "java/lang/Object" none with
  accessFlags := 33
  interfaces := #[]
  cf := some (fileOf pool0 8 #[] #[{ accessFlags := 1, nameIndex := 5, descriptorIndex := 6, attributes := #[] }] 33 0 #[] #[])
  fields := #[]
  methods := #[k0m0]
  instanceTypes := #[]
  staticTypes := #[]
  resolved := Array.replicate 124 none
  statics := none }

def pool1 : Array CpInfo := pool [(2, .class_ 4), (0, .nameAndType 5 6), (0, u "java/lang/Object"), (0, u "<init>"), (0, u "()V"), (0, .class_ 8), (0, u "com/example/kinetic_city/kineticcity/engine/CostQueue"), (0, .methodref 7 3), (0, .methodref 7 11), (0, .nameAndType 12 13), (0, u "add"), (0, u "(ID)V"), (0, .methodref 7 15), (0, .nameAndType 16 17), (0, u "removeCheapest"), (0, u "()I"), (0, .methodref 19 20), (0, .class_ 21), (0, .nameAndType 22 23), (0, u "com/example/kinetic_city/kineticcity/engine/CostQueueRemoveCheapestPinLaw"), (0, u "in"), (0, u "(I)Z"), (2, u "law"), (0, u "(IIIIII)Z")] 5

def k1m0 : Method := { name := "<init>", desc := "()V", sig := { parameters := [], returnType := none }, accessFlags := 1, code := none }
def k1c1 : Code := { maxStack := 4, maxLocals := 14, code := code, exceptionTable := #[], attributes := #[] }
def k1m1 : Method := { name := "law", desc := "(IIIIII)Z", sig := { parameters := [.int, .int, .int, .int, .int, .int], returnType := some .boolean }, accessFlags := 9, code := some k1c1 }
def k1c2 : Code := { maxStack := 2, maxLocals := 1, code := method_3_code, exceptionTable := #[], attributes := #[] }
def k1m2 : Method := { name := "in", desc := "(I)Z", sig := { parameters := [.int], returnType := some .boolean }, accessFlags := 10, code := some k1c2 }
/-- com/example/kinetic_city/kineticcity/engine/CostQueueRemoveCheapestPinLaw -/
def k1 : Class := { plain "com/example/kinetic_city/kineticcity/engine/CostQueueRemoveCheapestPinLaw" (some 0) with
  accessFlags := 49
  interfaces := #[]
  cf := some (fileOf pool1 19 #[] #[{ accessFlags := 1, nameIndex := 5, descriptorIndex := 6, attributes := #[] }, { accessFlags := 9, nameIndex := 26, descriptorIndex := 27, attributes := #[] }, { accessFlags := 10, nameIndex := 22, descriptorIndex := 23, attributes := #[] }] 49 2 #[] #[])
  fields := #[]
  methods := #[k1m0, k1m1, k1m2]
  instanceTypes := #[]
  staticTypes := #[]
  resolved := Array.replicate 33 none
  statics := none }

def pool2 : Array CpInfo := pool [(1, .methodref 2 3), (0, .class_ 4), (0, .nameAndType 5 6), (0, u "java/lang/Object"), (0, u "<init>"), (0, u "()V"), (0, .fieldref 8 9), (0, .class_ 10), (0, .nameAndType 11 12), (0, u "com/example/kinetic_city/kineticcity/engine/CostQueue"), (0, u "costs"), (0, u "[D"), (0, .fieldref 8 14), (0, .nameAndType 15 16), (0, u "items"), (0, u "[I"), (0, .fieldref 8 18), (0, .nameAndType 19 20), (0, u "size"), (0, u "I"), (14, u "add"), (0, u "(ID)V"), (2, u "removeCheapest"), (0, u "()I")] 2

def k2c0 : Code := { maxStack := 2, maxLocals := 1, code := prog_5_method_1_code, exceptionTable := #[], attributes := #[] }
def k2m0 : Method := { name := "<init>", desc := "()V", sig := { parameters := [], returnType := none }, accessFlags := 0, code := some k2c0 }
def k2c1 : Code := { maxStack := 4, maxLocals := 6, code := prog_5_method_3_code, exceptionTable := #[], attributes := #[] }
def k2m1 : Method := { name := "add", desc := "(ID)V", sig := { parameters := [.int, .double], returnType := none }, accessFlags := 0, code := some k2c1 }
def k2c2 : Code := { maxStack := 4, maxLocals := 7, code := prog_5_method_5_code, exceptionTable := #[], attributes := #[] }
def k2m2 : Method := { name := "removeCheapest", desc := "()I", sig := { parameters := [], returnType := some .int }, accessFlags := 0, code := some k2c2 }
/-- com/example/kinetic_city/kineticcity/engine/CostQueue -/
def k2 : Class := { plain "com/example/kinetic_city/kineticcity/engine/CostQueue" (some 0) with
  accessFlags := 48
  interfaces := #[]
  cf := some (fileOf pool2 8 #[] #[{ accessFlags := 0, nameIndex := 5, descriptorIndex := 6, attributes := #[] }, { accessFlags := 0, nameIndex := 35, descriptorIndex := 36, attributes := #[] }, { accessFlags := 0, nameIndex := 39, descriptorIndex := 40, attributes := #[] }] 48 2 #[] #[{ accessFlags := 2, nameIndex := 11, descriptorIndex := 12, attributes := #[] }, { accessFlags := 2, nameIndex := 15, descriptorIndex := 16, attributes := #[] }, { accessFlags := 2, nameIndex := 19, descriptorIndex := 20, attributes := #[] }])
  fields := #[{ name := "costs", type := (.array .double), accessFlags := 2, slot := 0, constantValue := 0 }, { name := "items", type := (.array .int), accessFlags := 2, slot := 1, constantValue := 0 }, { name := "size", type := .int, accessFlags := 2, slot := 2, constantValue := 0 }]
  methods := #[k2m0, k2m1, k2m2]
  instanceTypes := #[(.array .double), (.array .int), .int]
  staticTypes := #[]
  resolved := Array.replicate 43 none
  statics := none }

def pool3 : Array CpInfo := pool [(1, u "java/lang/Cloneable"), (0, .class_ 1), (0, u "java/lang/Object"), (0, .class_ 3)] 3

/-- java/lang/Cloneable -/
def k3 : Class := { plain "java/lang/Cloneable" (some 0) with
  accessFlags := 1537
  interfaces := #[]
  cf := some (fileOf pool3 2 #[] #[] 1537 4 #[] #[])
  fields := #[]
  methods := #[]
  instanceTypes := #[]
  staticTypes := #[]
  resolved := Array.replicate 8 none
  statics := none }

def pool4 : Array CpInfo := pool [(1, u "java/io/Serializable"), (0, .class_ 1), (0, u "java/lang/Object"), (0, .class_ 3)] 3

/-- java/io/Serializable -/
def k4 : Class := { plain "java/io/Serializable" (some 0) with
  accessFlags := 1537
  interfaces := #[]
  cf := some (fileOf pool4 2 #[] #[] 1537 4 #[] #[])
  fields := #[]
  methods := #[]
  instanceTypes := #[]
  staticTypes := #[]
  resolved := Array.replicate 8 none
  statics := none }

/-- the primitive byte -/
def k5 : Class := { plain "byte" none with kind := .primitive 'B', accessFlags := 0x411 }
/-- [B -/
def k6 : Class := { plain "[B" (some 0) with kind := .array 5 .byte, interfaces := #[3, 4], accessFlags := 1041 }

/-- the primitive int -/
def k7 : Class := { plain "int" none with kind := .primitive 'I', accessFlags := 0x411 }
/-- [I -/
def k8 : Class := { plain "[I" (some 0) with kind := .array 7 .int, interfaces := #[3, 4], accessFlags := 1041 }

/-- the primitive double -/
def k9 : Class := { plain "double" none with kind := .primitive 'D', accessFlags := 0x411 }
/-- [D -/
def k10 : Class := { plain "[D" (some 0) with kind := .array 9 .double, interfaces := #[3, 4], accessFlags := 1041 }

def heap : Heap := #[]
def classes : Array Class := #[k0, k1, k2, k3, k4, k5, k6, k7, k8, k9, k10]
def interned : List (Array UInt16 × Addr) := []
def slotsUsed : Nat := 0
def theMethod : MethodId := ⟨1, 1⟩
def args0 : Array Value := #[.int 1, .int 2, .int 3, .int 4, .int 5, .int 6]
def aboutOver (below : List Frame) : State where
  vm := { classes := classes, interned := interned.toArray }
  heap := heap
  slotsUsed := slotsUsed
  threads := #[{ frames := .invoking theMethod args0 :: below }]
def below0 : List Frame := [.native { method := ⟨0, 0⟩, args := #[] }]
def about1 : State := aboutOver below0
def p0 : Program := .bare "" "" ""
def e0 : Env := launch0.env 0 0 0
theorem w_frames : about1.frames = Frame.invoking theMethod args0 :: below0 := rfl
set_option maxRecDepth 65536 in
theorem w_args : argsFit about1.vm theMethod args0 = true := by decide +kernel
set_option maxRecDepth 65536 in
theorem w_heap : heapFits about1 = true := by decide +kernel
set_option maxRecDepth 65536 in
theorem w_runnable : about1.curStatus? = some .runnable := by decide +kernel
set_option maxRecDepth 65536 in
theorem w_alone : about1.alone = true := by decide +kernel
set_option maxRecDepth 65536 in
theorem w_named : about1.methodNamed? x = some theMethod := by decide +kernel
set_option maxRecDepth 65536 in
theorem w_hears : about1.hears theMethod below0 = true := by decide +kernel
set_option maxRecDepth 65536 in
theorem w_ripe : about1.ripe theMethod args0 below0 = true := by decide +kernel
theorem w_running : about1.status = .running := rfl
set_option maxRecDepth 65536 in
theorem w_room : about1.hasRoom e0.platform room_1 = true :=
  launch0.hasRoom_least _ room_1 (by decide +kernel) (by decide +kernel) (by decide +kernel) (by decide +kernel) (by decide +kernel) (by decide +kernel)
theorem allAtoms_all (ts : List Jvm.Cond) (a : Array Jvm.Value) (st : Jvm.State) : (allAtoms ts).before a st = ts.all (fun c => c.before a st) := by
  induction ts with
  | nil => rfl
  | cons c t ih =>
    show (Jvm.Cond.and c (allAtoms t)).before a st = _
    rw [Jvm.Cond.before_and, ih, List.all_cons]
def words1 : List Jvm.Cond := Jvm.Cond.code x code maxLocals ret :: tables_1
/-- a 'code' word, met by the world's own term for the bytes: nothing is compared byte by byte -/
theorem code_word {y : MethodName} {bytes : ByteArray} {mx : Nat} {rt : Option FieldType} {a : Array Value} {s : State} {m : MethodId} {meth : Method} {c : Code} (h1 : s.methodNamed? y = some m) (h2 : s.vm.method? m = some meth) (h3 : meth.code = some c) (h4 : c.code = bytes)
    (h5 : (c.maxLocals == mx && c.exceptionTable.isEmpty && decide (c.maxStack ≤ mostOperands) && decide (meth.sig.returnType = rt) && !meth.locks && decide (parseMethodDescriptor y.desc = some meth.sig)) = true) : (Jvm.Cond.code y bytes mx rt).before a s = true := by
  simp only [Bool.and_eq_true, beq_iff_eq, Bool.not_eq_true', decide_eq_true_eq] at h5
  obtain ⟨⟨⟨⟨⟨g1, g2⟩, g3⟩, g4⟩, g5⟩, g6⟩ := h5
  simp [Cond.before, Cond.holds, Cond.value, h1, h2, h3, h4, g1, g2, g3, g4, g5, g6]
def isCode : Jvm.Cond → Bool
  | .code _ _ _ _ => true
  | _ => false
theorem all_split {L : List Jvm.Cond} {P : Jvm.Cond → Bool} (h1 : L.all (fun c => isCode c || P c) = true) (h2 : ∀ c ∈ L.filter isCode, P c = true) : L.all P = true := by
  refine List.all_eq_true.mpr fun c hc => ?_
  have h := List.all_eq_true.mp h1 c hc
  rcases Bool.eq_false_or_eq_true (isCode c) with hi | hi
  · exact h2 c (List.mem_filter.mpr ⟨hc, hi⟩)
  · simpa [hi] using h
set_option maxRecDepth 65536 in
theorem w_c0 : (Jvm.Cond.code x code maxLocals ret).before args0 about1 = true := code_word (m := ⟨1, 1⟩) (meth := k1m1) (c := k1c1) (by decide +kernel) rfl rfl rfl (by decide +kernel)
set_option maxRecDepth 65536 in
theorem w_c1 : (Jvm.Cond.code ({ cls := "com/example/kinetic_city/kineticcity/engine/CostQueue", name := "<init>", desc := "()V" } : Jvm.MethodName) prog_5_method_1_code (1 : Nat) (Option.none : Option Jvm.ClassFile.FieldType)).before args0 about1 = true := code_word (m := ⟨2, 0⟩) (meth := k2m0) (c := k2c0) (by decide +kernel) rfl rfl rfl (by decide +kernel)
set_option maxRecDepth 65536 in
theorem w_c2 : (Jvm.Cond.code ({ cls := "java/lang/Object", name := "<init>", desc := "()V" } : Jvm.MethodName) object_method_1_code (1 : Nat) (Option.none : Option Jvm.ClassFile.FieldType)).before args0 about1 = true := code_word (m := ⟨0, 0⟩) (meth := k0m0) (c := k0c0) (by decide +kernel) rfl rfl rfl (by decide +kernel)
set_option maxRecDepth 65536 in
theorem w_c3 : (Jvm.Cond.code ({ cls := "com/example/kinetic_city/kineticcity/engine/CostQueue", name := "add", desc := "(ID)V" } : Jvm.MethodName) prog_5_method_3_code (6 : Nat) (Option.none : Option Jvm.ClassFile.FieldType)).before args0 about1 = true := code_word (m := ⟨2, 1⟩) (meth := k2m1) (c := k2c1) (by decide +kernel) rfl rfl rfl (by decide +kernel)
set_option maxRecDepth 65536 in
theorem w_c4 : (Jvm.Cond.code ({ cls := "com/example/kinetic_city/kineticcity/engine/CostQueue", name := "removeCheapest", desc := "()I" } : Jvm.MethodName) prog_5_method_5_code (7 : Nat) (Option.some Jvm.ClassFile.FieldType.int)).before args0 about1 = true := code_word (m := ⟨2, 2⟩) (meth := k2m2) (c := k2c2) (by decide +kernel) rfl rfl rfl (by decide +kernel)
set_option maxRecDepth 65536 in
theorem w_c5 : (Jvm.Cond.code ({ cls := "com/example/kinetic_city/kineticcity/engine/CostQueueRemoveCheapestPinLaw", name := "in", desc := "(I)Z" } : Jvm.MethodName) method_3_code (1 : Nat) (Option.some Jvm.ClassFile.FieldType.boolean)).before args0 about1 = true := code_word (m := ⟨1, 2⟩) (meth := k1m2) (c := k1c2) (by decide +kernel) rfl rfl rfl (by decide +kernel)
def codes1 : List Jvm.Cond := [Jvm.Cond.code x code maxLocals ret, Jvm.Cond.code ({ cls := "com/example/kinetic_city/kineticcity/engine/CostQueue", name := "<init>", desc := "()V" } : Jvm.MethodName) prog_5_method_1_code (1 : Nat) (Option.none : Option Jvm.ClassFile.FieldType), Jvm.Cond.code ({ cls := "java/lang/Object", name := "<init>", desc := "()V" } : Jvm.MethodName) object_method_1_code (1 : Nat) (Option.none : Option Jvm.ClassFile.FieldType), Jvm.Cond.code ({ cls := "com/example/kinetic_city/kineticcity/engine/CostQueue", name := "add", desc := "(ID)V" } : Jvm.MethodName) prog_5_method_3_code (6 : Nat) (Option.none : Option Jvm.ClassFile.FieldType), Jvm.Cond.code ({ cls := "com/example/kinetic_city/kineticcity/engine/CostQueue", name := "removeCheapest", desc := "()I" } : Jvm.MethodName) prog_5_method_5_code (7 : Nat) (Option.some Jvm.ClassFile.FieldType.int), Jvm.Cond.code ({ cls := "com/example/kinetic_city/kineticcity/engine/CostQueueRemoveCheapestPinLaw", name := "in", desc := "(I)Z" } : Jvm.MethodName) method_3_code (1 : Nat) (Option.some Jvm.ClassFile.FieldType.boolean)]
set_option maxRecDepth 65536 in
theorem codes_eq : words1.filter isCode = codes1 := rfl
theorem w_codes : ∀ c ∈ words1.filter isCode, c.before args0 about1 = true := by
  rw [codes_eq]
  intro c hc
  simp only [codes1, List.mem_cons, List.not_mem_nil, or_false] at hc
  rcases hc with rfl | rfl | rfl | rfl | rfl | rfl
  · exact w_c0
  · exact w_c1
  · exact w_c2
  · exact w_c3
  · exact w_c4
  · exact w_c5
set_option maxRecDepth 65536 in
theorem w_t1 : (words1.take 24).all (fun c => isCode c || c.before args0 about1) = true := by decide +kernel
set_option maxRecDepth 65536 in
theorem w_t2 : (words1.drop 24).all (fun c => isCode c || c.before args0 about1) = true := by decide +kernel
theorem w_tables : (allAtoms (Jvm.Cond.code x code maxLocals ret :: tables_1)).before args0 about1 = true := by
  rw [allAtoms_all]
  show words1.all (fun c => c.before args0 about1) = true
  refine all_split ?_ w_codes
  rw [← List.take_append_drop 24 words1, List.all_append, w_t1, w_t2]
  rfl
set_option maxRecDepth 65536 in
theorem w_case : (Jvm.Cond.and given_1 narrow_1).before args0 about1 = true := by decide +kernel
theorem w_applies : (headSpec (Jvm.Cond.code x code maxLocals ret :: tables_1) room_1).applies x e0.platform about1 = true :=
  (Spec.applies_iff w_frames).mpr ⟨w_running, w_runnable, w_alone, w_named, w_hears, w_ripe, w_room, w_tables⟩
theorem atStart : AtStart classFile x code maxLocals ret World_1 tables_1 room_1 Calls_1 rest_1 Pre_1 launch0 p0 e0 about1 theMethod args0 below0 :=
  ⟨lists_1, trivial, launch0.admits_env _ _ _, launch0.least_env, fairChoices_fair.cas, fairChoices_fair.clock, w_frames, w_args, w_heap, w_applies, trivial, trivial, w_case⟩
end start1
theorem witness_1 : WitnessClaimed_1 := ⟨start1.p0, start1.e0, start1.about1, start1.theMethod, start1.args0, start1.below0, start1.atStart⟩
end Jvm.Pilot.@@N@@
