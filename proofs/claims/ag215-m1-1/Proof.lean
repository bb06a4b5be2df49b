import JvmDerived
import JvmDerived.Pilot.@@N@@Statement
import JvmDerived.Pilot.@@N@@Code
set_option linter.unusedVariables false
set_option linter.unusedSimpArgs false
namespace Jvm.Pilot.@@N@@
open Jvm Jvm.ClassFile Sem Op Lib Jvm.Free Jvm.Stand Jvm.LawKit Jvm.RoadKit Bundle Jvm.Pilot.@@N@@.Jvm.D

/-- the run that stands at T with the top frame f ends, and its end is as P says -/
def Go (p : Program) (e : Env) (below : List Frame) (P : Outcome → State → Prop) (T : State) (f : JFrame) : Prop :=
  ∃ s₂ o, Steps p.tables e below (T.setTop f) s₂ ∧ s₂.status = .running ∧ Ended s₂ below o ∧ P o s₂
theorem Go.st {p : Program} {e : Env} {below : List Frame} {P : Outcome → State → Prop} {T T' : State} {f f' : JFrame}
    (h : ∀ t, Steps p.tables e below (T'.setTop f') t → Steps p.tables e below (T.setTop f) t) (k : Go p e below P T' f') : Go p e below P T f := by
  obtain ⟨s₂, o, a, b⟩ := k
  exact ⟨s₂, o, h _ a, b⟩
theorem Go.tr {p : Program} {e : Env} {below : List Frame} {P : Outcome → State → Prop} {T T' : State} {f f' : JFrame}
    (h : Steps p.tables e below (T.setTop f) (T'.setTop f')) (k : Go p e below P T' f') : Go p e below P T f := by
  obtain ⟨s₂, o, a, b⟩ := k
  exact ⟨s₂, o, h.trans a, b⟩
/-- what a contract says of the end -/
abbrev Done (s : State) (Q : Option Value → Heap → List Loc → Prop) (C S : Nat) (o : Outcome) (U' : State) : Prop :=
  ∃ v L, o = .returned v ∧ Q v U'.heap L ∧ FrameEnd s o U' L C S
theorem Go.ret {p : Program} {l : Launch} {e : Env} {R : Room} {s : State} {m : MethodId} {args : Array Value} {below : List Frame} {meth : Method} {c : Code} {T : State} {locs : List Loc} {cells slots : Nat} {h : Heap}
    {Q : Option Value → Heap → List Loc → Prop} {C S : Nat} {v : Option Value} {f : JFrame}
    (X : Stand p l e R s m args below meth c T locs cells slots) (hlk : meth.locks = false) (hv : meth.sig.returnType = none → v = none)
    (hs : ∀ fs, (∀ (f : JFrame) (acts : List Action), f.method = m → f.locked = none → f.entered = [] → (doReturn e (T.setTop f) acts v).1 = T.setFrames fs) → Steps p.tables e below (T.setTop f) (T.setFrames fs))
    (eT : T.heap = h) (hQ : Q v h locs) (hc : cells ≤ C) (hl : slots ≤ S) : Go p e below (Done s Q C S) T f := by
  obtain ⟨fs, hr, hrun, hended, hW, hsame⟩ := X.leave (v := v) hv hlk
  refine ⟨_, _, hs fs hr, hrun, hended, v, locs, rfl, ?_, ⟨_, rfl⟩, hW, hsame.mono hc hl⟩
  show Q v T.heap locs
  rw [eT]; exact hQ
theorem Go.retB {p : Program} {l : Launch} {e : Env} {R : Room} {s : State} {m : MethodId} {args : Array Value} {below : List Frame} {meth : Method} {c : Code} {T : State} {locs : List Loc} {cells slots : Nat} {h : Heap}
    {Q : Option Value → Heap → List Loc → Prop} {C S : Nat} {pc : Nat} {Ls : Array Slot} {z : Int32} {rest : List Value} {t : FieldType}
    (X : Stand p l e R s m args below meth c T locs cells slots) (hlk : meth.locks = false) (hx : p.tables.exec = Jvm.exec) (hret : meth.sig.returnType = some t) (ht : t = .boolean ∨ t = .byte ∨ t = .char ∨ t = .short)
    (hd : decode c.code pc = .ok (.ireturn, 1)) (eT : T.heap = h) (hQ : Q (some (.int (nar t z))) h locs) (hc : cells ≤ C) (hl : slots ≤ S) : Go p e below (Done s Q C S) T (mkF m pc Ls (.int z :: rest)) :=
  Go.ret X hlk (fun h => by rw [hret] at h; cases h) (fun _ hr => retN X hx hret ht hd hr) eT hQ hc hl
theorem Go.retV {p : Program} {l : Launch} {e : Env} {R : Room} {s : State} {m : MethodId} {args : Array Value} {below : List Frame} {meth : Method} {c : Code} {T : State} {locs : List Loc} {cells slots : Nat} {h : Heap}
    {Q : Option Value → Heap → List Loc → Prop} {C S : Nat} {pc : Nat} {Ls : Array Slot} {w : Value} {rest : List Value} {t : FieldType} {i : Instr}
    (X : Stand p l e R s m args below meth c T locs cells slots) (hlk : meth.locks = false) (hx : p.tables.exec = Jvm.exec) (hret : meth.sig.returnType = some t) (hn : narrow t w = w)
    (hi : (i = .ireturn ∧ (t = .int ∨ t = .boolean ∨ t = .byte ∨ t = .char ∨ t = .short) ∧ ∃ z, w = .int z) ∨ (i = .lreturn ∧ t = .long ∧ ∃ z, w = .long z) ∨ (i = .dreturn ∧ t = .double ∧ ∃ z, w = .double z) ∨ (i = .freturn ∧ t = .float ∧ ∃ z, w = .float z) ∨ (i = .areturn ∧ t.isReference = true ∧ w.isRef = true))
    (hd : decode c.code pc = .ok (i, 1)) (eT : T.heap = h) (hQ : Q (some w) h locs) (hc : cells ≤ C) (hl : slots ≤ S) : Go p e below (Done s Q C S) T (mkF m pc Ls (w :: rest)) :=
  Go.ret X hlk (fun h => by rw [hret] at h; cases h) (fun _ hr => retOut X hx hret hn hi hd hr) eT hQ hc hl
theorem Go.ret0 {p : Program} {l : Launch} {e : Env} {R : Room} {s : State} {m : MethodId} {args : Array Value} {below : List Frame} {meth : Method} {c : Code} {T : State} {locs : List Loc} {cells slots : Nat} {h : Heap}
    {Q : Option Value → Heap → List Loc → Prop} {C S : Nat} {pc : Nat} {Ls : Array Slot}
    (X : Stand p l e R s m args below meth c T locs cells slots) (hlk : meth.locks = false) (hx : p.tables.exec = Jvm.exec) (hret : meth.sig.returnType = none)
    (hd : decode c.code pc = .ok (.return_, 1)) (eT : T.heap = h) (hQ : Q none h locs) (hc : cells ≤ C) (hl : slots ≤ S) : Go p e below (Done s Q C S) T (mkF m pc Ls []) :=
  Go.ret X hlk (fun _ => rfl) (fun _ hr => X.returnOut hx hret hd hr) eT hQ hc hl
/-- an entry that stands resolved stays so, also where String constants are loaded -/
theorem own_fieldRef {Z : State} {vm1 : Vm} {a0 : Array Value} {own O n d : String} {index : Nat} (hW : Z.Warmed39 vm1) (w : (Cond.fieldRef own index O n d).before a0 Z = true) : (Cond.fieldRef own index O n d).before a0 (Z.setVm vm1) = true := by
  simp only [Cond.before, Cond.holds, Cond.value, State.vm_setVm, hW.alike.findClass, State.names_setVm hW.alike] at w ⊢
  cases q1 : Z.vm.findClass own with
  | none => rw [q1] at w; simp at w
  | some cO =>
    cases q2 : Z.fieldFound? O n d with
    | none => rw [q1, q2] at w; simp at w
    | some z =>
      obtain ⟨c1, k1, i1, f1⟩ := z
      obtain ⟨k2, q3, -⟩ := State.fieldFound?_setVm hW.alike q2
      rw [q1, q2] at w
      rw [q3]
      cases q4 : Z.resolvedAt? own index with
      | none => rw [q4] at w; simp at w
      | some r => rw [State.resolvedAt?_warmed39 hW q4]; rw [q4] at w; exact w
/-- getfield through an entry that stands resolved at the start (the word fieldRef) -/
theorem own_getR {p : Program} {l : Launch} {e : Env} {R : Room} {s : State} {m : MethodId} {args : Array Value} {below : List Frame} {meth : Method} {c : Code} {T : State} {locs : List Loc} {cells slots : Nat} {Z : State} {a0 : Array Value} {h : Heap}
    (X : Stand p l e R s m args below meth c T locs cells slots) (hx : p.tables.exec = Jvm.exec) (hZ : Z.Warmed39 s.vm) {own O n d : String} {index : Nat} (hown : s.vm.findClass own = some m.cls) (w : (Cond.fieldRef own index O n d).before a0 Z = true)
    (eT : T.heap = h) {a : Addr} {v : Value} (F : Fld Z h a O n d v) {g : JFrame} (hg : g.method = m) {rest : List Value} (hs : g.stack = .ref a :: rest) (hd : decode c.code g.pc = .ok (.getfield index, 3)) :
    ∃ T', Stand p l e R s m args below meth c T' locs cells slots ∧ T'.heap = h ∧ ∀ target, Steps p.tables e below (T'.setTop { g with pc := g.pc + 3, stack := v :: rest }) target → Steps p.tables e below (T.setTop g) target := by
  obtain ⟨cell, cf, k, i, f, h1, h2, h3, h4, -, -, h7⟩ := F
  have w1 : (Cond.fieldRef own index O n d).before args s = true := (own_fieldRef hZ w : (Cond.fieldRef own index O n d).before a0 (Z.setVm s.vm) = true)
  have w2 := Cond.fieldRef_warmed X.warmed w1
  obtain ⟨k1, r1, -⟩ := State.fieldFound?_setVm (s := Z) hZ.alike h2
  obtain ⟨k2, r2, -⟩ := State.fieldFound?_setVm (s := s) X.warmed.alike (show s.fieldFound? O n d = _ from r1)
  obtain ⟨c', k', i', f', q1, q2⟩ := Cond.fieldRef_spec (s := s.setVm T.vm) (cur := m.cls) (by rw [State.vm_setVm, X.warmed.alike.findClass]; exact hown) w2
  cases q1.symm.trans r2
  exact ⟨T, X, eT, fun target k => (X.getfieldR hx hg q2 h3 hs (by rw [eT]; exact h1) h4 h7 hd (Steps.refl _)).trans k⟩
/-- the form of every contract here -/
def Con (l : Launch) (Z : State) (y : MethodName) (bytes : ByteArray) (ml : Nat) (ret : Option FieldType) (ws : List Jvm.Cond) (room : Room) (A : Array Value) (h0 : Heap) (Q : Option Value → Heap → List Loc → Prop) : Prop :=
  MetFree l y (head1 (Jvm.Cond.code y bytes ml ret :: ws) room) (fun a U => a = A ∧ Z.Warmed39 U.vm ∧ U.heap = h0) (fun _ _ _ _ _ => True) (fun _ U o U' => ∃ v L, o = .returned v ∧ Q v U'.heap L ∧ FrameEnd U o U' L room.cells room.slots)
theorem own_body {l : Launch} {Z : State} {y : MethodName} {bytes : ByteArray} {ml : Nat} {ret : Option FieldType} {ws : List Jvm.Cond} {room : Room} {A : Array Value} {h0 : Heap} {Q : Option Value → Heap → List Loc → Prop} (hpn : plainFor y = true)
    (body : ∀ (p : Program) (e : Env) (s : State) (m : MethodId) (below : List Frame) (meth : Method) (c : Code) (s₁ : State), p.tables.exec = Jvm.exec → c.code = bytes → c.maxLocals = ml → Z.Warmed39 s.vm → s.vm.findClass y.cls = some m.cls → meth.name = y.name → meth.locks = false → meth.sig.returnType = ret →
      Stand p l e room s m A below meth c s₁ [] 0 0 → s₁.heap = h0 → Go p e below (Done s Q room.cells room.slots) s₁ (entryFrame m A ml)) : Con l Z y bytes ml ret ws room A h0 Q := by
  refine MetFree.of_bodySF hpn hisR ?_
  intro p e s m args below meth c s₁ Bd hml0 hP hK
  obtain ⟨rfl, hZ, hh⟩ := hP
  exact body p e s m below meth c s₁ Bd.exec Bd.bytes hml0 hZ (findClass_of_methodNamed Bd.named) (name_of_methodNamed Bd.named Bd.method).1 Bd.notSynchronized Bd.returns (Stand.of_body Bd) (by rw [← hh, Bd.state]; rfl)
theorem own_back {l : Launch} {R : Room} {p : Program} {e : Env} {below : List Frame} {s Z : State} {args a0 : Array Value} {h : Heap} {y : MethodName} {bytes : ByteArray} {maxL : Nat} {ret : Option FieldType} {rm : Room} {len W : Nat} {as' : Array Value} {Q : Option Value → Heap → List Loc → Prop}
    (hM : Con l Z y bytes maxL ret [] rm as' h Q) (hZ : Z.Warmed39 s.vm) (wc : (Cond.code y bytes maxL ret).before a0 Z = true) (wz : (Cond.initialized y.cls).before a0 Z = true) (hf : rm.frames + 1 ≤ R.frames) (hl : W + (maxL + 11) + rm.locals ≤ R.locals) :
    Back l R p e below s args y len W (fun A a => a = as' ∧ A.U.heap = h ∧ A.cells + rm.cells ≤ R.cells ∧ A.slots + rm.slots ≤ R.slots)
      (fun A _ v B => ∃ L, Q v B.U.heap L ∧ B.locs = A.locs ++ L ∧ B.cells = A.cells + rm.cells ∧ B.slots = A.slots + rm.slots) := backOf (Q := Q) hM hZ wc wz hf hl
theorem Con.weaken {l : Launch} {Z : State} {y : MethodName} {bytes : ByteArray} {ml : Nat} {ret : Option FieldType} {ws : List Jvm.Cond} {room : Room} {A : Array Value} {h0 : Heap} {Q Q' : Option Value → Heap → List Loc → Prop} (h : Con l Z y bytes ml ret ws room A h0 Q) (hq : ∀ v h L, Q v h L → Q' v h L) : Con l Z y bytes ml ret ws room A h0 Q' := fun p e h1 h2 h3 s m args below hf happ hP hK => by
  obtain ⟨n, o, a, b, c, v, L, d, e, f⟩ := h p e h1 h2 h3 s m args below hf happ hP hK
  exact ⟨n, o, a, b, c, v, L, d, hq _ _ _ e, f⟩
theorem own_cat {v : Value} (h : v.isRef = true) : v.category = 1 := by cases v <;> first | rfl | (simp [Value.isRef] at h)
theorem acYes {c : ClassFile.ACond} {x y : Value} (h : x = y) : acV c (decide (x = y)) = acV c true := by rw [decide_eq_true h]

theorem own_weaken {l : Launch} {x : MethodName} {S : Spec} {P : Array Value → State → Prop} {K : Program → Env → List Frame → State → Array Value → Prop} {Q Q' : Array Value → State → Outcome → State → Prop} (h : MetFree l x S P K Q) (hq : ∀ a s o t, Q a s o t → Q' a s o t) : MetFree l x S P K Q' := fun p e h1 h2 h3 s m args below hf happ hP hK => by
  obtain ⟨n, o, a, b, c, d⟩ := h p e h1 h2 h3 s m args below hf happ hP hK
  exact ⟨n, o, a, b, c, hq _ _ _ _ d⟩
section Start
variable {args : Array Value} {first s : State} {o : Option Outcome} {idx : List Nat} {t u : Term}
theorem own_eq_int {k : Int32} (h : (Jvm.Cond.eq t (.int k)).value args first o s idx = some true) : t.eval args first o idx s = some (.int k) := by
  simp only [Cond.value, Term.eval] at h
  cases ht : t.eval args first o idx s with
  | none => simp [ht] at h
  | some x => cases x <;> simp [ht] at h ⊢ <;> exact h
theorem own_eq_ref {a : Addr} (h : (Jvm.Cond.eq t u).value args first o s idx = some true) (hu : u.eval args first o idx s = some (.ref a)) : t.eval args first o idx s = some (.ref a) := by
  simp only [Cond.value] at h
  rw [hu] at h
  cases ht : t.eval args first o idx s with
  | none => simp [ht] at h
  | some x => cases x <;> simp [ht] at h ⊢ <;> exact h
theorem own_len {a : Addr} {cl : Cell} {z : Int32} (h : (Term.length t).eval args first o idx s = some (.int z)) (ht : t.eval args first o idx s = some (.ref a)) (hc : s.heap[a]? = some cl) : cl.slots.size < 2 ^ 31 ∧ cl.slots.size.toInt32 = z := by
  obtain ⟨a', cell, e1, e2, e3⟩ := Term.length_spec h
  cases ht.symm.trans e1
  have e4 := (State.arrayAt?_spec e2).1
  cases hc.symm.trans e4
  refine ⟨?_, (Value.int.inj e3).symm⟩
  by_cases hn : cl.slots.size < 2147483648
  · exact hn
  · simp only [Term.eval, Option.bind_eq_bind, ht, Option.bind_some, e2] at h
    rw [if_neg hn] at h; cases h
theorem own_ne_int {z : Int32} (h : (Jvm.Cond.not (Jvm.Cond.eq t (.int 0))).value args first o s idx = some true) (ht : t.eval args first o idx s = some (.int z)) : ¬ z = 0 := by
  have h1 := not_v h
  intro e
  subst e
  simp [Cond.value, Term.eval, ht] at h1
theorem own_fld {a : Addr} {C n d : String} {k : Int32} (h : (Jvm.Cond.eq (Term.field t C n d) (.int k)).value args s none s [] = some true) (ht : t.eval args s none [] s = some (.ref a)) : Fld s s.heap a C n d (.int k) :=
  Fld.start (by rw [← fld_at ht]; exact own_eq_int h)
theorem own_elem {a : Addr} {cl : Cell} {w : Addr} {j : Int32} {i : Nat} (h : (Jvm.Cond.eq (Term.elem t (.int j)) u).value args s none s [] = some true) (hu : u.eval args s none [] s = some (.ref w)) (ht : t.eval args s none [] s = some (.ref a)) (hc : s.heap[a]? = some cl) (hj : j.toNatClampNeg = i) : cl.slots[i]? = some (.ref w) := by
  subst hj
  exact (elem_in (own_eq_ref h hu) ht rfl hc).2
end Start

def World1 (Z : State) (w__VALUES : Addr) (w_ASSERTION : Addr) (w_REGEXP_ARRAY : Addr) (w_REGEXP_MAP : Addr) (w_RULE_NUMBER : Addr) (w_RULE_NAME : Addr) (w_BLOCK_NUMBER : Addr) (w_BLOCK_NAME : Addr) (w_STATEMENT_NUMBER : Addr) (k__VALUES : ClassId) : Prop :=
  Sta Z Z.heap "com/example/hearsay_rules/hearsayrules/Variables$Reserved" "$VALUES" "[Lcom/example/hearsay_rules/hearsayrules/Variables$Reserved;" (.ref w__VALUES) ∧
  Exa Z Z.heap w__VALUES "[Lcom/example/hearsay_rules/hearsayrules/Variables$Reserved;" ∧
  Sta Z Z.heap "com/example/hearsay_rules/hearsayrules/Variables$Reserved" "ASSERTION" "Lcom/example/hearsay_rules/hearsayrules/Variables$Reserved;" (.ref w_ASSERTION) ∧
  Exa Z Z.heap w_ASSERTION "com/example/hearsay_rules/hearsayrules/Variables$Reserved" ∧
  Sta Z Z.heap "com/example/hearsay_rules/hearsayrules/Variables$Reserved" "REGEXP_ARRAY" "Lcom/example/hearsay_rules/hearsayrules/Variables$Reserved;" (.ref w_REGEXP_ARRAY) ∧
  Exa Z Z.heap w_REGEXP_ARRAY "com/example/hearsay_rules/hearsayrules/Variables$Reserved" ∧
  Sta Z Z.heap "com/example/hearsay_rules/hearsayrules/Variables$Reserved" "REGEXP_MAP" "Lcom/example/hearsay_rules/hearsayrules/Variables$Reserved;" (.ref w_REGEXP_MAP) ∧
  Exa Z Z.heap w_REGEXP_MAP "com/example/hearsay_rules/hearsayrules/Variables$Reserved" ∧
  Sta Z Z.heap "com/example/hearsay_rules/hearsayrules/Variables$Reserved" "RULE_NUMBER" "Lcom/example/hearsay_rules/hearsayrules/Variables$Reserved;" (.ref w_RULE_NUMBER) ∧
  Exa Z Z.heap w_RULE_NUMBER "com/example/hearsay_rules/hearsayrules/Variables$Reserved" ∧
  Sta Z Z.heap "com/example/hearsay_rules/hearsayrules/Variables$Reserved" "RULE_NAME" "Lcom/example/hearsay_rules/hearsayrules/Variables$Reserved;" (.ref w_RULE_NAME) ∧
  Exa Z Z.heap w_RULE_NAME "com/example/hearsay_rules/hearsayrules/Variables$Reserved" ∧
  Sta Z Z.heap "com/example/hearsay_rules/hearsayrules/Variables$Reserved" "BLOCK_NUMBER" "Lcom/example/hearsay_rules/hearsayrules/Variables$Reserved;" (.ref w_BLOCK_NUMBER) ∧
  Exa Z Z.heap w_BLOCK_NUMBER "com/example/hearsay_rules/hearsayrules/Variables$Reserved" ∧
  Sta Z Z.heap "com/example/hearsay_rules/hearsayrules/Variables$Reserved" "BLOCK_NAME" "Lcom/example/hearsay_rules/hearsayrules/Variables$Reserved;" (.ref w_BLOCK_NAME) ∧
  Exa Z Z.heap w_BLOCK_NAME "com/example/hearsay_rules/hearsayrules/Variables$Reserved" ∧
  Sta Z Z.heap "com/example/hearsay_rules/hearsayrules/Variables$Reserved" "STATEMENT_NUMBER" "Lcom/example/hearsay_rules/hearsayrules/Variables$Reserved;" (.ref w_STATEMENT_NUMBER) ∧
  Exa Z Z.heap w_STATEMENT_NUMBER "com/example/hearsay_rules/hearsayrules/Variables$Reserved" ∧
  Fld Z Z.heap w_ASSERTION "com/example/hearsay_rules/hearsayrules/Variables$Reserved" "writable" "Z" (.int (1 : Int32)) ∧
  Fld Z Z.heap w_BLOCK_NAME "com/example/hearsay_rules/hearsayrules/Variables$Reserved" "writable" "Z" (.int (1 : Int32)) ∧
  Fld Z Z.heap w_RULE_NUMBER "com/example/hearsay_rules/hearsayrules/Variables$Reserved" "writable" "Z" (.int (0 : Int32)) ∧
  Fld Z Z.heap w_REGEXP_ARRAY "com/example/hearsay_rules/hearsayrules/Variables$Reserved" "writable" "Z" (.int (1 : Int32)) ∧
  Fld Z Z.heap w_REGEXP_MAP "com/example/hearsay_rules/hearsayrules/Variables$Reserved" "writable" "Z" (.int (1 : Int32)) ∧
  Fld Z Z.heap w_BLOCK_NUMBER "com/example/hearsay_rules/hearsayrules/Variables$Reserved" "writable" "Z" (.int (0 : Int32)) ∧
  Fld Z Z.heap w_RULE_NAME "com/example/hearsay_rules/hearsayrules/Variables$Reserved" "writable" "Z" (.int (1 : Int32)) ∧
  Fld Z Z.heap w_STATEMENT_NUMBER "com/example/hearsay_rules/hearsayrules/Variables$Reserved" "writable" "Z" (.int (0 : Int32)) ∧
  Arv Z Z.heap w__VALUES k__VALUES (Jvm.ClassFile.FieldType.object "com/example/hearsay_rules/hearsayrules/Variables$Reserved") (8 : Int32) [(.ref w_ASSERTION), (.ref w_REGEXP_ARRAY), (.ref w_REGEXP_MAP), (.ref w_RULE_NUMBER), (.ref w_RULE_NAME), (.ref w_BLOCK_NUMBER), (.ref w_BLOCK_NAME), (.ref w_STATEMENT_NUMBER)] .null
theorem pn_com_example_hearsay_rules_hearsayrules_Variables_Reserved : plainName "com/example/hearsay_rules/hearsayrules/Variables$Reserved" = true := by first | (simp [plainName, overriddenIn]; done) | decide +kernel
theorem d2_0 : decode prog_24_method_1_code 0 = .ok (.getstatic 28, 3) := by decide +kernel
theorem d2_3 : decode prog_24_method_1_code 3 = .ok (.invokevirtual 32, 3) := by decide +kernel
theorem d2_6 : decode prog_24_method_1_code 6 = .ok (.checkcast 33, 3) := by decide +kernel
theorem d2_9 : decode prog_24_method_1_code 9 = .ok (.areturn, 1) := by decide +kernel
set_option maxRecDepth 65536 in
set_option maxHeartbeats 40000000 in
theorem rmV (l : Launch) (Z : State) (a0 : Array Value) (hw : ∀ d ∈ tables_1, d.before a0 Z = true) (ws : List Jvm.Cond) (w__VALUES : Addr) (w_ASSERTION : Addr) (w_REGEXP_ARRAY : Addr) (w_REGEXP_MAP : Addr) (w_RULE_NUMBER : Addr) (w_RULE_NAME : Addr) (w_BLOCK_NUMBER : Addr) (w_BLOCK_NAME : Addr) (w_STATEMENT_NUMBER : Addr) (k__VALUES : ClassId) (h0 : Heap) (n0 : Nat) (O0 : Old Z n0 h0) (WW : World1 Z w__VALUES w_ASSERTION w_REGEXP_ARRAY w_REGEXP_MAP w_RULE_NUMBER w_RULE_NAME w_BLOCK_NUMBER w_BLOCK_NAME w_STATEMENT_NUMBER k__VALUES) :
    Con l Z (⟨"com/example/hearsay_rules/hearsayrules/Variables$Reserved", "values", "()[Lcom/example/hearsay_rules/hearsayrules/Variables$Reserved;"⟩ : MethodName) prog_24_method_1_code 0 (some (.array (.object "com/example/hearsay_rules/hearsayrules/Variables$Reserved"))) ws ({ frames := 1, cells := 1, slots := 8, locals := 14 } : Room) #[] h0 (fun v h L => ∃ b : Addr, v = some (.ref b) ∧ Fr n0 L ∧ h0.size ≤ b ∧ Keep h0 h [] ∧ Arv Z h b k__VALUES (Jvm.ClassFile.FieldType.object "com/example/hearsay_rules/hearsayrules/Variables$Reserved") (8 : Int32) [(.ref w_ASSERTION), (.ref w_REGEXP_ARRAY), (.ref w_REGEXP_MAP), (.ref w_RULE_NUMBER), (.ref w_RULE_NAME), (.ref w_BLOCK_NUMBER), (.ref w_BLOCK_NAME), (.ref w_STATEMENT_NUMBER)] .null ∧ Exa Z h b "[Lcom/example/hearsay_rules/hearsayrules/Variables$Reserved;") := by
  refine own_body (plainFor_of_name pn_com_example_hearsay_rules_hearsayrules_Variables_Reserved) ?_
  intro p e s m below meth c s₁ hx hby hml hZ hown hnm hlk hret X0 e0
  have N0 := Fr.nil n0
  have K0 : Keep h0 h0 [] := Keep.refl _ _
  refine Go.st (T' := s₁) (f' := (mkF m 0 #[] [])) (fun _ k => castTop (by first | (simp [entryFrame, mkF, argsToLocals, Value.category]; done) | rfl) k) ?_
  have ⟨S_w__VALUES, E_w__VALUES, S_w_ASSERTION, E_w_ASSERTION, S_w_REGEXP_ARRAY, E_w_REGEXP_ARRAY, S_w_REGEXP_MAP, E_w_REGEXP_MAP, S_w_RULE_NUMBER, E_w_RULE_NUMBER, S_w_RULE_NAME, E_w_RULE_NAME, S_w_BLOCK_NUMBER, E_w_BLOCK_NUMBER, S_w_BLOCK_NAME, E_w_BLOCK_NAME, S_w_STATEMENT_NUMBER, E_w_STATEMENT_NUMBER, F_w_ASSERTION_writable, F_w_BLOCK_NAME_writable, F_w_RULE_NUMBER_writable, F_w_REGEXP_ARRAY_writable, F_w_REGEXP_MAP_writable, F_w_BLOCK_NUMBER_writable, F_w_RULE_NAME_writable, F_w_STATEMENT_NUMBER_writable, V_w__VALUES⟩ := WW
  have lt_w__VALUES := E_w__VALUES.lt
  have lt_w_ASSERTION := E_w_ASSERTION.lt
  have lt_w_REGEXP_ARRAY := E_w_REGEXP_ARRAY.lt
  have lt_w_REGEXP_MAP := E_w_REGEXP_MAP.lt
  have lt_w_RULE_NUMBER := E_w_RULE_NUMBER.lt
  have lt_w_RULE_NAME := E_w_RULE_NAME.lt
  have lt_w_BLOCK_NUMBER := E_w_BLOCK_NUMBER.lt
  have lt_w_BLOCK_NAME := E_w_BLOCK_NAME.lt
  have lt_w_STATEMENT_NUMBER := E_w_STATEMENT_NUMBER.lt
  obtain ⟨T1, X1, e1, st1⟩ := getS2 X0 hx hZ hown (host := "") (Or.inl (hw _ (List.mem_of_getElem? (i := 8) rfl))) Via.refl e0 (S_w__VALUES.ext O0.2) (g := (mkF m 0 #[] [])) rfl (hb hby d2_0)
  refine Go.st (f' := (mkF m 3 #[] [(.ref w__VALUES)])) (fun _ k => st1 _ k) ?_
  obtain ⟨T3, h3, X3, e3, E3, V3, A3, st3⟩ := cloneH X1 hx hZ hown (hw _ (List.mem_of_getElem? (i := 10) rfl)) (hw _ (List.mem_of_getElem? (i := 11) rfl)) (hw _ (List.mem_of_getElem? (i := 15) rfl)) (hw _ (List.mem_of_getElem? (i := 13) rfl)) (hw _ (List.mem_of_getElem? (i := 14) rfl)) (hw _ (List.mem_of_getElem? (i := 16) rfl)) e1 (Arv.arh (V_w__VALUES.ext O0.2)) (E_w__VALUES.ext O0.2) (g := (mkF m 3 #[] [(.ref w__VALUES)])) rfl (by rw [hml]; rfl) rfl (hb hby d2_3) (by decide) (W := 0) (by show 2 * 0 + _ ≤ _; exact Nat.le_of_eq rfl) (by decide) (cap := 8) (by decide) (by decide) (by decide)
  obtain ⟨b3, g3⟩ : ∃ z, z = h0.size := ⟨_, rfl⟩
  rw [← g3] at V3 A3 st3
  have ne_w__VALUES_b3 : w__VALUES ≠ b3 := Nat.ne_of_lt (Nat.lt_of_lt_of_le lt_w__VALUES (Nat.le_trans O0.2.1 (Nat.le_of_eq g3.symm)))
  have ne_w_ASSERTION_b3 : w_ASSERTION ≠ b3 := Nat.ne_of_lt (Nat.lt_of_lt_of_le lt_w_ASSERTION (Nat.le_trans O0.2.1 (Nat.le_of_eq g3.symm)))
  have ne_w_REGEXP_ARRAY_b3 : w_REGEXP_ARRAY ≠ b3 := Nat.ne_of_lt (Nat.lt_of_lt_of_le lt_w_REGEXP_ARRAY (Nat.le_trans O0.2.1 (Nat.le_of_eq g3.symm)))
  have ne_w_REGEXP_MAP_b3 : w_REGEXP_MAP ≠ b3 := Nat.ne_of_lt (Nat.lt_of_lt_of_le lt_w_REGEXP_MAP (Nat.le_trans O0.2.1 (Nat.le_of_eq g3.symm)))
  have ne_w_RULE_NUMBER_b3 : w_RULE_NUMBER ≠ b3 := Nat.ne_of_lt (Nat.lt_of_lt_of_le lt_w_RULE_NUMBER (Nat.le_trans O0.2.1 (Nat.le_of_eq g3.symm)))
  have ne_w_RULE_NAME_b3 : w_RULE_NAME ≠ b3 := Nat.ne_of_lt (Nat.lt_of_lt_of_le lt_w_RULE_NAME (Nat.le_trans O0.2.1 (Nat.le_of_eq g3.symm)))
  have ne_w_BLOCK_NUMBER_b3 : w_BLOCK_NUMBER ≠ b3 := Nat.ne_of_lt (Nat.lt_of_lt_of_le lt_w_BLOCK_NUMBER (Nat.le_trans O0.2.1 (Nat.le_of_eq g3.symm)))
  have ne_w_BLOCK_NAME_b3 : w_BLOCK_NAME ≠ b3 := Nat.ne_of_lt (Nat.lt_of_lt_of_le lt_w_BLOCK_NAME (Nat.le_trans O0.2.1 (Nat.le_of_eq g3.symm)))
  have ne_w_STATEMENT_NUMBER_b3 : w_STATEMENT_NUMBER ≠ b3 := Nat.ne_of_lt (Nat.lt_of_lt_of_le lt_w_STATEMENT_NUMBER (Nat.le_trans O0.2.1 (Nat.le_of_eq g3.symm)))
  have g_b3 : n0 ≤ b3 := Nat.le_trans (O0.1 ▸ O0.2.1) (Nat.le_of_eq g3.symm)
  have O3 : Old Z n0 h3 := O0.ext E3
  have sz_b3 : h0.size ≤ b3 := Nat.le_trans K0.1 (Nat.le_of_eq g3.symm)
  have K3 : Keep h0 h3 [] := K0.ext E3
  have V_b3 : Arv Z h3 b3 k__VALUES (Jvm.ClassFile.FieldType.object "com/example/hearsay_rules/hearsayrules/Variables$Reserved") (8 : Int32) [(.ref w_ASSERTION), (.ref w_REGEXP_ARRAY), (.ref w_REGEXP_MAP), (.ref w_RULE_NUMBER), (.ref w_RULE_NAME), (.ref w_BLOCK_NUMBER), (.ref w_BLOCK_NAME), (.ref w_STATEMENT_NUMBER)] .null := V3
  have lt_b3 := A3.lt
  refine Go.st (f' := (mkF m 6 #[] [(.ref b3)])) (fun _ k => st3 _ k) ?_
  obtain ⟨T4, X4, e4, st4⟩ := castY X3 hx hZ hown (hw _ (List.mem_of_getElem? (i := 26) rfl)) e3 (Ins.self A3) (g := (mkF m 6 #[] [(.ref b3)])) rfl rfl (hb hby d2_6)
  refine Go.st (f' := (mkF m 9 #[] [(.ref b3)])) (fun _ k => st4 _ k) ?_
  refine Go.retV X4 hlk hx (t := (.array (.object "com/example/hearsay_rules/hearsayrules/Variables$Reserved"))) hret rfl (Or.inr (Or.inr (Or.inr (Or.inr ⟨rfl, rfl, rfl⟩)))) (hb hby d2_9) e4 ?_ (by decide) (by decide)
  exact ⟨b3, rfl, N0, sz_b3, K3, V_b3, A3⟩
def wrV (b : Int32) : Int32 := if b = 3 then 0 else if b = 5 then 0 else if b = 7 then 0 else 1
theorem wr_no {b : Int32} (h : ¬ b < 0) (h0 : ¬ b = 0) (h1 : ¬ b = 1) (h2 : ¬ b = 2) (h3 : ¬ b = 3) (h4 : ¬ b = 4) (h5 : ¬ b = 5) (h6 : ¬ b = 6) (h7 : ¬ b = 7) : ¬ b < 8 := by
  intro q
  rw [Int32.lt_iff_toInt_lt] at h q
  rw [← Int32.toInt_inj] at h0 h1 h2 h3 h4 h5 h6 h7
  have e0 : (0 : Int32).toInt = 0 := by decide
  have e1 : (1 : Int32).toInt = 1 := by decide
  have e2 : (2 : Int32).toInt = 2 := by decide
  have e3 : (3 : Int32).toInt = 3 := by decide
  have e4 : (4 : Int32).toInt = 4 := by decide
  have e5 : (5 : Int32).toInt = 5 := by decide
  have e6 : (6 : Int32).toInt = 6 := by decide
  have e7 : (7 : Int32).toInt = 7 := by decide
  have e8 : (8 : Int32).toInt = 8 := by decide
  omega
theorem wr_far {b : Int32} (h : ¬ b < 8) : wrV b = 1 := by
  unfold wrV
  have n3 : ¬ b = 3 := fun e => h (by rw [e]; decide)
  have n5 : ¬ b = 5 := fun e => h (by rw [e]; decide)
  have n7 : ¬ b = 7 := fun e => h (by rw [e]; decide)
  rw [if_neg n3, if_neg n5, if_neg n7]
theorem wr_pos (x m : Int32) (hm : 0 ≤ m.toInt) : ¬ (x &&& m) < 0 := by
  have h := (c_and x m hm).1
  rw [Int32.lt_iff_toInt_lt]
  have e0 : (0 : Int32).toInt = 0 := by decide
  omega
theorem pn_com_example_hearsay_rules_hearsayrules_Variables : plainName "com/example/hearsay_rules/hearsayrules/Variables" = true := by first | (simp [plainName, overriddenIn]; done) | decide +kernel
theorem d1_0 : decode prog_23_method_4_code 0 = .ok (.invokestatic 16, 3) := by decide +kernel
theorem pd____Lcom_example_hearsay_rules_hearsayrules_Variables_Reserved_ : parseMethodDescriptor "()[Lcom/example/hearsay_rules/hearsayrules/Variables$Reserved;" = some ⟨[], some (.array (.object "com/example/hearsay_rules/hearsayrules/Variables$Reserved"))⟩ := by decide +kernel
theorem d1_3 : decode prog_23_method_4_code 3 = .ok (.astore_n 1, 1) := by decide +kernel
theorem d1_4 : decode prog_23_method_4_code 4 = .ok (.iload_n 0, 1) := by decide +kernel
theorem d1_5 : decode prog_23_method_4_code 5 = .ok (.aload_n 1, 1) := by decide +kernel
theorem d1_6 : decode prog_23_method_4_code 6 = .ok (.arraylength, 1) := by decide +kernel
theorem d1_7 : decode prog_23_method_4_code 7 = .ok (.if_icmp .ge 12, 3) := by decide +kernel
theorem d1_10 : decode prog_23_method_4_code 10 = .ok (.aload_n 1, 1) := by decide +kernel
theorem d1_11 : decode prog_23_method_4_code 11 = .ok (.iload_n 0, 1) := by decide +kernel
theorem d1_12 : decode prog_23_method_4_code 12 = .ok (.aaload, 1) := by decide +kernel
theorem d1_13 : decode prog_23_method_4_code 13 = .ok (.getfield 58, 3) := by decide +kernel
theorem d1_16 : decode prog_23_method_4_code 16 = .ok (.ifCond .eq 7, 3) := by decide +kernel
theorem d1_19 : decode prog_23_method_4_code 19 = .ok (.iconst 1, 1) := by decide +kernel
theorem d1_20 : decode prog_23_method_4_code 20 = .ok (.goto 4, 3) := by decide +kernel
theorem d1_24 : decode prog_23_method_4_code 24 = .ok (.ireturn, 1) := by decide +kernel
theorem d1_23 : decode prog_23_method_4_code 23 = .ok (.iconst 0, 1) := by decide +kernel
set_option maxRecDepth 65536 in
set_option maxHeartbeats 40000000 in
theorem rmC (l : Launch) (Z : State) (a0 : Array Value) (hw : ∀ d ∈ tables_1, d.before a0 Z = true) (ws : List Jvm.Cond) (p1 : Int32) (w__VALUES : Addr) (w_ASSERTION : Addr) (w_REGEXP_ARRAY : Addr) (w_REGEXP_MAP : Addr) (w_RULE_NUMBER : Addr) (w_RULE_NAME : Addr) (w_BLOCK_NUMBER : Addr) (w_BLOCK_NAME : Addr) (w_STATEMENT_NUMBER : Addr) (k__VALUES : ClassId) (h0 : Heap) (n0 : Nat) (O0 : Old Z n0 h0) (hp0 : ¬ p1 < 0) (WW : World1 Z w__VALUES w_ASSERTION w_REGEXP_ARRAY w_REGEXP_MAP w_RULE_NUMBER w_RULE_NAME w_BLOCK_NUMBER w_BLOCK_NAME w_STATEMENT_NUMBER k__VALUES) :
    Con l Z (⟨"com/example/hearsay_rules/hearsayrules/Variables", "writable", "(I)Z"⟩ : MethodName) prog_23_method_4_code 2 (some .boolean) ws ({ frames := 2, cells := 1, slots := 8, locals := 25 } : Room) #[(.int p1)] h0 (fun v h L => v = some (.int (wrV p1)) ∧ Fr n0 L ∧ Keep h0 h []) := by
  refine own_body (plainFor_of_name pn_com_example_hearsay_rules_hearsayrules_Variables) ?_
  intro p e s m below meth c s₁ hx hby hml hZ hown hnm hlk hret X0 e0
  have N0 := Fr.nil n0
  have K0 : Keep h0 h0 [] := Keep.refl _ _
  refine Go.st (T' := s₁) (f' := (mkF m 0 #[iv p1, .unset] [])) (fun _ k => castTop (by first | (simp [entryFrame, mkF, argsToLocals, Value.category]; done) | rfl) k) ?_
  have ⟨S_w__VALUES, E_w__VALUES, S_w_ASSERTION, E_w_ASSERTION, S_w_REGEXP_ARRAY, E_w_REGEXP_ARRAY, S_w_REGEXP_MAP, E_w_REGEXP_MAP, S_w_RULE_NUMBER, E_w_RULE_NUMBER, S_w_RULE_NAME, E_w_RULE_NAME, S_w_BLOCK_NUMBER, E_w_BLOCK_NUMBER, S_w_BLOCK_NAME, E_w_BLOCK_NAME, S_w_STATEMENT_NUMBER, E_w_STATEMENT_NUMBER, F_w_ASSERTION_writable, F_w_BLOCK_NAME_writable, F_w_RULE_NUMBER_writable, F_w_REGEXP_ARRAY_writable, F_w_REGEXP_MAP_writable, F_w_BLOCK_NUMBER_writable, F_w_RULE_NAME_writable, F_w_STATEMENT_NUMBER_writable, V_w__VALUES⟩ := WW
  have lt_w__VALUES := E_w__VALUES.lt
  have lt_w_ASSERTION := E_w_ASSERTION.lt
  have lt_w_REGEXP_ARRAY := E_w_REGEXP_ARRAY.lt
  have lt_w_REGEXP_MAP := E_w_REGEXP_MAP.lt
  have lt_w_RULE_NUMBER := E_w_RULE_NUMBER.lt
  have lt_w_RULE_NAME := E_w_RULE_NAME.lt
  have lt_w_BLOCK_NUMBER := E_w_BLOCK_NUMBER.lt
  have lt_w_BLOCK_NAME := E_w_BLOCK_NAME.lt
  have lt_w_STATEMENT_NUMBER := E_w_STATEMENT_NUMBER.lt
  obtain ⟨_, _, ⟨T1, L1, kk1, nn1⟩, -, X1, ⟨Lc1, hQ1, lq1, yq1, zz1⟩, st1⟩ := Jvm.LawKit.callS X0 hx (y := (⟨"com/example/hearsay_rules/hearsayrules/Variables$Reserved", "values", "()[Lcom/example/hearsay_rules/hearsayrules/Variables$Reserved;"⟩ : MethodName)) hown (mvT hZ (hw _ (List.mem_of_getElem? (i := 4) rfl))) (mvT hZ (hw _ (List.mem_of_getElem? (i := 5) rfl))) (mvT hZ (hw _ (List.mem_of_getElem? (i := 6) rfl))) (mvT hZ (hw _ (List.mem_of_getElem? (i := 7) rfl))) (by decide) (own_back (W := 0) (rmV l Z a0 hw [] w__VALUES w_ASSERTION w_REGEXP_ARRAY w_REGEXP_MAP w_RULE_NUMBER w_RULE_NAME w_BLOCK_NUMBER w_BLOCK_NAME w_STATEMENT_NUMBER k__VALUES h0 n0 O0 WW) hZ (hw _ (List.mem_of_getElem? (i := 7) rfl)) (hw _ (List.mem_of_getElem? (i := 6) rfl)) (by decide) (by decide)) (g := (mkF m 0 #[iv p1, .unset] [])) rfl (by rw [hml]; rfl) (argsL := []) (rest := []) (lenOf pd____Lcom_example_hearsay_rules_hearsayrules_Variables_Reserved_ rfl) rfl (by show 2 * 0 + _ ≤ _; exact Nat.le_of_eq rfl) (hb hby d1_0) (fun _ _ => ⟨rfl, e0, (by decide : 0 + 1 ≤ _), (by decide : 0 + 8 ≤ _)⟩)
  dsimp only [Pt.U, Pt.locs, Pt.cells, Pt.slots] at X1 lq1 yq1 zz1 st1 hQ1
  subst lq1 yq1 zz1
  obtain ⟨b1, rfl, Nq1, zq1, kq1, vq1, eq1⟩ := hQ1
  have N1 := Fr.app N0 Nq1
  have ne_w__VALUES_b1 : w__VALUES ≠ b1 := Nat.ne_of_lt (Nat.lt_of_lt_of_le lt_w__VALUES (Nat.le_trans O0.2.1 zq1))
  have ne_w_ASSERTION_b1 : w_ASSERTION ≠ b1 := Nat.ne_of_lt (Nat.lt_of_lt_of_le lt_w_ASSERTION (Nat.le_trans O0.2.1 zq1))
  have ne_w_REGEXP_ARRAY_b1 : w_REGEXP_ARRAY ≠ b1 := Nat.ne_of_lt (Nat.lt_of_lt_of_le lt_w_REGEXP_ARRAY (Nat.le_trans O0.2.1 zq1))
  have ne_w_REGEXP_MAP_b1 : w_REGEXP_MAP ≠ b1 := Nat.ne_of_lt (Nat.lt_of_lt_of_le lt_w_REGEXP_MAP (Nat.le_trans O0.2.1 zq1))
  have ne_w_RULE_NUMBER_b1 : w_RULE_NUMBER ≠ b1 := Nat.ne_of_lt (Nat.lt_of_lt_of_le lt_w_RULE_NUMBER (Nat.le_trans O0.2.1 zq1))
  have ne_w_RULE_NAME_b1 : w_RULE_NAME ≠ b1 := Nat.ne_of_lt (Nat.lt_of_lt_of_le lt_w_RULE_NAME (Nat.le_trans O0.2.1 zq1))
  have ne_w_BLOCK_NUMBER_b1 : w_BLOCK_NUMBER ≠ b1 := Nat.ne_of_lt (Nat.lt_of_lt_of_le lt_w_BLOCK_NUMBER (Nat.le_trans O0.2.1 zq1))
  have ne_w_BLOCK_NAME_b1 : w_BLOCK_NAME ≠ b1 := Nat.ne_of_lt (Nat.lt_of_lt_of_le lt_w_BLOCK_NAME (Nat.le_trans O0.2.1 zq1))
  have ne_w_STATEMENT_NUMBER_b1 : w_STATEMENT_NUMBER ≠ b1 := Nat.ne_of_lt (Nat.lt_of_lt_of_le lt_w_STATEMENT_NUMBER (Nat.le_trans O0.2.1 zq1))
  have g_b1 : n0 ≤ b1 := Nat.le_trans (O0.1 ▸ O0.2.1) zq1
  have sz_b1 : h0.size ≤ b1 := Nat.le_trans K0.1 zq1
  have O1 : Old Z n0 T1.heap := O0.keep kq1 all0
  have K1 : Keep h0 T1.heap [] := K0.trans kq1 all0
  have lt_b1 := eq1.lt
  refine Go.st (f' := (mkF m 3 #[iv p1, .unset] [(.ref b1)])) (fun _ k => st1 _ k) ?_
  refine Go.st (f' := (mkF m 4 #[iv p1, rv b1] [])) (fun _ k => XS.astoreN X1.here hx rfl (hb hby d1_3) rfl rfl (l' := #[iv p1, rv b1]) rfl k) ?_
  refine Go.st (f' := (mkF m 5 #[iv p1, rv b1] [(.int p1)])) (fun _ k => XS.iloadN X1.here hx rfl (hb hby d1_4) rfl k) ?_
  refine Go.st (f' := (mkF m 6 #[iv p1, rv b1] [(.ref b1), (.int p1)])) (fun _ k => XS.aloadN X1.here hx rfl (hb hby d1_5) rfl rfl k) ?_
  obtain ⟨cl2, Ar2, -, S2, Nx2, -, -⟩ := id vq1
  refine Go.st (T' := T1) (f' := (mkF m 7 #[iv p1, rv b1] [(.int 8), (.int p1)])) (fun _ k => X1.arraylength hx Ar2.1 (State.isArrayOf_alike hZ.alike Ar2.2.1) (g := (mkF m 6 #[iv p1, rv b1] [(.ref b1), (.int p1)])) rfl rfl (hb hby d1_6) _ (by rw [len_of S2 Nx2]; exact k)) ?_
  by_cases cd3 : p1 < (8 : Int32)
  · refine Go.st (f' := (mkF m 10 #[iv p1, rv b1] [])) (fun _ k => XS.icmpNo X1.here hx rfl (hb hby d1_7) rfl (tlt cd3).2.1 k) ?_
    refine Go.st (f' := (mkF m 11 #[iv p1, rv b1] [(.ref b1)])) (fun _ k => XS.aloadN X1.here hx rfl (hb hby d1_10) rfl rfl k) ?_
    refine Go.st (f' := (mkF m 12 #[iv p1, rv b1] [(.int p1), (.ref b1)])) (fun _ k => XS.iloadN X1.here hx rfl (hb hby d1_11) rfl k) ?_
    by_cases cd4 : p1 = (0 : Int32)
    · obtain ⟨cl5, Ar5, -, S5, -, H5, -⟩ := id vq1
      have hin5 : ¬ (p1 < 0 ∨ cl5.slots.size ≤ (p1).toNatClampNeg) := inb_of S5 ⟨by rw [cd4]; decide, by rw [cd4]; decide⟩
      have hat5 : cl5.slots[(p1).toNatClampNeg]? = some (.ref w_ASSERTION) := H5.at hin5 (by rw [cd4]; rfl)
      refine Go.st (f' := (mkF m 13 #[iv p1, rv b1] [(.ref w_ASSERTION)])) (fun _ k => X1.aaload hx (j := p1) (v := (.ref w_ASSERTION)) Ar5.1 (State.isArrayOf_alike hZ.alike Ar5.2.1) rfl Ar5.2.2 hin5 hat5 (g := (mkF m 12 #[iv p1, rv b1] [(.int p1), (.ref b1)])) rfl rfl (hb hby d1_12) _ k) ?_
      obtain ⟨T6, X6, e6, st6⟩ := own_getR X1 hx hZ hown (hw _ (List.mem_of_getElem? (i := 28) rfl)) rfl (F_w_ASSERTION_writable.ext O1.2) (g := (mkF m 13 #[iv p1, rv b1] [(.ref w_ASSERTION)])) rfl rfl (hb hby d1_13)
      refine Go.st (f' := (mkF m 16 #[iv p1, rv b1] [(.int 1)])) (fun _ k => st6 _ k) ?_
      refine Go.st (f' := (mkF m 19 #[iv p1, rv b1] [])) (fun _ k => XS.ifNo X6.here hx rfl (hb hby d1_16) rfl (by decide) k) ?_
      refine Go.st (f' := (mkF m 20 #[iv p1, rv b1] [(.int 1)])) (fun _ k => XS.iconst X6.here hx rfl (hb hby d1_19) k) ?_
      refine Go.st (f' := (mkF m 24 #[iv p1, rv b1] [(.int 1)])) (fun _ k => XS.goto X6.here hx rfl (pc0 := 20) (pc' := 24) rfl (hb hby d1_20) (by decide) (by decide) k) ?_
      refine Go.retB X6 hlk hx (t := .boolean) hret (by simp) (hb hby d1_24) e6 ?_ (by decide) (by decide)
      show (some (.int (1 : Int32)) : Option Value) = some (.int (wrV p1)) ∧ _
      exact ⟨by rw [cd4]; rfl, N1, K1⟩
    by_cases cd7 : p1 = (1 : Int32)
    · obtain ⟨cl8, Ar8, -, S8, -, H8, -⟩ := id vq1
      have hin8 : ¬ (p1 < 0 ∨ cl8.slots.size ≤ (p1).toNatClampNeg) := inb_of S8 ⟨by rw [cd7]; decide, by rw [cd7]; decide⟩
      have hat8 : cl8.slots[(p1).toNatClampNeg]? = some (.ref w_REGEXP_ARRAY) := H8.at hin8 (by rw [cd7]; rfl)
      refine Go.st (f' := (mkF m 13 #[iv p1, rv b1] [(.ref w_REGEXP_ARRAY)])) (fun _ k => X1.aaload hx (j := p1) (v := (.ref w_REGEXP_ARRAY)) Ar8.1 (State.isArrayOf_alike hZ.alike Ar8.2.1) rfl Ar8.2.2 hin8 hat8 (g := (mkF m 12 #[iv p1, rv b1] [(.int p1), (.ref b1)])) rfl rfl (hb hby d1_12) _ k) ?_
      obtain ⟨T9, X9, e9, st9⟩ := own_getR X1 hx hZ hown (hw _ (List.mem_of_getElem? (i := 28) rfl)) rfl (F_w_REGEXP_ARRAY_writable.ext O1.2) (g := (mkF m 13 #[iv p1, rv b1] [(.ref w_REGEXP_ARRAY)])) rfl rfl (hb hby d1_13)
      refine Go.st (f' := (mkF m 16 #[iv p1, rv b1] [(.int 1)])) (fun _ k => st9 _ k) ?_
      refine Go.st (f' := (mkF m 19 #[iv p1, rv b1] [])) (fun _ k => XS.ifNo X9.here hx rfl (hb hby d1_16) rfl (by decide) k) ?_
      refine Go.st (f' := (mkF m 20 #[iv p1, rv b1] [(.int 1)])) (fun _ k => XS.iconst X9.here hx rfl (hb hby d1_19) k) ?_
      refine Go.st (f' := (mkF m 24 #[iv p1, rv b1] [(.int 1)])) (fun _ k => XS.goto X9.here hx rfl (pc0 := 20) (pc' := 24) rfl (hb hby d1_20) (by decide) (by decide) k) ?_
      refine Go.retB X9 hlk hx (t := .boolean) hret (by simp) (hb hby d1_24) e9 ?_ (by decide) (by decide)
      show (some (.int (1 : Int32)) : Option Value) = some (.int (wrV p1)) ∧ _
      exact ⟨by rw [cd7]; rfl, N1, K1⟩
    by_cases cd10 : p1 = (2 : Int32)
    · obtain ⟨cl11, Ar11, -, S11, -, H11, -⟩ := id vq1
      have hin11 : ¬ (p1 < 0 ∨ cl11.slots.size ≤ (p1).toNatClampNeg) := inb_of S11 ⟨by rw [cd10]; decide, by rw [cd10]; decide⟩
      have hat11 : cl11.slots[(p1).toNatClampNeg]? = some (.ref w_REGEXP_MAP) := H11.at hin11 (by rw [cd10]; rfl)
      refine Go.st (f' := (mkF m 13 #[iv p1, rv b1] [(.ref w_REGEXP_MAP)])) (fun _ k => X1.aaload hx (j := p1) (v := (.ref w_REGEXP_MAP)) Ar11.1 (State.isArrayOf_alike hZ.alike Ar11.2.1) rfl Ar11.2.2 hin11 hat11 (g := (mkF m 12 #[iv p1, rv b1] [(.int p1), (.ref b1)])) rfl rfl (hb hby d1_12) _ k) ?_
      obtain ⟨T12, X12, e12, st12⟩ := own_getR X1 hx hZ hown (hw _ (List.mem_of_getElem? (i := 28) rfl)) rfl (F_w_REGEXP_MAP_writable.ext O1.2) (g := (mkF m 13 #[iv p1, rv b1] [(.ref w_REGEXP_MAP)])) rfl rfl (hb hby d1_13)
      refine Go.st (f' := (mkF m 16 #[iv p1, rv b1] [(.int 1)])) (fun _ k => st12 _ k) ?_
      refine Go.st (f' := (mkF m 19 #[iv p1, rv b1] [])) (fun _ k => XS.ifNo X12.here hx rfl (hb hby d1_16) rfl (by decide) k) ?_
      refine Go.st (f' := (mkF m 20 #[iv p1, rv b1] [(.int 1)])) (fun _ k => XS.iconst X12.here hx rfl (hb hby d1_19) k) ?_
      refine Go.st (f' := (mkF m 24 #[iv p1, rv b1] [(.int 1)])) (fun _ k => XS.goto X12.here hx rfl (pc0 := 20) (pc' := 24) rfl (hb hby d1_20) (by decide) (by decide) k) ?_
      refine Go.retB X12 hlk hx (t := .boolean) hret (by simp) (hb hby d1_24) e12 ?_ (by decide) (by decide)
      show (some (.int (1 : Int32)) : Option Value) = some (.int (wrV p1)) ∧ _
      exact ⟨by rw [cd10]; rfl, N1, K1⟩
    by_cases cd13 : p1 = (3 : Int32)
    · obtain ⟨cl14, Ar14, -, S14, -, H14, -⟩ := id vq1
      have hin14 : ¬ (p1 < 0 ∨ cl14.slots.size ≤ (p1).toNatClampNeg) := inb_of S14 ⟨by rw [cd13]; decide, by rw [cd13]; decide⟩
      have hat14 : cl14.slots[(p1).toNatClampNeg]? = some (.ref w_RULE_NUMBER) := H14.at hin14 (by rw [cd13]; rfl)
      refine Go.st (f' := (mkF m 13 #[iv p1, rv b1] [(.ref w_RULE_NUMBER)])) (fun _ k => X1.aaload hx (j := p1) (v := (.ref w_RULE_NUMBER)) Ar14.1 (State.isArrayOf_alike hZ.alike Ar14.2.1) rfl Ar14.2.2 hin14 hat14 (g := (mkF m 12 #[iv p1, rv b1] [(.int p1), (.ref b1)])) rfl rfl (hb hby d1_12) _ k) ?_
      obtain ⟨T15, X15, e15, st15⟩ := own_getR X1 hx hZ hown (hw _ (List.mem_of_getElem? (i := 28) rfl)) rfl (F_w_RULE_NUMBER_writable.ext O1.2) (g := (mkF m 13 #[iv p1, rv b1] [(.ref w_RULE_NUMBER)])) rfl rfl (hb hby d1_13)
      refine Go.st (f' := (mkF m 16 #[iv p1, rv b1] [(.int 0)])) (fun _ k => st15 _ k) ?_
      refine Go.st (f' := (mkF m 23 #[iv p1, rv b1] [])) (fun _ k => XS.ifYes X15.here hx rfl (pc0 := 16) (pc' := 23) rfl (hb hby d1_16) rfl (by decide) (by decide) (by decide) k) ?_
      refine Go.st (f' := (mkF m 24 #[iv p1, rv b1] [(.int 0)])) (fun _ k => XS.iconst X15.here hx rfl (hb hby d1_23) k) ?_
      refine Go.retB X15 hlk hx (t := .boolean) hret (by simp) (hb hby d1_24) e15 ?_ (by decide) (by decide)
      show (some (.int (0 : Int32)) : Option Value) = some (.int (wrV p1)) ∧ _
      exact ⟨by rw [cd13]; rfl, N1, K1⟩
    by_cases cd16 : p1 = (4 : Int32)
    · obtain ⟨cl17, Ar17, -, S17, -, H17, -⟩ := id vq1
      have hin17 : ¬ (p1 < 0 ∨ cl17.slots.size ≤ (p1).toNatClampNeg) := inb_of S17 ⟨by rw [cd16]; decide, by rw [cd16]; decide⟩
      have hat17 : cl17.slots[(p1).toNatClampNeg]? = some (.ref w_RULE_NAME) := H17.at hin17 (by rw [cd16]; rfl)
      refine Go.st (f' := (mkF m 13 #[iv p1, rv b1] [(.ref w_RULE_NAME)])) (fun _ k => X1.aaload hx (j := p1) (v := (.ref w_RULE_NAME)) Ar17.1 (State.isArrayOf_alike hZ.alike Ar17.2.1) rfl Ar17.2.2 hin17 hat17 (g := (mkF m 12 #[iv p1, rv b1] [(.int p1), (.ref b1)])) rfl rfl (hb hby d1_12) _ k) ?_
      obtain ⟨T18, X18, e18, st18⟩ := own_getR X1 hx hZ hown (hw _ (List.mem_of_getElem? (i := 28) rfl)) rfl (F_w_RULE_NAME_writable.ext O1.2) (g := (mkF m 13 #[iv p1, rv b1] [(.ref w_RULE_NAME)])) rfl rfl (hb hby d1_13)
      refine Go.st (f' := (mkF m 16 #[iv p1, rv b1] [(.int 1)])) (fun _ k => st18 _ k) ?_
      refine Go.st (f' := (mkF m 19 #[iv p1, rv b1] [])) (fun _ k => XS.ifNo X18.here hx rfl (hb hby d1_16) rfl (by decide) k) ?_
      refine Go.st (f' := (mkF m 20 #[iv p1, rv b1] [(.int 1)])) (fun _ k => XS.iconst X18.here hx rfl (hb hby d1_19) k) ?_
      refine Go.st (f' := (mkF m 24 #[iv p1, rv b1] [(.int 1)])) (fun _ k => XS.goto X18.here hx rfl (pc0 := 20) (pc' := 24) rfl (hb hby d1_20) (by decide) (by decide) k) ?_
      refine Go.retB X18 hlk hx (t := .boolean) hret (by simp) (hb hby d1_24) e18 ?_ (by decide) (by decide)
      show (some (.int (1 : Int32)) : Option Value) = some (.int (wrV p1)) ∧ _
      exact ⟨by rw [cd16]; rfl, N1, K1⟩
    by_cases cd19 : p1 = (5 : Int32)
    · obtain ⟨cl20, Ar20, -, S20, -, H20, -⟩ := id vq1
      have hin20 : ¬ (p1 < 0 ∨ cl20.slots.size ≤ (p1).toNatClampNeg) := inb_of S20 ⟨by rw [cd19]; decide, by rw [cd19]; decide⟩
      have hat20 : cl20.slots[(p1).toNatClampNeg]? = some (.ref w_BLOCK_NUMBER) := H20.at hin20 (by rw [cd19]; rfl)
      refine Go.st (f' := (mkF m 13 #[iv p1, rv b1] [(.ref w_BLOCK_NUMBER)])) (fun _ k => X1.aaload hx (j := p1) (v := (.ref w_BLOCK_NUMBER)) Ar20.1 (State.isArrayOf_alike hZ.alike Ar20.2.1) rfl Ar20.2.2 hin20 hat20 (g := (mkF m 12 #[iv p1, rv b1] [(.int p1), (.ref b1)])) rfl rfl (hb hby d1_12) _ k) ?_
      obtain ⟨T21, X21, e21, st21⟩ := own_getR X1 hx hZ hown (hw _ (List.mem_of_getElem? (i := 28) rfl)) rfl (F_w_BLOCK_NUMBER_writable.ext O1.2) (g := (mkF m 13 #[iv p1, rv b1] [(.ref w_BLOCK_NUMBER)])) rfl rfl (hb hby d1_13)
      refine Go.st (f' := (mkF m 16 #[iv p1, rv b1] [(.int 0)])) (fun _ k => st21 _ k) ?_
      refine Go.st (f' := (mkF m 23 #[iv p1, rv b1] [])) (fun _ k => XS.ifYes X21.here hx rfl (pc0 := 16) (pc' := 23) rfl (hb hby d1_16) rfl (by decide) (by decide) (by decide) k) ?_
      refine Go.st (f' := (mkF m 24 #[iv p1, rv b1] [(.int 0)])) (fun _ k => XS.iconst X21.here hx rfl (hb hby d1_23) k) ?_
      refine Go.retB X21 hlk hx (t := .boolean) hret (by simp) (hb hby d1_24) e21 ?_ (by decide) (by decide)
      show (some (.int (0 : Int32)) : Option Value) = some (.int (wrV p1)) ∧ _
      exact ⟨by rw [cd19]; rfl, N1, K1⟩
    by_cases cd22 : p1 = (6 : Int32)
    · obtain ⟨cl23, Ar23, -, S23, -, H23, -⟩ := id vq1
      have hin23 : ¬ (p1 < 0 ∨ cl23.slots.size ≤ (p1).toNatClampNeg) := inb_of S23 ⟨by rw [cd22]; decide, by rw [cd22]; decide⟩
      have hat23 : cl23.slots[(p1).toNatClampNeg]? = some (.ref w_BLOCK_NAME) := H23.at hin23 (by rw [cd22]; rfl)
      refine Go.st (f' := (mkF m 13 #[iv p1, rv b1] [(.ref w_BLOCK_NAME)])) (fun _ k => X1.aaload hx (j := p1) (v := (.ref w_BLOCK_NAME)) Ar23.1 (State.isArrayOf_alike hZ.alike Ar23.2.1) rfl Ar23.2.2 hin23 hat23 (g := (mkF m 12 #[iv p1, rv b1] [(.int p1), (.ref b1)])) rfl rfl (hb hby d1_12) _ k) ?_
      obtain ⟨T24, X24, e24, st24⟩ := own_getR X1 hx hZ hown (hw _ (List.mem_of_getElem? (i := 28) rfl)) rfl (F_w_BLOCK_NAME_writable.ext O1.2) (g := (mkF m 13 #[iv p1, rv b1] [(.ref w_BLOCK_NAME)])) rfl rfl (hb hby d1_13)
      refine Go.st (f' := (mkF m 16 #[iv p1, rv b1] [(.int 1)])) (fun _ k => st24 _ k) ?_
      refine Go.st (f' := (mkF m 19 #[iv p1, rv b1] [])) (fun _ k => XS.ifNo X24.here hx rfl (hb hby d1_16) rfl (by decide) k) ?_
      refine Go.st (f' := (mkF m 20 #[iv p1, rv b1] [(.int 1)])) (fun _ k => XS.iconst X24.here hx rfl (hb hby d1_19) k) ?_
      refine Go.st (f' := (mkF m 24 #[iv p1, rv b1] [(.int 1)])) (fun _ k => XS.goto X24.here hx rfl (pc0 := 20) (pc' := 24) rfl (hb hby d1_20) (by decide) (by decide) k) ?_
      refine Go.retB X24 hlk hx (t := .boolean) hret (by simp) (hb hby d1_24) e24 ?_ (by decide) (by decide)
      show (some (.int (1 : Int32)) : Option Value) = some (.int (wrV p1)) ∧ _
      exact ⟨by rw [cd22]; rfl, N1, K1⟩
    by_cases cd25 : p1 = (7 : Int32)
    · obtain ⟨cl26, Ar26, -, S26, -, H26, -⟩ := id vq1
      have hin26 : ¬ (p1 < 0 ∨ cl26.slots.size ≤ (p1).toNatClampNeg) := inb_of S26 ⟨by rw [cd25]; decide, by rw [cd25]; decide⟩
      have hat26 : cl26.slots[(p1).toNatClampNeg]? = some (.ref w_STATEMENT_NUMBER) := H26.at hin26 (by rw [cd25]; rfl)
      refine Go.st (f' := (mkF m 13 #[iv p1, rv b1] [(.ref w_STATEMENT_NUMBER)])) (fun _ k => X1.aaload hx (j := p1) (v := (.ref w_STATEMENT_NUMBER)) Ar26.1 (State.isArrayOf_alike hZ.alike Ar26.2.1) rfl Ar26.2.2 hin26 hat26 (g := (mkF m 12 #[iv p1, rv b1] [(.int p1), (.ref b1)])) rfl rfl (hb hby d1_12) _ k) ?_
      obtain ⟨T27, X27, e27, st27⟩ := own_getR X1 hx hZ hown (hw _ (List.mem_of_getElem? (i := 28) rfl)) rfl (F_w_STATEMENT_NUMBER_writable.ext O1.2) (g := (mkF m 13 #[iv p1, rv b1] [(.ref w_STATEMENT_NUMBER)])) rfl rfl (hb hby d1_13)
      refine Go.st (f' := (mkF m 16 #[iv p1, rv b1] [(.int 0)])) (fun _ k => st27 _ k) ?_
      refine Go.st (f' := (mkF m 23 #[iv p1, rv b1] [])) (fun _ k => XS.ifYes X27.here hx rfl (pc0 := 16) (pc' := 23) rfl (hb hby d1_16) rfl (by decide) (by decide) (by decide) k) ?_
      refine Go.st (f' := (mkF m 24 #[iv p1, rv b1] [(.int 0)])) (fun _ k => XS.iconst X27.here hx rfl (hb hby d1_23) k) ?_
      refine Go.retB X27 hlk hx (t := .boolean) hret (by simp) (hb hby d1_24) e27 ?_ (by decide) (by decide)
      show (some (.int (0 : Int32)) : Option Value) = some (.int (wrV p1)) ∧ _
      exact ⟨by rw [cd25]; rfl, N1, K1⟩
    exact absurd cd3 (wr_no hp0 cd4 cd7 cd10 cd13 cd16 cd19 cd22 cd25)
  · refine Go.st (f' := (mkF m 19 #[iv p1, rv b1] [])) (fun _ k => XS.icmpYes X1.here hx rfl (pc0 := 7) (pc' := 19) rfl (hb hby d1_7) rfl (flt cd3).2.1 (by decide) (by decide) k) ?_
    refine Go.st (f' := (mkF m 20 #[iv p1, rv b1] [(.int 1)])) (fun _ k => XS.iconst X1.here hx rfl (hb hby d1_19) k) ?_
    refine Go.st (f' := (mkF m 24 #[iv p1, rv b1] [(.int 1)])) (fun _ k => XS.goto X1.here hx rfl (pc0 := 20) (pc' := 24) rfl (hb hby d1_20) (by decide) (by decide) k) ?_
    refine Go.retB X1 hlk hx (t := .boolean) hret (by simp) (hb hby d1_24) rfl ?_ (by decide) (by decide)
    show (some (.int (1 : Int32)) : Option Value) = some (.int (wrV p1)) ∧ _
    exact ⟨by rw [wr_far cd3], N1, K1⟩
theorem pn_com_example_hearsay_rules_hearsayrules_VariablesWritablePinLaw : plainName "com/example/hearsay_rules/hearsayrules/VariablesWritablePinLaw" = true := by first | (simp [plainName, overriddenIn]; done) | decide +kernel
theorem pd__I_Z : parseMethodDescriptor "(I)Z" = some ⟨[.int], some .boolean⟩ := by decide +kernel
set_option maxRecDepth 65536 in
set_option maxHeartbeats 40000000 in
theorem rm0 (l : Launch) (Z : State) (a0 : Array Value) (hw : ∀ d ∈ tables_1, d.before a0 Z = true) (ws : List Jvm.Cond) (p1 : Int32) (p2 : Int32) (w__VALUES : Addr) (w_ASSERTION : Addr) (w_REGEXP_ARRAY : Addr) (w_REGEXP_MAP : Addr) (w_RULE_NUMBER : Addr) (w_RULE_NAME : Addr) (w_BLOCK_NUMBER : Addr) (w_BLOCK_NAME : Addr) (w_STATEMENT_NUMBER : Addr) (k__VALUES : ClassId) (h0 : Heap) (n0 : Nat) (O0 : Old Z n0 h0) (WW : World1 Z w__VALUES w_ASSERTION w_REGEXP_ARRAY w_REGEXP_MAP w_RULE_NUMBER w_RULE_NAME w_BLOCK_NUMBER w_BLOCK_NAME w_STATEMENT_NUMBER k__VALUES) :
    MetFree l x (head1 (Jvm.Cond.code x code maxLocals ret :: ws) room_1) (fun a U => a = #[(.int p1), (.int p2)] ∧ Z.Warmed39 U.vm ∧ U.heap = h0) (fun _ _ _ _ _ => True) (fun _ U o U' => ∃ v L, o = .returned v ∧ (fun v h L => v = some (.int (1 : Int32)) ∧ Fr n0 L) v U'.heap L ∧ FrameEnd U o U' L 16 128) := by
  refine MetFree.of_bodySF (plainFor_of_name pn_com_example_hearsay_rules_hearsayrules_VariablesWritablePinLaw) hisR ?_
  intro p e s m args below meth c s₁ Bd hml0 hP hK
  obtain ⟨rfl, hZ, hh⟩ := hP
  have hx := Bd.exec
  have hby := Bd.bytes
  have hml : c.maxLocals = 4 := hml0
  have hlk := Bd.notSynchronized
  have hret := Bd.returns
  have hown : s.vm.findClass "com/example/hearsay_rules/hearsayrules/VariablesWritablePinLaw" = some m.cls := findClass_of_methodNamed Bd.named
  have hnm := (name_of_methodNamed Bd.named Bd.method).1
  have X0 : Stand p l e room_1 s m #[(.int p1), (.int p2)] below meth c s₁ [] 0 0 := Stand.of_body Bd
  have e0 : s₁.heap = h0 := by rw [← hh, Bd.state]; rfl
  show Go p e below (Done s (fun v h L => v = some (.int (1 : Int32)) ∧ Fr n0 L) 16 128) s₁ _
  have N0 := Fr.nil n0
  refine Go.st (T' := s₁) (f' := (mkF m 0 #[iv p1, iv p2, .unset, .unset] [])) (fun _ k => castTop (by first | (simp [entryFrame, mkF, argsToLocals, Value.category, maxLocals]; done) | rfl) k) ?_
  have ⟨S_w__VALUES, E_w__VALUES, S_w_ASSERTION, E_w_ASSERTION, S_w_REGEXP_ARRAY, E_w_REGEXP_ARRAY, S_w_REGEXP_MAP, E_w_REGEXP_MAP, S_w_RULE_NUMBER, E_w_RULE_NUMBER, S_w_RULE_NAME, E_w_RULE_NAME, S_w_BLOCK_NUMBER, E_w_BLOCK_NUMBER, S_w_BLOCK_NAME, E_w_BLOCK_NAME, S_w_STATEMENT_NUMBER, E_w_STATEMENT_NUMBER, F_w_ASSERTION_writable, F_w_BLOCK_NAME_writable, F_w_RULE_NUMBER_writable, F_w_REGEXP_ARRAY_writable, F_w_REGEXP_MAP_writable, F_w_BLOCK_NUMBER_writable, F_w_RULE_NAME_writable, F_w_STATEMENT_NUMBER_writable, V_w__VALUES⟩ := WW
  have lt_w__VALUES := E_w__VALUES.lt
  have lt_w_ASSERTION := E_w_ASSERTION.lt
  have lt_w_REGEXP_ARRAY := E_w_REGEXP_ARRAY.lt
  have lt_w_REGEXP_MAP := E_w_REGEXP_MAP.lt
  have lt_w_RULE_NUMBER := E_w_RULE_NUMBER.lt
  have lt_w_RULE_NAME := E_w_RULE_NAME.lt
  have lt_w_BLOCK_NUMBER := E_w_BLOCK_NUMBER.lt
  have lt_w_BLOCK_NAME := E_w_BLOCK_NAME.lt
  have lt_w_STATEMENT_NUMBER := E_w_STATEMENT_NUMBER.lt
  refine Go.st (f' := (mkF m 1 #[iv p1, iv p2, .unset, .unset] [(.int p2)])) (fun _ k => XS.iloadN X0.here hx rfl (hb hby at_0) rfl k) ?_
  refine Go.st (f' := (mkF m 2 #[iv p1, iv p2, .unset, .unset] [(.int 1), (.int p2)])) (fun _ k => XS.iconst X0.here hx rfl (hb hby at_1) k) ?_
  refine Go.st (f' := (mkF m 3 #[iv p1, iv p2, .unset, .unset] [(.int (p2 &&& (1 : Int32)))])) (fun _ k => XS.iand X0.here hx rfl (hb hby at_2) rfl k) ?_
  by_cases cd1 : (p2 &&& (1 : Int32)) = (0 : Int32)
  · refine Go.st (f' := (mkF m 14 #[iv p1, iv p2, .unset, .unset] [])) (fun _ k => XS.ifYes X0.here hx rfl (pc0 := 3) (pc' := 14) rfl (hb hby at_3) rfl ((if0 _ _).trans (teq cd1).1) (by decide) (by decide) k) ?_
    refine Go.st (f' := (mkF m 15 #[iv p1, iv p2, .unset, .unset] [(.int p1)])) (fun _ k => XS.iloadN X0.here hx rfl (hb hby at_14) rfl k) ?_
    refine Go.st (f' := (mkF m 17 #[iv p1, iv p2, .unset, .unset] [(.int 2147483647), (.int p1)])) (fun _ k => X0.ldcInt hx hown (mvT hZ (hw _ (List.mem_of_getElem? (i := 30) rfl))) (g := (mkF m 15 #[iv p1, iv p2, .unset, .unset] [(.int p1)])) rfl (hb hby at_15) _ k) ?_
    refine Go.st (f' := (mkF m 18 #[iv p1, iv p2, .unset, .unset] [(.int (p1 &&& (2147483647 : Int32)))])) (fun _ k => XS.iand X0.here hx rfl (hb hby at_17) rfl k) ?_
    refine Go.st (f' := (mkF m 19 #[iv p1, iv p2, .val (.int (p1 &&& (2147483647 : Int32))), .unset] [])) (fun _ k => XS.istoreN X0.here hx rfl (hb hby at_18) rfl (l' := #[iv p1, iv p2, .val (.int (p1 &&& (2147483647 : Int32))), .unset]) rfl k) ?_
    refine Go.st (f' := (mkF m 20 #[iv p1, iv p2, .val (.int (p1 &&& (2147483647 : Int32))), .unset] [(.int (p1 &&& (2147483647 : Int32)))])) (fun _ k => XS.iloadN X0.here hx rfl (hb hby at_19) rfl k) ?_
    refine Go.st (f' := (mkF m 21 #[iv p1, iv p2, .val (.int (p1 &&& (2147483647 : Int32))), .unset] [(.int 3), (.int (p1 &&& (2147483647 : Int32)))])) (fun _ k => XS.iconst X0.here hx rfl (hb hby at_20) k) ?_
    by_cases cd2 : (p1 &&& (2147483647 : Int32)) = (3 : Int32)
    · refine Go.st (f' := (mkF m 39 #[iv p1, iv p2, .val (.int (p1 &&& (2147483647 : Int32))), .unset] [])) (fun _ k => XS.icmpYes X0.here hx rfl (pc0 := 21) (pc' := 39) rfl (hb hby at_21) rfl (teq cd2).1 (by decide) (by decide) k) ?_
      refine Go.st (f' := (mkF m 40 #[iv p1, iv p2, .val (.int (p1 &&& (2147483647 : Int32))), .unset] [(.int 0)])) (fun _ k => XS.iconst X0.here hx rfl (hb hby at_39) k) ?_
      refine Go.st (f' := (mkF m 41 #[iv p1, iv p2, .val (.int (p1 &&& (2147483647 : Int32))), iv 0] [])) (fun _ k => XS.istoreN X0.here hx rfl (hb hby at_40) rfl (l' := #[iv p1, iv p2, .val (.int (p1 &&& (2147483647 : Int32))), iv 0]) rfl k) ?_
      refine Go.st (f' := (mkF m 42 #[iv p1, iv p2, .val (.int (p1 &&& (2147483647 : Int32))), iv 0] [(.int (p1 &&& (2147483647 : Int32)))])) (fun _ k => XS.iloadN X0.here hx rfl (hb hby at_41) rfl k) ?_
      obtain ⟨_, _, ⟨T3, L3, kk3, nn3⟩, -, X3, ⟨Lc3, hQ3, lq3, yq3, zz3⟩, st3⟩ := Jvm.LawKit.callS X0 hx (y := (⟨"com/example/hearsay_rules/hearsayrules/Variables", "writable", "(I)Z"⟩ : MethodName)) hown (mvT hZ (hw _ (List.mem_of_getElem? (i := 0) rfl))) (mvT hZ (hw _ (List.mem_of_getElem? (i := 1) rfl))) (mvT hZ (hw _ (List.mem_of_getElem? (i := 2) rfl))) (mvT hZ (hw _ (List.mem_of_getElem? (i := 3) rfl))) (by decide) (own_back (W := 0) (rmC l Z a0 hw [] (p1 &&& (2147483647 : Int32)) w__VALUES w_ASSERTION w_REGEXP_ARRAY w_REGEXP_MAP w_RULE_NUMBER w_RULE_NAME w_BLOCK_NUMBER w_BLOCK_NAME w_STATEMENT_NUMBER k__VALUES h0 n0 O0 (wr_pos _ _ (by decide)) WW) hZ (hw _ (List.mem_of_getElem? (i := 3) rfl)) (hw _ (List.mem_of_getElem? (i := 2) rfl)) (by decide) (by decide)) (g := (mkF m 42 #[iv p1, iv p2, .val (.int (p1 &&& (2147483647 : Int32))), iv 0] [(.int (p1 &&& (2147483647 : Int32)))])) rfl (by rw [hml]; rfl) (argsL := [(.int (p1 &&& (2147483647 : Int32)))]) (rest := []) (lenOf pd__I_Z rfl) rfl (by show 2 * 0 + _ ≤ _; exact Nat.le_of_eq rfl) (hb hby at_42) (fun _ _ => ⟨rfl, e0, (by decide : 0 + 1 ≤ _), (by decide : 0 + 8 ≤ _)⟩)
      dsimp only [Pt.U, Pt.locs, Pt.cells, Pt.slots] at X3 lq3 yq3 zz3 st3 hQ3
      subst lq3 yq3 zz3
      obtain ⟨rfl, Nq3, kq3⟩ := hQ3
      have N3 := Fr.app N0 Nq3
      have O3 : Old Z n0 T3.heap := O0.keep kq3 all0
      refine Go.st (f' := (mkF m 45 #[iv p1, iv p2, .val (.int (p1 &&& (2147483647 : Int32))), iv 0] [(.int (wrV (p1 &&& (2147483647 : Int32))))])) (fun _ k => st3 _ k) ?_
      refine Go.st (f' := (mkF m 46 #[iv p1, iv p2, .val (.int (p1 &&& (2147483647 : Int32))), iv 0] [(.int 0), (.int (wrV (p1 &&& (2147483647 : Int32))))])) (fun _ k => XS.iloadN X3.here hx rfl (hb hby at_45) rfl k) ?_
      refine Go.st (f' := (mkF m 49 #[iv p1, iv p2, .val (.int (p1 &&& (2147483647 : Int32))), iv 0] [])) (fun _ k => XS.icmpNo X3.here hx rfl (hb hby at_46) rfl (teq (by rw [wrV, if_pos cd2] : (wrV (p1 &&& (2147483647 : Int32))) = (0 : Int32))).2 k) ?_
      refine Go.st (f' := (mkF m 50 #[iv p1, iv p2, .val (.int (p1 &&& (2147483647 : Int32))), iv 0] [(.int 1)])) (fun _ k => XS.iconst X3.here hx rfl (hb hby at_49) k) ?_
      refine Go.st (f' := (mkF m 54 #[iv p1, iv p2, .val (.int (p1 &&& (2147483647 : Int32))), iv 0] [(.int 1)])) (fun _ k => XS.goto X3.here hx rfl (pc0 := 50) (pc' := 54) rfl (hb hby at_50) (by decide) (by decide) k) ?_
      refine Go.retB X3 hlk hx (t := .boolean) hret (by simp) (hb hby at_54) rfl ?_ (by decide) (by decide)
      exact ⟨rfl, N3⟩
    · refine Go.st (f' := (mkF m 24 #[iv p1, iv p2, .val (.int (p1 &&& (2147483647 : Int32))), .unset] [])) (fun _ k => XS.icmpNo X0.here hx rfl (hb hby at_21) rfl (feq cd2).1 k) ?_
      refine Go.st (f' := (mkF m 25 #[iv p1, iv p2, .val (.int (p1 &&& (2147483647 : Int32))), .unset] [(.int (p1 &&& (2147483647 : Int32)))])) (fun _ k => XS.iloadN X0.here hx rfl (hb hby at_24) rfl k) ?_
      refine Go.st (f' := (mkF m 26 #[iv p1, iv p2, .val (.int (p1 &&& (2147483647 : Int32))), .unset] [(.int 5), (.int (p1 &&& (2147483647 : Int32)))])) (fun _ k => XS.iconst X0.here hx rfl (hb hby at_25) k) ?_
      by_cases cd4 : (p1 &&& (2147483647 : Int32)) = (5 : Int32)
      · refine Go.st (f' := (mkF m 39 #[iv p1, iv p2, .val (.int (p1 &&& (2147483647 : Int32))), .unset] [])) (fun _ k => XS.icmpYes X0.here hx rfl (pc0 := 26) (pc' := 39) rfl (hb hby at_26) rfl (teq cd4).1 (by decide) (by decide) k) ?_
        refine Go.st (f' := (mkF m 40 #[iv p1, iv p2, .val (.int (p1 &&& (2147483647 : Int32))), .unset] [(.int 0)])) (fun _ k => XS.iconst X0.here hx rfl (hb hby at_39) k) ?_
        refine Go.st (f' := (mkF m 41 #[iv p1, iv p2, .val (.int (p1 &&& (2147483647 : Int32))), iv 0] [])) (fun _ k => XS.istoreN X0.here hx rfl (hb hby at_40) rfl (l' := #[iv p1, iv p2, .val (.int (p1 &&& (2147483647 : Int32))), iv 0]) rfl k) ?_
        refine Go.st (f' := (mkF m 42 #[iv p1, iv p2, .val (.int (p1 &&& (2147483647 : Int32))), iv 0] [(.int (p1 &&& (2147483647 : Int32)))])) (fun _ k => XS.iloadN X0.here hx rfl (hb hby at_41) rfl k) ?_
        obtain ⟨_, _, ⟨T5, L5, kk5, nn5⟩, -, X5, ⟨Lc5, hQ5, lq5, yq5, zz5⟩, st5⟩ := Jvm.LawKit.callS X0 hx (y := (⟨"com/example/hearsay_rules/hearsayrules/Variables", "writable", "(I)Z"⟩ : MethodName)) hown (mvT hZ (hw _ (List.mem_of_getElem? (i := 0) rfl))) (mvT hZ (hw _ (List.mem_of_getElem? (i := 1) rfl))) (mvT hZ (hw _ (List.mem_of_getElem? (i := 2) rfl))) (mvT hZ (hw _ (List.mem_of_getElem? (i := 3) rfl))) (by decide) (own_back (W := 0) (rmC l Z a0 hw [] (p1 &&& (2147483647 : Int32)) w__VALUES w_ASSERTION w_REGEXP_ARRAY w_REGEXP_MAP w_RULE_NUMBER w_RULE_NAME w_BLOCK_NUMBER w_BLOCK_NAME w_STATEMENT_NUMBER k__VALUES h0 n0 O0 (wr_pos _ _ (by decide)) WW) hZ (hw _ (List.mem_of_getElem? (i := 3) rfl)) (hw _ (List.mem_of_getElem? (i := 2) rfl)) (by decide) (by decide)) (g := (mkF m 42 #[iv p1, iv p2, .val (.int (p1 &&& (2147483647 : Int32))), iv 0] [(.int (p1 &&& (2147483647 : Int32)))])) rfl (by rw [hml]; rfl) (argsL := [(.int (p1 &&& (2147483647 : Int32)))]) (rest := []) (lenOf pd__I_Z rfl) rfl (by show 2 * 0 + _ ≤ _; exact Nat.le_of_eq rfl) (hb hby at_42) (fun _ _ => ⟨rfl, e0, (by decide : 0 + 1 ≤ _), (by decide : 0 + 8 ≤ _)⟩)
        dsimp only [Pt.U, Pt.locs, Pt.cells, Pt.slots] at X5 lq5 yq5 zz5 st5 hQ5
        subst lq5 yq5 zz5
        obtain ⟨rfl, Nq5, kq5⟩ := hQ5
        have N5 := Fr.app N0 Nq5
        have O5 : Old Z n0 T5.heap := O0.keep kq5 all0
        refine Go.st (f' := (mkF m 45 #[iv p1, iv p2, .val (.int (p1 &&& (2147483647 : Int32))), iv 0] [(.int (wrV (p1 &&& (2147483647 : Int32))))])) (fun _ k => st5 _ k) ?_
        refine Go.st (f' := (mkF m 46 #[iv p1, iv p2, .val (.int (p1 &&& (2147483647 : Int32))), iv 0] [(.int 0), (.int (wrV (p1 &&& (2147483647 : Int32))))])) (fun _ k => XS.iloadN X5.here hx rfl (hb hby at_45) rfl k) ?_
        refine Go.st (f' := (mkF m 49 #[iv p1, iv p2, .val (.int (p1 &&& (2147483647 : Int32))), iv 0] [])) (fun _ k => XS.icmpNo X5.here hx rfl (hb hby at_46) rfl (teq (by rw [wrV, if_neg cd2, if_pos cd4] : (wrV (p1 &&& (2147483647 : Int32))) = (0 : Int32))).2 k) ?_
        refine Go.st (f' := (mkF m 50 #[iv p1, iv p2, .val (.int (p1 &&& (2147483647 : Int32))), iv 0] [(.int 1)])) (fun _ k => XS.iconst X5.here hx rfl (hb hby at_49) k) ?_
        refine Go.st (f' := (mkF m 54 #[iv p1, iv p2, .val (.int (p1 &&& (2147483647 : Int32))), iv 0] [(.int 1)])) (fun _ k => XS.goto X5.here hx rfl (pc0 := 50) (pc' := 54) rfl (hb hby at_50) (by decide) (by decide) k) ?_
        refine Go.retB X5 hlk hx (t := .boolean) hret (by simp) (hb hby at_54) rfl ?_ (by decide) (by decide)
        exact ⟨rfl, N5⟩
      · refine Go.st (f' := (mkF m 29 #[iv p1, iv p2, .val (.int (p1 &&& (2147483647 : Int32))), .unset] [])) (fun _ k => XS.icmpNo X0.here hx rfl (hb hby at_26) rfl (feq cd4).1 k) ?_
        refine Go.st (f' := (mkF m 30 #[iv p1, iv p2, .val (.int (p1 &&& (2147483647 : Int32))), .unset] [(.int (p1 &&& (2147483647 : Int32)))])) (fun _ k => XS.iloadN X0.here hx rfl (hb hby at_29) rfl k) ?_
        refine Go.st (f' := (mkF m 32 #[iv p1, iv p2, .val (.int (p1 &&& (2147483647 : Int32))), .unset] [(.int 7), (.int (p1 &&& (2147483647 : Int32)))])) (fun _ k => XS.bipush X0.here hx rfl (hb hby at_30) k) ?_
        by_cases cd6 : (p1 &&& (2147483647 : Int32)) = (7 : Int32)
        · refine Go.st (f' := (mkF m 39 #[iv p1, iv p2, .val (.int (p1 &&& (2147483647 : Int32))), .unset] [])) (fun _ k => XS.icmpYes X0.here hx rfl (pc0 := 32) (pc' := 39) rfl (hb hby at_32) rfl (teq cd6).1 (by decide) (by decide) k) ?_
          refine Go.st (f' := (mkF m 40 #[iv p1, iv p2, .val (.int (p1 &&& (2147483647 : Int32))), .unset] [(.int 0)])) (fun _ k => XS.iconst X0.here hx rfl (hb hby at_39) k) ?_
          refine Go.st (f' := (mkF m 41 #[iv p1, iv p2, .val (.int (p1 &&& (2147483647 : Int32))), iv 0] [])) (fun _ k => XS.istoreN X0.here hx rfl (hb hby at_40) rfl (l' := #[iv p1, iv p2, .val (.int (p1 &&& (2147483647 : Int32))), iv 0]) rfl k) ?_
          refine Go.st (f' := (mkF m 42 #[iv p1, iv p2, .val (.int (p1 &&& (2147483647 : Int32))), iv 0] [(.int (p1 &&& (2147483647 : Int32)))])) (fun _ k => XS.iloadN X0.here hx rfl (hb hby at_41) rfl k) ?_
          obtain ⟨_, _, ⟨T7, L7, kk7, nn7⟩, -, X7, ⟨Lc7, hQ7, lq7, yq7, zz7⟩, st7⟩ := Jvm.LawKit.callS X0 hx (y := (⟨"com/example/hearsay_rules/hearsayrules/Variables", "writable", "(I)Z"⟩ : MethodName)) hown (mvT hZ (hw _ (List.mem_of_getElem? (i := 0) rfl))) (mvT hZ (hw _ (List.mem_of_getElem? (i := 1) rfl))) (mvT hZ (hw _ (List.mem_of_getElem? (i := 2) rfl))) (mvT hZ (hw _ (List.mem_of_getElem? (i := 3) rfl))) (by decide) (own_back (W := 0) (rmC l Z a0 hw [] (p1 &&& (2147483647 : Int32)) w__VALUES w_ASSERTION w_REGEXP_ARRAY w_REGEXP_MAP w_RULE_NUMBER w_RULE_NAME w_BLOCK_NUMBER w_BLOCK_NAME w_STATEMENT_NUMBER k__VALUES h0 n0 O0 (wr_pos _ _ (by decide)) WW) hZ (hw _ (List.mem_of_getElem? (i := 3) rfl)) (hw _ (List.mem_of_getElem? (i := 2) rfl)) (by decide) (by decide)) (g := (mkF m 42 #[iv p1, iv p2, .val (.int (p1 &&& (2147483647 : Int32))), iv 0] [(.int (p1 &&& (2147483647 : Int32)))])) rfl (by rw [hml]; rfl) (argsL := [(.int (p1 &&& (2147483647 : Int32)))]) (rest := []) (lenOf pd__I_Z rfl) rfl (by show 2 * 0 + _ ≤ _; exact Nat.le_of_eq rfl) (hb hby at_42) (fun _ _ => ⟨rfl, e0, (by decide : 0 + 1 ≤ _), (by decide : 0 + 8 ≤ _)⟩)
          dsimp only [Pt.U, Pt.locs, Pt.cells, Pt.slots] at X7 lq7 yq7 zz7 st7 hQ7
          subst lq7 yq7 zz7
          obtain ⟨rfl, Nq7, kq7⟩ := hQ7
          have N7 := Fr.app N0 Nq7
          have O7 : Old Z n0 T7.heap := O0.keep kq7 all0
          refine Go.st (f' := (mkF m 45 #[iv p1, iv p2, .val (.int (p1 &&& (2147483647 : Int32))), iv 0] [(.int (wrV (p1 &&& (2147483647 : Int32))))])) (fun _ k => st7 _ k) ?_
          refine Go.st (f' := (mkF m 46 #[iv p1, iv p2, .val (.int (p1 &&& (2147483647 : Int32))), iv 0] [(.int 0), (.int (wrV (p1 &&& (2147483647 : Int32))))])) (fun _ k => XS.iloadN X7.here hx rfl (hb hby at_45) rfl k) ?_
          refine Go.st (f' := (mkF m 49 #[iv p1, iv p2, .val (.int (p1 &&& (2147483647 : Int32))), iv 0] [])) (fun _ k => XS.icmpNo X7.here hx rfl (hb hby at_46) rfl (teq (by rw [wrV, if_neg cd2, if_neg cd4, if_pos cd6] : (wrV (p1 &&& (2147483647 : Int32))) = (0 : Int32))).2 k) ?_
          refine Go.st (f' := (mkF m 50 #[iv p1, iv p2, .val (.int (p1 &&& (2147483647 : Int32))), iv 0] [(.int 1)])) (fun _ k => XS.iconst X7.here hx rfl (hb hby at_49) k) ?_
          refine Go.st (f' := (mkF m 54 #[iv p1, iv p2, .val (.int (p1 &&& (2147483647 : Int32))), iv 0] [(.int 1)])) (fun _ k => XS.goto X7.here hx rfl (pc0 := 50) (pc' := 54) rfl (hb hby at_50) (by decide) (by decide) k) ?_
          refine Go.retB X7 hlk hx (t := .boolean) hret (by simp) (hb hby at_54) rfl ?_ (by decide) (by decide)
          exact ⟨rfl, N7⟩
        · refine Go.st (f' := (mkF m 35 #[iv p1, iv p2, .val (.int (p1 &&& (2147483647 : Int32))), .unset] [])) (fun _ k => XS.icmpNo X0.here hx rfl (hb hby at_32) rfl (feq cd6).1 k) ?_
          refine Go.st (f' := (mkF m 36 #[iv p1, iv p2, .val (.int (p1 &&& (2147483647 : Int32))), .unset] [(.int 1)])) (fun _ k => XS.iconst X0.here hx rfl (hb hby at_35) k) ?_
          refine Go.st (f' := (mkF m 40 #[iv p1, iv p2, .val (.int (p1 &&& (2147483647 : Int32))), .unset] [(.int 1)])) (fun _ k => XS.goto X0.here hx rfl (pc0 := 36) (pc' := 40) rfl (hb hby at_36) (by decide) (by decide) k) ?_
          refine Go.st (f' := (mkF m 41 #[iv p1, iv p2, .val (.int (p1 &&& (2147483647 : Int32))), iv 1] [])) (fun _ k => XS.istoreN X0.here hx rfl (hb hby at_40) rfl (l' := #[iv p1, iv p2, .val (.int (p1 &&& (2147483647 : Int32))), iv 1]) rfl k) ?_
          refine Go.st (f' := (mkF m 42 #[iv p1, iv p2, .val (.int (p1 &&& (2147483647 : Int32))), iv 1] [(.int (p1 &&& (2147483647 : Int32)))])) (fun _ k => XS.iloadN X0.here hx rfl (hb hby at_41) rfl k) ?_
          obtain ⟨_, _, ⟨T8, L8, kk8, nn8⟩, -, X8, ⟨Lc8, hQ8, lq8, yq8, zz8⟩, st8⟩ := Jvm.LawKit.callS X0 hx (y := (⟨"com/example/hearsay_rules/hearsayrules/Variables", "writable", "(I)Z"⟩ : MethodName)) hown (mvT hZ (hw _ (List.mem_of_getElem? (i := 0) rfl))) (mvT hZ (hw _ (List.mem_of_getElem? (i := 1) rfl))) (mvT hZ (hw _ (List.mem_of_getElem? (i := 2) rfl))) (mvT hZ (hw _ (List.mem_of_getElem? (i := 3) rfl))) (by decide) (own_back (W := 0) (rmC l Z a0 hw [] (p1 &&& (2147483647 : Int32)) w__VALUES w_ASSERTION w_REGEXP_ARRAY w_REGEXP_MAP w_RULE_NUMBER w_RULE_NAME w_BLOCK_NUMBER w_BLOCK_NAME w_STATEMENT_NUMBER k__VALUES h0 n0 O0 (wr_pos _ _ (by decide)) WW) hZ (hw _ (List.mem_of_getElem? (i := 3) rfl)) (hw _ (List.mem_of_getElem? (i := 2) rfl)) (by decide) (by decide)) (g := (mkF m 42 #[iv p1, iv p2, .val (.int (p1 &&& (2147483647 : Int32))), iv 1] [(.int (p1 &&& (2147483647 : Int32)))])) rfl (by rw [hml]; rfl) (argsL := [(.int (p1 &&& (2147483647 : Int32)))]) (rest := []) (lenOf pd__I_Z rfl) rfl (by show 2 * 0 + _ ≤ _; exact Nat.le_of_eq rfl) (hb hby at_42) (fun _ _ => ⟨rfl, e0, (by decide : 0 + 1 ≤ _), (by decide : 0 + 8 ≤ _)⟩)
          dsimp only [Pt.U, Pt.locs, Pt.cells, Pt.slots] at X8 lq8 yq8 zz8 st8 hQ8
          subst lq8 yq8 zz8
          obtain ⟨rfl, Nq8, kq8⟩ := hQ8
          have N8 := Fr.app N0 Nq8
          have O8 : Old Z n0 T8.heap := O0.keep kq8 all0
          refine Go.st (f' := (mkF m 45 #[iv p1, iv p2, .val (.int (p1 &&& (2147483647 : Int32))), iv 1] [(.int (wrV (p1 &&& (2147483647 : Int32))))])) (fun _ k => st8 _ k) ?_
          refine Go.st (f' := (mkF m 46 #[iv p1, iv p2, .val (.int (p1 &&& (2147483647 : Int32))), iv 1] [(.int 1), (.int (wrV (p1 &&& (2147483647 : Int32))))])) (fun _ k => XS.iloadN X8.here hx rfl (hb hby at_45) rfl k) ?_
          refine Go.st (f' := (mkF m 49 #[iv p1, iv p2, .val (.int (p1 &&& (2147483647 : Int32))), iv 1] [])) (fun _ k => XS.icmpNo X8.here hx rfl (hb hby at_46) rfl (teq (by rw [wrV, if_neg cd2, if_neg cd4, if_neg cd6] : (wrV (p1 &&& (2147483647 : Int32))) = (1 : Int32))).2 k) ?_
          refine Go.st (f' := (mkF m 50 #[iv p1, iv p2, .val (.int (p1 &&& (2147483647 : Int32))), iv 1] [(.int 1)])) (fun _ k => XS.iconst X8.here hx rfl (hb hby at_49) k) ?_
          refine Go.st (f' := (mkF m 54 #[iv p1, iv p2, .val (.int (p1 &&& (2147483647 : Int32))), iv 1] [(.int 1)])) (fun _ k => XS.goto X8.here hx rfl (pc0 := 50) (pc' := 54) rfl (hb hby at_50) (by decide) (by decide) k) ?_
          refine Go.retB X8 hlk hx (t := .boolean) hret (by simp) (hb hby at_54) rfl ?_ (by decide) (by decide)
          exact ⟨rfl, N8⟩
  · refine Go.st (f' := (mkF m 6 #[iv p1, iv p2, .unset, .unset] [])) (fun _ k => XS.ifNo X0.here hx rfl (hb hby at_3) rfl ((if0 _ _).trans (feq cd1).1) k) ?_
    refine Go.st (f' := (mkF m 7 #[iv p1, iv p2, .unset, .unset] [(.int p1)])) (fun _ k => XS.iloadN X0.here hx rfl (hb hby at_6) rfl k) ?_
    refine Go.st (f' := (mkF m 9 #[iv p1, iv p2, .unset, .unset] [(.int 15), (.int p1)])) (fun _ k => XS.bipush X0.here hx rfl (hb hby at_7) k) ?_
    refine Go.st (f' := (mkF m 10 #[iv p1, iv p2, .unset, .unset] [(.int (p1 &&& (15 : Int32)))])) (fun _ k => XS.iand X0.here hx rfl (hb hby at_9) rfl k) ?_
    refine Go.st (f' := (mkF m 11 #[iv p1, iv p2, .val (.int (p1 &&& (15 : Int32))), .unset] [])) (fun _ k => XS.istoreN X0.here hx rfl (hb hby at_10) rfl (l' := #[iv p1, iv p2, .val (.int (p1 &&& (15 : Int32))), .unset]) rfl k) ?_
    refine Go.st (f' := (mkF m 19 #[iv p1, iv p2, .val (.int (p1 &&& (15 : Int32))), .unset] [])) (fun _ k => XS.goto X0.here hx rfl (pc0 := 11) (pc' := 19) rfl (hb hby at_11) (by decide) (by decide) k) ?_
    refine Go.st (f' := (mkF m 20 #[iv p1, iv p2, .val (.int (p1 &&& (15 : Int32))), .unset] [(.int (p1 &&& (15 : Int32)))])) (fun _ k => XS.iloadN X0.here hx rfl (hb hby at_19) rfl k) ?_
    refine Go.st (f' := (mkF m 21 #[iv p1, iv p2, .val (.int (p1 &&& (15 : Int32))), .unset] [(.int 3), (.int (p1 &&& (15 : Int32)))])) (fun _ k => XS.iconst X0.here hx rfl (hb hby at_20) k) ?_
    by_cases cd9 : (p1 &&& (15 : Int32)) = (3 : Int32)
    · refine Go.st (f' := (mkF m 39 #[iv p1, iv p2, .val (.int (p1 &&& (15 : Int32))), .unset] [])) (fun _ k => XS.icmpYes X0.here hx rfl (pc0 := 21) (pc' := 39) rfl (hb hby at_21) rfl (teq cd9).1 (by decide) (by decide) k) ?_
      refine Go.st (f' := (mkF m 40 #[iv p1, iv p2, .val (.int (p1 &&& (15 : Int32))), .unset] [(.int 0)])) (fun _ k => XS.iconst X0.here hx rfl (hb hby at_39) k) ?_
      refine Go.st (f' := (mkF m 41 #[iv p1, iv p2, .val (.int (p1 &&& (15 : Int32))), iv 0] [])) (fun _ k => XS.istoreN X0.here hx rfl (hb hby at_40) rfl (l' := #[iv p1, iv p2, .val (.int (p1 &&& (15 : Int32))), iv 0]) rfl k) ?_
      refine Go.st (f' := (mkF m 42 #[iv p1, iv p2, .val (.int (p1 &&& (15 : Int32))), iv 0] [(.int (p1 &&& (15 : Int32)))])) (fun _ k => XS.iloadN X0.here hx rfl (hb hby at_41) rfl k) ?_
      obtain ⟨_, _, ⟨T10, L10, kk10, nn10⟩, -, X10, ⟨Lc10, hQ10, lq10, yq10, zz10⟩, st10⟩ := Jvm.LawKit.callS X0 hx (y := (⟨"com/example/hearsay_rules/hearsayrules/Variables", "writable", "(I)Z"⟩ : MethodName)) hown (mvT hZ (hw _ (List.mem_of_getElem? (i := 0) rfl))) (mvT hZ (hw _ (List.mem_of_getElem? (i := 1) rfl))) (mvT hZ (hw _ (List.mem_of_getElem? (i := 2) rfl))) (mvT hZ (hw _ (List.mem_of_getElem? (i := 3) rfl))) (by decide) (own_back (W := 0) (rmC l Z a0 hw [] (p1 &&& (15 : Int32)) w__VALUES w_ASSERTION w_REGEXP_ARRAY w_REGEXP_MAP w_RULE_NUMBER w_RULE_NAME w_BLOCK_NUMBER w_BLOCK_NAME w_STATEMENT_NUMBER k__VALUES h0 n0 O0 (wr_pos _ _ (by decide)) WW) hZ (hw _ (List.mem_of_getElem? (i := 3) rfl)) (hw _ (List.mem_of_getElem? (i := 2) rfl)) (by decide) (by decide)) (g := (mkF m 42 #[iv p1, iv p2, .val (.int (p1 &&& (15 : Int32))), iv 0] [(.int (p1 &&& (15 : Int32)))])) rfl (by rw [hml]; rfl) (argsL := [(.int (p1 &&& (15 : Int32)))]) (rest := []) (lenOf pd__I_Z rfl) rfl (by show 2 * 0 + _ ≤ _; exact Nat.le_of_eq rfl) (hb hby at_42) (fun _ _ => ⟨rfl, e0, (by decide : 0 + 1 ≤ _), (by decide : 0 + 8 ≤ _)⟩)
      dsimp only [Pt.U, Pt.locs, Pt.cells, Pt.slots] at X10 lq10 yq10 zz10 st10 hQ10
      subst lq10 yq10 zz10
      obtain ⟨rfl, Nq10, kq10⟩ := hQ10
      have N10 := Fr.app N0 Nq10
      have O10 : Old Z n0 T10.heap := O0.keep kq10 all0
      refine Go.st (f' := (mkF m 45 #[iv p1, iv p2, .val (.int (p1 &&& (15 : Int32))), iv 0] [(.int (wrV (p1 &&& (15 : Int32))))])) (fun _ k => st10 _ k) ?_
      refine Go.st (f' := (mkF m 46 #[iv p1, iv p2, .val (.int (p1 &&& (15 : Int32))), iv 0] [(.int 0), (.int (wrV (p1 &&& (15 : Int32))))])) (fun _ k => XS.iloadN X10.here hx rfl (hb hby at_45) rfl k) ?_
      refine Go.st (f' := (mkF m 49 #[iv p1, iv p2, .val (.int (p1 &&& (15 : Int32))), iv 0] [])) (fun _ k => XS.icmpNo X10.here hx rfl (hb hby at_46) rfl (teq (by rw [wrV, if_pos cd9] : (wrV (p1 &&& (15 : Int32))) = (0 : Int32))).2 k) ?_
      refine Go.st (f' := (mkF m 50 #[iv p1, iv p2, .val (.int (p1 &&& (15 : Int32))), iv 0] [(.int 1)])) (fun _ k => XS.iconst X10.here hx rfl (hb hby at_49) k) ?_
      refine Go.st (f' := (mkF m 54 #[iv p1, iv p2, .val (.int (p1 &&& (15 : Int32))), iv 0] [(.int 1)])) (fun _ k => XS.goto X10.here hx rfl (pc0 := 50) (pc' := 54) rfl (hb hby at_50) (by decide) (by decide) k) ?_
      refine Go.retB X10 hlk hx (t := .boolean) hret (by simp) (hb hby at_54) rfl ?_ (by decide) (by decide)
      exact ⟨rfl, N10⟩
    · refine Go.st (f' := (mkF m 24 #[iv p1, iv p2, .val (.int (p1 &&& (15 : Int32))), .unset] [])) (fun _ k => XS.icmpNo X0.here hx rfl (hb hby at_21) rfl (feq cd9).1 k) ?_
      refine Go.st (f' := (mkF m 25 #[iv p1, iv p2, .val (.int (p1 &&& (15 : Int32))), .unset] [(.int (p1 &&& (15 : Int32)))])) (fun _ k => XS.iloadN X0.here hx rfl (hb hby at_24) rfl k) ?_
      refine Go.st (f' := (mkF m 26 #[iv p1, iv p2, .val (.int (p1 &&& (15 : Int32))), .unset] [(.int 5), (.int (p1 &&& (15 : Int32)))])) (fun _ k => XS.iconst X0.here hx rfl (hb hby at_25) k) ?_
      by_cases cd11 : (p1 &&& (15 : Int32)) = (5 : Int32)
      · refine Go.st (f' := (mkF m 39 #[iv p1, iv p2, .val (.int (p1 &&& (15 : Int32))), .unset] [])) (fun _ k => XS.icmpYes X0.here hx rfl (pc0 := 26) (pc' := 39) rfl (hb hby at_26) rfl (teq cd11).1 (by decide) (by decide) k) ?_
        refine Go.st (f' := (mkF m 40 #[iv p1, iv p2, .val (.int (p1 &&& (15 : Int32))), .unset] [(.int 0)])) (fun _ k => XS.iconst X0.here hx rfl (hb hby at_39) k) ?_
        refine Go.st (f' := (mkF m 41 #[iv p1, iv p2, .val (.int (p1 &&& (15 : Int32))), iv 0] [])) (fun _ k => XS.istoreN X0.here hx rfl (hb hby at_40) rfl (l' := #[iv p1, iv p2, .val (.int (p1 &&& (15 : Int32))), iv 0]) rfl k) ?_
        refine Go.st (f' := (mkF m 42 #[iv p1, iv p2, .val (.int (p1 &&& (15 : Int32))), iv 0] [(.int (p1 &&& (15 : Int32)))])) (fun _ k => XS.iloadN X0.here hx rfl (hb hby at_41) rfl k) ?_
        obtain ⟨_, _, ⟨T12, L12, kk12, nn12⟩, -, X12, ⟨Lc12, hQ12, lq12, yq12, zz12⟩, st12⟩ := Jvm.LawKit.callS X0 hx (y := (⟨"com/example/hearsay_rules/hearsayrules/Variables", "writable", "(I)Z"⟩ : MethodName)) hown (mvT hZ (hw _ (List.mem_of_getElem? (i := 0) rfl))) (mvT hZ (hw _ (List.mem_of_getElem? (i := 1) rfl))) (mvT hZ (hw _ (List.mem_of_getElem? (i := 2) rfl))) (mvT hZ (hw _ (List.mem_of_getElem? (i := 3) rfl))) (by decide) (own_back (W := 0) (rmC l Z a0 hw [] (p1 &&& (15 : Int32)) w__VALUES w_ASSERTION w_REGEXP_ARRAY w_REGEXP_MAP w_RULE_NUMBER w_RULE_NAME w_BLOCK_NUMBER w_BLOCK_NAME w_STATEMENT_NUMBER k__VALUES h0 n0 O0 (wr_pos _ _ (by decide)) WW) hZ (hw _ (List.mem_of_getElem? (i := 3) rfl)) (hw _ (List.mem_of_getElem? (i := 2) rfl)) (by decide) (by decide)) (g := (mkF m 42 #[iv p1, iv p2, .val (.int (p1 &&& (15 : Int32))), iv 0] [(.int (p1 &&& (15 : Int32)))])) rfl (by rw [hml]; rfl) (argsL := [(.int (p1 &&& (15 : Int32)))]) (rest := []) (lenOf pd__I_Z rfl) rfl (by show 2 * 0 + _ ≤ _; exact Nat.le_of_eq rfl) (hb hby at_42) (fun _ _ => ⟨rfl, e0, (by decide : 0 + 1 ≤ _), (by decide : 0 + 8 ≤ _)⟩)
        dsimp only [Pt.U, Pt.locs, Pt.cells, Pt.slots] at X12 lq12 yq12 zz12 st12 hQ12
        subst lq12 yq12 zz12
        obtain ⟨rfl, Nq12, kq12⟩ := hQ12
        have N12 := Fr.app N0 Nq12
        have O12 : Old Z n0 T12.heap := O0.keep kq12 all0
        refine Go.st (f' := (mkF m 45 #[iv p1, iv p2, .val (.int (p1 &&& (15 : Int32))), iv 0] [(.int (wrV (p1 &&& (15 : Int32))))])) (fun _ k => st12 _ k) ?_
        refine Go.st (f' := (mkF m 46 #[iv p1, iv p2, .val (.int (p1 &&& (15 : Int32))), iv 0] [(.int 0), (.int (wrV (p1 &&& (15 : Int32))))])) (fun _ k => XS.iloadN X12.here hx rfl (hb hby at_45) rfl k) ?_
        refine Go.st (f' := (mkF m 49 #[iv p1, iv p2, .val (.int (p1 &&& (15 : Int32))), iv 0] [])) (fun _ k => XS.icmpNo X12.here hx rfl (hb hby at_46) rfl (teq (by rw [wrV, if_neg cd9, if_pos cd11] : (wrV (p1 &&& (15 : Int32))) = (0 : Int32))).2 k) ?_
        refine Go.st (f' := (mkF m 50 #[iv p1, iv p2, .val (.int (p1 &&& (15 : Int32))), iv 0] [(.int 1)])) (fun _ k => XS.iconst X12.here hx rfl (hb hby at_49) k) ?_
        refine Go.st (f' := (mkF m 54 #[iv p1, iv p2, .val (.int (p1 &&& (15 : Int32))), iv 0] [(.int 1)])) (fun _ k => XS.goto X12.here hx rfl (pc0 := 50) (pc' := 54) rfl (hb hby at_50) (by decide) (by decide) k) ?_
        refine Go.retB X12 hlk hx (t := .boolean) hret (by simp) (hb hby at_54) rfl ?_ (by decide) (by decide)
        exact ⟨rfl, N12⟩
      · refine Go.st (f' := (mkF m 29 #[iv p1, iv p2, .val (.int (p1 &&& (15 : Int32))), .unset] [])) (fun _ k => XS.icmpNo X0.here hx rfl (hb hby at_26) rfl (feq cd11).1 k) ?_
        refine Go.st (f' := (mkF m 30 #[iv p1, iv p2, .val (.int (p1 &&& (15 : Int32))), .unset] [(.int (p1 &&& (15 : Int32)))])) (fun _ k => XS.iloadN X0.here hx rfl (hb hby at_29) rfl k) ?_
        refine Go.st (f' := (mkF m 32 #[iv p1, iv p2, .val (.int (p1 &&& (15 : Int32))), .unset] [(.int 7), (.int (p1 &&& (15 : Int32)))])) (fun _ k => XS.bipush X0.here hx rfl (hb hby at_30) k) ?_
        by_cases cd13 : (p1 &&& (15 : Int32)) = (7 : Int32)
        · refine Go.st (f' := (mkF m 39 #[iv p1, iv p2, .val (.int (p1 &&& (15 : Int32))), .unset] [])) (fun _ k => XS.icmpYes X0.here hx rfl (pc0 := 32) (pc' := 39) rfl (hb hby at_32) rfl (teq cd13).1 (by decide) (by decide) k) ?_
          refine Go.st (f' := (mkF m 40 #[iv p1, iv p2, .val (.int (p1 &&& (15 : Int32))), .unset] [(.int 0)])) (fun _ k => XS.iconst X0.here hx rfl (hb hby at_39) k) ?_
          refine Go.st (f' := (mkF m 41 #[iv p1, iv p2, .val (.int (p1 &&& (15 : Int32))), iv 0] [])) (fun _ k => XS.istoreN X0.here hx rfl (hb hby at_40) rfl (l' := #[iv p1, iv p2, .val (.int (p1 &&& (15 : Int32))), iv 0]) rfl k) ?_
          refine Go.st (f' := (mkF m 42 #[iv p1, iv p2, .val (.int (p1 &&& (15 : Int32))), iv 0] [(.int (p1 &&& (15 : Int32)))])) (fun _ k => XS.iloadN X0.here hx rfl (hb hby at_41) rfl k) ?_
          obtain ⟨_, _, ⟨T14, L14, kk14, nn14⟩, -, X14, ⟨Lc14, hQ14, lq14, yq14, zz14⟩, st14⟩ := Jvm.LawKit.callS X0 hx (y := (⟨"com/example/hearsay_rules/hearsayrules/Variables", "writable", "(I)Z"⟩ : MethodName)) hown (mvT hZ (hw _ (List.mem_of_getElem? (i := 0) rfl))) (mvT hZ (hw _ (List.mem_of_getElem? (i := 1) rfl))) (mvT hZ (hw _ (List.mem_of_getElem? (i := 2) rfl))) (mvT hZ (hw _ (List.mem_of_getElem? (i := 3) rfl))) (by decide) (own_back (W := 0) (rmC l Z a0 hw [] (p1 &&& (15 : Int32)) w__VALUES w_ASSERTION w_REGEXP_ARRAY w_REGEXP_MAP w_RULE_NUMBER w_RULE_NAME w_BLOCK_NUMBER w_BLOCK_NAME w_STATEMENT_NUMBER k__VALUES h0 n0 O0 (wr_pos _ _ (by decide)) WW) hZ (hw _ (List.mem_of_getElem? (i := 3) rfl)) (hw _ (List.mem_of_getElem? (i := 2) rfl)) (by decide) (by decide)) (g := (mkF m 42 #[iv p1, iv p2, .val (.int (p1 &&& (15 : Int32))), iv 0] [(.int (p1 &&& (15 : Int32)))])) rfl (by rw [hml]; rfl) (argsL := [(.int (p1 &&& (15 : Int32)))]) (rest := []) (lenOf pd__I_Z rfl) rfl (by show 2 * 0 + _ ≤ _; exact Nat.le_of_eq rfl) (hb hby at_42) (fun _ _ => ⟨rfl, e0, (by decide : 0 + 1 ≤ _), (by decide : 0 + 8 ≤ _)⟩)
          dsimp only [Pt.U, Pt.locs, Pt.cells, Pt.slots] at X14 lq14 yq14 zz14 st14 hQ14
          subst lq14 yq14 zz14
          obtain ⟨rfl, Nq14, kq14⟩ := hQ14
          have N14 := Fr.app N0 Nq14
          have O14 : Old Z n0 T14.heap := O0.keep kq14 all0
          refine Go.st (f' := (mkF m 45 #[iv p1, iv p2, .val (.int (p1 &&& (15 : Int32))), iv 0] [(.int (wrV (p1 &&& (15 : Int32))))])) (fun _ k => st14 _ k) ?_
          refine Go.st (f' := (mkF m 46 #[iv p1, iv p2, .val (.int (p1 &&& (15 : Int32))), iv 0] [(.int 0), (.int (wrV (p1 &&& (15 : Int32))))])) (fun _ k => XS.iloadN X14.here hx rfl (hb hby at_45) rfl k) ?_
          refine Go.st (f' := (mkF m 49 #[iv p1, iv p2, .val (.int (p1 &&& (15 : Int32))), iv 0] [])) (fun _ k => XS.icmpNo X14.here hx rfl (hb hby at_46) rfl (teq (by rw [wrV, if_neg cd9, if_neg cd11, if_pos cd13] : (wrV (p1 &&& (15 : Int32))) = (0 : Int32))).2 k) ?_
          refine Go.st (f' := (mkF m 50 #[iv p1, iv p2, .val (.int (p1 &&& (15 : Int32))), iv 0] [(.int 1)])) (fun _ k => XS.iconst X14.here hx rfl (hb hby at_49) k) ?_
          refine Go.st (f' := (mkF m 54 #[iv p1, iv p2, .val (.int (p1 &&& (15 : Int32))), iv 0] [(.int 1)])) (fun _ k => XS.goto X14.here hx rfl (pc0 := 50) (pc' := 54) rfl (hb hby at_50) (by decide) (by decide) k) ?_
          refine Go.retB X14 hlk hx (t := .boolean) hret (by simp) (hb hby at_54) rfl ?_ (by decide) (by decide)
          exact ⟨rfl, N14⟩
        · refine Go.st (f' := (mkF m 35 #[iv p1, iv p2, .val (.int (p1 &&& (15 : Int32))), .unset] [])) (fun _ k => XS.icmpNo X0.here hx rfl (hb hby at_32) rfl (feq cd13).1 k) ?_
          refine Go.st (f' := (mkF m 36 #[iv p1, iv p2, .val (.int (p1 &&& (15 : Int32))), .unset] [(.int 1)])) (fun _ k => XS.iconst X0.here hx rfl (hb hby at_35) k) ?_
          refine Go.st (f' := (mkF m 40 #[iv p1, iv p2, .val (.int (p1 &&& (15 : Int32))), .unset] [(.int 1)])) (fun _ k => XS.goto X0.here hx rfl (pc0 := 36) (pc' := 40) rfl (hb hby at_36) (by decide) (by decide) k) ?_
          refine Go.st (f' := (mkF m 41 #[iv p1, iv p2, .val (.int (p1 &&& (15 : Int32))), iv 1] [])) (fun _ k => XS.istoreN X0.here hx rfl (hb hby at_40) rfl (l' := #[iv p1, iv p2, .val (.int (p1 &&& (15 : Int32))), iv 1]) rfl k) ?_
          refine Go.st (f' := (mkF m 42 #[iv p1, iv p2, .val (.int (p1 &&& (15 : Int32))), iv 1] [(.int (p1 &&& (15 : Int32)))])) (fun _ k => XS.iloadN X0.here hx rfl (hb hby at_41) rfl k) ?_
          obtain ⟨_, _, ⟨T15, L15, kk15, nn15⟩, -, X15, ⟨Lc15, hQ15, lq15, yq15, zz15⟩, st15⟩ := Jvm.LawKit.callS X0 hx (y := (⟨"com/example/hearsay_rules/hearsayrules/Variables", "writable", "(I)Z"⟩ : MethodName)) hown (mvT hZ (hw _ (List.mem_of_getElem? (i := 0) rfl))) (mvT hZ (hw _ (List.mem_of_getElem? (i := 1) rfl))) (mvT hZ (hw _ (List.mem_of_getElem? (i := 2) rfl))) (mvT hZ (hw _ (List.mem_of_getElem? (i := 3) rfl))) (by decide) (own_back (W := 0) (rmC l Z a0 hw [] (p1 &&& (15 : Int32)) w__VALUES w_ASSERTION w_REGEXP_ARRAY w_REGEXP_MAP w_RULE_NUMBER w_RULE_NAME w_BLOCK_NUMBER w_BLOCK_NAME w_STATEMENT_NUMBER k__VALUES h0 n0 O0 (wr_pos _ _ (by decide)) WW) hZ (hw _ (List.mem_of_getElem? (i := 3) rfl)) (hw _ (List.mem_of_getElem? (i := 2) rfl)) (by decide) (by decide)) (g := (mkF m 42 #[iv p1, iv p2, .val (.int (p1 &&& (15 : Int32))), iv 1] [(.int (p1 &&& (15 : Int32)))])) rfl (by rw [hml]; rfl) (argsL := [(.int (p1 &&& (15 : Int32)))]) (rest := []) (lenOf pd__I_Z rfl) rfl (by show 2 * 0 + _ ≤ _; exact Nat.le_of_eq rfl) (hb hby at_42) (fun _ _ => ⟨rfl, e0, (by decide : 0 + 1 ≤ _), (by decide : 0 + 8 ≤ _)⟩)
          dsimp only [Pt.U, Pt.locs, Pt.cells, Pt.slots] at X15 lq15 yq15 zz15 st15 hQ15
          subst lq15 yq15 zz15
          obtain ⟨rfl, Nq15, kq15⟩ := hQ15
          have N15 := Fr.app N0 Nq15
          have O15 : Old Z n0 T15.heap := O0.keep kq15 all0
          refine Go.st (f' := (mkF m 45 #[iv p1, iv p2, .val (.int (p1 &&& (15 : Int32))), iv 1] [(.int (wrV (p1 &&& (15 : Int32))))])) (fun _ k => st15 _ k) ?_
          refine Go.st (f' := (mkF m 46 #[iv p1, iv p2, .val (.int (p1 &&& (15 : Int32))), iv 1] [(.int 1), (.int (wrV (p1 &&& (15 : Int32))))])) (fun _ k => XS.iloadN X15.here hx rfl (hb hby at_45) rfl k) ?_
          refine Go.st (f' := (mkF m 49 #[iv p1, iv p2, .val (.int (p1 &&& (15 : Int32))), iv 1] [])) (fun _ k => XS.icmpNo X15.here hx rfl (hb hby at_46) rfl (teq (by rw [wrV, if_neg cd9, if_neg cd11, if_neg cd13] : (wrV (p1 &&& (15 : Int32))) = (1 : Int32))).2 k) ?_
          refine Go.st (f' := (mkF m 50 #[iv p1, iv p2, .val (.int (p1 &&& (15 : Int32))), iv 1] [(.int 1)])) (fun _ k => XS.iconst X15.here hx rfl (hb hby at_49) k) ?_
          refine Go.st (f' := (mkF m 54 #[iv p1, iv p2, .val (.int (p1 &&& (15 : Int32))), iv 1] [(.int 1)])) (fun _ k => XS.goto X15.here hx rfl (pc0 := 50) (pc' := 54) rfl (hb hby at_50) (by decide) (by decide) k) ?_
          refine Go.retB X15 hlk hx (t := .boolean) hret (by simp) (hb hby at_54) rfl ?_ (by decide) (by decide)
          exact ⟨rfl, N15⟩
set_option maxRecDepth 65536 in
set_option maxHeartbeats 40000000 in
theorem comes_1 {Post : Tables → Env → Array Value → State → Outcome → State → Prop} (hpost : ∀ tb e args s v u, (limb_1_1.after args s (.returned v) u = true ∧ limb_1_2.after args s (.returned v) u = true ∧ True) → FrameEnd s (.returned v) u (Jvm.fieldLocs frame_1_writes args s ++ Jvm.arrayLocs frame_1_arrays args s ++ Jvm.staticLocs frame_1_statics s) 16 128 → Post tb e args s (.returned v) u) :
    ArmFor flags0 classFile x code maxLocals ret World_1 tables_1 room_1 Calls_1 rest_1 Pre_1 Post := by
  intro l hfl _ _ p e ha hc hk s m args below hf hA hF happ hP
  obtain ⟨hcalls, hrest, hpre⟩ := hP
  obtain ⟨-, -, -, hnamed, -, -, -, hat⟩ := (Spec.applies_iff hf).mp happ
  obtain ⟨hg, hn⟩ := and_e (Cond.before_iff.mp (show (Jvm.Cond.and given_1 narrow_1).before args s = true from hpre))
  obtain ⟨g1, g2⟩ := and_e hg
  obtain ⟨g3, g4⟩ := and_e g2
  obtain ⟨v0, v1, rfl⟩ : ∃ v0 v1 : Value, args = #[v0, v1] := by
    have hs : args.size = 2 := by simpa [Cond.value, given_1] using g1
    obtain ⟨L⟩ := args
    match L, hs with
    | [v0, v1], _ => exact ⟨v0, v1, rfl⟩
  have hw := fun d (hd : d ∈ tables_1) => atoms_spec (ws := Jvm.Cond.code x code maxLocals ret :: tables_1) hat d (List.mem_cons_of_mem _ hd)
  have hfit : Fit s := fun {y c} hc i hi => by
    obtain ⟨ha, rfl⟩ := Array.getElem?_eq_some_iff.mp hc
    have q := List.all_eq_true.mp ((Array.all_eq_true_iff_forall_mem.mp hF) _ (Array.getElem_mem ha)) i (List.mem_range.mpr hi)
    simpa [Array.getElem?_eq_getElem hi] using q
  obtain ⟨i0, ei0⟩ := is_v g3
  obtain rfl : v0 = (.int i0) := Option.some.inj ei0
  obtain ⟨i1, ei1⟩ := is_v g4
  obtain rfl : v1 = (.int i1) := Option.some.inj ei1
  obtain ⟨q1, q2⟩ := and_e hn
  obtain ⟨q3, q4⟩ := and_e q2
  obtain ⟨q5, q6⟩ := and_e q4
  obtain ⟨q7, q8⟩ := and_e q6
  obtain ⟨q9, q10⟩ := and_e q8
  obtain ⟨q11, q12⟩ := and_e q10
  obtain ⟨q13, q14⟩ := and_e q12
  obtain ⟨q15, q16⟩ := and_e q14
  obtain ⟨q17, q18⟩ := and_e q16
  obtain ⟨q19, q20⟩ := and_e q18
  obtain ⟨q21, q22⟩ := and_e q20
  obtain ⟨q23, q24⟩ := and_e q22
  obtain ⟨q25, q26⟩ := and_e q24
  obtain ⟨q27, q28⟩ := and_e q26
  obtain ⟨q29, q30⟩ := and_e q28
  obtain ⟨q31, q32⟩ := and_e q30
  obtain ⟨q33, q34⟩ := and_e q32
  obtain ⟨q35, q36⟩ := and_e q34
  obtain ⟨q37, q38⟩ := and_e q36
  obtain ⟨q39, q40⟩ := and_e q38
  obtain ⟨q41, q42⟩ := and_e q40
  obtain ⟨q43, q44⟩ := and_e q42
  obtain ⟨q45, q46⟩ := and_e q44
  obtain ⟨q47, q48⟩ := and_e q46
  obtain ⟨q49, q50⟩ := and_e q48
  obtain ⟨q51, q52⟩ := and_e q50
  obtain ⟨w__VALUES, ev_w__VALUES⟩ := exa_v q3
  obtain ⟨w_ASSERTION, ev_w_ASSERTION⟩ := exa_v q7
  obtain ⟨w_REGEXP_ARRAY, ev_w_REGEXP_ARRAY⟩ := exa_v q11
  obtain ⟨w_REGEXP_MAP, ev_w_REGEXP_MAP⟩ := exa_v q15
  obtain ⟨w_RULE_NUMBER, ev_w_RULE_NUMBER⟩ := exa_v q19
  obtain ⟨w_RULE_NAME, ev_w_RULE_NAME⟩ := exa_v q23
  obtain ⟨w_BLOCK_NUMBER, ev_w_BLOCK_NUMBER⟩ := exa_v q27
  obtain ⟨w_BLOCK_NAME, ev_w_BLOCK_NAME⟩ := exa_v q31
  obtain ⟨w_STATEMENT_NUMBER, ev_w_STATEMENT_NUMBER⟩ := exa_v q35
  have S_w__VALUES := Sta.start ev_w__VALUES (Or.inl (hw _ (List.mem_of_getElem? (i := 25) rfl)))
  have E_w__VALUES := Exa.start ev_w__VALUES q3
  have S_w_ASSERTION := Sta.start ev_w_ASSERTION (Or.inr ⟨hw _ (List.mem_of_getElem? (i := 6) rfl), hw _ (List.mem_of_getElem? (i := 17) rfl)⟩)
  have E_w_ASSERTION := Exa.start ev_w_ASSERTION q7
  have S_w_REGEXP_ARRAY := Sta.start ev_w_REGEXP_ARRAY (Or.inr ⟨hw _ (List.mem_of_getElem? (i := 6) rfl), hw _ (List.mem_of_getElem? (i := 18) rfl)⟩)
  have E_w_REGEXP_ARRAY := Exa.start ev_w_REGEXP_ARRAY q11
  have S_w_REGEXP_MAP := Sta.start ev_w_REGEXP_MAP (Or.inr ⟨hw _ (List.mem_of_getElem? (i := 6) rfl), hw _ (List.mem_of_getElem? (i := 19) rfl)⟩)
  have E_w_REGEXP_MAP := Exa.start ev_w_REGEXP_MAP q15
  have S_w_RULE_NUMBER := Sta.start ev_w_RULE_NUMBER (Or.inr ⟨hw _ (List.mem_of_getElem? (i := 6) rfl), hw _ (List.mem_of_getElem? (i := 20) rfl)⟩)
  have E_w_RULE_NUMBER := Exa.start ev_w_RULE_NUMBER q19
  have S_w_RULE_NAME := Sta.start ev_w_RULE_NAME (Or.inr ⟨hw _ (List.mem_of_getElem? (i := 6) rfl), hw _ (List.mem_of_getElem? (i := 21) rfl)⟩)
  have E_w_RULE_NAME := Exa.start ev_w_RULE_NAME q23
  have S_w_BLOCK_NUMBER := Sta.start ev_w_BLOCK_NUMBER (Or.inr ⟨hw _ (List.mem_of_getElem? (i := 6) rfl), hw _ (List.mem_of_getElem? (i := 22) rfl)⟩)
  have E_w_BLOCK_NUMBER := Exa.start ev_w_BLOCK_NUMBER q27
  have S_w_BLOCK_NAME := Sta.start ev_w_BLOCK_NAME (Or.inr ⟨hw _ (List.mem_of_getElem? (i := 6) rfl), hw _ (List.mem_of_getElem? (i := 23) rfl)⟩)
  have E_w_BLOCK_NAME := Exa.start ev_w_BLOCK_NAME q31
  have S_w_STATEMENT_NUMBER := Sta.start ev_w_STATEMENT_NUMBER (Or.inr ⟨hw _ (List.mem_of_getElem? (i := 6) rfl), hw _ (List.mem_of_getElem? (i := 24) rfl)⟩)
  have E_w_STATEMENT_NUMBER := Exa.start ev_w_STATEMENT_NUMBER q35
  have F_w_ASSERTION_writable := own_fld q39 ev_w_ASSERTION
  have F_w_BLOCK_NAME_writable := own_fld q41 ev_w_BLOCK_NAME
  have F_w_RULE_NUMBER_writable := own_fld q43 ev_w_RULE_NUMBER
  have F_w_REGEXP_ARRAY_writable := own_fld q45 ev_w_REGEXP_ARRAY
  have F_w_REGEXP_MAP_writable := own_fld q47 ev_w_REGEXP_MAP
  have F_w_BLOCK_NUMBER_writable := own_fld q49 ev_w_BLOCK_NUMBER
  have F_w_RULE_NAME_writable := own_fld q51 ev_w_RULE_NAME
  have F_w_STATEMENT_NUMBER_writable := own_fld q52 ev_w_STATEMENT_NUMBER
  obtain ⟨cl_w__VALUES, Ar_w__VALUES⟩ := Arr.start ev_w__VALUES q1
  obtain ⟨z_w__VALUES, y_w__VALUES⟩ := own_len (own_eq_int q5) ev_w__VALUES Ar_w__VALUES.1
  have V_w__VALUES : Arv s s.heap w__VALUES cl_w__VALUES.cls (Jvm.ClassFile.FieldType.object "com/example/hearsay_rules/hearsayrules/Variables$Reserved") (8 : Int32) [(.ref w_ASSERTION), (.ref w_REGEXP_ARRAY), (.ref w_REGEXP_MAP), (.ref w_RULE_NUMBER), (.ref w_RULE_NAME), (.ref w_BLOCK_NUMBER), (.ref w_BLOCK_NAME), (.ref w_STATEMENT_NUMBER)] .null := Arv.start hfit Ar_w__VALUES z_w__VALUES y_w__VALUES (by decide) rfl ⟨own_elem q9 ev_w_ASSERTION ev_w__VALUES Ar_w__VALUES.1 rfl, own_elem q13 ev_w_REGEXP_ARRAY ev_w__VALUES Ar_w__VALUES.1 rfl, own_elem q17 ev_w_REGEXP_MAP ev_w__VALUES Ar_w__VALUES.1 rfl, own_elem q21 ev_w_RULE_NUMBER ev_w__VALUES Ar_w__VALUES.1 rfl, own_elem q25 ev_w_RULE_NAME ev_w__VALUES Ar_w__VALUES.1 rfl, own_elem q29 ev_w_BLOCK_NUMBER ev_w__VALUES Ar_w__VALUES.1 rfl, own_elem q33 ev_w_BLOCK_NAME ev_w__VALUES Ar_w__VALUES.1 rfl, own_elem q37 ev_w_STATEMENT_NUMBER ev_w__VALUES Ar_w__VALUES.1 rfl, trivial⟩
  have WW : World1 s w__VALUES w_ASSERTION w_REGEXP_ARRAY w_REGEXP_MAP w_RULE_NUMBER w_RULE_NAME w_BLOCK_NUMBER w_BLOCK_NAME w_STATEMENT_NUMBER cl_w__VALUES.cls   := ⟨S_w__VALUES, E_w__VALUES, S_w_ASSERTION, E_w_ASSERTION, S_w_REGEXP_ARRAY, E_w_REGEXP_ARRAY, S_w_REGEXP_MAP, E_w_REGEXP_MAP, S_w_RULE_NUMBER, E_w_RULE_NUMBER, S_w_RULE_NAME, E_w_RULE_NAME, S_w_BLOCK_NUMBER, E_w_BLOCK_NUMBER, S_w_BLOCK_NAME, E_w_BLOCK_NAME, S_w_STATEMENT_NUMBER, E_w_STATEMENT_NUMBER, F_w_ASSERTION_writable, F_w_BLOCK_NAME_writable, F_w_RULE_NUMBER_writable, F_w_REGEXP_ARRAY_writable, F_w_REGEXP_MAP_writable, F_w_BLOCK_NUMBER_writable, F_w_RULE_NAME_writable, F_w_STATEMENT_NUMBER_writable, V_w__VALUES⟩
  obtain ⟨n, o, h1, h2, h3, _, L, rfl, ⟨rfl, N⟩, hq⟩ := rm0 l s _ hw tables_1 i0 i1 w__VALUES w_ASSERTION w_REGEXP_ARRAY w_REGEXP_MAP w_RULE_NUMBER w_RULE_NAME w_BLOCK_NUMBER w_BLOCK_NAME w_STATEMENT_NUMBER cl_w__VALUES.cls   s.heap s.heap.size (Old.start s) WW  p e ha hc hk s m _ below hf ((Spec.applies_iff_loose hf).mp happ).1 ⟨rfl, State.Warmed39.refl s, rfl⟩ trivial
  refine ⟨n, _, h1, h2, h3, hpost _ _ _ _ _ _ ⟨Cond.after_iff.mpr rfl, Cond.after_iff.mpr (eq_i res_at (Term.int_eval (1)) rfl), trivial⟩ ⟨hq.1, hq.2.1, (hq.2.2.sift fun y hy => Or.inr (N y hy)).mono (by decide) (by decide)⟩⟩
theorem main_1_1 : Claimed_1_1 := comes_1 fun _ _ _ _ _ _ h hF => ⟨h.1, hF⟩
theorem main_1_2 : Claimed_1_2 := comes_1 fun _ _ _ _ _ _ h hF => ⟨h.2.1, hF⟩
end Jvm.Pilot.@@N@@
namespace Jvm.Pilot.@@N@@
open Jvm Jvm.ClassFile Sem Op Lib Jvm.Free Jvm.Stand Jvm.Pilot.@@N@@.Jvm.D
/-! MADE BY PROGRAM (witnessworld.py) out of the Statement's table words and the real class files: 14 classes; the members and pool entries that the words name. The judged class is class 1, her method 1. -/
namespace start1
open Jvm.ClassFile
def u (s : String) : CpInfo := .utf8 (stringToUtf16 s)
/-- a pool by its gaps: so many unusable entries, then the entry; so many at the end -/
def gap : Nat → List CpInfo → List CpInfo
  | 0, r => r
  | n + 1, r => .unusable :: gap n r
def poolList (es : List (Nat × CpInfo)) (last : Nat) : List CpInfo := es.foldr (fun e r => gap e.1 (e.2 :: r)) (gap last [])
def pool (es : List (Nat × CpInfo)) (last : Nat) : Array CpInfo := ⟨poolList es last⟩
def fileOf (pool : Array CpInfo) (this : Nat) (attrs : Array Attribute := #[]) (ms : Array MethodInfo := #[]) (fl : Nat := 33) (sup : Nat := 0) (ifs : Array Nat := #[]) (fds : Array FieldInfo := #[]) : ClassFile where
  minorVersion := 0
  majorVersion := 65
  constantPool := pool
  accessFlags := fl
  thisClass := this
  superClass := sup
  interfaces := ifs
  fields := fds
  methods := ms
  attributes := attrs
def plain (name : String) (sup : Option ClassId) : Class where
  name := name
  kind := .ordinary
  loader := none
  accessFlags := 33
  super := sup
  interfaces := #[]
  cf := none
  fields := #[]
  methods := #[]
  instanceTypes := #[]
  staticTypes := #[]
  resolved := #[]
  callSites := []
  init := .initialized
  statics := none
  mirror := none

def pool0 : Array CpInfo := pool [(5, u "<init>"), (0, u "()V"), (1, .class_ 10), (1, u "java/lang/Object"), (85, u "clone"), (0, u "()Ljava/lang/Object;")] 26

def k0m0 : Method := { name := "<init>", desc := "()V", sig := { parameters := [], returnType := none }, accessFlags := 1, code := none }
def k0m1 : Method := { name := "clone", desc := "()Ljava/lang/Object;", sig := { parameters := [], returnType := some (.object "java/lang/Object") }, accessFlags := 260, code := none }
/-- java/lang/Object -/
def k0 : Class := { plain "java/lang/Object" none with
  accessFlags := 33
  interfaces := #[]
  cf := some (fileOf pool0 8 #[] #[{ accessFlags := 1, nameIndex := 5, descriptorIndex := 6, attributes := #[] }, { accessFlags := 260, nameIndex := 96, descriptorIndex := 97, attributes := #[] }] 33 0 #[] #[])
  fields := #[]
  methods := #[k0m0, k0m1]
  instanceTypes := #[]
  staticTypes := #[]
  resolved := Array.replicate 124 none
  statics := none }

def pool1 : Array CpInfo := pool [(2, .class_ 4), (1, u "java/lang/Object"), (0, u "<init>"), (0, u "()V"), (0, .integer 2147483647), (0, .methodref 9 10), (0, .class_ 11), (0, .nameAndType 12 13), (0, u "com/example/hearsay_rules/hearsayrules/Variables"), (0, u "writable"), (0, u "(I)Z"), (0, .class_ 15), (0, u "com/example/hearsay_rules/hearsayrules/VariablesWritablePinLaw"), (2, u "law"), (0, u "(II)Z")] 3

def k1m0 : Method := { name := "<init>", desc := "()V", sig := { parameters := [], returnType := none }, accessFlags := 1, code := none }
def k1c1 : Code := { maxStack := 2, maxLocals := 4, code := code, exceptionTable := #[], attributes := #[] }
def k1m1 : Method := { name := "law", desc := "(II)Z", sig := { parameters := [.int, .int], returnType := some .boolean }, accessFlags := 9, code := some k1c1 }
/-- com/example/hearsay_rules/hearsayrules/VariablesWritablePinLaw -/
def k1 : Class := { plain "com/example/hearsay_rules/hearsayrules/VariablesWritablePinLaw" (some 0) with
  accessFlags := 49
  interfaces := #[]
  cf := some (fileOf pool1 14 #[] #[{ accessFlags := 1, nameIndex := 5, descriptorIndex := 6, attributes := #[] }, { accessFlags := 9, nameIndex := 18, descriptorIndex := 19, attributes := #[] }] 49 2 #[] #[])
  fields := #[]
  methods := #[k1m0, k1m1]
  instanceTypes := #[]
  staticTypes := #[]
  resolved := Array.replicate 23 none
  statics := none }

def pool2 : Array CpInfo := pool [(2, .class_ 4), (1, u "java/lang/Object"), (0, u "<init>"), (0, u "()V"), (4, .class_ 13), (1, u "com/example/hearsay_rules/hearsayrules/Variables"), (0, u "slots"), (0, u "Ljava/util/Map;"), (0, .methodref 17 18), (0, .class_ 19), (0, .nameAndType 20 21), (0, u "com/example/hearsay_rules/hearsayrules/Variables$Reserved"), (0, u "values"), (0, u "()[Lcom/example/hearsay_rules/hearsayrules/Variables$Reserved;"), (36, .fieldref 17 59), (0, .nameAndType 60 61), (0, u "writable"), (0, u "Z"), (10, u "(I)Z")] 6

def k2m0 : Method := { name := "<init>", desc := "()V", sig := { parameters := [], returnType := none }, accessFlags := 0, code := none }
def k2c1 : Code := { maxStack := 2, maxLocals := 2, code := prog_23_method_4_code, exceptionTable := #[], attributes := #[] }
def k2m1 : Method := { name := "writable", desc := "(I)Z", sig := { parameters := [.int], returnType := some .boolean }, accessFlags := 8, code := some k2c1 }
/-- com/example/hearsay_rules/hearsayrules/Variables -/
def k2 : Class := { plain "com/example/hearsay_rules/hearsayrules/Variables" (some 0) with
  accessFlags := 48
  interfaces := #[]
  cf := some (fileOf pool2 11 #[.nestMembers #[17]] #[{ accessFlags := 0, nameIndex := 5, descriptorIndex := 6, attributes := #[] }, { accessFlags := 8, nameIndex := 60, descriptorIndex := 72, attributes := #[] }] 48 2 #[] #[{ accessFlags := 18, nameIndex := 14, descriptorIndex := 15, attributes := #[] }])
  fields := #[{ name := "slots", type := (.object "java/util/Map"), accessFlags := 18, slot := 0, constantValue := 0 }]
  methods := #[k2m0, k2m1]
  instanceTypes := #[(.object "java/util/Map")]
  staticTypes := #[]
  resolved := (Array.replicate 79 none).setIfInBounds 58 (some (.field 7 8))
  statics := none }

def pool3 : Array CpInfo := pool [(1, .class_ 2), (0, u "java/lang/constant/Constable"), (0, .class_ 4), (0, u "java/lang/Object")] 6

/-- java/lang/constant/Constable -/
def k3 : Class := { plain "java/lang/constant/Constable" (some 0) with
  accessFlags := 1537
  interfaces := #[]
  cf := some (fileOf pool3 1 #[] #[] 1537 3 #[] #[])
  fields := #[]
  methods := #[]
  instanceTypes := #[]
  staticTypes := #[]
  resolved := Array.replicate 11 none
  statics := none }

def pool4 : Array CpInfo := pool [(1, .class_ 2), (0, u "java/lang/Comparable"), (0, .class_ 4), (0, u "java/lang/Object")] 7

/-- java/lang/Comparable -/
def k4 : Class := { plain "java/lang/Comparable" (some 0) with
  accessFlags := 1537
  interfaces := #[]
  cf := some (fileOf pool4 1 #[] #[] 1537 3 #[] #[])
  fields := #[]
  methods := #[]
  instanceTypes := #[]
  staticTypes := #[]
  resolved := Array.replicate 12 none
  statics := none }

def pool5 : Array CpInfo := pool [(1, .class_ 2), (0, u "java/io/Serializable"), (0, .class_ 4), (0, u "java/lang/Object")] 2

/-- java/io/Serializable -/
def k5 : Class := { plain "java/io/Serializable" (some 0) with
  accessFlags := 1537
  interfaces := #[]
  cf := some (fileOf pool5 1 #[] #[] 1537 3 #[] #[])
  fields := #[]
  methods := #[]
  instanceTypes := #[]
  staticTypes := #[]
  resolved := Array.replicate 7 none
  statics := none }

def pool6 : Array CpInfo := pool [(2, .class_ 4), (1, u "java/lang/Enum"), (0, u "name"), (0, u "Ljava/lang/String;"), (2, u "ordinal"), (0, u "I"), (1, .class_ 14), (1, u "java/lang/Object"), (4, u "hash"), (86, .class_ 108), (1, u "java/lang/Enum$EnumDesc"), (2, .class_ 112), (0, u "java/lang/constant/Constable"), (0, .class_ 114), (0, u "java/lang/Comparable"), (0, .class_ 116), (0, u "java/io/Serializable")] 87

/-- java/lang/Enum -/
def k6 : Class := { plain "java/lang/Enum" (some 0) with
  accessFlags := 1057
  interfaces := #[3, 4, 5]
  cf := some (fileOf pool6 2 #[.nestMembers #[106]] #[] 1057 12 #[111, 113, 115] #[{ accessFlags := 18, nameIndex := 5, descriptorIndex := 6, attributes := #[] }, { accessFlags := 18, nameIndex := 9, descriptorIndex := 10, attributes := #[] }, { accessFlags := 2, nameIndex := 19, descriptorIndex := 10, attributes := #[] }])
  fields := #[{ name := "name", type := (.object "java/lang/String"), accessFlags := 18, slot := 0, constantValue := 0 }, { name := "ordinal", type := .int, accessFlags := 18, slot := 1, constantValue := 0 }, { name := "hash", type := .int, accessFlags := 2, slot := 2, constantValue := 0 }]
  methods := #[]
  instanceTypes := #[(.object "java/lang/String"), .int, .int]
  staticTypes := #[]
  resolved := Array.replicate 204 none
  statics := none }

def pool7 : Array CpInfo := pool [(1, .class_ 2), (0, u "com/example/hearsay_rules/hearsayrules/Variables$Reserved"), (2, u "ASSERTION"), (0, u "Lcom/example/hearsay_rules/hearsayrules/Variables$Reserved;"), (2, u "REGEXP_ARRAY"), (2, u "REGEXP_MAP"), (2, u "RULE_NUMBER"), (2, u "RULE_NAME"), (2, u "BLOCK_NUMBER"), (2, u "BLOCK_NAME"), (2, u "STATEMENT_NUMBER"), (0, .fieldref 1 29), (0, .nameAndType 30 31), (0, u "$VALUES"), (0, u "[Lcom/example/hearsay_rules/hearsayrules/Variables$Reserved;"), (0, .methodref 33 34), (0, .class_ 31), (0, .nameAndType 35 36), (0, u "clone"), (0, u "()Ljava/lang/Object;"), (1, .class_ 40), (1, u "java/lang/Enum"), (8, u "writable"), (0, u "Z"), (34, u "()[Lcom/example/hearsay_rules/hearsayrules/Variables$Reserved;"), (0, u "values"), (14, .class_ 102), (0, u "com/example/hearsay_rules/hearsayrules/Variables")] 2

def k7c0 : Code := { maxStack := 1, maxLocals := 0, code := prog_24_method_1_code, exceptionTable := #[], attributes := #[] }
def k7m0 : Method := { name := "values", desc := "()[Lcom/example/hearsay_rules/hearsayrules/Variables$Reserved;", sig := { parameters := [], returnType := some (.array (.object "com/example/hearsay_rules/hearsayrules/Variables$Reserved")) }, accessFlags := 9, code := some k7c0 }
/-- com/example/hearsay_rules/hearsayrules/Variables$Reserved -/
def k7 : Class := { plain "com/example/hearsay_rules/hearsayrules/Variables$Reserved" (some 6) with
  accessFlags := 16432
  interfaces := #[]
  cf := some (fileOf pool7 1 #[.nestHost 101] #[{ accessFlags := 9, nameIndex := 86, descriptorIndex := 85, attributes := #[] }] 16432 38 #[] #[{ accessFlags := 16409, nameIndex := 5, descriptorIndex := 6, attributes := #[] }, { accessFlags := 16409, nameIndex := 9, descriptorIndex := 6, attributes := #[] }, { accessFlags := 16409, nameIndex := 12, descriptorIndex := 6, attributes := #[] }, { accessFlags := 16409, nameIndex := 15, descriptorIndex := 6, attributes := #[] }, { accessFlags := 16409, nameIndex := 18, descriptorIndex := 6, attributes := #[] }, { accessFlags := 16409, nameIndex := 21, descriptorIndex := 6, attributes := #[] }, { accessFlags := 16409, nameIndex := 24, descriptorIndex := 6, attributes := #[] }, { accessFlags := 16409, nameIndex := 27, descriptorIndex := 6, attributes := #[] }, { accessFlags := 18, nameIndex := 49, descriptorIndex := 50, attributes := #[] }, { accessFlags := 4122, nameIndex := 30, descriptorIndex := 31, attributes := #[] }])
  fields := #[{ name := "ASSERTION", type := (.object "com/example/hearsay_rules/hearsayrules/Variables$Reserved"), accessFlags := 16409, slot := 0, constantValue := 0 }, { name := "REGEXP_ARRAY", type := (.object "com/example/hearsay_rules/hearsayrules/Variables$Reserved"), accessFlags := 16409, slot := 1, constantValue := 0 }, { name := "REGEXP_MAP", type := (.object "com/example/hearsay_rules/hearsayrules/Variables$Reserved"), accessFlags := 16409, slot := 2, constantValue := 0 }, { name := "RULE_NUMBER", type := (.object "com/example/hearsay_rules/hearsayrules/Variables$Reserved"), accessFlags := 16409, slot := 3, constantValue := 0 }, { name := "RULE_NAME", type := (.object "com/example/hearsay_rules/hearsayrules/Variables$Reserved"), accessFlags := 16409, slot := 4, constantValue := 0 }, { name := "BLOCK_NUMBER", type := (.object "com/example/hearsay_rules/hearsayrules/Variables$Reserved"), accessFlags := 16409, slot := 5, constantValue := 0 }, { name := "BLOCK_NAME", type := (.object "com/example/hearsay_rules/hearsayrules/Variables$Reserved"), accessFlags := 16409, slot := 6, constantValue := 0 }, { name := "STATEMENT_NUMBER", type := (.object "com/example/hearsay_rules/hearsayrules/Variables$Reserved"), accessFlags := 16409, slot := 7, constantValue := 0 }, { name := "writable", type := .boolean, accessFlags := 18, slot := 3, constantValue := 0 }, { name := "$VALUES", type := (.array (.object "com/example/hearsay_rules/hearsayrules/Variables$Reserved")), accessFlags := 4122, slot := 8, constantValue := 0 }]
  methods := #[k7m0]
  instanceTypes := #[(.object "java/lang/String"), .int, .int, .boolean]
  staticTypes := #[(.object "com/example/hearsay_rules/hearsayrules/Variables$Reserved"), (.object "com/example/hearsay_rules/hearsayrules/Variables$Reserved"), (.object "com/example/hearsay_rules/hearsayrules/Variables$Reserved"), (.object "com/example/hearsay_rules/hearsayrules/Variables$Reserved"), (.object "com/example/hearsay_rules/hearsayrules/Variables$Reserved"), (.object "com/example/hearsay_rules/hearsayrules/Variables$Reserved"), (.object "com/example/hearsay_rules/hearsayrules/Variables$Reserved"), (.object "com/example/hearsay_rules/hearsayrules/Variables$Reserved"), (.array (.object "com/example/hearsay_rules/hearsayrules/Variables$Reserved"))]
  resolved := Array.replicate 105 none
  statics := some 0 }

def pool8 : Array CpInfo := pool [(1, .class_ 2), (0, u "java/lang/Cloneable"), (0, .class_ 4), (0, u "java/lang/Object")] 2

/-- java/lang/Cloneable -/
def k8 : Class := { plain "java/lang/Cloneable" (some 0) with
  accessFlags := 1537
  interfaces := #[]
  cf := some (fileOf pool8 1 #[] #[] 1537 3 #[] #[])
  fields := #[]
  methods := #[]
  instanceTypes := #[]
  staticTypes := #[]
  resolved := Array.replicate 7 none
  statics := none }

/-- the primitive byte -/
def k9 : Class := { plain "byte" none with kind := .primitive 'B', accessFlags := 0x411 }
/-- [B -/
def k10 : Class := { plain "[B" (some 0) with kind := .array 9 .byte, interfaces := #[8, 5], accessFlags := 1041 }

/-- the primitive int -/
def k11 : Class := { plain "int" none with kind := .primitive 'I', accessFlags := 0x411 }
/-- [I -/
def k12 : Class := { plain "[I" (some 0) with kind := .array 11 .int, interfaces := #[8, 5], accessFlags := 1041 }

/-- [Lcom/example/hearsay_rules/hearsayrules/Variables$Reserved; -/
def k13 : Class := { plain "[Lcom/example/hearsay_rules/hearsayrules/Variables$Reserved;" (some 0) with kind := .array 7 (.object "com/example/hearsay_rules/hearsayrules/Variables$Reserved"), interfaces := #[8, 5], accessFlags := 1041 }

def heap : Heap := #[{ cls := 7, slots := #[.ref 2, .ref 3, .ref 4, .ref 5, .ref 6, .ref 7, .ref 8, .ref 9, .ref 1], vm := .statics 7 },
  { cls := 13, slots := #[.ref 2, .ref 3, .ref 4, .ref 5, .ref 6, .ref 7, .ref 8, .ref 9], vm := .none },
  { cls := 7, slots := #[.null, .int 0, .int 0, .int 1], vm := .none },
  { cls := 7, slots := #[.null, .int 0, .int 0, .int 1], vm := .none },
  { cls := 7, slots := #[.null, .int 0, .int 0, .int 1], vm := .none },
  { cls := 7, slots := #[.null, .int 0, .int 0, .int 0], vm := .none },
  { cls := 7, slots := #[.null, .int 0, .int 0, .int 1], vm := .none },
  { cls := 7, slots := #[.null, .int 0, .int 0, .int 0], vm := .none },
  { cls := 7, slots := #[.null, .int 0, .int 0, .int 1], vm := .none },
  { cls := 7, slots := #[.null, .int 0, .int 0, .int 0], vm := .none }]
def classes : Array Class := #[k0, k1, k2, k3, k4, k5, k6, k7, k8, k9, k10, k11, k12, k13]
def interned : List (Array UInt16 × Addr) := []
def slotsUsed : Nat := 49
def theMethod : MethodId := ⟨1, 1⟩
def args0 : Array Value := #[.int 1, .int 2]
def aboutOver (below : List Frame) : State where
  vm := { classes := classes, interned := interned.toArray }
  heap := heap
  slotsUsed := slotsUsed
  threads := #[{ frames := .invoking theMethod args0 :: below }]
def below0 : List Frame := [.native { method := ⟨0, 0⟩, args := #[] }]
def about1 : State := aboutOver below0
def p0 : Program := .bare "" "" ""
def e0 : Env := launch0.env 0 0 0
theorem w_frames : about1.frames = Frame.invoking theMethod args0 :: below0 := rfl
set_option maxRecDepth 65536 in
theorem w_args : argsFit about1.vm theMethod args0 = true := by decide +kernel
set_option maxRecDepth 65536 in
theorem w_heap : heapFits about1 = true := by decide +kernel
set_option maxRecDepth 65536 in
theorem w_runnable : about1.curStatus? = some .runnable := by decide +kernel
set_option maxRecDepth 65536 in
theorem w_alone : about1.alone = true := by decide +kernel
set_option maxRecDepth 65536 in
theorem w_named : about1.methodNamed? x = some theMethod := by decide +kernel
set_option maxRecDepth 65536 in
theorem w_hears : about1.hears theMethod below0 = true := by decide +kernel
set_option maxRecDepth 65536 in
theorem w_ripe : about1.ripe theMethod args0 below0 = true := by decide +kernel
theorem w_running : about1.status = .running := rfl
set_option maxRecDepth 65536 in
theorem w_room : about1.hasRoom e0.platform room_1 = true :=
  launch0.hasRoom_least _ room_1 (by decide +kernel) (by decide +kernel) (by decide +kernel) (by decide +kernel) (by decide +kernel) (by decide +kernel)
theorem allAtoms_all (ts : List Jvm.Cond) (a : Array Jvm.Value) (st : Jvm.State) : (allAtoms ts).before a st = ts.all (fun c => c.before a st) := by
  induction ts with
  | nil => rfl
  | cons c t ih =>
    show (Jvm.Cond.and c (allAtoms t)).before a st = _
    rw [Jvm.Cond.before_and, ih, List.all_cons]
def words1 : List Jvm.Cond := Jvm.Cond.code x code maxLocals ret :: tables_1
/-- a 'code' word, met by the world's own term for the bytes: nothing is compared byte by byte -/
theorem code_word {y : MethodName} {bytes : ByteArray} {mx : Nat} {rt : Option FieldType} {a : Array Value} {s : State} {m : MethodId} {meth : Method} {c : Code} (h1 : s.methodNamed? y = some m) (h2 : s.vm.method? m = some meth) (h3 : meth.code = some c) (h4 : c.code = bytes)
    (h5 : (c.maxLocals == mx && c.exceptionTable.isEmpty && decide (c.maxStack ≤ mostOperands) && decide (meth.sig.returnType = rt) && !meth.locks && decide (parseMethodDescriptor y.desc = some meth.sig)) = true) : (Jvm.Cond.code y bytes mx rt).before a s = true := by
  simp only [Bool.and_eq_true, beq_iff_eq, Bool.not_eq_true', decide_eq_true_eq] at h5
  obtain ⟨⟨⟨⟨⟨g1, g2⟩, g3⟩, g4⟩, g5⟩, g6⟩ := h5
  simp [Cond.before, Cond.holds, Cond.value, h1, h2, h3, h4, g1, g2, g3, g4, g5, g6]
def isCode : Jvm.Cond → Bool
  | .code _ _ _ _ => true
  | _ => false
theorem all_split {L : List Jvm.Cond} {P : Jvm.Cond → Bool} (h1 : L.all (fun c => isCode c || P c) = true) (h2 : ∀ c ∈ L.filter isCode, P c = true) : L.all P = true := by
  refine List.all_eq_true.mpr fun c hc => ?_
  have h := List.all_eq_true.mp h1 c hc
  rcases Bool.eq_false_or_eq_true (isCode c) with hi | hi
  · exact h2 c (List.mem_filter.mpr ⟨hc, hi⟩)
  · simpa [hi] using h
set_option maxRecDepth 65536 in
theorem w_c0 : (Jvm.Cond.code x code maxLocals ret).before args0 about1 = true := code_word (m := ⟨1, 1⟩) (meth := k1m1) (c := k1c1) (by decide +kernel) rfl rfl rfl (by decide +kernel)
set_option maxRecDepth 65536 in
theorem w_c1 : (Jvm.Cond.code ({ cls := "com/example/hearsay_rules/hearsayrules/Variables", name := "writable", desc := "(I)Z" } : Jvm.MethodName) prog_23_method_4_code (2 : Nat) (Option.some Jvm.ClassFile.FieldType.boolean)).before args0 about1 = true := code_word (m := ⟨2, 1⟩) (meth := k2m1) (c := k2c1) (by decide +kernel) rfl rfl rfl (by decide +kernel)
set_option maxRecDepth 65536 in
theorem w_c2 : (Jvm.Cond.code ({ cls := "com/example/hearsay_rules/hearsayrules/Variables$Reserved", name := "values", desc := "()[Lcom/example/hearsay_rules/hearsayrules/Variables$Reserved;" } : Jvm.MethodName) prog_24_method_1_code (0 : Nat) (Option.some (Jvm.ClassFile.FieldType.array (Jvm.ClassFile.FieldType.object "com/example/hearsay_rules/hearsayrules/Variables$Reserved")))).before args0 about1 = true := code_word (m := ⟨7, 0⟩) (meth := k7m0) (c := k7c0) (by decide +kernel) rfl rfl rfl (by decide +kernel)
def codes1 : List Jvm.Cond := [Jvm.Cond.code x code maxLocals ret, Jvm.Cond.code ({ cls := "com/example/hearsay_rules/hearsayrules/Variables", name := "writable", desc := "(I)Z" } : Jvm.MethodName) prog_23_method_4_code (2 : Nat) (Option.some Jvm.ClassFile.FieldType.boolean), Jvm.Cond.code ({ cls := "com/example/hearsay_rules/hearsayrules/Variables$Reserved", name := "values", desc := "()[Lcom/example/hearsay_rules/hearsayrules/Variables$Reserved;" } : Jvm.MethodName) prog_24_method_1_code (0 : Nat) (Option.some (Jvm.ClassFile.FieldType.array (Jvm.ClassFile.FieldType.object "com/example/hearsay_rules/hearsayrules/Variables$Reserved")))]
set_option maxRecDepth 65536 in
theorem codes_eq : words1.filter isCode = codes1 := rfl
theorem w_codes : ∀ c ∈ words1.filter isCode, c.before args0 about1 = true := by
  rw [codes_eq]
  intro c hc
  simp only [codes1, List.mem_cons, List.not_mem_nil, or_false] at hc
  rcases hc with rfl | rfl | rfl
  · exact w_c0
  · exact w_c1
  · exact w_c2
set_option maxRecDepth 65536 in
theorem w_t1 : (words1.take 24).all (fun c => isCode c || c.before args0 about1) = true := by decide +kernel
set_option maxRecDepth 65536 in
theorem w_t2 : (words1.drop 24).all (fun c => isCode c || c.before args0 about1) = true := by decide +kernel
theorem w_tables : (allAtoms (Jvm.Cond.code x code maxLocals ret :: tables_1)).before args0 about1 = true := by
  rw [allAtoms_all]
  show words1.all (fun c => c.before args0 about1) = true
  refine all_split ?_ w_codes
  rw [← List.take_append_drop 24 words1, List.all_append, w_t1, w_t2]
  rfl
set_option maxRecDepth 65536 in
theorem w_case : (Jvm.Cond.and given_1 narrow_1).before args0 about1 = true := by decide +kernel
theorem w_applies : (headSpec (Jvm.Cond.code x code maxLocals ret :: tables_1) room_1).applies x e0.platform about1 = true :=
  (Spec.applies_iff w_frames).mpr ⟨w_running, w_runnable, w_alone, w_named, w_hears, w_ripe, w_room, w_tables⟩
theorem atStart : AtStart classFile x code maxLocals ret World_1 tables_1 room_1 Calls_1 rest_1 Pre_1 launch0 p0 e0 about1 theMethod args0 below0 :=
  ⟨lists_1, trivial, launch0.admits_env _ _ _, launch0.least_env, fairChoices_fair.cas, fairChoices_fair.clock, w_frames, w_args, w_heap, w_applies, trivial, trivial, w_case⟩
end start1
theorem witness_1 : WitnessClaimed_1 := ⟨start1.p0, start1.e0, start1.about1, start1.theMethod, start1.args0, start1.below0, start1.atStart⟩
end Jvm.Pilot.@@N@@
