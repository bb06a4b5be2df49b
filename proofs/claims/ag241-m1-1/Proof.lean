import JvmDerived
import JvmDerived.Pilot.@@N@@Statement
import JvmDerived.Pilot.@@N@@Code
set_option linter.unusedVariables false
set_option linter.unusedSimpArgs false
namespace Jvm.Pilot.@@N@@
open Jvm Jvm.ClassFile Sem Op Lib Jvm.Free Jvm.Stand Jvm.LawKit Jvm.RoadKit Bundle Jvm.Pilot.@@N@@.Jvm.D

/-- the run that stands at T with the top frame f ends, and its end is as P says -/
def Go (p : Program) (e : Env) (below : List Frame) (P : Outcome → State → Prop) (T : State) (f : JFrame) : Prop :=
  ∃ s₂ o, Steps p.tables e below (T.setTop f) s₂ ∧ s₂.status = .running ∧ Ended s₂ below o ∧ P o s₂
theorem Go.st {p : Program} {e : Env} {below : List Frame} {P : Outcome → State → Prop} {T T' : State} {f f' : JFrame}
    (h : ∀ t, Steps p.tables e below (T'.setTop f') t → Steps p.tables e below (T.setTop f) t) (k : Go p e below P T' f') : Go p e below P T f := by
  obtain ⟨s₂, o, a, b⟩ := k
  exact ⟨s₂, o, h _ a, b⟩
theorem Go.tr {p : Program} {e : Env} {below : List Frame} {P : Outcome → State → Prop} {T T' : State} {f f' : JFrame}
    (h : Steps p.tables e below (T.setTop f) (T'.setTop f')) (k : Go p e below P T' f') : Go p e below P T f := by
  obtain ⟨s₂, o, a, b⟩ := k
  exact ⟨s₂, o, h.trans a, b⟩
/-- what a contract says of the end -/
abbrev Done (s : State) (Q : Option Value → Heap → List Loc → Prop) (C S : Nat) (o : Outcome) (U' : State) : Prop :=
  ∃ v L, o = .returned v ∧ Q v U'.heap L ∧ FrameEnd s o U' L C S
theorem Go.ret {p : Program} {l : Launch} {e : Env} {R : Room} {s : State} {m : MethodId} {args : Array Value} {below : List Frame} {meth : Method} {c : Code} {T : State} {locs : List Loc} {cells slots : Nat} {h : Heap}
    {Q : Option Value → Heap → List Loc → Prop} {C S : Nat} {v : Option Value} {f : JFrame}
    (X : Stand p l e R s m args below meth c T locs cells slots) (hlk : meth.locks = false) (hv : meth.sig.returnType = none → v = none)
    (hs : ∀ fs, (∀ (f : JFrame) (acts : List Action), f.method = m → f.locked = none → f.entered = [] → (doReturn e (T.setTop f) acts v).1 = T.setFrames fs) → Steps p.tables e below (T.setTop f) (T.setFrames fs))
    (eT : T.heap = h) (hQ : Q v h locs) (hc : cells ≤ C) (hl : slots ≤ S) : Go p e below (Done s Q C S) T f := by
  obtain ⟨fs, hr, hrun, hended, hW, hsame⟩ := X.leave (v := v) hv hlk
  refine ⟨_, _, hs fs hr, hrun, hended, v, locs, rfl, ?_, ⟨_, rfl⟩, hW, hsame.mono hc hl⟩
  show Q v T.heap locs
  rw [eT]; exact hQ
theorem Go.retB {p : Program} {l : Launch} {e : Env} {R : Room} {s : State} {m : MethodId} {args : Array Value} {below : List Frame} {meth : Method} {c : Code} {T : State} {locs : List Loc} {cells slots : Nat} {h : Heap}
    {Q : Option Value → Heap → List Loc → Prop} {C S : Nat} {pc : Nat} {Ls : Array Slot} {z : Int32} {rest : List Value} {t : FieldType}
    (X : Stand p l e R s m args below meth c T locs cells slots) (hlk : meth.locks = false) (hx : p.tables.exec = Jvm.exec) (hret : meth.sig.returnType = some t) (ht : t = .boolean ∨ t = .byte ∨ t = .char ∨ t = .short)
    (hd : decode c.code pc = .ok (.ireturn, 1)) (eT : T.heap = h) (hQ : Q (some (.int (nar t z))) h locs) (hc : cells ≤ C) (hl : slots ≤ S) : Go p e below (Done s Q C S) T (mkF m pc Ls (.int z :: rest)) :=
  Go.ret X hlk (fun h => by rw [hret] at h; cases h) (fun _ hr => retN X hx hret ht hd hr) eT hQ hc hl
theorem Go.retV {p : Program} {l : Launch} {e : Env} {R : Room} {s : State} {m : MethodId} {args : Array Value} {below : List Frame} {meth : Method} {c : Code} {T : State} {locs : List Loc} {cells slots : Nat} {h : Heap}
    {Q : Option Value → Heap → List Loc → Prop} {C S : Nat} {pc : Nat} {Ls : Array Slot} {w : Value} {rest : List Value} {t : FieldType} {i : Instr}
    (X : Stand p l e R s m args below meth c T locs cells slots) (hlk : meth.locks = false) (hx : p.tables.exec = Jvm.exec) (hret : meth.sig.returnType = some t) (hn : narrow t w = w)
    (hi : (i = .ireturn ∧ (t = .int ∨ t = .boolean ∨ t = .byte ∨ t = .char ∨ t = .short) ∧ ∃ z, w = .int z) ∨ (i = .lreturn ∧ t = .long ∧ ∃ z, w = .long z) ∨ (i = .dreturn ∧ t = .double ∧ ∃ z, w = .double z) ∨ (i = .freturn ∧ t = .float ∧ ∃ z, w = .float z) ∨ (i = .areturn ∧ t.isReference = true ∧ w.isRef = true))
    (hd : decode c.code pc = .ok (i, 1)) (eT : T.heap = h) (hQ : Q (some w) h locs) (hc : cells ≤ C) (hl : slots ≤ S) : Go p e below (Done s Q C S) T (mkF m pc Ls (w :: rest)) :=
  Go.ret X hlk (fun h => by rw [hret] at h; cases h) (fun _ hr => retOut X hx hret hn hi hd hr) eT hQ hc hl
theorem Go.ret0 {p : Program} {l : Launch} {e : Env} {R : Room} {s : State} {m : MethodId} {args : Array Value} {below : List Frame} {meth : Method} {c : Code} {T : State} {locs : List Loc} {cells slots : Nat} {h : Heap}
    {Q : Option Value → Heap → List Loc → Prop} {C S : Nat} {pc : Nat} {Ls : Array Slot}
    (X : Stand p l e R s m args below meth c T locs cells slots) (hlk : meth.locks = false) (hx : p.tables.exec = Jvm.exec) (hret : meth.sig.returnType = none)
    (hd : decode c.code pc = .ok (.return_, 1)) (eT : T.heap = h) (hQ : Q none h locs) (hc : cells ≤ C) (hl : slots ≤ S) : Go p e below (Done s Q C S) T (mkF m pc Ls []) :=
  Go.ret X hlk (fun _ => rfl) (fun _ hr => X.returnOut hx hret hd hr) eT hQ hc hl
/-- an entry that stands resolved stays so, also where String constants are loaded -/
theorem own_fieldRef {Z : State} {vm1 : Vm} {a0 : Array Value} {own O n d : String} {index : Nat} (hW : Z.Warmed39 vm1) (w : (Cond.fieldRef own index O n d).before a0 Z = true) : (Cond.fieldRef own index O n d).before a0 (Z.setVm vm1) = true := by
  simp only [Cond.before, Cond.holds, Cond.value, State.vm_setVm, hW.alike.findClass, State.names_setVm hW.alike] at w ⊢
  cases q1 : Z.vm.findClass own with
  | none => rw [q1] at w; simp at w
  | some cO =>
    cases q2 : Z.fieldFound? O n d with
    | none => rw [q1, q2] at w; simp at w
    | some z =>
      obtain ⟨c1, k1, i1, f1⟩ := z
      obtain ⟨k2, q3, -⟩ := State.fieldFound?_setVm hW.alike q2
      rw [q1, q2] at w
      rw [q3]
      cases q4 : Z.resolvedAt? own index with
      | none => rw [q4] at w; simp at w
      | some r => rw [State.resolvedAt?_warmed39 hW q4]; rw [q4] at w; exact w
/-- getfield through an entry that stands resolved at the start (the word fieldRef) -/
theorem own_getR {p : Program} {l : Launch} {e : Env} {R : Room} {s : State} {m : MethodId} {args : Array Value} {below : List Frame} {meth : Method} {c : Code} {T : State} {locs : List Loc} {cells slots : Nat} {Z : State} {a0 : Array Value} {h : Heap}
    (X : Stand p l e R s m args below meth c T locs cells slots) (hx : p.tables.exec = Jvm.exec) (hZ : Z.Warmed39 s.vm) {own O n d : String} {index : Nat} (hown : s.vm.findClass own = some m.cls) (w : (Cond.fieldRef own index O n d).before a0 Z = true)
    (eT : T.heap = h) {a : Addr} {v : Value} (F : Fld Z h a O n d v) {g : JFrame} (hg : g.method = m) {rest : List Value} (hs : g.stack = .ref a :: rest) (hd : decode c.code g.pc = .ok (.getfield index, 3)) :
    ∃ T', Stand p l e R s m args below meth c T' locs cells slots ∧ T'.heap = h ∧ ∀ target, Steps p.tables e below (T'.setTop { g with pc := g.pc + 3, stack := v :: rest }) target → Steps p.tables e below (T.setTop g) target := by
  obtain ⟨cell, cf, k, i, f, h1, h2, h3, h4, -, -, h7⟩ := F
  have w1 : (Cond.fieldRef own index O n d).before args s = true := (own_fieldRef hZ w : (Cond.fieldRef own index O n d).before a0 (Z.setVm s.vm) = true)
  have w2 := Cond.fieldRef_warmed X.warmed w1
  obtain ⟨k1, r1, -⟩ := State.fieldFound?_setVm (s := Z) hZ.alike h2
  obtain ⟨k2, r2, -⟩ := State.fieldFound?_setVm (s := s) X.warmed.alike (show s.fieldFound? O n d = _ from r1)
  obtain ⟨c', k', i', f', q1, q2⟩ := Cond.fieldRef_spec (s := s.setVm T.vm) (cur := m.cls) (by rw [State.vm_setVm, X.warmed.alike.findClass]; exact hown) w2
  cases q1.symm.trans r2
  exact ⟨T, X, eT, fun target k => (X.getfieldR hx hg q2 h3 hs (by rw [eT]; exact h1) h4 h7 hd (Steps.refl _)).trans k⟩
/-- the form of every contract here -/
def Con (l : Launch) (Z : State) (y : MethodName) (bytes : ByteArray) (ml : Nat) (ret : Option FieldType) (ws : List Jvm.Cond) (room : Room) (A : Array Value) (h0 : Heap) (Q : Option Value → Heap → List Loc → Prop) : Prop :=
  MetFree l y (head1 (Jvm.Cond.code y bytes ml ret :: ws) room) (fun a U => a = A ∧ Z.Warmed39 U.vm ∧ U.heap = h0) (fun _ _ _ _ _ => True) (fun _ U o U' => ∃ v L, o = .returned v ∧ Q v U'.heap L ∧ FrameEnd U o U' L room.cells room.slots)
theorem own_body {l : Launch} {Z : State} {y : MethodName} {bytes : ByteArray} {ml : Nat} {ret : Option FieldType} {ws : List Jvm.Cond} {room : Room} {A : Array Value} {h0 : Heap} {Q : Option Value → Heap → List Loc → Prop} (hpn : plainFor y = true)
    (body : ∀ (p : Program) (e : Env) (s : State) (m : MethodId) (below : List Frame) (meth : Method) (c : Code) (s₁ : State), p.tables.exec = Jvm.exec → c.code = bytes → c.maxLocals = ml → Z.Warmed39 s.vm → s.vm.findClass y.cls = some m.cls → meth.name = y.name → meth.locks = false → meth.sig.returnType = ret →
      Stand p l e room s m A below meth c s₁ [] 0 0 → s₁.heap = h0 → Go p e below (Done s Q room.cells room.slots) s₁ (entryFrame m A ml)) : Con l Z y bytes ml ret ws room A h0 Q := by
  refine MetFree.of_bodySF hpn hisR ?_
  intro p e s m args below meth c s₁ Bd hml0 hP hK
  obtain ⟨rfl, hZ, hh⟩ := hP
  exact body p e s m below meth c s₁ Bd.exec Bd.bytes hml0 hZ (findClass_of_methodNamed Bd.named) (name_of_methodNamed Bd.named Bd.method).1 Bd.notSynchronized Bd.returns (Stand.of_body Bd) (by rw [← hh, Bd.state]; rfl)
theorem own_back {l : Launch} {R : Room} {p : Program} {e : Env} {below : List Frame} {s Z : State} {args a0 : Array Value} {h : Heap} {y : MethodName} {bytes : ByteArray} {maxL : Nat} {ret : Option FieldType} {rm : Room} {len W : Nat} {as' : Array Value} {Q : Option Value → Heap → List Loc → Prop}
    (hM : Con l Z y bytes maxL ret [] rm as' h Q) (hZ : Z.Warmed39 s.vm) (wc : (Cond.code y bytes maxL ret).before a0 Z = true) (wz : (Cond.initialized y.cls).before a0 Z = true) (hf : rm.frames + 1 ≤ R.frames) (hl : W + (maxL + 11) + rm.locals ≤ R.locals) :
    Back l R p e below s args y len W (fun A a => a = as' ∧ A.U.heap = h ∧ A.cells + rm.cells ≤ R.cells ∧ A.slots + rm.slots ≤ R.slots)
      (fun A _ v B => ∃ L, Q v B.U.heap L ∧ B.locs = A.locs ++ L ∧ B.cells = A.cells + rm.cells ∧ B.slots = A.slots + rm.slots) := backOf (Q := Q) hM hZ wc wz hf hl
theorem Con.weaken {l : Launch} {Z : State} {y : MethodName} {bytes : ByteArray} {ml : Nat} {ret : Option FieldType} {ws : List Jvm.Cond} {room : Room} {A : Array Value} {h0 : Heap} {Q Q' : Option Value → Heap → List Loc → Prop} (h : Con l Z y bytes ml ret ws room A h0 Q) (hq : ∀ v h L, Q v h L → Q' v h L) : Con l Z y bytes ml ret ws room A h0 Q' := fun p e h1 h2 h3 s m args below hf happ hP hK => by
  obtain ⟨n, o, a, b, c, v, L, d, e, f⟩ := h p e h1 h2 h3 s m args below hf happ hP hK
  exact ⟨n, o, a, b, c, v, L, d, hq _ _ _ e, f⟩
theorem own_cat {v : Value} (h : v.isRef = true) : v.category = 1 := by cases v <;> first | rfl | (simp [Value.isRef] at h)
theorem acYes {c : ClassFile.ACond} {x y : Value} (h : x = y) : acV c (decide (x = y)) = acV c true := by rw [decide_eq_true h]

theorem own_weaken {l : Launch} {x : MethodName} {S : Spec} {P : Array Value → State → Prop} {K : Program → Env → List Frame → State → Array Value → Prop} {Q Q' : Array Value → State → Outcome → State → Prop} (h : MetFree l x S P K Q) (hq : ∀ a s o t, Q a s o t → Q' a s o t) : MetFree l x S P K Q' := fun p e h1 h2 h3 s m args below hf happ hP hK => by
  obtain ⟨n, o, a, b, c, d⟩ := h p e h1 h2 h3 s m args below hf happ hP hK
  exact ⟨n, o, a, b, c, hq _ _ _ _ d⟩
section Start
variable {args : Array Value} {first s : State} {o : Option Outcome} {idx : List Nat} {t u : Term}
theorem own_eq_int {k : Int32} (h : (Jvm.Cond.eq t (.int k)).value args first o s idx = some true) : t.eval args first o idx s = some (.int k) := by
  simp only [Cond.value, Term.eval] at h
  cases ht : t.eval args first o idx s with
  | none => simp [ht] at h
  | some x => cases x <;> simp [ht] at h ⊢ <;> exact h
theorem own_eq_ref {a : Addr} (h : (Jvm.Cond.eq t u).value args first o s idx = some true) (hu : u.eval args first o idx s = some (.ref a)) : t.eval args first o idx s = some (.ref a) := by
  simp only [Cond.value] at h
  rw [hu] at h
  cases ht : t.eval args first o idx s with
  | none => simp [ht] at h
  | some x => cases x <;> simp [ht] at h ⊢ <;> exact h
theorem own_len {a : Addr} {cl : Cell} {z : Int32} (h : (Term.length t).eval args first o idx s = some (.int z)) (ht : t.eval args first o idx s = some (.ref a)) (hc : s.heap[a]? = some cl) : cl.slots.size < 2 ^ 31 ∧ cl.slots.size.toInt32 = z := by
  obtain ⟨a', cell, e1, e2, e3⟩ := Term.length_spec h
  cases ht.symm.trans e1
  have e4 := (State.arrayAt?_spec e2).1
  cases hc.symm.trans e4
  refine ⟨?_, (Value.int.inj e3).symm⟩
  by_cases hn : cl.slots.size < 2147483648
  · exact hn
  · simp only [Term.eval, Option.bind_eq_bind, ht, Option.bind_some, e2] at h
    rw [if_neg hn] at h; cases h
theorem own_ne_int {z : Int32} (h : (Jvm.Cond.not (Jvm.Cond.eq t (.int 0))).value args first o s idx = some true) (ht : t.eval args first o idx s = some (.int z)) : ¬ z = 0 := by
  have h1 := not_v h
  intro e
  subst e
  simp [Cond.value, Term.eval, ht] at h1
theorem own_fld {a : Addr} {C n d : String} {k : Int32} (h : (Jvm.Cond.eq (Term.field t C n d) (.int k)).value args s none s [] = some true) (ht : t.eval args s none [] s = some (.ref a)) : Fld s s.heap a C n d (.int k) :=
  Fld.start (by rw [← fld_at ht]; exact own_eq_int h)
theorem own_elem {a : Addr} {cl : Cell} {w : Addr} {j : Int32} {i : Nat} (h : (Jvm.Cond.eq (Term.elem t (.int j)) u).value args s none s [] = some true) (hu : u.eval args s none [] s = some (.ref w)) (ht : t.eval args s none [] s = some (.ref a)) (hc : s.heap[a]? = some cl) (hj : j.toNatClampNeg = i) : cl.slots[i]? = some (.ref w) := by
  subst hj
  exact (elem_in (own_eq_ref h hu) ht rfl hc).2
end Start

def World1 (Z : State) (w_TRANSACTION_ID : Addr) (w__VALUES : Addr) (w_CARD : Addr) (w_CUSTOMER : Addr) (w_MERCHANT : Addr) (w_DEVICE : Addr) (w_IP : Addr) (w_CARD_ID : Addr) (w_CUSTOMER_ID : Addr) (w_MERCHANT_ID : Addr) (w_DEVICE_ID : Addr) (w_IP_ADDRESS : Addr) (w_CURRENCY : Addr) (w_HOME_LOCATION : Addr) (w_HOUR : Addr) (w_MERCHANT_CATEGORY : Addr) (w_AMOUNT : Addr) (w_MERCHANT_LOCATION : Addr) (w_CARD_PRESENT : Addr) (w_OCCURRED_AT : Addr) (k__VALUES : ClassId) : Prop :=
  Sta Z Z.heap "com/example/naysay/naysay/rules/Field" "TRANSACTION_ID" "Lcom/example/naysay/naysay/rules/Field;" (.ref w_TRANSACTION_ID) ∧
  Exa Z Z.heap w_TRANSACTION_ID "com/example/naysay/naysay/rules/Field" ∧
  Sta Z Z.heap "com/example/naysay/naysay/rules/Key" "$VALUES" "[Lcom/example/naysay/naysay/rules/Key;" (.ref w__VALUES) ∧
  Exa Z Z.heap w__VALUES "[Lcom/example/naysay/naysay/rules/Key;" ∧
  Sta Z Z.heap "com/example/naysay/naysay/rules/Key" "CARD" "Lcom/example/naysay/naysay/rules/Key;" (.ref w_CARD) ∧
  Exa Z Z.heap w_CARD "com/example/naysay/naysay/rules/Key" ∧
  Sta Z Z.heap "com/example/naysay/naysay/rules/Key" "CUSTOMER" "Lcom/example/naysay/naysay/rules/Key;" (.ref w_CUSTOMER) ∧
  Exa Z Z.heap w_CUSTOMER "com/example/naysay/naysay/rules/Key" ∧
  Sta Z Z.heap "com/example/naysay/naysay/rules/Key" "MERCHANT" "Lcom/example/naysay/naysay/rules/Key;" (.ref w_MERCHANT) ∧
  Exa Z Z.heap w_MERCHANT "com/example/naysay/naysay/rules/Key" ∧
  Sta Z Z.heap "com/example/naysay/naysay/rules/Key" "DEVICE" "Lcom/example/naysay/naysay/rules/Key;" (.ref w_DEVICE) ∧
  Exa Z Z.heap w_DEVICE "com/example/naysay/naysay/rules/Key" ∧
  Sta Z Z.heap "com/example/naysay/naysay/rules/Key" "IP" "Lcom/example/naysay/naysay/rules/Key;" (.ref w_IP) ∧
  Exa Z Z.heap w_IP "com/example/naysay/naysay/rules/Key" ∧
  Sta Z Z.heap "com/example/naysay/naysay/rules/Field" "CARD_ID" "Lcom/example/naysay/naysay/rules/Field;" (.ref w_CARD_ID) ∧
  Exa Z Z.heap w_CARD_ID "com/example/naysay/naysay/rules/Field" ∧
  Sta Z Z.heap "com/example/naysay/naysay/rules/Field" "CUSTOMER_ID" "Lcom/example/naysay/naysay/rules/Field;" (.ref w_CUSTOMER_ID) ∧
  Exa Z Z.heap w_CUSTOMER_ID "com/example/naysay/naysay/rules/Field" ∧
  Sta Z Z.heap "com/example/naysay/naysay/rules/Field" "MERCHANT_ID" "Lcom/example/naysay/naysay/rules/Field;" (.ref w_MERCHANT_ID) ∧
  Exa Z Z.heap w_MERCHANT_ID "com/example/naysay/naysay/rules/Field" ∧
  Sta Z Z.heap "com/example/naysay/naysay/rules/Field" "DEVICE_ID" "Lcom/example/naysay/naysay/rules/Field;" (.ref w_DEVICE_ID) ∧
  Exa Z Z.heap w_DEVICE_ID "com/example/naysay/naysay/rules/Field" ∧
  Sta Z Z.heap "com/example/naysay/naysay/rules/Field" "IP_ADDRESS" "Lcom/example/naysay/naysay/rules/Field;" (.ref w_IP_ADDRESS) ∧
  Exa Z Z.heap w_IP_ADDRESS "com/example/naysay/naysay/rules/Field" ∧
  Sta Z Z.heap "com/example/naysay/naysay/rules/Field" "CURRENCY" "Lcom/example/naysay/naysay/rules/Field;" (.ref w_CURRENCY) ∧
  Exa Z Z.heap w_CURRENCY "com/example/naysay/naysay/rules/Field" ∧
  Sta Z Z.heap "com/example/naysay/naysay/rules/Field" "HOME_LOCATION" "Lcom/example/naysay/naysay/rules/Field;" (.ref w_HOME_LOCATION) ∧
  Exa Z Z.heap w_HOME_LOCATION "com/example/naysay/naysay/rules/Field" ∧
  Sta Z Z.heap "com/example/naysay/naysay/rules/Field" "HOUR" "Lcom/example/naysay/naysay/rules/Field;" (.ref w_HOUR) ∧
  Exa Z Z.heap w_HOUR "com/example/naysay/naysay/rules/Field" ∧
  Sta Z Z.heap "com/example/naysay/naysay/rules/Field" "MERCHANT_CATEGORY" "Lcom/example/naysay/naysay/rules/Field;" (.ref w_MERCHANT_CATEGORY) ∧
  Exa Z Z.heap w_MERCHANT_CATEGORY "com/example/naysay/naysay/rules/Field" ∧
  Sta Z Z.heap "com/example/naysay/naysay/rules/Field" "AMOUNT" "Lcom/example/naysay/naysay/rules/Field;" (.ref w_AMOUNT) ∧
  Exa Z Z.heap w_AMOUNT "com/example/naysay/naysay/rules/Field" ∧
  Sta Z Z.heap "com/example/naysay/naysay/rules/Field" "MERCHANT_LOCATION" "Lcom/example/naysay/naysay/rules/Field;" (.ref w_MERCHANT_LOCATION) ∧
  Exa Z Z.heap w_MERCHANT_LOCATION "com/example/naysay/naysay/rules/Field" ∧
  Sta Z Z.heap "com/example/naysay/naysay/rules/Field" "CARD_PRESENT" "Lcom/example/naysay/naysay/rules/Field;" (.ref w_CARD_PRESENT) ∧
  Exa Z Z.heap w_CARD_PRESENT "com/example/naysay/naysay/rules/Field" ∧
  Sta Z Z.heap "com/example/naysay/naysay/rules/Field" "OCCURRED_AT" "Lcom/example/naysay/naysay/rules/Field;" (.ref w_OCCURRED_AT) ∧
  Exa Z Z.heap w_OCCURRED_AT "com/example/naysay/naysay/rules/Field" ∧
  Fld Z Z.heap w_CARD_ID "java/lang/Enum" "ordinal" "I" (.int (4 : Int32)) ∧
  Fld Z Z.heap w_TRANSACTION_ID "java/lang/Enum" "ordinal" "I" (.int (0 : Int32)) ∧
  Fld Z Z.heap w_CUSTOMER_ID "java/lang/Enum" "ordinal" "I" (.int (5 : Int32)) ∧
  Fld Z Z.heap w_MERCHANT_ID "java/lang/Enum" "ordinal" "I" (.int (6 : Int32)) ∧
  Fld Z Z.heap w_DEVICE_ID "java/lang/Enum" "ordinal" "I" (.int (8 : Int32)) ∧
  Fld Z Z.heap w_IP_ADDRESS "java/lang/Enum" "ordinal" "I" (.int (9 : Int32)) ∧
  Fld Z Z.heap w_CURRENCY "java/lang/Enum" "ordinal" "I" (.int (3 : Int32)) ∧
  Fld Z Z.heap w_HOME_LOCATION "java/lang/Enum" "ordinal" "I" (.int (12 : Int32)) ∧
  Fld Z Z.heap w_HOUR "java/lang/Enum" "ordinal" "I" (.int (13 : Int32)) ∧
  Fld Z Z.heap w_MERCHANT_CATEGORY "java/lang/Enum" "ordinal" "I" (.int (7 : Int32)) ∧
  Fld Z Z.heap w_AMOUNT "java/lang/Enum" "ordinal" "I" (.int (2 : Int32)) ∧
  Fld Z Z.heap w_MERCHANT_LOCATION "java/lang/Enum" "ordinal" "I" (.int (11 : Int32)) ∧
  Fld Z Z.heap w_CARD_PRESENT "java/lang/Enum" "ordinal" "I" (.int (10 : Int32)) ∧
  Fld Z Z.heap w_OCCURRED_AT "java/lang/Enum" "ordinal" "I" (.int (1 : Int32)) ∧
  Fld Z Z.heap w_CARD "com/example/naysay/naysay/rules/Key" "field" "Lcom/example/naysay/naysay/rules/Field;" (.ref w_CARD_ID) ∧
  Fld Z Z.heap w_CUSTOMER "com/example/naysay/naysay/rules/Key" "field" "Lcom/example/naysay/naysay/rules/Field;" (.ref w_CUSTOMER_ID) ∧
  Fld Z Z.heap w_MERCHANT "com/example/naysay/naysay/rules/Key" "field" "Lcom/example/naysay/naysay/rules/Field;" (.ref w_MERCHANT_ID) ∧
  Fld Z Z.heap w_DEVICE "com/example/naysay/naysay/rules/Key" "field" "Lcom/example/naysay/naysay/rules/Field;" (.ref w_DEVICE_ID) ∧
  Fld Z Z.heap w_IP "com/example/naysay/naysay/rules/Key" "field" "Lcom/example/naysay/naysay/rules/Field;" (.ref w_IP_ADDRESS) ∧
  Arv Z Z.heap w__VALUES k__VALUES (Jvm.ClassFile.FieldType.object "com/example/naysay/naysay/rules/Key") (5 : Int32) [(.ref w_CARD), (.ref w_CUSTOMER), (.ref w_MERCHANT), (.ref w_DEVICE), (.ref w_IP)] .null
theorem pn_com_example_naysay_naysay_rules_Key : plainName "com/example/naysay/naysay/rules/Key" = true := by first | (simp [plainName, overriddenIn]; done) | decide +kernel
theorem d4_0 : decode prog_20_method_1_code 0 = .ok (.getstatic 19, 3) := by decide +kernel
theorem d4_3 : decode prog_20_method_1_code 3 = .ok (.invokevirtual 23, 3) := by decide +kernel
theorem d4_6 : decode prog_20_method_1_code 6 = .ok (.checkcast 24, 3) := by decide +kernel
theorem d4_9 : decode prog_20_method_1_code 9 = .ok (.areturn, 1) := by decide +kernel
set_option maxRecDepth 65536 in
set_option maxHeartbeats 40000000 in
theorem rmV (l : Launch) (Z : State) (a0 : Array Value) (hw : ∀ d ∈ tables_1, d.before a0 Z = true) (ws : List Jvm.Cond) (w_TRANSACTION_ID : Addr) (w__VALUES : Addr) (w_CARD : Addr) (w_CUSTOMER : Addr) (w_MERCHANT : Addr) (w_DEVICE : Addr) (w_IP : Addr) (w_CARD_ID : Addr) (w_CUSTOMER_ID : Addr) (w_MERCHANT_ID : Addr) (w_DEVICE_ID : Addr) (w_IP_ADDRESS : Addr) (w_CURRENCY : Addr) (w_HOME_LOCATION : Addr) (w_HOUR : Addr) (w_MERCHANT_CATEGORY : Addr) (w_AMOUNT : Addr) (w_MERCHANT_LOCATION : Addr) (w_CARD_PRESENT : Addr) (w_OCCURRED_AT : Addr) (k__VALUES : ClassId) (h0 : Heap) (n0 : Nat) (O0 : Old Z n0 h0) (WW : World1 Z w_TRANSACTION_ID w__VALUES w_CARD w_CUSTOMER w_MERCHANT w_DEVICE w_IP w_CARD_ID w_CUSTOMER_ID w_MERCHANT_ID w_DEVICE_ID w_IP_ADDRESS w_CURRENCY w_HOME_LOCATION w_HOUR w_MERCHANT_CATEGORY w_AMOUNT w_MERCHANT_LOCATION w_CARD_PRESENT w_OCCURRED_AT k__VALUES) :
    Con l Z (⟨"com/example/naysay/naysay/rules/Key", "values", "()[Lcom/example/naysay/naysay/rules/Key;"⟩ : MethodName) prog_20_method_1_code 0 (some (.array (.object "com/example/naysay/naysay/rules/Key"))) ws ({ frames := 1, cells := 1, slots := 5, locals := 14 } : Room) #[] h0 (fun v h L => ∃ b : Addr, v = some (.ref b) ∧ Fr n0 L ∧ h0.size ≤ b ∧ Keep h0 h [] ∧ Arv Z h b k__VALUES (Jvm.ClassFile.FieldType.object "com/example/naysay/naysay/rules/Key") (5 : Int32) [(.ref w_CARD), (.ref w_CUSTOMER), (.ref w_MERCHANT), (.ref w_DEVICE), (.ref w_IP)] .null ∧ Exa Z h b "[Lcom/example/naysay/naysay/rules/Key;") := by
  refine own_body (plainFor_of_name pn_com_example_naysay_naysay_rules_Key) ?_
  intro p e s m below meth c s₁ hx hby hml hZ hown hnm hlk hret X0 e0
  have N0 := Fr.nil n0
  have K0 : Keep h0 h0 [] := Keep.refl _ _
  refine Go.st (T' := s₁) (f' := (mkF m 0 #[] [])) (fun _ k => castTop (by first | (simp [entryFrame, mkF, argsToLocals, Value.category]; done) | rfl) k) ?_
  have ⟨S_w_TRANSACTION_ID, E_w_TRANSACTION_ID, S_w__VALUES, E_w__VALUES, S_w_CARD, E_w_CARD, S_w_CUSTOMER, E_w_CUSTOMER, S_w_MERCHANT, E_w_MERCHANT, S_w_DEVICE, E_w_DEVICE, S_w_IP, E_w_IP, S_w_CARD_ID, E_w_CARD_ID, S_w_CUSTOMER_ID, E_w_CUSTOMER_ID, S_w_MERCHANT_ID, E_w_MERCHANT_ID, S_w_DEVICE_ID, E_w_DEVICE_ID, S_w_IP_ADDRESS, E_w_IP_ADDRESS, S_w_CURRENCY, E_w_CURRENCY, S_w_HOME_LOCATION, E_w_HOME_LOCATION, S_w_HOUR, E_w_HOUR, S_w_MERCHANT_CATEGORY, E_w_MERCHANT_CATEGORY, S_w_AMOUNT, E_w_AMOUNT, S_w_MERCHANT_LOCATION, E_w_MERCHANT_LOCATION, S_w_CARD_PRESENT, E_w_CARD_PRESENT, S_w_OCCURRED_AT, E_w_OCCURRED_AT, F_w_CARD_ID_ordinal, F_w_TRANSACTION_ID_ordinal, F_w_CUSTOMER_ID_ordinal, F_w_MERCHANT_ID_ordinal, F_w_DEVICE_ID_ordinal, F_w_IP_ADDRESS_ordinal, F_w_CURRENCY_ordinal, F_w_HOME_LOCATION_ordinal, F_w_HOUR_ordinal, F_w_MERCHANT_CATEGORY_ordinal, F_w_AMOUNT_ordinal, F_w_MERCHANT_LOCATION_ordinal, F_w_CARD_PRESENT_ordinal, F_w_OCCURRED_AT_ordinal, F_w_CARD_field, F_w_CUSTOMER_field, F_w_MERCHANT_field, F_w_DEVICE_field, F_w_IP_field, V_w__VALUES⟩ := WW
  have lt_w_TRANSACTION_ID := E_w_TRANSACTION_ID.lt
  have lt_w__VALUES := E_w__VALUES.lt
  have lt_w_CARD := E_w_CARD.lt
  have lt_w_CUSTOMER := E_w_CUSTOMER.lt
  have lt_w_MERCHANT := E_w_MERCHANT.lt
  have lt_w_DEVICE := E_w_DEVICE.lt
  have lt_w_IP := E_w_IP.lt
  have lt_w_CARD_ID := E_w_CARD_ID.lt
  have lt_w_CUSTOMER_ID := E_w_CUSTOMER_ID.lt
  have lt_w_MERCHANT_ID := E_w_MERCHANT_ID.lt
  have lt_w_DEVICE_ID := E_w_DEVICE_ID.lt
  have lt_w_IP_ADDRESS := E_w_IP_ADDRESS.lt
  have lt_w_CURRENCY := E_w_CURRENCY.lt
  have lt_w_HOME_LOCATION := E_w_HOME_LOCATION.lt
  have lt_w_HOUR := E_w_HOUR.lt
  have lt_w_MERCHANT_CATEGORY := E_w_MERCHANT_CATEGORY.lt
  have lt_w_AMOUNT := E_w_AMOUNT.lt
  have lt_w_MERCHANT_LOCATION := E_w_MERCHANT_LOCATION.lt
  have lt_w_CARD_PRESENT := E_w_CARD_PRESENT.lt
  have lt_w_OCCURRED_AT := E_w_OCCURRED_AT.lt
  obtain ⟨T1, X1, e1, st1⟩ := getS2 X0 hx hZ hown (host := "") (Or.inl (hw _ (List.mem_of_getElem? (i := 18) rfl))) Via.refl e0 (S_w__VALUES.ext O0.2) (g := (mkF m 0 #[] [])) rfl (hb hby d4_0)
  refine Go.st (f' := (mkF m 3 #[] [(.ref w__VALUES)])) (fun _ k => st1 _ k) ?_
  obtain ⟨T3, h3, X3, e3, E3, V3, A3, st3⟩ := cloneH X1 hx hZ hown (hw _ (List.mem_of_getElem? (i := 20) rfl)) (hw _ (List.mem_of_getElem? (i := 21) rfl)) (hw _ (List.mem_of_getElem? (i := 25) rfl)) (hw _ (List.mem_of_getElem? (i := 23) rfl)) (hw _ (List.mem_of_getElem? (i := 24) rfl)) (hw _ (List.mem_of_getElem? (i := 26) rfl)) e1 (Arv.arh (V_w__VALUES.ext O0.2)) (E_w__VALUES.ext O0.2) (g := (mkF m 3 #[] [(.ref w__VALUES)])) rfl (by rw [hml]; rfl) rfl (hb hby d4_3) (by decide) (W := 0) (by show 2 * 0 + _ ≤ _; exact Nat.le_of_eq rfl) (by decide) (cap := 5) (by decide) (by decide) (by decide)
  obtain ⟨b3, g3⟩ : ∃ z, z = h0.size := ⟨_, rfl⟩
  rw [← g3] at V3 A3 st3
  have ne_w_TRANSACTION_ID_b3 : w_TRANSACTION_ID ≠ b3 := Nat.ne_of_lt (Nat.lt_of_lt_of_le lt_w_TRANSACTION_ID (Nat.le_trans O0.2.1 (Nat.le_of_eq g3.symm)))
  have ne_w__VALUES_b3 : w__VALUES ≠ b3 := Nat.ne_of_lt (Nat.lt_of_lt_of_le lt_w__VALUES (Nat.le_trans O0.2.1 (Nat.le_of_eq g3.symm)))
  have ne_w_CARD_b3 : w_CARD ≠ b3 := Nat.ne_of_lt (Nat.lt_of_lt_of_le lt_w_CARD (Nat.le_trans O0.2.1 (Nat.le_of_eq g3.symm)))
  have ne_w_CUSTOMER_b3 : w_CUSTOMER ≠ b3 := Nat.ne_of_lt (Nat.lt_of_lt_of_le lt_w_CUSTOMER (Nat.le_trans O0.2.1 (Nat.le_of_eq g3.symm)))
  have ne_w_MERCHANT_b3 : w_MERCHANT ≠ b3 := Nat.ne_of_lt (Nat.lt_of_lt_of_le lt_w_MERCHANT (Nat.le_trans O0.2.1 (Nat.le_of_eq g3.symm)))
  have ne_w_DEVICE_b3 : w_DEVICE ≠ b3 := Nat.ne_of_lt (Nat.lt_of_lt_of_le lt_w_DEVICE (Nat.le_trans O0.2.1 (Nat.le_of_eq g3.symm)))
  have ne_w_IP_b3 : w_IP ≠ b3 := Nat.ne_of_lt (Nat.lt_of_lt_of_le lt_w_IP (Nat.le_trans O0.2.1 (Nat.le_of_eq g3.symm)))
  have ne_w_CARD_ID_b3 : w_CARD_ID ≠ b3 := Nat.ne_of_lt (Nat.lt_of_lt_of_le lt_w_CARD_ID (Nat.le_trans O0.2.1 (Nat.le_of_eq g3.symm)))
  have ne_w_CUSTOMER_ID_b3 : w_CUSTOMER_ID ≠ b3 := Nat.ne_of_lt (Nat.lt_of_lt_of_le lt_w_CUSTOMER_ID (Nat.le_trans O0.2.1 (Nat.le_of_eq g3.symm)))
  have ne_w_MERCHANT_ID_b3 : w_MERCHANT_ID ≠ b3 := Nat.ne_of_lt (Nat.lt_of_lt_of_le lt_w_MERCHANT_ID (Nat.le_trans O0.2.1 (Nat.le_of_eq g3.symm)))
  have ne_w_DEVICE_ID_b3 : w_DEVICE_ID ≠ b3 := Nat.ne_of_lt (Nat.lt_of_lt_of_le lt_w_DEVICE_ID (Nat.le_trans O0.2.1 (Nat.le_of_eq g3.symm)))
  have ne_w_IP_ADDRESS_b3 : w_IP_ADDRESS ≠ b3 := Nat.ne_of_lt (Nat.lt_of_lt_of_le lt_w_IP_ADDRESS (Nat.le_trans O0.2.1 (Nat.le_of_eq g3.symm)))
  have ne_w_CURRENCY_b3 : w_CURRENCY ≠ b3 := Nat.ne_of_lt (Nat.lt_of_lt_of_le lt_w_CURRENCY (Nat.le_trans O0.2.1 (Nat.le_of_eq g3.symm)))
  have ne_w_HOME_LOCATION_b3 : w_HOME_LOCATION ≠ b3 := Nat.ne_of_lt (Nat.lt_of_lt_of_le lt_w_HOME_LOCATION (Nat.le_trans O0.2.1 (Nat.le_of_eq g3.symm)))
  have ne_w_HOUR_b3 : w_HOUR ≠ b3 := Nat.ne_of_lt (Nat.lt_of_lt_of_le lt_w_HOUR (Nat.le_trans O0.2.1 (Nat.le_of_eq g3.symm)))
  have ne_w_MERCHANT_CATEGORY_b3 : w_MERCHANT_CATEGORY ≠ b3 := Nat.ne_of_lt (Nat.lt_of_lt_of_le lt_w_MERCHANT_CATEGORY (Nat.le_trans O0.2.1 (Nat.le_of_eq g3.symm)))
  have ne_w_AMOUNT_b3 : w_AMOUNT ≠ b3 := Nat.ne_of_lt (Nat.lt_of_lt_of_le lt_w_AMOUNT (Nat.le_trans O0.2.1 (Nat.le_of_eq g3.symm)))
  have ne_w_MERCHANT_LOCATION_b3 : w_MERCHANT_LOCATION ≠ b3 := Nat.ne_of_lt (Nat.lt_of_lt_of_le lt_w_MERCHANT_LOCATION (Nat.le_trans O0.2.1 (Nat.le_of_eq g3.symm)))
  have ne_w_CARD_PRESENT_b3 : w_CARD_PRESENT ≠ b3 := Nat.ne_of_lt (Nat.lt_of_lt_of_le lt_w_CARD_PRESENT (Nat.le_trans O0.2.1 (Nat.le_of_eq g3.symm)))
  have ne_w_OCCURRED_AT_b3 : w_OCCURRED_AT ≠ b3 := Nat.ne_of_lt (Nat.lt_of_lt_of_le lt_w_OCCURRED_AT (Nat.le_trans O0.2.1 (Nat.le_of_eq g3.symm)))
  have g_b3 : n0 ≤ b3 := Nat.le_trans (O0.1 ▸ O0.2.1) (Nat.le_of_eq g3.symm)
  have O3 : Old Z n0 h3 := O0.ext E3
  have sz_b3 : h0.size ≤ b3 := Nat.le_trans K0.1 (Nat.le_of_eq g3.symm)
  have K3 : Keep h0 h3 [] := K0.ext E3
  have V_b3 : Arv Z h3 b3 k__VALUES (Jvm.ClassFile.FieldType.object "com/example/naysay/naysay/rules/Key") (5 : Int32) [(.ref w_CARD), (.ref w_CUSTOMER), (.ref w_MERCHANT), (.ref w_DEVICE), (.ref w_IP)] .null := V3
  have lt_b3 := A3.lt
  refine Go.st (f' := (mkF m 6 #[] [(.ref b3)])) (fun _ k => st3 _ k) ?_
  obtain ⟨T4, X4, e4, st4⟩ := castY X3 hx hZ hown (hw _ (List.mem_of_getElem? (i := 33) rfl)) e3 (Ins.self A3) (g := (mkF m 6 #[] [(.ref b3)])) rfl rfl (hb hby d4_6)
  refine Go.st (f' := (mkF m 9 #[] [(.ref b3)])) (fun _ k => st4 _ k) ?_
  refine Go.retV X4 hlk hx (t := (.array (.object "com/example/naysay/naysay/rules/Key"))) hret rfl (Or.inr (Or.inr (Or.inr (Or.inr ⟨rfl, rfl, rfl⟩)))) (hb hby d4_9) e4 ?_ (by decide) (by decide)
  exact ⟨b3, rfl, N0, sz_b3, K3, V_b3, A3⟩
theorem pn_com_example_naysay_naysay_rules_KeyReadingPinLaw : plainName "com/example/naysay/naysay/rules/KeyReadingPinLaw" = true := by first | (simp [plainName, overriddenIn]; done) | decide +kernel
theorem d1_0 : decode method_2_code 0 = .ok (.iload_n 0, 1) := by decide +kernel
theorem d1_1 : decode method_2_code 1 = .ok (.ifCond .ne 7, 3) := by decide +kernel
theorem d1_4 : decode method_2_code 4 = .ok (.getstatic 7, 3) := by decide +kernel
theorem d1_7 : decode method_2_code 7 = .ok (.areturn, 1) := by decide +kernel
theorem d1_8 : decode method_2_code 8 = .ok (.iload_n 0, 1) := by decide +kernel
theorem d1_9 : decode method_2_code 9 = .ok (.iconst 1, 1) := by decide +kernel
theorem d1_10 : decode method_2_code 10 = .ok (.if_icmp .ne 7, 3) := by decide +kernel
theorem d1_13 : decode method_2_code 13 = .ok (.getstatic 13, 3) := by decide +kernel
theorem d1_16 : decode method_2_code 16 = .ok (.areturn, 1) := by decide +kernel
theorem d1_17 : decode method_2_code 17 = .ok (.iload_n 0, 1) := by decide +kernel
theorem d1_18 : decode method_2_code 18 = .ok (.iconst 2, 1) := by decide +kernel
theorem d1_19 : decode method_2_code 19 = .ok (.if_icmp .ne 7, 3) := by decide +kernel
theorem d1_22 : decode method_2_code 22 = .ok (.getstatic 16, 3) := by decide +kernel
theorem d1_25 : decode method_2_code 25 = .ok (.areturn, 1) := by decide +kernel
theorem d1_26 : decode method_2_code 26 = .ok (.iload_n 0, 1) := by decide +kernel
theorem d1_27 : decode method_2_code 27 = .ok (.iconst 3, 1) := by decide +kernel
theorem d1_28 : decode method_2_code 28 = .ok (.if_icmp .ne 7, 3) := by decide +kernel
theorem d1_31 : decode method_2_code 31 = .ok (.getstatic 19, 3) := by decide +kernel
theorem d1_34 : decode method_2_code 34 = .ok (.areturn, 1) := by decide +kernel
theorem d1_35 : decode method_2_code 35 = .ok (.iload_n 0, 1) := by decide +kernel
theorem d1_36 : decode method_2_code 36 = .ok (.iconst 4, 1) := by decide +kernel
theorem d1_37 : decode method_2_code 37 = .ok (.if_icmp .ne 7, 3) := by decide +kernel
theorem d1_40 : decode method_2_code 40 = .ok (.getstatic 22, 3) := by decide +kernel
theorem d1_43 : decode method_2_code 43 = .ok (.areturn, 1) := by decide +kernel
theorem d1_44 : decode method_2_code 44 = .ok (.iload_n 0, 1) := by decide +kernel
theorem d1_45 : decode method_2_code 45 = .ok (.iconst 5, 1) := by decide +kernel
theorem d1_46 : decode method_2_code 46 = .ok (.if_icmp .ne 7, 3) := by decide +kernel
theorem d1_49 : decode method_2_code 49 = .ok (.getstatic 25, 3) := by decide +kernel
theorem d1_52 : decode method_2_code 52 = .ok (.areturn, 1) := by decide +kernel
theorem d1_53 : decode method_2_code 53 = .ok (.iload_n 0, 1) := by decide +kernel
theorem d1_54 : decode method_2_code 54 = .ok (.bipush 6, 2) := by decide +kernel
theorem d1_56 : decode method_2_code 56 = .ok (.if_icmp .ne 7, 3) := by decide +kernel
theorem d1_59 : decode method_2_code 59 = .ok (.getstatic 28, 3) := by decide +kernel
theorem d1_62 : decode method_2_code 62 = .ok (.areturn, 1) := by decide +kernel
theorem d1_63 : decode method_2_code 63 = .ok (.iload_n 0, 1) := by decide +kernel
theorem d1_64 : decode method_2_code 64 = .ok (.bipush 7, 2) := by decide +kernel
theorem d1_66 : decode method_2_code 66 = .ok (.if_icmp .ne 7, 3) := by decide +kernel
theorem d1_69 : decode method_2_code 69 = .ok (.getstatic 31, 3) := by decide +kernel
theorem d1_72 : decode method_2_code 72 = .ok (.areturn, 1) := by decide +kernel
theorem d1_73 : decode method_2_code 73 = .ok (.iload_n 0, 1) := by decide +kernel
theorem d1_74 : decode method_2_code 74 = .ok (.bipush 8, 2) := by decide +kernel
theorem d1_76 : decode method_2_code 76 = .ok (.if_icmp .ne 7, 3) := by decide +kernel
theorem d1_79 : decode method_2_code 79 = .ok (.getstatic 34, 3) := by decide +kernel
theorem d1_82 : decode method_2_code 82 = .ok (.areturn, 1) := by decide +kernel
theorem d1_83 : decode method_2_code 83 = .ok (.iload_n 0, 1) := by decide +kernel
theorem d1_84 : decode method_2_code 84 = .ok (.bipush 9, 2) := by decide +kernel
theorem d1_86 : decode method_2_code 86 = .ok (.if_icmp .ne 7, 3) := by decide +kernel
theorem d1_89 : decode method_2_code 89 = .ok (.getstatic 37, 3) := by decide +kernel
theorem d1_92 : decode method_2_code 92 = .ok (.areturn, 1) := by decide +kernel
theorem d1_93 : decode method_2_code 93 = .ok (.iload_n 0, 1) := by decide +kernel
theorem d1_94 : decode method_2_code 94 = .ok (.bipush 10, 2) := by decide +kernel
theorem d1_96 : decode method_2_code 96 = .ok (.if_icmp .ne 7, 3) := by decide +kernel
theorem d1_99 : decode method_2_code 99 = .ok (.getstatic 40, 3) := by decide +kernel
theorem d1_102 : decode method_2_code 102 = .ok (.areturn, 1) := by decide +kernel
theorem d1_103 : decode method_2_code 103 = .ok (.iload_n 0, 1) := by decide +kernel
theorem d1_104 : decode method_2_code 104 = .ok (.bipush 11, 2) := by decide +kernel
theorem d1_106 : decode method_2_code 106 = .ok (.if_icmp .ne 7, 3) := by decide +kernel
theorem d1_109 : decode method_2_code 109 = .ok (.getstatic 43, 3) := by decide +kernel
theorem d1_112 : decode method_2_code 112 = .ok (.areturn, 1) := by decide +kernel
theorem d1_113 : decode method_2_code 113 = .ok (.iload_n 0, 1) := by decide +kernel
theorem d1_114 : decode method_2_code 114 = .ok (.bipush 12, 2) := by decide +kernel
theorem d1_116 : decode method_2_code 116 = .ok (.if_icmp .ne 7, 3) := by decide +kernel
theorem d1_119 : decode method_2_code 119 = .ok (.getstatic 46, 3) := by decide +kernel
theorem d1_122 : decode method_2_code 122 = .ok (.areturn, 1) := by decide +kernel
theorem d1_123 : decode method_2_code 123 = .ok (.getstatic 49, 3) := by decide +kernel
theorem d1_126 : decode method_2_code 126 = .ok (.areturn, 1) := by decide +kernel
def fldV (p1 : Int32) (w_TRANSACTION_ID : Addr) (w__VALUES : Addr) (w_CARD : Addr) (w_CUSTOMER : Addr) (w_MERCHANT : Addr) (w_DEVICE : Addr) (w_IP : Addr) (w_CARD_ID : Addr) (w_CUSTOMER_ID : Addr) (w_MERCHANT_ID : Addr) (w_DEVICE_ID : Addr) (w_IP_ADDRESS : Addr) (w_CURRENCY : Addr) (w_HOME_LOCATION : Addr) (w_HOUR : Addr) (w_MERCHANT_CATEGORY : Addr) (w_AMOUNT : Addr) (w_MERCHANT_LOCATION : Addr) (w_CARD_PRESENT : Addr) (w_OCCURRED_AT : Addr) (k__VALUES : ClassId) : Value := (if p1 = (0 : Int32) then (.ref w_TRANSACTION_ID) else (if p1 = (1 : Int32) then (.ref w_OCCURRED_AT) else (if p1 = (2 : Int32) then (.ref w_AMOUNT) else (if p1 = (3 : Int32) then (.ref w_CURRENCY) else (if p1 = (4 : Int32) then (.ref w_CARD_ID) else (if p1 = (5 : Int32) then (.ref w_CUSTOMER_ID) else (if p1 = (6 : Int32) then (.ref w_MERCHANT_ID) else (if p1 = (7 : Int32) then (.ref w_MERCHANT_CATEGORY) else (if p1 = (8 : Int32) then (.ref w_DEVICE_ID) else (if p1 = (9 : Int32) then (.ref w_IP_ADDRESS) else (if p1 = (10 : Int32) then (.ref w_CARD_PRESENT) else (if p1 = (11 : Int32) then (.ref w_MERCHANT_LOCATION) else (if p1 = (12 : Int32) then (.ref w_HOME_LOCATION) else (.ref w_HOUR))))))))))))))
set_option maxRecDepth 65536 in
set_option maxHeartbeats 40000000 in
theorem rmF (l : Launch) (Z : State) (a0 : Array Value) (hw : ∀ d ∈ tables_1, d.before a0 Z = true) (ws : List Jvm.Cond) (p1 : Int32) (w_TRANSACTION_ID : Addr) (w__VALUES : Addr) (w_CARD : Addr) (w_CUSTOMER : Addr) (w_MERCHANT : Addr) (w_DEVICE : Addr) (w_IP : Addr) (w_CARD_ID : Addr) (w_CUSTOMER_ID : Addr) (w_MERCHANT_ID : Addr) (w_DEVICE_ID : Addr) (w_IP_ADDRESS : Addr) (w_CURRENCY : Addr) (w_HOME_LOCATION : Addr) (w_HOUR : Addr) (w_MERCHANT_CATEGORY : Addr) (w_AMOUNT : Addr) (w_MERCHANT_LOCATION : Addr) (w_CARD_PRESENT : Addr) (w_OCCURRED_AT : Addr) (k__VALUES : ClassId) (h0 : Heap) (n0 : Nat) (O0 : Old Z n0 h0) (WW : World1 Z w_TRANSACTION_ID w__VALUES w_CARD w_CUSTOMER w_MERCHANT w_DEVICE w_IP w_CARD_ID w_CUSTOMER_ID w_MERCHANT_ID w_DEVICE_ID w_IP_ADDRESS w_CURRENCY w_HOME_LOCATION w_HOUR w_MERCHANT_CATEGORY w_AMOUNT w_MERCHANT_LOCATION w_CARD_PRESENT w_OCCURRED_AT k__VALUES) :
    Con l Z (⟨"com/example/naysay/naysay/rules/KeyReadingPinLaw", "fieldAt", "(I)Lcom/example/naysay/naysay/rules/Field;"⟩ : MethodName) method_2_code 1 (some (.object "com/example/naysay/naysay/rules/Field")) ws ({ frames := 0, cells := 0, slots := 0, locals := 0 } : Room) #[(.int p1)] h0 (fun v h L => v = some (fldV p1 w_TRANSACTION_ID w__VALUES w_CARD w_CUSTOMER w_MERCHANT w_DEVICE w_IP w_CARD_ID w_CUSTOMER_ID w_MERCHANT_ID w_DEVICE_ID w_IP_ADDRESS w_CURRENCY w_HOME_LOCATION w_HOUR w_MERCHANT_CATEGORY w_AMOUNT w_MERCHANT_LOCATION w_CARD_PRESENT w_OCCURRED_AT k__VALUES) ∧ Fr n0 L ∧ h = h0) := by
  refine own_body (plainFor_of_name pn_com_example_naysay_naysay_rules_KeyReadingPinLaw) ?_
  intro p e s m below meth c s₁ hx hby hml hZ hown hnm hlk hret X0 e0
  have N0 := Fr.nil n0
  refine Go.st (T' := s₁) (f' := (mkF m 0 #[iv p1] [])) (fun _ k => castTop (by first | (simp [entryFrame, mkF, argsToLocals, Value.category]; done) | rfl) k) ?_
  have ⟨S_w_TRANSACTION_ID, E_w_TRANSACTION_ID, S_w__VALUES, E_w__VALUES, S_w_CARD, E_w_CARD, S_w_CUSTOMER, E_w_CUSTOMER, S_w_MERCHANT, E_w_MERCHANT, S_w_DEVICE, E_w_DEVICE, S_w_IP, E_w_IP, S_w_CARD_ID, E_w_CARD_ID, S_w_CUSTOMER_ID, E_w_CUSTOMER_ID, S_w_MERCHANT_ID, E_w_MERCHANT_ID, S_w_DEVICE_ID, E_w_DEVICE_ID, S_w_IP_ADDRESS, E_w_IP_ADDRESS, S_w_CURRENCY, E_w_CURRENCY, S_w_HOME_LOCATION, E_w_HOME_LOCATION, S_w_HOUR, E_w_HOUR, S_w_MERCHANT_CATEGORY, E_w_MERCHANT_CATEGORY, S_w_AMOUNT, E_w_AMOUNT, S_w_MERCHANT_LOCATION, E_w_MERCHANT_LOCATION, S_w_CARD_PRESENT, E_w_CARD_PRESENT, S_w_OCCURRED_AT, E_w_OCCURRED_AT, F_w_CARD_ID_ordinal, F_w_TRANSACTION_ID_ordinal, F_w_CUSTOMER_ID_ordinal, F_w_MERCHANT_ID_ordinal, F_w_DEVICE_ID_ordinal, F_w_IP_ADDRESS_ordinal, F_w_CURRENCY_ordinal, F_w_HOME_LOCATION_ordinal, F_w_HOUR_ordinal, F_w_MERCHANT_CATEGORY_ordinal, F_w_AMOUNT_ordinal, F_w_MERCHANT_LOCATION_ordinal, F_w_CARD_PRESENT_ordinal, F_w_OCCURRED_AT_ordinal, F_w_CARD_field, F_w_CUSTOMER_field, F_w_MERCHANT_field, F_w_DEVICE_field, F_w_IP_field, V_w__VALUES⟩ := WW
  have lt_w_TRANSACTION_ID := E_w_TRANSACTION_ID.lt
  have lt_w__VALUES := E_w__VALUES.lt
  have lt_w_CARD := E_w_CARD.lt
  have lt_w_CUSTOMER := E_w_CUSTOMER.lt
  have lt_w_MERCHANT := E_w_MERCHANT.lt
  have lt_w_DEVICE := E_w_DEVICE.lt
  have lt_w_IP := E_w_IP.lt
  have lt_w_CARD_ID := E_w_CARD_ID.lt
  have lt_w_CUSTOMER_ID := E_w_CUSTOMER_ID.lt
  have lt_w_MERCHANT_ID := E_w_MERCHANT_ID.lt
  have lt_w_DEVICE_ID := E_w_DEVICE_ID.lt
  have lt_w_IP_ADDRESS := E_w_IP_ADDRESS.lt
  have lt_w_CURRENCY := E_w_CURRENCY.lt
  have lt_w_HOME_LOCATION := E_w_HOME_LOCATION.lt
  have lt_w_HOUR := E_w_HOUR.lt
  have lt_w_MERCHANT_CATEGORY := E_w_MERCHANT_CATEGORY.lt
  have lt_w_AMOUNT := E_w_AMOUNT.lt
  have lt_w_MERCHANT_LOCATION := E_w_MERCHANT_LOCATION.lt
  have lt_w_CARD_PRESENT := E_w_CARD_PRESENT.lt
  have lt_w_OCCURRED_AT := E_w_OCCURRED_AT.lt
  refine Go.st (f' := (mkF m 1 #[iv p1] [(.int p1)])) (fun _ k => XS.iloadN X0.here hx rfl (hb hby d1_0) rfl k) ?_
  by_cases cd1 : p1 = (0 : Int32)
  · refine Go.st (f' := (mkF m 4 #[iv p1] [])) (fun _ k => XS.ifNo X0.here hx rfl (hb hby d1_1) rfl ((if0 _ _).trans (teq cd1).2) k) ?_
    obtain ⟨T2, X2, e2, st2⟩ := getS2 X0 hx hZ hown (host := "") (Or.inl (hw _ (List.mem_of_getElem? (i := 5) rfl))) Via.refl e0 (S_w_TRANSACTION_ID.ext O0.2) (g := (mkF m 4 #[iv p1] [])) rfl (hb hby d1_4)
    refine Go.st (f' := (mkF m 7 #[iv p1] [(.ref w_TRANSACTION_ID)])) (fun _ k => st2 _ k) ?_
    refine Go.retV X2 hlk hx (t := (.object "com/example/naysay/naysay/rules/Field")) hret rfl (Or.inr (Or.inr (Or.inr (Or.inr ⟨rfl, rfl, rfl⟩)))) (hb hby d1_7) e2 ?_ (by decide) (by decide)
    show (some (.ref w_TRANSACTION_ID) : Option Value) = some (fldV p1 w_TRANSACTION_ID w__VALUES w_CARD w_CUSTOMER w_MERCHANT w_DEVICE w_IP w_CARD_ID w_CUSTOMER_ID w_MERCHANT_ID w_DEVICE_ID w_IP_ADDRESS w_CURRENCY w_HOME_LOCATION w_HOUR w_MERCHANT_CATEGORY w_AMOUNT w_MERCHANT_LOCATION w_CARD_PRESENT w_OCCURRED_AT k__VALUES) ∧ _
    exact ⟨by rw [fldV, if_pos cd1], N0, rfl⟩
  · refine Go.st (f' := (mkF m 8 #[iv p1] [])) (fun _ k => XS.ifYes X0.here hx rfl (pc0 := 1) (pc' := 8) rfl (hb hby d1_1) rfl ((if0 _ _).trans (feq cd1).2) (by decide) (by decide) k) ?_
    refine Go.st (f' := (mkF m 9 #[iv p1] [(.int p1)])) (fun _ k => XS.iloadN X0.here hx rfl (hb hby d1_8) rfl k) ?_
    refine Go.st (f' := (mkF m 10 #[iv p1] [(.int 1), (.int p1)])) (fun _ k => XS.iconst X0.here hx rfl (hb hby d1_9) k) ?_
    by_cases cd3 : p1 = (1 : Int32)
    · refine Go.st (f' := (mkF m 13 #[iv p1] [])) (fun _ k => XS.icmpNo X0.here hx rfl (hb hby d1_10) rfl (teq cd3).2 k) ?_
      obtain ⟨T4, X4, e4, st4⟩ := getS2 X0 hx hZ hown (host := "") (Or.inl (hw _ (List.mem_of_getElem? (i := 60) rfl))) Via.refl e0 (S_w_OCCURRED_AT.ext O0.2) (g := (mkF m 13 #[iv p1] [])) rfl (hb hby d1_13)
      refine Go.st (f' := (mkF m 16 #[iv p1] [(.ref w_OCCURRED_AT)])) (fun _ k => st4 _ k) ?_
      refine Go.retV X4 hlk hx (t := (.object "com/example/naysay/naysay/rules/Field")) hret rfl (Or.inr (Or.inr (Or.inr (Or.inr ⟨rfl, rfl, rfl⟩)))) (hb hby d1_16) e4 ?_ (by decide) (by decide)
      show (some (.ref w_OCCURRED_AT) : Option Value) = some (fldV p1 w_TRANSACTION_ID w__VALUES w_CARD w_CUSTOMER w_MERCHANT w_DEVICE w_IP w_CARD_ID w_CUSTOMER_ID w_MERCHANT_ID w_DEVICE_ID w_IP_ADDRESS w_CURRENCY w_HOME_LOCATION w_HOUR w_MERCHANT_CATEGORY w_AMOUNT w_MERCHANT_LOCATION w_CARD_PRESENT w_OCCURRED_AT k__VALUES) ∧ _
      exact ⟨by rw [fldV, if_neg cd1, if_pos cd3], N0, rfl⟩
    · refine Go.st (f' := (mkF m 17 #[iv p1] [])) (fun _ k => XS.icmpYes X0.here hx rfl (pc0 := 10) (pc' := 17) rfl (hb hby d1_10) rfl (feq cd3).2 (by decide) (by decide) k) ?_
      refine Go.st (f' := (mkF m 18 #[iv p1] [(.int p1)])) (fun _ k => XS.iloadN X0.here hx rfl (hb hby d1_17) rfl k) ?_
      refine Go.st (f' := (mkF m 19 #[iv p1] [(.int 2), (.int p1)])) (fun _ k => XS.iconst X0.here hx rfl (hb hby d1_18) k) ?_
      by_cases cd5 : p1 = (2 : Int32)
      · refine Go.st (f' := (mkF m 22 #[iv p1] [])) (fun _ k => XS.icmpNo X0.here hx rfl (hb hby d1_19) rfl (teq cd5).2 k) ?_
        obtain ⟨T6, X6, e6, st6⟩ := getS2 X0 hx hZ hown (host := "") (Or.inl (hw _ (List.mem_of_getElem? (i := 52) rfl))) Via.refl e0 (S_w_AMOUNT.ext O0.2) (g := (mkF m 22 #[iv p1] [])) rfl (hb hby d1_22)
        refine Go.st (f' := (mkF m 25 #[iv p1] [(.ref w_AMOUNT)])) (fun _ k => st6 _ k) ?_
        refine Go.retV X6 hlk hx (t := (.object "com/example/naysay/naysay/rules/Field")) hret rfl (Or.inr (Or.inr (Or.inr (Or.inr ⟨rfl, rfl, rfl⟩)))) (hb hby d1_25) e6 ?_ (by decide) (by decide)
        show (some (.ref w_AMOUNT) : Option Value) = some (fldV p1 w_TRANSACTION_ID w__VALUES w_CARD w_CUSTOMER w_MERCHANT w_DEVICE w_IP w_CARD_ID w_CUSTOMER_ID w_MERCHANT_ID w_DEVICE_ID w_IP_ADDRESS w_CURRENCY w_HOME_LOCATION w_HOUR w_MERCHANT_CATEGORY w_AMOUNT w_MERCHANT_LOCATION w_CARD_PRESENT w_OCCURRED_AT k__VALUES) ∧ _
        exact ⟨by rw [fldV, if_neg cd1, if_neg cd3, if_pos cd5], N0, rfl⟩
      · refine Go.st (f' := (mkF m 26 #[iv p1] [])) (fun _ k => XS.icmpYes X0.here hx rfl (pc0 := 19) (pc' := 26) rfl (hb hby d1_19) rfl (feq cd5).2 (by decide) (by decide) k) ?_
        refine Go.st (f' := (mkF m 27 #[iv p1] [(.int p1)])) (fun _ k => XS.iloadN X0.here hx rfl (hb hby d1_26) rfl k) ?_
        refine Go.st (f' := (mkF m 28 #[iv p1] [(.int 3), (.int p1)])) (fun _ k => XS.iconst X0.here hx rfl (hb hby d1_27) k) ?_
        by_cases cd7 : p1 = (3 : Int32)
        · refine Go.st (f' := (mkF m 31 #[iv p1] [])) (fun _ k => XS.icmpNo X0.here hx rfl (hb hby d1_28) rfl (teq cd7).2 k) ?_
          obtain ⟨T8, X8, e8, st8⟩ := getS2 X0 hx hZ hown (host := "") (Or.inl (hw _ (List.mem_of_getElem? (i := 42) rfl))) Via.refl e0 (S_w_CURRENCY.ext O0.2) (g := (mkF m 31 #[iv p1] [])) rfl (hb hby d1_31)
          refine Go.st (f' := (mkF m 34 #[iv p1] [(.ref w_CURRENCY)])) (fun _ k => st8 _ k) ?_
          refine Go.retV X8 hlk hx (t := (.object "com/example/naysay/naysay/rules/Field")) hret rfl (Or.inr (Or.inr (Or.inr (Or.inr ⟨rfl, rfl, rfl⟩)))) (hb hby d1_34) e8 ?_ (by decide) (by decide)
          show (some (.ref w_CURRENCY) : Option Value) = some (fldV p1 w_TRANSACTION_ID w__VALUES w_CARD w_CUSTOMER w_MERCHANT w_DEVICE w_IP w_CARD_ID w_CUSTOMER_ID w_MERCHANT_ID w_DEVICE_ID w_IP_ADDRESS w_CURRENCY w_HOME_LOCATION w_HOUR w_MERCHANT_CATEGORY w_AMOUNT w_MERCHANT_LOCATION w_CARD_PRESENT w_OCCURRED_AT k__VALUES) ∧ _
          exact ⟨by rw [fldV, if_neg cd1, if_neg cd3, if_neg cd5, if_pos cd7], N0, rfl⟩
        · refine Go.st (f' := (mkF m 35 #[iv p1] [])) (fun _ k => XS.icmpYes X0.here hx rfl (pc0 := 28) (pc' := 35) rfl (hb hby d1_28) rfl (feq cd7).2 (by decide) (by decide) k) ?_
          refine Go.st (f' := (mkF m 36 #[iv p1] [(.int p1)])) (fun _ k => XS.iloadN X0.here hx rfl (hb hby d1_35) rfl k) ?_
          refine Go.st (f' := (mkF m 37 #[iv p1] [(.int 4), (.int p1)])) (fun _ k => XS.iconst X0.here hx rfl (hb hby d1_36) k) ?_
          by_cases cd9 : p1 = (4 : Int32)
          · refine Go.st (f' := (mkF m 40 #[iv p1] [])) (fun _ k => XS.icmpNo X0.here hx rfl (hb hby d1_37) rfl (teq cd9).2 k) ?_
            obtain ⟨T10, X10, e10, st10⟩ := getS2 X0 hx hZ hown (host := "") (Or.inl (hw _ (List.mem_of_getElem? (i := 48) rfl))) Via.refl e0 (S_w_CARD_ID.ext O0.2) (g := (mkF m 40 #[iv p1] [])) rfl (hb hby d1_40)
            refine Go.st (f' := (mkF m 43 #[iv p1] [(.ref w_CARD_ID)])) (fun _ k => st10 _ k) ?_
            refine Go.retV X10 hlk hx (t := (.object "com/example/naysay/naysay/rules/Field")) hret rfl (Or.inr (Or.inr (Or.inr (Or.inr ⟨rfl, rfl, rfl⟩)))) (hb hby d1_43) e10 ?_ (by decide) (by decide)
            show (some (.ref w_CARD_ID) : Option Value) = some (fldV p1 w_TRANSACTION_ID w__VALUES w_CARD w_CUSTOMER w_MERCHANT w_DEVICE w_IP w_CARD_ID w_CUSTOMER_ID w_MERCHANT_ID w_DEVICE_ID w_IP_ADDRESS w_CURRENCY w_HOME_LOCATION w_HOUR w_MERCHANT_CATEGORY w_AMOUNT w_MERCHANT_LOCATION w_CARD_PRESENT w_OCCURRED_AT k__VALUES) ∧ _
            exact ⟨by rw [fldV, if_neg cd1, if_neg cd3, if_neg cd5, if_neg cd7, if_pos cd9], N0, rfl⟩
          · refine Go.st (f' := (mkF m 44 #[iv p1] [])) (fun _ k => XS.icmpYes X0.here hx rfl (pc0 := 37) (pc' := 44) rfl (hb hby d1_37) rfl (feq cd9).2 (by decide) (by decide) k) ?_
            refine Go.st (f' := (mkF m 45 #[iv p1] [(.int p1)])) (fun _ k => XS.iloadN X0.here hx rfl (hb hby d1_44) rfl k) ?_
            refine Go.st (f' := (mkF m 46 #[iv p1] [(.int 5), (.int p1)])) (fun _ k => XS.iconst X0.here hx rfl (hb hby d1_45) k) ?_
            by_cases cd11 : p1 = (5 : Int32)
            · refine Go.st (f' := (mkF m 49 #[iv p1] [])) (fun _ k => XS.icmpNo X0.here hx rfl (hb hby d1_46) rfl (teq cd11).2 k) ?_
              obtain ⟨T12, X12, e12, st12⟩ := getS2 X0 hx hZ hown (host := "") (Or.inl (hw _ (List.mem_of_getElem? (i := 64) rfl))) Via.refl e0 (S_w_CUSTOMER_ID.ext O0.2) (g := (mkF m 49 #[iv p1] [])) rfl (hb hby d1_49)
              refine Go.st (f' := (mkF m 52 #[iv p1] [(.ref w_CUSTOMER_ID)])) (fun _ k => st12 _ k) ?_
              refine Go.retV X12 hlk hx (t := (.object "com/example/naysay/naysay/rules/Field")) hret rfl (Or.inr (Or.inr (Or.inr (Or.inr ⟨rfl, rfl, rfl⟩)))) (hb hby d1_52) e12 ?_ (by decide) (by decide)
              show (some (.ref w_CUSTOMER_ID) : Option Value) = some (fldV p1 w_TRANSACTION_ID w__VALUES w_CARD w_CUSTOMER w_MERCHANT w_DEVICE w_IP w_CARD_ID w_CUSTOMER_ID w_MERCHANT_ID w_DEVICE_ID w_IP_ADDRESS w_CURRENCY w_HOME_LOCATION w_HOUR w_MERCHANT_CATEGORY w_AMOUNT w_MERCHANT_LOCATION w_CARD_PRESENT w_OCCURRED_AT k__VALUES) ∧ _
              exact ⟨by rw [fldV, if_neg cd1, if_neg cd3, if_neg cd5, if_neg cd7, if_neg cd9, if_pos cd11], N0, rfl⟩
            · refine Go.st (f' := (mkF m 53 #[iv p1] [])) (fun _ k => XS.icmpYes X0.here hx rfl (pc0 := 46) (pc' := 53) rfl (hb hby d1_46) rfl (feq cd11).2 (by decide) (by decide) k) ?_
              refine Go.st (f' := (mkF m 54 #[iv p1] [(.int p1)])) (fun _ k => XS.iloadN X0.here hx rfl (hb hby d1_53) rfl k) ?_
              refine Go.st (f' := (mkF m 56 #[iv p1] [(.int 6), (.int p1)])) (fun _ k => XS.bipush X0.here hx rfl (hb hby d1_54) k) ?_
              by_cases cd13 : p1 = (6 : Int32)
              · refine Go.st (f' := (mkF m 59 #[iv p1] [])) (fun _ k => XS.icmpNo X0.here hx rfl (hb hby d1_56) rfl (teq cd13).2 k) ?_
                obtain ⟨T14, X14, e14, st14⟩ := getS2 X0 hx hZ hown (host := "") (Or.inl (hw _ (List.mem_of_getElem? (i := 66) rfl))) Via.refl e0 (S_w_MERCHANT_ID.ext O0.2) (g := (mkF m 59 #[iv p1] [])) rfl (hb hby d1_59)
                refine Go.st (f' := (mkF m 62 #[iv p1] [(.ref w_MERCHANT_ID)])) (fun _ k => st14 _ k) ?_
                refine Go.retV X14 hlk hx (t := (.object "com/example/naysay/naysay/rules/Field")) hret rfl (Or.inr (Or.inr (Or.inr (Or.inr ⟨rfl, rfl, rfl⟩)))) (hb hby d1_62) e14 ?_ (by decide) (by decide)
                show (some (.ref w_MERCHANT_ID) : Option Value) = some (fldV p1 w_TRANSACTION_ID w__VALUES w_CARD w_CUSTOMER w_MERCHANT w_DEVICE w_IP w_CARD_ID w_CUSTOMER_ID w_MERCHANT_ID w_DEVICE_ID w_IP_ADDRESS w_CURRENCY w_HOME_LOCATION w_HOUR w_MERCHANT_CATEGORY w_AMOUNT w_MERCHANT_LOCATION w_CARD_PRESENT w_OCCURRED_AT k__VALUES) ∧ _
                exact ⟨by rw [fldV, if_neg cd1, if_neg cd3, if_neg cd5, if_neg cd7, if_neg cd9, if_neg cd11, if_pos cd13], N0, rfl⟩
              · refine Go.st (f' := (mkF m 63 #[iv p1] [])) (fun _ k => XS.icmpYes X0.here hx rfl (pc0 := 56) (pc' := 63) rfl (hb hby d1_56) rfl (feq cd13).2 (by decide) (by decide) k) ?_
                refine Go.st (f' := (mkF m 64 #[iv p1] [(.int p1)])) (fun _ k => XS.iloadN X0.here hx rfl (hb hby d1_63) rfl k) ?_
                refine Go.st (f' := (mkF m 66 #[iv p1] [(.int 7), (.int p1)])) (fun _ k => XS.bipush X0.here hx rfl (hb hby d1_64) k) ?_
                by_cases cd15 : p1 = (7 : Int32)
                · refine Go.st (f' := (mkF m 69 #[iv p1] [])) (fun _ k => XS.icmpNo X0.here hx rfl (hb hby d1_66) rfl (teq cd15).2 k) ?_
                  obtain ⟨T16, X16, e16, st16⟩ := getS2 X0 hx hZ hown (host := "") (Or.inl (hw _ (List.mem_of_getElem? (i := 50) rfl))) Via.refl e0 (S_w_MERCHANT_CATEGORY.ext O0.2) (g := (mkF m 69 #[iv p1] [])) rfl (hb hby d1_69)
                  refine Go.st (f' := (mkF m 72 #[iv p1] [(.ref w_MERCHANT_CATEGORY)])) (fun _ k => st16 _ k) ?_
                  refine Go.retV X16 hlk hx (t := (.object "com/example/naysay/naysay/rules/Field")) hret rfl (Or.inr (Or.inr (Or.inr (Or.inr ⟨rfl, rfl, rfl⟩)))) (hb hby d1_72) e16 ?_ (by decide) (by decide)
                  show (some (.ref w_MERCHANT_CATEGORY) : Option Value) = some (fldV p1 w_TRANSACTION_ID w__VALUES w_CARD w_CUSTOMER w_MERCHANT w_DEVICE w_IP w_CARD_ID w_CUSTOMER_ID w_MERCHANT_ID w_DEVICE_ID w_IP_ADDRESS w_CURRENCY w_HOME_LOCATION w_HOUR w_MERCHANT_CATEGORY w_AMOUNT w_MERCHANT_LOCATION w_CARD_PRESENT w_OCCURRED_AT k__VALUES) ∧ _
                  exact ⟨by rw [fldV, if_neg cd1, if_neg cd3, if_neg cd5, if_neg cd7, if_neg cd9, if_neg cd11, if_neg cd13, if_pos cd15], N0, rfl⟩
                · refine Go.st (f' := (mkF m 73 #[iv p1] [])) (fun _ k => XS.icmpYes X0.here hx rfl (pc0 := 66) (pc' := 73) rfl (hb hby d1_66) rfl (feq cd15).2 (by decide) (by decide) k) ?_
                  refine Go.st (f' := (mkF m 74 #[iv p1] [(.int p1)])) (fun _ k => XS.iloadN X0.here hx rfl (hb hby d1_73) rfl k) ?_
                  refine Go.st (f' := (mkF m 76 #[iv p1] [(.int 8), (.int p1)])) (fun _ k => XS.bipush X0.here hx rfl (hb hby d1_74) k) ?_
                  by_cases cd17 : p1 = (8 : Int32)
                  · refine Go.st (f' := (mkF m 79 #[iv p1] [])) (fun _ k => XS.icmpNo X0.here hx rfl (hb hby d1_76) rfl (teq cd17).2 k) ?_
                    obtain ⟨T18, X18, e18, st18⟩ := getS2 X0 hx hZ hown (host := "") (Or.inl (hw _ (List.mem_of_getElem? (i := 58) rfl))) Via.refl e0 (S_w_DEVICE_ID.ext O0.2) (g := (mkF m 79 #[iv p1] [])) rfl (hb hby d1_79)
                    refine Go.st (f' := (mkF m 82 #[iv p1] [(.ref w_DEVICE_ID)])) (fun _ k => st18 _ k) ?_
                    refine Go.retV X18 hlk hx (t := (.object "com/example/naysay/naysay/rules/Field")) hret rfl (Or.inr (Or.inr (Or.inr (Or.inr ⟨rfl, rfl, rfl⟩)))) (hb hby d1_82) e18 ?_ (by decide) (by decide)
                    show (some (.ref w_DEVICE_ID) : Option Value) = some (fldV p1 w_TRANSACTION_ID w__VALUES w_CARD w_CUSTOMER w_MERCHANT w_DEVICE w_IP w_CARD_ID w_CUSTOMER_ID w_MERCHANT_ID w_DEVICE_ID w_IP_ADDRESS w_CURRENCY w_HOME_LOCATION w_HOUR w_MERCHANT_CATEGORY w_AMOUNT w_MERCHANT_LOCATION w_CARD_PRESENT w_OCCURRED_AT k__VALUES) ∧ _
                    exact ⟨by rw [fldV, if_neg cd1, if_neg cd3, if_neg cd5, if_neg cd7, if_neg cd9, if_neg cd11, if_neg cd13, if_neg cd15, if_pos cd17], N0, rfl⟩
                  · refine Go.st (f' := (mkF m 83 #[iv p1] [])) (fun _ k => XS.icmpYes X0.here hx rfl (pc0 := 76) (pc' := 83) rfl (hb hby d1_76) rfl (feq cd17).2 (by decide) (by decide) k) ?_
                    refine Go.st (f' := (mkF m 84 #[iv p1] [(.int p1)])) (fun _ k => XS.iloadN X0.here hx rfl (hb hby d1_83) rfl k) ?_
                    refine Go.st (f' := (mkF m 86 #[iv p1] [(.int 9), (.int p1)])) (fun _ k => XS.bipush X0.here hx rfl (hb hby d1_84) k) ?_
                    by_cases cd19 : p1 = (9 : Int32)
                    · refine Go.st (f' := (mkF m 89 #[iv p1] [])) (fun _ k => XS.icmpNo X0.here hx rfl (hb hby d1_86) rfl (teq cd19).2 k) ?_
                      obtain ⟨T20, X20, e20, st20⟩ := getS2 X0 hx hZ hown (host := "") (Or.inl (hw _ (List.mem_of_getElem? (i := 62) rfl))) Via.refl e0 (S_w_IP_ADDRESS.ext O0.2) (g := (mkF m 89 #[iv p1] [])) rfl (hb hby d1_89)
                      refine Go.st (f' := (mkF m 92 #[iv p1] [(.ref w_IP_ADDRESS)])) (fun _ k => st20 _ k) ?_
                      refine Go.retV X20 hlk hx (t := (.object "com/example/naysay/naysay/rules/Field")) hret rfl (Or.inr (Or.inr (Or.inr (Or.inr ⟨rfl, rfl, rfl⟩)))) (hb hby d1_92) e20 ?_ (by decide) (by decide)
                      show (some (.ref w_IP_ADDRESS) : Option Value) = some (fldV p1 w_TRANSACTION_ID w__VALUES w_CARD w_CUSTOMER w_MERCHANT w_DEVICE w_IP w_CARD_ID w_CUSTOMER_ID w_MERCHANT_ID w_DEVICE_ID w_IP_ADDRESS w_CURRENCY w_HOME_LOCATION w_HOUR w_MERCHANT_CATEGORY w_AMOUNT w_MERCHANT_LOCATION w_CARD_PRESENT w_OCCURRED_AT k__VALUES) ∧ _
                      exact ⟨by rw [fldV, if_neg cd1, if_neg cd3, if_neg cd5, if_neg cd7, if_neg cd9, if_neg cd11, if_neg cd13, if_neg cd15, if_neg cd17, if_pos cd19], N0, rfl⟩
                    · refine Go.st (f' := (mkF m 93 #[iv p1] [])) (fun _ k => XS.icmpYes X0.here hx rfl (pc0 := 86) (pc' := 93) rfl (hb hby d1_86) rfl (feq cd19).2 (by decide) (by decide) k) ?_
                      refine Go.st (f' := (mkF m 94 #[iv p1] [(.int p1)])) (fun _ k => XS.iloadN X0.here hx rfl (hb hby d1_93) rfl k) ?_
                      refine Go.st (f' := (mkF m 96 #[iv p1] [(.int 10), (.int p1)])) (fun _ k => XS.bipush X0.here hx rfl (hb hby d1_94) k) ?_
                      by_cases cd21 : p1 = (10 : Int32)
                      · refine Go.st (f' := (mkF m 99 #[iv p1] [])) (fun _ k => XS.icmpNo X0.here hx rfl (hb hby d1_96) rfl (teq cd21).2 k) ?_
                        obtain ⟨T22, X22, e22, st22⟩ := getS2 X0 hx hZ hown (host := "") (Or.inl (hw _ (List.mem_of_getElem? (i := 56) rfl))) Via.refl e0 (S_w_CARD_PRESENT.ext O0.2) (g := (mkF m 99 #[iv p1] [])) rfl (hb hby d1_99)
                        refine Go.st (f' := (mkF m 102 #[iv p1] [(.ref w_CARD_PRESENT)])) (fun _ k => st22 _ k) ?_
                        refine Go.retV X22 hlk hx (t := (.object "com/example/naysay/naysay/rules/Field")) hret rfl (Or.inr (Or.inr (Or.inr (Or.inr ⟨rfl, rfl, rfl⟩)))) (hb hby d1_102) e22 ?_ (by decide) (by decide)
                        show (some (.ref w_CARD_PRESENT) : Option Value) = some (fldV p1 w_TRANSACTION_ID w__VALUES w_CARD w_CUSTOMER w_MERCHANT w_DEVICE w_IP w_CARD_ID w_CUSTOMER_ID w_MERCHANT_ID w_DEVICE_ID w_IP_ADDRESS w_CURRENCY w_HOME_LOCATION w_HOUR w_MERCHANT_CATEGORY w_AMOUNT w_MERCHANT_LOCATION w_CARD_PRESENT w_OCCURRED_AT k__VALUES) ∧ _
                        exact ⟨by rw [fldV, if_neg cd1, if_neg cd3, if_neg cd5, if_neg cd7, if_neg cd9, if_neg cd11, if_neg cd13, if_neg cd15, if_neg cd17, if_neg cd19, if_pos cd21], N0, rfl⟩
                      · refine Go.st (f' := (mkF m 103 #[iv p1] [])) (fun _ k => XS.icmpYes X0.here hx rfl (pc0 := 96) (pc' := 103) rfl (hb hby d1_96) rfl (feq cd21).2 (by decide) (by decide) k) ?_
                        refine Go.st (f' := (mkF m 104 #[iv p1] [(.int p1)])) (fun _ k => XS.iloadN X0.here hx rfl (hb hby d1_103) rfl k) ?_
                        refine Go.st (f' := (mkF m 106 #[iv p1] [(.int 11), (.int p1)])) (fun _ k => XS.bipush X0.here hx rfl (hb hby d1_104) k) ?_
                        by_cases cd23 : p1 = (11 : Int32)
                        · refine Go.st (f' := (mkF m 109 #[iv p1] [])) (fun _ k => XS.icmpNo X0.here hx rfl (hb hby d1_106) rfl (teq cd23).2 k) ?_
                          obtain ⟨T24, X24, e24, st24⟩ := getS2 X0 hx hZ hown (host := "") (Or.inl (hw _ (List.mem_of_getElem? (i := 54) rfl))) Via.refl e0 (S_w_MERCHANT_LOCATION.ext O0.2) (g := (mkF m 109 #[iv p1] [])) rfl (hb hby d1_109)
                          refine Go.st (f' := (mkF m 112 #[iv p1] [(.ref w_MERCHANT_LOCATION)])) (fun _ k => st24 _ k) ?_
                          refine Go.retV X24 hlk hx (t := (.object "com/example/naysay/naysay/rules/Field")) hret rfl (Or.inr (Or.inr (Or.inr (Or.inr ⟨rfl, rfl, rfl⟩)))) (hb hby d1_112) e24 ?_ (by decide) (by decide)
                          show (some (.ref w_MERCHANT_LOCATION) : Option Value) = some (fldV p1 w_TRANSACTION_ID w__VALUES w_CARD w_CUSTOMER w_MERCHANT w_DEVICE w_IP w_CARD_ID w_CUSTOMER_ID w_MERCHANT_ID w_DEVICE_ID w_IP_ADDRESS w_CURRENCY w_HOME_LOCATION w_HOUR w_MERCHANT_CATEGORY w_AMOUNT w_MERCHANT_LOCATION w_CARD_PRESENT w_OCCURRED_AT k__VALUES) ∧ _
                          exact ⟨by rw [fldV, if_neg cd1, if_neg cd3, if_neg cd5, if_neg cd7, if_neg cd9, if_neg cd11, if_neg cd13, if_neg cd15, if_neg cd17, if_neg cd19, if_neg cd21, if_pos cd23], N0, rfl⟩
                        · refine Go.st (f' := (mkF m 113 #[iv p1] [])) (fun _ k => XS.icmpYes X0.here hx rfl (pc0 := 106) (pc' := 113) rfl (hb hby d1_106) rfl (feq cd23).2 (by decide) (by decide) k) ?_
                          refine Go.st (f' := (mkF m 114 #[iv p1] [(.int p1)])) (fun _ k => XS.iloadN X0.here hx rfl (hb hby d1_113) rfl k) ?_
                          refine Go.st (f' := (mkF m 116 #[iv p1] [(.int 12), (.int p1)])) (fun _ k => XS.bipush X0.here hx rfl (hb hby d1_114) k) ?_
                          by_cases cd25 : p1 = (12 : Int32)
                          · refine Go.st (f' := (mkF m 119 #[iv p1] [])) (fun _ k => XS.icmpNo X0.here hx rfl (hb hby d1_116) rfl (teq cd25).2 k) ?_
                            obtain ⟨T26, X26, e26, st26⟩ := getS2 X0 hx hZ hown (host := "") (Or.inl (hw _ (List.mem_of_getElem? (i := 44) rfl))) Via.refl e0 (S_w_HOME_LOCATION.ext O0.2) (g := (mkF m 119 #[iv p1] [])) rfl (hb hby d1_119)
                            refine Go.st (f' := (mkF m 122 #[iv p1] [(.ref w_HOME_LOCATION)])) (fun _ k => st26 _ k) ?_
                            refine Go.retV X26 hlk hx (t := (.object "com/example/naysay/naysay/rules/Field")) hret rfl (Or.inr (Or.inr (Or.inr (Or.inr ⟨rfl, rfl, rfl⟩)))) (hb hby d1_122) e26 ?_ (by decide) (by decide)
                            show (some (.ref w_HOME_LOCATION) : Option Value) = some (fldV p1 w_TRANSACTION_ID w__VALUES w_CARD w_CUSTOMER w_MERCHANT w_DEVICE w_IP w_CARD_ID w_CUSTOMER_ID w_MERCHANT_ID w_DEVICE_ID w_IP_ADDRESS w_CURRENCY w_HOME_LOCATION w_HOUR w_MERCHANT_CATEGORY w_AMOUNT w_MERCHANT_LOCATION w_CARD_PRESENT w_OCCURRED_AT k__VALUES) ∧ _
                            exact ⟨by rw [fldV, if_neg cd1, if_neg cd3, if_neg cd5, if_neg cd7, if_neg cd9, if_neg cd11, if_neg cd13, if_neg cd15, if_neg cd17, if_neg cd19, if_neg cd21, if_neg cd23, if_pos cd25], N0, rfl⟩
                          · refine Go.st (f' := (mkF m 123 #[iv p1] [])) (fun _ k => XS.icmpYes X0.here hx rfl (pc0 := 116) (pc' := 123) rfl (hb hby d1_116) rfl (feq cd25).2 (by decide) (by decide) k) ?_
                            obtain ⟨T27, X27, e27, st27⟩ := getS2 X0 hx hZ hown (host := "") (Or.inl (hw _ (List.mem_of_getElem? (i := 46) rfl))) Via.refl e0 (S_w_HOUR.ext O0.2) (g := (mkF m 123 #[iv p1] [])) rfl (hb hby d1_123)
                            refine Go.st (f' := (mkF m 126 #[iv p1] [(.ref w_HOUR)])) (fun _ k => st27 _ k) ?_
                            refine Go.retV X27 hlk hx (t := (.object "com/example/naysay/naysay/rules/Field")) hret rfl (Or.inr (Or.inr (Or.inr (Or.inr ⟨rfl, rfl, rfl⟩)))) (hb hby d1_126) e27 ?_ (by decide) (by decide)
                            show (some (.ref w_HOUR) : Option Value) = some (fldV p1 w_TRANSACTION_ID w__VALUES w_CARD w_CUSTOMER w_MERCHANT w_DEVICE w_IP w_CARD_ID w_CUSTOMER_ID w_MERCHANT_ID w_DEVICE_ID w_IP_ADDRESS w_CURRENCY w_HOME_LOCATION w_HOUR w_MERCHANT_CATEGORY w_AMOUNT w_MERCHANT_LOCATION w_CARD_PRESENT w_OCCURRED_AT k__VALUES) ∧ _
                            exact ⟨by rw [fldV, if_neg cd1, if_neg cd3, if_neg cd5, if_neg cd7, if_neg cd9, if_neg cd11, if_neg cd13, if_neg cd15, if_neg cd17, if_neg cd19, if_neg cd21, if_neg cd23, if_neg cd25], N0, rfl⟩
theorem d2_0 : decode method_3_code 0 = .ok (.iload_n 0, 1) := by decide +kernel
theorem d2_1 : decode method_3_code 1 = .ok (.iconst 4, 1) := by decide +kernel
theorem d2_2 : decode method_3_code 2 = .ok (.if_icmp .ne 7, 3) := by decide +kernel
theorem d2_5 : decode method_3_code 5 = .ok (.getstatic 52, 3) := by decide +kernel
theorem d2_8 : decode method_3_code 8 = .ok (.areturn, 1) := by decide +kernel
theorem d2_9 : decode method_3_code 9 = .ok (.iload_n 0, 1) := by decide +kernel
theorem d2_10 : decode method_3_code 10 = .ok (.iconst 5, 1) := by decide +kernel
theorem d2_11 : decode method_3_code 11 = .ok (.if_icmp .ne 7, 3) := by decide +kernel
theorem d2_14 : decode method_3_code 14 = .ok (.getstatic 58, 3) := by decide +kernel
theorem d2_17 : decode method_3_code 17 = .ok (.areturn, 1) := by decide +kernel
theorem d2_18 : decode method_3_code 18 = .ok (.iload_n 0, 1) := by decide +kernel
theorem d2_19 : decode method_3_code 19 = .ok (.bipush 6, 2) := by decide +kernel
theorem d2_21 : decode method_3_code 21 = .ok (.if_icmp .ne 7, 3) := by decide +kernel
theorem d2_24 : decode method_3_code 24 = .ok (.getstatic 61, 3) := by decide +kernel
theorem d2_27 : decode method_3_code 27 = .ok (.areturn, 1) := by decide +kernel
theorem d2_28 : decode method_3_code 28 = .ok (.iload_n 0, 1) := by decide +kernel
theorem d2_29 : decode method_3_code 29 = .ok (.bipush 8, 2) := by decide +kernel
theorem d2_31 : decode method_3_code 31 = .ok (.if_icmp .ne 7, 3) := by decide +kernel
theorem d2_34 : decode method_3_code 34 = .ok (.getstatic 64, 3) := by decide +kernel
theorem d2_37 : decode method_3_code 37 = .ok (.areturn, 1) := by decide +kernel
theorem d2_38 : decode method_3_code 38 = .ok (.iload_n 0, 1) := by decide +kernel
theorem d2_39 : decode method_3_code 39 = .ok (.bipush 9, 2) := by decide +kernel
theorem d2_41 : decode method_3_code 41 = .ok (.if_icmp .ne 7, 3) := by decide +kernel
theorem d2_44 : decode method_3_code 44 = .ok (.getstatic 67, 3) := by decide +kernel
theorem d2_47 : decode method_3_code 47 = .ok (.areturn, 1) := by decide +kernel
theorem d2_48 : decode method_3_code 48 = .ok (.aconst_null, 1) := by decide +kernel
theorem d2_49 : decode method_3_code 49 = .ok (.areturn, 1) := by decide +kernel
def expV (p1 : Int32) (w_TRANSACTION_ID : Addr) (w__VALUES : Addr) (w_CARD : Addr) (w_CUSTOMER : Addr) (w_MERCHANT : Addr) (w_DEVICE : Addr) (w_IP : Addr) (w_CARD_ID : Addr) (w_CUSTOMER_ID : Addr) (w_MERCHANT_ID : Addr) (w_DEVICE_ID : Addr) (w_IP_ADDRESS : Addr) (w_CURRENCY : Addr) (w_HOME_LOCATION : Addr) (w_HOUR : Addr) (w_MERCHANT_CATEGORY : Addr) (w_AMOUNT : Addr) (w_MERCHANT_LOCATION : Addr) (w_CARD_PRESENT : Addr) (w_OCCURRED_AT : Addr) (k__VALUES : ClassId) : Value := (if p1 = (4 : Int32) then (.ref w_CARD) else (if p1 = (5 : Int32) then (.ref w_CUSTOMER) else (if p1 = (6 : Int32) then (.ref w_MERCHANT) else (if p1 = (8 : Int32) then (.ref w_DEVICE) else (if p1 = (9 : Int32) then (.ref w_IP) else .null)))))
set_option maxRecDepth 65536 in
set_option maxHeartbeats 40000000 in
theorem rmE (l : Launch) (Z : State) (a0 : Array Value) (hw : ∀ d ∈ tables_1, d.before a0 Z = true) (ws : List Jvm.Cond) (p1 : Int32) (w_TRANSACTION_ID : Addr) (w__VALUES : Addr) (w_CARD : Addr) (w_CUSTOMER : Addr) (w_MERCHANT : Addr) (w_DEVICE : Addr) (w_IP : Addr) (w_CARD_ID : Addr) (w_CUSTOMER_ID : Addr) (w_MERCHANT_ID : Addr) (w_DEVICE_ID : Addr) (w_IP_ADDRESS : Addr) (w_CURRENCY : Addr) (w_HOME_LOCATION : Addr) (w_HOUR : Addr) (w_MERCHANT_CATEGORY : Addr) (w_AMOUNT : Addr) (w_MERCHANT_LOCATION : Addr) (w_CARD_PRESENT : Addr) (w_OCCURRED_AT : Addr) (k__VALUES : ClassId) (h0 : Heap) (n0 : Nat) (O0 : Old Z n0 h0) (WW : World1 Z w_TRANSACTION_ID w__VALUES w_CARD w_CUSTOMER w_MERCHANT w_DEVICE w_IP w_CARD_ID w_CUSTOMER_ID w_MERCHANT_ID w_DEVICE_ID w_IP_ADDRESS w_CURRENCY w_HOME_LOCATION w_HOUR w_MERCHANT_CATEGORY w_AMOUNT w_MERCHANT_LOCATION w_CARD_PRESENT w_OCCURRED_AT k__VALUES) :
    Con l Z (⟨"com/example/naysay/naysay/rules/KeyReadingPinLaw", "expectedAt", "(I)Lcom/example/naysay/naysay/rules/Key;"⟩ : MethodName) method_3_code 1 (some (.object "com/example/naysay/naysay/rules/Key")) ws ({ frames := 0, cells := 0, slots := 0, locals := 0 } : Room) #[(.int p1)] h0 (fun v h L => v = some (expV p1 w_TRANSACTION_ID w__VALUES w_CARD w_CUSTOMER w_MERCHANT w_DEVICE w_IP w_CARD_ID w_CUSTOMER_ID w_MERCHANT_ID w_DEVICE_ID w_IP_ADDRESS w_CURRENCY w_HOME_LOCATION w_HOUR w_MERCHANT_CATEGORY w_AMOUNT w_MERCHANT_LOCATION w_CARD_PRESENT w_OCCURRED_AT k__VALUES) ∧ Fr n0 L ∧ h = h0) := by
  refine own_body (plainFor_of_name pn_com_example_naysay_naysay_rules_KeyReadingPinLaw) ?_
  intro p e s m below meth c s₁ hx hby hml hZ hown hnm hlk hret X0 e0
  have N0 := Fr.nil n0
  refine Go.st (T' := s₁) (f' := (mkF m 0 #[iv p1] [])) (fun _ k => castTop (by first | (simp [entryFrame, mkF, argsToLocals, Value.category]; done) | rfl) k) ?_
  have ⟨S_w_TRANSACTION_ID, E_w_TRANSACTION_ID, S_w__VALUES, E_w__VALUES, S_w_CARD, E_w_CARD, S_w_CUSTOMER, E_w_CUSTOMER, S_w_MERCHANT, E_w_MERCHANT, S_w_DEVICE, E_w_DEVICE, S_w_IP, E_w_IP, S_w_CARD_ID, E_w_CARD_ID, S_w_CUSTOMER_ID, E_w_CUSTOMER_ID, S_w_MERCHANT_ID, E_w_MERCHANT_ID, S_w_DEVICE_ID, E_w_DEVICE_ID, S_w_IP_ADDRESS, E_w_IP_ADDRESS, S_w_CURRENCY, E_w_CURRENCY, S_w_HOME_LOCATION, E_w_HOME_LOCATION, S_w_HOUR, E_w_HOUR, S_w_MERCHANT_CATEGORY, E_w_MERCHANT_CATEGORY, S_w_AMOUNT, E_w_AMOUNT, S_w_MERCHANT_LOCATION, E_w_MERCHANT_LOCATION, S_w_CARD_PRESENT, E_w_CARD_PRESENT, S_w_OCCURRED_AT, E_w_OCCURRED_AT, F_w_CARD_ID_ordinal, F_w_TRANSACTION_ID_ordinal, F_w_CUSTOMER_ID_ordinal, F_w_MERCHANT_ID_ordinal, F_w_DEVICE_ID_ordinal, F_w_IP_ADDRESS_ordinal, F_w_CURRENCY_ordinal, F_w_HOME_LOCATION_ordinal, F_w_HOUR_ordinal, F_w_MERCHANT_CATEGORY_ordinal, F_w_AMOUNT_ordinal, F_w_MERCHANT_LOCATION_ordinal, F_w_CARD_PRESENT_ordinal, F_w_OCCURRED_AT_ordinal, F_w_CARD_field, F_w_CUSTOMER_field, F_w_MERCHANT_field, F_w_DEVICE_field, F_w_IP_field, V_w__VALUES⟩ := WW
  have lt_w_TRANSACTION_ID := E_w_TRANSACTION_ID.lt
  have lt_w__VALUES := E_w__VALUES.lt
  have lt_w_CARD := E_w_CARD.lt
  have lt_w_CUSTOMER := E_w_CUSTOMER.lt
  have lt_w_MERCHANT := E_w_MERCHANT.lt
  have lt_w_DEVICE := E_w_DEVICE.lt
  have lt_w_IP := E_w_IP.lt
  have lt_w_CARD_ID := E_w_CARD_ID.lt
  have lt_w_CUSTOMER_ID := E_w_CUSTOMER_ID.lt
  have lt_w_MERCHANT_ID := E_w_MERCHANT_ID.lt
  have lt_w_DEVICE_ID := E_w_DEVICE_ID.lt
  have lt_w_IP_ADDRESS := E_w_IP_ADDRESS.lt
  have lt_w_CURRENCY := E_w_CURRENCY.lt
  have lt_w_HOME_LOCATION := E_w_HOME_LOCATION.lt
  have lt_w_HOUR := E_w_HOUR.lt
  have lt_w_MERCHANT_CATEGORY := E_w_MERCHANT_CATEGORY.lt
  have lt_w_AMOUNT := E_w_AMOUNT.lt
  have lt_w_MERCHANT_LOCATION := E_w_MERCHANT_LOCATION.lt
  have lt_w_CARD_PRESENT := E_w_CARD_PRESENT.lt
  have lt_w_OCCURRED_AT := E_w_OCCURRED_AT.lt
  refine Go.st (f' := (mkF m 1 #[iv p1] [(.int p1)])) (fun _ k => XS.iloadN X0.here hx rfl (hb hby d2_0) rfl k) ?_
  refine Go.st (f' := (mkF m 2 #[iv p1] [(.int 4), (.int p1)])) (fun _ k => XS.iconst X0.here hx rfl (hb hby d2_1) k) ?_
  by_cases cd1 : p1 = (4 : Int32)
  · refine Go.st (f' := (mkF m 5 #[iv p1] [])) (fun _ k => XS.icmpNo X0.here hx rfl (hb hby d2_2) rfl (teq cd1).2 k) ?_
    obtain ⟨T2, X2, e2, st2⟩ := getS2 X0 hx hZ hown (host := "") (Or.inl (hw _ (List.mem_of_getElem? (i := 49) rfl))) Via.refl e0 (S_w_CARD.ext O0.2) (g := (mkF m 5 #[iv p1] [])) rfl (hb hby d2_5)
    refine Go.st (f' := (mkF m 8 #[iv p1] [(.ref w_CARD)])) (fun _ k => st2 _ k) ?_
    refine Go.retV X2 hlk hx (t := (.object "com/example/naysay/naysay/rules/Key")) hret rfl (Or.inr (Or.inr (Or.inr (Or.inr ⟨rfl, rfl, rfl⟩)))) (hb hby d2_8) e2 ?_ (by decide) (by decide)
    show (some (.ref w_CARD) : Option Value) = some (expV p1 w_TRANSACTION_ID w__VALUES w_CARD w_CUSTOMER w_MERCHANT w_DEVICE w_IP w_CARD_ID w_CUSTOMER_ID w_MERCHANT_ID w_DEVICE_ID w_IP_ADDRESS w_CURRENCY w_HOME_LOCATION w_HOUR w_MERCHANT_CATEGORY w_AMOUNT w_MERCHANT_LOCATION w_CARD_PRESENT w_OCCURRED_AT k__VALUES) ∧ _
    exact ⟨by rw [expV, if_pos cd1], N0, rfl⟩
  · refine Go.st (f' := (mkF m 9 #[iv p1] [])) (fun _ k => XS.icmpYes X0.here hx rfl (pc0 := 2) (pc' := 9) rfl (hb hby d2_2) rfl (feq cd1).2 (by decide) (by decide) k) ?_
    refine Go.st (f' := (mkF m 10 #[iv p1] [(.int p1)])) (fun _ k => XS.iloadN X0.here hx rfl (hb hby d2_9) rfl k) ?_
    refine Go.st (f' := (mkF m 11 #[iv p1] [(.int 5), (.int p1)])) (fun _ k => XS.iconst X0.here hx rfl (hb hby d2_10) k) ?_
    by_cases cd3 : p1 = (5 : Int32)
    · refine Go.st (f' := (mkF m 14 #[iv p1] [])) (fun _ k => XS.icmpNo X0.here hx rfl (hb hby d2_11) rfl (teq cd3).2 k) ?_
      obtain ⟨T4, X4, e4, st4⟩ := getS2 X0 hx hZ hown (host := "") (Or.inl (hw _ (List.mem_of_getElem? (i := 65) rfl))) Via.refl e0 (S_w_CUSTOMER.ext O0.2) (g := (mkF m 14 #[iv p1] [])) rfl (hb hby d2_14)
      refine Go.st (f' := (mkF m 17 #[iv p1] [(.ref w_CUSTOMER)])) (fun _ k => st4 _ k) ?_
      refine Go.retV X4 hlk hx (t := (.object "com/example/naysay/naysay/rules/Key")) hret rfl (Or.inr (Or.inr (Or.inr (Or.inr ⟨rfl, rfl, rfl⟩)))) (hb hby d2_17) e4 ?_ (by decide) (by decide)
      show (some (.ref w_CUSTOMER) : Option Value) = some (expV p1 w_TRANSACTION_ID w__VALUES w_CARD w_CUSTOMER w_MERCHANT w_DEVICE w_IP w_CARD_ID w_CUSTOMER_ID w_MERCHANT_ID w_DEVICE_ID w_IP_ADDRESS w_CURRENCY w_HOME_LOCATION w_HOUR w_MERCHANT_CATEGORY w_AMOUNT w_MERCHANT_LOCATION w_CARD_PRESENT w_OCCURRED_AT k__VALUES) ∧ _
      exact ⟨by rw [expV, if_neg cd1, if_pos cd3], N0, rfl⟩
    · refine Go.st (f' := (mkF m 18 #[iv p1] [])) (fun _ k => XS.icmpYes X0.here hx rfl (pc0 := 11) (pc' := 18) rfl (hb hby d2_11) rfl (feq cd3).2 (by decide) (by decide) k) ?_
      refine Go.st (f' := (mkF m 19 #[iv p1] [(.int p1)])) (fun _ k => XS.iloadN X0.here hx rfl (hb hby d2_18) rfl k) ?_
      refine Go.st (f' := (mkF m 21 #[iv p1] [(.int 6), (.int p1)])) (fun _ k => XS.bipush X0.here hx rfl (hb hby d2_19) k) ?_
      by_cases cd5 : p1 = (6 : Int32)
      · refine Go.st (f' := (mkF m 24 #[iv p1] [])) (fun _ k => XS.icmpNo X0.here hx rfl (hb hby d2_21) rfl (teq cd5).2 k) ?_
        obtain ⟨T6, X6, e6, st6⟩ := getS2 X0 hx hZ hown (host := "") (Or.inl (hw _ (List.mem_of_getElem? (i := 67) rfl))) Via.refl e0 (S_w_MERCHANT.ext O0.2) (g := (mkF m 24 #[iv p1] [])) rfl (hb hby d2_24)
        refine Go.st (f' := (mkF m 27 #[iv p1] [(.ref w_MERCHANT)])) (fun _ k => st6 _ k) ?_
        refine Go.retV X6 hlk hx (t := (.object "com/example/naysay/naysay/rules/Key")) hret rfl (Or.inr (Or.inr (Or.inr (Or.inr ⟨rfl, rfl, rfl⟩)))) (hb hby d2_27) e6 ?_ (by decide) (by decide)
        show (some (.ref w_MERCHANT) : Option Value) = some (expV p1 w_TRANSACTION_ID w__VALUES w_CARD w_CUSTOMER w_MERCHANT w_DEVICE w_IP w_CARD_ID w_CUSTOMER_ID w_MERCHANT_ID w_DEVICE_ID w_IP_ADDRESS w_CURRENCY w_HOME_LOCATION w_HOUR w_MERCHANT_CATEGORY w_AMOUNT w_MERCHANT_LOCATION w_CARD_PRESENT w_OCCURRED_AT k__VALUES) ∧ _
        exact ⟨by rw [expV, if_neg cd1, if_neg cd3, if_pos cd5], N0, rfl⟩
      · refine Go.st (f' := (mkF m 28 #[iv p1] [])) (fun _ k => XS.icmpYes X0.here hx rfl (pc0 := 21) (pc' := 28) rfl (hb hby d2_21) rfl (feq cd5).2 (by decide) (by decide) k) ?_
        refine Go.st (f' := (mkF m 29 #[iv p1] [(.int p1)])) (fun _ k => XS.iloadN X0.here hx rfl (hb hby d2_28) rfl k) ?_
        refine Go.st (f' := (mkF m 31 #[iv p1] [(.int 8), (.int p1)])) (fun _ k => XS.bipush X0.here hx rfl (hb hby d2_29) k) ?_
        by_cases cd7 : p1 = (8 : Int32)
        · refine Go.st (f' := (mkF m 34 #[iv p1] [])) (fun _ k => XS.icmpNo X0.here hx rfl (hb hby d2_31) rfl (teq cd7).2 k) ?_
          obtain ⟨T8, X8, e8, st8⟩ := getS2 X0 hx hZ hown (host := "") (Or.inl (hw _ (List.mem_of_getElem? (i := 59) rfl))) Via.refl e0 (S_w_DEVICE.ext O0.2) (g := (mkF m 34 #[iv p1] [])) rfl (hb hby d2_34)
          refine Go.st (f' := (mkF m 37 #[iv p1] [(.ref w_DEVICE)])) (fun _ k => st8 _ k) ?_
          refine Go.retV X8 hlk hx (t := (.object "com/example/naysay/naysay/rules/Key")) hret rfl (Or.inr (Or.inr (Or.inr (Or.inr ⟨rfl, rfl, rfl⟩)))) (hb hby d2_37) e8 ?_ (by decide) (by decide)
          show (some (.ref w_DEVICE) : Option Value) = some (expV p1 w_TRANSACTION_ID w__VALUES w_CARD w_CUSTOMER w_MERCHANT w_DEVICE w_IP w_CARD_ID w_CUSTOMER_ID w_MERCHANT_ID w_DEVICE_ID w_IP_ADDRESS w_CURRENCY w_HOME_LOCATION w_HOUR w_MERCHANT_CATEGORY w_AMOUNT w_MERCHANT_LOCATION w_CARD_PRESENT w_OCCURRED_AT k__VALUES) ∧ _
          exact ⟨by rw [expV, if_neg cd1, if_neg cd3, if_neg cd5, if_pos cd7], N0, rfl⟩
        · refine Go.st (f' := (mkF m 38 #[iv p1] [])) (fun _ k => XS.icmpYes X0.here hx rfl (pc0 := 31) (pc' := 38) rfl (hb hby d2_31) rfl (feq cd7).2 (by decide) (by decide) k) ?_
          refine Go.st (f' := (mkF m 39 #[iv p1] [(.int p1)])) (fun _ k => XS.iloadN X0.here hx rfl (hb hby d2_38) rfl k) ?_
          refine Go.st (f' := (mkF m 41 #[iv p1] [(.int 9), (.int p1)])) (fun _ k => XS.bipush X0.here hx rfl (hb hby d2_39) k) ?_
          by_cases cd9 : p1 = (9 : Int32)
          · refine Go.st (f' := (mkF m 44 #[iv p1] [])) (fun _ k => XS.icmpNo X0.here hx rfl (hb hby d2_41) rfl (teq cd9).2 k) ?_
            obtain ⟨T10, X10, e10, st10⟩ := getS2 X0 hx hZ hown (host := "") (Or.inl (hw _ (List.mem_of_getElem? (i := 63) rfl))) Via.refl e0 (S_w_IP.ext O0.2) (g := (mkF m 44 #[iv p1] [])) rfl (hb hby d2_44)
            refine Go.st (f' := (mkF m 47 #[iv p1] [(.ref w_IP)])) (fun _ k => st10 _ k) ?_
            refine Go.retV X10 hlk hx (t := (.object "com/example/naysay/naysay/rules/Key")) hret rfl (Or.inr (Or.inr (Or.inr (Or.inr ⟨rfl, rfl, rfl⟩)))) (hb hby d2_47) e10 ?_ (by decide) (by decide)
            show (some (.ref w_IP) : Option Value) = some (expV p1 w_TRANSACTION_ID w__VALUES w_CARD w_CUSTOMER w_MERCHANT w_DEVICE w_IP w_CARD_ID w_CUSTOMER_ID w_MERCHANT_ID w_DEVICE_ID w_IP_ADDRESS w_CURRENCY w_HOME_LOCATION w_HOUR w_MERCHANT_CATEGORY w_AMOUNT w_MERCHANT_LOCATION w_CARD_PRESENT w_OCCURRED_AT k__VALUES) ∧ _
            exact ⟨by rw [expV, if_neg cd1, if_neg cd3, if_neg cd5, if_neg cd7, if_pos cd9], N0, rfl⟩
          · refine Go.st (f' := (mkF m 48 #[iv p1] [])) (fun _ k => XS.icmpYes X0.here hx rfl (pc0 := 41) (pc' := 48) rfl (hb hby d2_41) rfl (feq cd9).2 (by decide) (by decide) k) ?_
            refine Go.st (f' := (mkF m 49 #[iv p1] [.null])) (fun _ k => XS.aconstNull X0.here hx rfl (hb hby d2_48) k) ?_
            refine Go.retV X0 hlk hx (t := (.object "com/example/naysay/naysay/rules/Key")) hret rfl (Or.inr (Or.inr (Or.inr (Or.inr ⟨rfl, rfl, rfl⟩)))) (hb hby d2_49) e0 ?_ (by decide) (by decide)
            show (some .null : Option Value) = some (expV p1 w_TRANSACTION_ID w__VALUES w_CARD w_CUSTOMER w_MERCHANT w_DEVICE w_IP w_CARD_ID w_CUSTOMER_ID w_MERCHANT_ID w_DEVICE_ID w_IP_ADDRESS w_CURRENCY w_HOME_LOCATION w_HOUR w_MERCHANT_CATEGORY w_AMOUNT w_MERCHANT_LOCATION w_CARD_PRESENT w_OCCURRED_AT k__VALUES) ∧ _
            exact ⟨by rw [expV, if_neg cd1, if_neg cd3, if_neg cd5, if_neg cd7, if_neg cd9], N0, rfl⟩
theorem d3_0 : decode prog_20_method_5_code 0 = .ok (.aconst_null, 1) := by decide +kernel
theorem d3_1 : decode prog_20_method_5_code 1 = .ok (.astore_n 1, 1) := by decide +kernel
theorem d3_2 : decode prog_20_method_5_code 2 = .ok (.invokestatic 46, 3) := by decide +kernel
theorem pd____Lcom_example_naysay_naysay_rules_Key_ : parseMethodDescriptor "()[Lcom/example/naysay/naysay/rules/Key;" = some ⟨[], some (.array (.object "com/example/naysay/naysay/rules/Key"))⟩ := by decide +kernel
theorem d3_5 : decode prog_20_method_5_code 5 = .ok (.astore_n 2, 1) := by decide +kernel
theorem d3_6 : decode prog_20_method_5_code 6 = .ok (.aload_n 2, 1) := by decide +kernel
theorem d3_7 : decode prog_20_method_5_code 7 = .ok (.arraylength, 1) := by decide +kernel
theorem d3_8 : decode prog_20_method_5_code 8 = .ok (.istore_n 3, 1) := by decide +kernel
theorem d3_9 : decode prog_20_method_5_code 9 = .ok (.iconst 0, 1) := by decide +kernel
theorem d3_10 : decode prog_20_method_5_code 10 = .ok (.istore 4, 2) := by decide +kernel
theorem d3_12 : decode prog_20_method_5_code 12 = .ok (.iload 4, 2) := by decide +kernel
theorem d3_14 : decode prog_20_method_5_code 14 = .ok (.iload_n 3, 1) := by decide +kernel
theorem d3_15 : decode prog_20_method_5_code 15 = .ok (.if_icmp .ge 30, 3) := by decide +kernel
theorem d3_18 : decode prog_20_method_5_code 18 = .ok (.aload_n 2, 1) := by decide +kernel
theorem d3_19 : decode prog_20_method_5_code 19 = .ok (.iload 4, 2) := by decide +kernel
theorem d3_21 : decode prog_20_method_5_code 21 = .ok (.aaload, 1) := by decide +kernel
theorem d3_22 : decode prog_20_method_5_code 22 = .ok (.astore 5, 2) := by decide +kernel
theorem d3_24 : decode prog_20_method_5_code 24 = .ok (.aload 5, 2) := by decide +kernel
theorem d3_26 : decode prog_20_method_5_code 26 = .ok (.getfield 42, 3) := by decide +kernel
theorem d3_29 : decode prog_20_method_5_code 29 = .ok (.aload_n 0, 1) := by decide +kernel
theorem d3_30 : decode prog_20_method_5_code 30 = .ok (.if_acmp .ne 9, 3) := by decide +kernel
theorem d3_33 : decode prog_20_method_5_code 33 = .ok (.aload 5, 2) := by decide +kernel
theorem d3_35 : decode prog_20_method_5_code 35 = .ok (.astore_n 1, 1) := by decide +kernel
theorem d3_36 : decode prog_20_method_5_code 36 = .ok (.goto 9, 3) := by decide +kernel
theorem d3_45 : decode prog_20_method_5_code 45 = .ok (.aload_n 1, 1) := by decide +kernel
theorem d3_46 : decode prog_20_method_5_code 46 = .ok (.areturn, 1) := by decide +kernel
theorem d3_39 : decode prog_20_method_5_code 39 = .ok (.iinc 4 1, 3) := by decide +kernel
theorem d3_42 : decode prog_20_method_5_code 42 = .ok (.goto (-30), 3) := by decide +kernel
def rdV (f1 : Addr) (w_TRANSACTION_ID : Addr) (w__VALUES : Addr) (w_CARD : Addr) (w_CUSTOMER : Addr) (w_MERCHANT : Addr) (w_DEVICE : Addr) (w_IP : Addr) (w_CARD_ID : Addr) (w_CUSTOMER_ID : Addr) (w_MERCHANT_ID : Addr) (w_DEVICE_ID : Addr) (w_IP_ADDRESS : Addr) (w_CURRENCY : Addr) (w_HOME_LOCATION : Addr) (w_HOUR : Addr) (w_MERCHANT_CATEGORY : Addr) (w_AMOUNT : Addr) (w_MERCHANT_LOCATION : Addr) (w_CARD_PRESENT : Addr) (w_OCCURRED_AT : Addr) (k__VALUES : ClassId) : Value := (if w_CARD_ID = f1 then (.ref w_CARD) else (if w_CUSTOMER_ID = f1 then (.ref w_CUSTOMER) else (if w_MERCHANT_ID = f1 then (.ref w_MERCHANT) else (if w_DEVICE_ID = f1 then (.ref w_DEVICE) else (if w_IP_ADDRESS = f1 then (.ref w_IP) else .null)))))
set_option maxRecDepth 65536 in
set_option maxHeartbeats 40000000 in
theorem rmR (l : Launch) (Z : State) (a0 : Array Value) (hw : ∀ d ∈ tables_1, d.before a0 Z = true) (ws : List Jvm.Cond) (f1 : Addr) (w_TRANSACTION_ID : Addr) (w__VALUES : Addr) (w_CARD : Addr) (w_CUSTOMER : Addr) (w_MERCHANT : Addr) (w_DEVICE : Addr) (w_IP : Addr) (w_CARD_ID : Addr) (w_CUSTOMER_ID : Addr) (w_MERCHANT_ID : Addr) (w_DEVICE_ID : Addr) (w_IP_ADDRESS : Addr) (w_CURRENCY : Addr) (w_HOME_LOCATION : Addr) (w_HOUR : Addr) (w_MERCHANT_CATEGORY : Addr) (w_AMOUNT : Addr) (w_MERCHANT_LOCATION : Addr) (w_CARD_PRESENT : Addr) (w_OCCURRED_AT : Addr) (k__VALUES : ClassId) (h0 : Heap) (n0 : Nat) (O0 : Old Z n0 h0) (WW : World1 Z w_TRANSACTION_ID w__VALUES w_CARD w_CUSTOMER w_MERCHANT w_DEVICE w_IP w_CARD_ID w_CUSTOMER_ID w_MERCHANT_ID w_DEVICE_ID w_IP_ADDRESS w_CURRENCY w_HOME_LOCATION w_HOUR w_MERCHANT_CATEGORY w_AMOUNT w_MERCHANT_LOCATION w_CARD_PRESENT w_OCCURRED_AT k__VALUES) :
    Con l Z (⟨"com/example/naysay/naysay/rules/Key", "reading", "(Lcom/example/naysay/naysay/rules/Field;)Lcom/example/naysay/naysay/rules/Key;"⟩ : MethodName) prog_20_method_5_code 6 (some (.object "com/example/naysay/naysay/rules/Key")) ws ({ frames := 2, cells := 1, slots := 5, locals := 25 } : Room) #[(.ref f1)] h0 (fun v h L => v = some (rdV f1 w_TRANSACTION_ID w__VALUES w_CARD w_CUSTOMER w_MERCHANT w_DEVICE w_IP w_CARD_ID w_CUSTOMER_ID w_MERCHANT_ID w_DEVICE_ID w_IP_ADDRESS w_CURRENCY w_HOME_LOCATION w_HOUR w_MERCHANT_CATEGORY w_AMOUNT w_MERCHANT_LOCATION w_CARD_PRESENT w_OCCURRED_AT k__VALUES) ∧ Fr n0 L ∧ Keep h0 h []) := by
  refine own_body (plainFor_of_name pn_com_example_naysay_naysay_rules_Key) ?_
  intro p e s m below meth c s₁ hx hby hml hZ hown hnm hlk hret X0 e0
  have N0 := Fr.nil n0
  have K0 : Keep h0 h0 [] := Keep.refl _ _
  refine Go.st (T' := s₁) (f' := (mkF m 0 #[rv f1, .unset, .unset, .unset, .unset, .unset] [])) (fun _ k => castTop (by first | (simp [entryFrame, mkF, argsToLocals, Value.category]; done) | rfl) k) ?_
  have ⟨S_w_TRANSACTION_ID, E_w_TRANSACTION_ID, S_w__VALUES, E_w__VALUES, S_w_CARD, E_w_CARD, S_w_CUSTOMER, E_w_CUSTOMER, S_w_MERCHANT, E_w_MERCHANT, S_w_DEVICE, E_w_DEVICE, S_w_IP, E_w_IP, S_w_CARD_ID, E_w_CARD_ID, S_w_CUSTOMER_ID, E_w_CUSTOMER_ID, S_w_MERCHANT_ID, E_w_MERCHANT_ID, S_w_DEVICE_ID, E_w_DEVICE_ID, S_w_IP_ADDRESS, E_w_IP_ADDRESS, S_w_CURRENCY, E_w_CURRENCY, S_w_HOME_LOCATION, E_w_HOME_LOCATION, S_w_HOUR, E_w_HOUR, S_w_MERCHANT_CATEGORY, E_w_MERCHANT_CATEGORY, S_w_AMOUNT, E_w_AMOUNT, S_w_MERCHANT_LOCATION, E_w_MERCHANT_LOCATION, S_w_CARD_PRESENT, E_w_CARD_PRESENT, S_w_OCCURRED_AT, E_w_OCCURRED_AT, F_w_CARD_ID_ordinal, F_w_TRANSACTION_ID_ordinal, F_w_CUSTOMER_ID_ordinal, F_w_MERCHANT_ID_ordinal, F_w_DEVICE_ID_ordinal, F_w_IP_ADDRESS_ordinal, F_w_CURRENCY_ordinal, F_w_HOME_LOCATION_ordinal, F_w_HOUR_ordinal, F_w_MERCHANT_CATEGORY_ordinal, F_w_AMOUNT_ordinal, F_w_MERCHANT_LOCATION_ordinal, F_w_CARD_PRESENT_ordinal, F_w_OCCURRED_AT_ordinal, F_w_CARD_field, F_w_CUSTOMER_field, F_w_MERCHANT_field, F_w_DEVICE_field, F_w_IP_field, V_w__VALUES⟩ := WW
  have lt_w_TRANSACTION_ID := E_w_TRANSACTION_ID.lt
  have lt_w__VALUES := E_w__VALUES.lt
  have lt_w_CARD := E_w_CARD.lt
  have lt_w_CUSTOMER := E_w_CUSTOMER.lt
  have lt_w_MERCHANT := E_w_MERCHANT.lt
  have lt_w_DEVICE := E_w_DEVICE.lt
  have lt_w_IP := E_w_IP.lt
  have lt_w_CARD_ID := E_w_CARD_ID.lt
  have lt_w_CUSTOMER_ID := E_w_CUSTOMER_ID.lt
  have lt_w_MERCHANT_ID := E_w_MERCHANT_ID.lt
  have lt_w_DEVICE_ID := E_w_DEVICE_ID.lt
  have lt_w_IP_ADDRESS := E_w_IP_ADDRESS.lt
  have lt_w_CURRENCY := E_w_CURRENCY.lt
  have lt_w_HOME_LOCATION := E_w_HOME_LOCATION.lt
  have lt_w_HOUR := E_w_HOUR.lt
  have lt_w_MERCHANT_CATEGORY := E_w_MERCHANT_CATEGORY.lt
  have lt_w_AMOUNT := E_w_AMOUNT.lt
  have lt_w_MERCHANT_LOCATION := E_w_MERCHANT_LOCATION.lt
  have lt_w_CARD_PRESENT := E_w_CARD_PRESENT.lt
  have lt_w_OCCURRED_AT := E_w_OCCURRED_AT.lt
  refine Go.st (f' := (mkF m 1 #[rv f1, .unset, .unset, .unset, .unset, .unset] [.null])) (fun _ k => XS.aconstNull X0.here hx rfl (hb hby d3_0) k) ?_
  refine Go.st (f' := (mkF m 2 #[rv f1, .val .null, .unset, .unset, .unset, .unset] [])) (fun _ k => XS.astoreN X0.here hx rfl (hb hby d3_1) rfl rfl (l' := #[rv f1, .val .null, .unset, .unset, .unset, .unset]) rfl k) ?_
  obtain ⟨_, _, ⟨T1, L1, kk1, nn1⟩, -, X1, ⟨Lc1, hQ1, lq1, yq1, zz1⟩, st1⟩ := Jvm.LawKit.callS X0 hx (y := (⟨"com/example/naysay/naysay/rules/Key", "values", "()[Lcom/example/naysay/naysay/rules/Key;"⟩ : MethodName)) hown (mvT hZ (hw _ (List.mem_of_getElem? (i := 15) rfl))) (mvT hZ (hw _ (List.mem_of_getElem? (i := 16) rfl))) (mvT hZ (hw _ (List.mem_of_getElem? (i := 13) rfl))) (mvT hZ (hw _ (List.mem_of_getElem? (i := 17) rfl))) (by decide) (own_back (W := 0) (rmV l Z a0 hw [] w_TRANSACTION_ID w__VALUES w_CARD w_CUSTOMER w_MERCHANT w_DEVICE w_IP w_CARD_ID w_CUSTOMER_ID w_MERCHANT_ID w_DEVICE_ID w_IP_ADDRESS w_CURRENCY w_HOME_LOCATION w_HOUR w_MERCHANT_CATEGORY w_AMOUNT w_MERCHANT_LOCATION w_CARD_PRESENT w_OCCURRED_AT k__VALUES h0 n0 O0 WW) hZ (hw _ (List.mem_of_getElem? (i := 17) rfl)) (hw _ (List.mem_of_getElem? (i := 13) rfl)) (by decide) (by decide)) (g := (mkF m 2 #[rv f1, .val .null, .unset, .unset, .unset, .unset] [])) rfl (by rw [hml]; rfl) (argsL := []) (rest := []) (lenOf pd____Lcom_example_naysay_naysay_rules_Key_ rfl) rfl (by show 2 * 0 + _ ≤ _; exact Nat.le_of_eq rfl) (hb hby d3_2) (fun _ _ => ⟨rfl, e0, (by decide : 0 + 1 ≤ _), (by decide : 0 + 5 ≤ _)⟩)
  dsimp only [Pt.U, Pt.locs, Pt.cells, Pt.slots] at X1 lq1 yq1 zz1 st1 hQ1
  subst lq1 yq1 zz1
  obtain ⟨b1, rfl, Nq1, zq1, kq1, vq1, eq1⟩ := hQ1
  have N1 := Fr.app N0 Nq1
  have ne_w_TRANSACTION_ID_b1 : w_TRANSACTION_ID ≠ b1 := Nat.ne_of_lt (Nat.lt_of_lt_of_le lt_w_TRANSACTION_ID (Nat.le_trans O0.2.1 zq1))
  have ne_w__VALUES_b1 : w__VALUES ≠ b1 := Nat.ne_of_lt (Nat.lt_of_lt_of_le lt_w__VALUES (Nat.le_trans O0.2.1 zq1))
  have ne_w_CARD_b1 : w_CARD ≠ b1 := Nat.ne_of_lt (Nat.lt_of_lt_of_le lt_w_CARD (Nat.le_trans O0.2.1 zq1))
  have ne_w_CUSTOMER_b1 : w_CUSTOMER ≠ b1 := Nat.ne_of_lt (Nat.lt_of_lt_of_le lt_w_CUSTOMER (Nat.le_trans O0.2.1 zq1))
  have ne_w_MERCHANT_b1 : w_MERCHANT ≠ b1 := Nat.ne_of_lt (Nat.lt_of_lt_of_le lt_w_MERCHANT (Nat.le_trans O0.2.1 zq1))
  have ne_w_DEVICE_b1 : w_DEVICE ≠ b1 := Nat.ne_of_lt (Nat.lt_of_lt_of_le lt_w_DEVICE (Nat.le_trans O0.2.1 zq1))
  have ne_w_IP_b1 : w_IP ≠ b1 := Nat.ne_of_lt (Nat.lt_of_lt_of_le lt_w_IP (Nat.le_trans O0.2.1 zq1))
  have ne_w_CARD_ID_b1 : w_CARD_ID ≠ b1 := Nat.ne_of_lt (Nat.lt_of_lt_of_le lt_w_CARD_ID (Nat.le_trans O0.2.1 zq1))
  have ne_w_CUSTOMER_ID_b1 : w_CUSTOMER_ID ≠ b1 := Nat.ne_of_lt (Nat.lt_of_lt_of_le lt_w_CUSTOMER_ID (Nat.le_trans O0.2.1 zq1))
  have ne_w_MERCHANT_ID_b1 : w_MERCHANT_ID ≠ b1 := Nat.ne_of_lt (Nat.lt_of_lt_of_le lt_w_MERCHANT_ID (Nat.le_trans O0.2.1 zq1))
  have ne_w_DEVICE_ID_b1 : w_DEVICE_ID ≠ b1 := Nat.ne_of_lt (Nat.lt_of_lt_of_le lt_w_DEVICE_ID (Nat.le_trans O0.2.1 zq1))
  have ne_w_IP_ADDRESS_b1 : w_IP_ADDRESS ≠ b1 := Nat.ne_of_lt (Nat.lt_of_lt_of_le lt_w_IP_ADDRESS (Nat.le_trans O0.2.1 zq1))
  have ne_w_CURRENCY_b1 : w_CURRENCY ≠ b1 := Nat.ne_of_lt (Nat.lt_of_lt_of_le lt_w_CURRENCY (Nat.le_trans O0.2.1 zq1))
  have ne_w_HOME_LOCATION_b1 : w_HOME_LOCATION ≠ b1 := Nat.ne_of_lt (Nat.lt_of_lt_of_le lt_w_HOME_LOCATION (Nat.le_trans O0.2.1 zq1))
  have ne_w_HOUR_b1 : w_HOUR ≠ b1 := Nat.ne_of_lt (Nat.lt_of_lt_of_le lt_w_HOUR (Nat.le_trans O0.2.1 zq1))
  have ne_w_MERCHANT_CATEGORY_b1 : w_MERCHANT_CATEGORY ≠ b1 := Nat.ne_of_lt (Nat.lt_of_lt_of_le lt_w_MERCHANT_CATEGORY (Nat.le_trans O0.2.1 zq1))
  have ne_w_AMOUNT_b1 : w_AMOUNT ≠ b1 := Nat.ne_of_lt (Nat.lt_of_lt_of_le lt_w_AMOUNT (Nat.le_trans O0.2.1 zq1))
  have ne_w_MERCHANT_LOCATION_b1 : w_MERCHANT_LOCATION ≠ b1 := Nat.ne_of_lt (Nat.lt_of_lt_of_le lt_w_MERCHANT_LOCATION (Nat.le_trans O0.2.1 zq1))
  have ne_w_CARD_PRESENT_b1 : w_CARD_PRESENT ≠ b1 := Nat.ne_of_lt (Nat.lt_of_lt_of_le lt_w_CARD_PRESENT (Nat.le_trans O0.2.1 zq1))
  have ne_w_OCCURRED_AT_b1 : w_OCCURRED_AT ≠ b1 := Nat.ne_of_lt (Nat.lt_of_lt_of_le lt_w_OCCURRED_AT (Nat.le_trans O0.2.1 zq1))
  have g_b1 : n0 ≤ b1 := Nat.le_trans (O0.1 ▸ O0.2.1) zq1
  have sz_b1 : h0.size ≤ b1 := Nat.le_trans K0.1 zq1
  have O1 : Old Z n0 T1.heap := O0.keep kq1 all0
  have K1 : Keep h0 T1.heap [] := K0.trans kq1 all0
  have lt_b1 := eq1.lt
  refine Go.st (f' := (mkF m 5 #[rv f1, .val .null, .unset, .unset, .unset, .unset] [(.ref b1)])) (fun _ k => st1 _ k) ?_
  refine Go.st (f' := (mkF m 6 #[rv f1, .val .null, rv b1, .unset, .unset, .unset] [])) (fun _ k => XS.astoreN X1.here hx rfl (hb hby d3_5) rfl rfl (l' := #[rv f1, .val .null, rv b1, .unset, .unset, .unset]) rfl k) ?_
  refine Go.st (f' := (mkF m 7 #[rv f1, .val .null, rv b1, .unset, .unset, .unset] [(.ref b1)])) (fun _ k => XS.aloadN X1.here hx rfl (hb hby d3_6) rfl rfl k) ?_
  obtain ⟨cl2, Ar2, -, S2, Nx2, -, -⟩ := id vq1
  refine Go.st (T' := T1) (f' := (mkF m 8 #[rv f1, .val .null, rv b1, .unset, .unset, .unset] [(.int 5)])) (fun _ k => X1.arraylength hx Ar2.1 (State.isArrayOf_alike hZ.alike Ar2.2.1) (g := (mkF m 7 #[rv f1, .val .null, rv b1, .unset, .unset, .unset] [(.ref b1)])) rfl rfl (hb hby d3_7) _ (by rw [len_of S2 Nx2]; exact k)) ?_
  refine Go.st (f' := (mkF m 9 #[rv f1, .val .null, rv b1, iv 5, .unset, .unset] [])) (fun _ k => XS.istoreN X1.here hx rfl (hb hby d3_8) rfl (l' := #[rv f1, .val .null, rv b1, iv 5, .unset, .unset]) rfl k) ?_
  refine Go.st (f' := (mkF m 10 #[rv f1, .val .null, rv b1, iv 5, .unset, .unset] [(.int 0)])) (fun _ k => XS.iconst X1.here hx rfl (hb hby d3_9) k) ?_
  refine Go.st (f' := (mkF m 12 #[rv f1, .val .null, rv b1, iv 5, iv 0, .unset] [])) (fun _ k => XS.istore X1.here hx rfl (hb hby d3_10) rfl (l' := #[rv f1, .val .null, rv b1, iv 5, iv 0, .unset]) rfl k) ?_
  refine Go.st (f' := (mkF m 14 #[rv f1, .val .null, rv b1, iv 5, iv 0, .unset] [(.int 0)])) (fun _ k => XS.iload X1.here hx rfl (hb hby d3_12) rfl k) ?_
  refine Go.st (f' := (mkF m 15 #[rv f1, .val .null, rv b1, iv 5, iv 0, .unset] [(.int 5), (.int 0)])) (fun _ k => XS.iloadN X1.here hx rfl (hb hby d3_14) rfl k) ?_
  refine Go.st (f' := (mkF m 18 #[rv f1, .val .null, rv b1, iv 5, iv 0, .unset] [])) (fun _ k => XS.icmpNo X1.here hx rfl (hb hby d3_15) rfl (by decide) k) ?_
  refine Go.st (f' := (mkF m 19 #[rv f1, .val .null, rv b1, iv 5, iv 0, .unset] [(.ref b1)])) (fun _ k => XS.aloadN X1.here hx rfl (hb hby d3_18) rfl rfl k) ?_
  refine Go.st (f' := (mkF m 21 #[rv f1, .val .null, rv b1, iv 5, iv 0, .unset] [(.int 0), (.ref b1)])) (fun _ k => XS.iload X1.here hx rfl (hb hby d3_19) rfl k) ?_
  obtain ⟨cl3, Ar3, -, S3, -, H3, -⟩ := id vq1
  have hin3 : ¬ ((0 : Int32) < 0 ∨ cl3.slots.size ≤ ((0 : Int32)).toNatClampNeg) := inb_of S3 ⟨by decide, by decide⟩
  have hat3 : cl3.slots[((0 : Int32)).toNatClampNeg]? = some (.ref w_CARD) := H3.at hin3 rfl
  refine Go.st (f' := (mkF m 22 #[rv f1, .val .null, rv b1, iv 5, iv 0, .unset] [(.ref w_CARD)])) (fun _ k => X1.aaload hx (j := (0 : Int32)) (v := (.ref w_CARD)) Ar3.1 (State.isArrayOf_alike hZ.alike Ar3.2.1) rfl Ar3.2.2 hin3 hat3 (g := (mkF m 21 #[rv f1, .val .null, rv b1, iv 5, iv 0, .unset] [(.int 0), (.ref b1)])) rfl rfl (hb hby d3_21) _ k) ?_
  refine Go.st (f' := (mkF m 24 #[rv f1, .val .null, rv b1, iv 5, iv 0, rv w_CARD] [])) (fun _ k => XS.astore X1.here hx rfl (hb hby d3_22) rfl rfl (l' := #[rv f1, .val .null, rv b1, iv 5, iv 0, rv w_CARD]) rfl k) ?_
  refine Go.st (f' := (mkF m 26 #[rv f1, .val .null, rv b1, iv 5, iv 0, rv w_CARD] [(.ref w_CARD)])) (fun _ k => XS.aload X1.here hx rfl (hb hby d3_24) rfl rfl k) ?_
  obtain ⟨T4, X4, e4, st4⟩ := getF X1 hx hZ hown (host := "") (Or.inl (hw _ (List.mem_of_getElem? (i := 35) rfl))) Via.refl rfl (F_w_CARD_field.ext O1.2) (g := (mkF m 26 #[rv f1, .val .null, rv b1, iv 5, iv 0, rv w_CARD] [(.ref w_CARD)])) rfl rfl (hb hby d3_26)
  refine Go.st (f' := (mkF m 29 #[rv f1, .val .null, rv b1, iv 5, iv 0, rv w_CARD] [(.ref w_CARD_ID)])) (fun _ k => st4 _ k) ?_
  refine Go.st (f' := (mkF m 30 #[rv f1, .val .null, rv b1, iv 5, iv 0, rv w_CARD] [(.ref f1), (.ref w_CARD_ID)])) (fun _ k => XS.aloadN X4.here hx rfl (hb hby d3_29) rfl rfl k) ?_
  by_cases cd5 : w_CARD_ID = f1
  · refine Go.st (f' := (mkF m 33 #[rv f1, .val .null, rv b1, iv 5, iv 0, rv w_CARD] [])) (fun _ k => Jvm.RoadKit.acmp (g := (mkF m 30 #[rv f1, .val .null, rv b1, iv 5, iv 0, rv w_CARD] [(.ref f1), (.ref w_CARD_ID)])) X4 hx rfl rfl rfl (pc0 := 30) (pc' := 33) (same := true) rfl (hb hby d3_30) rfl (decide_eq_true (congrArg Value.ref cd5)) (by decide) (by decide) k) ?_
    refine Go.st (f' := (mkF m 35 #[rv f1, .val .null, rv b1, iv 5, iv 0, rv w_CARD] [(.ref w_CARD)])) (fun _ k => XS.aload X4.here hx rfl (hb hby d3_33) rfl rfl k) ?_
    refine Go.st (f' := (mkF m 36 #[rv f1, rv w_CARD, rv b1, iv 5, iv 0, rv w_CARD] [])) (fun _ k => XS.astoreN X4.here hx rfl (hb hby d3_35) rfl rfl (l' := #[rv f1, rv w_CARD, rv b1, iv 5, iv 0, rv w_CARD]) rfl k) ?_
    refine Go.st (f' := (mkF m 45 #[rv f1, rv w_CARD, rv b1, iv 5, iv 0, rv w_CARD] [])) (fun _ k => XS.goto X4.here hx rfl (pc0 := 36) (pc' := 45) rfl (hb hby d3_36) (by decide) (by decide) k) ?_
    refine Go.st (f' := (mkF m 46 #[rv f1, rv w_CARD, rv b1, iv 5, iv 0, rv w_CARD] [(.ref w_CARD)])) (fun _ k => XS.aloadN X4.here hx rfl (hb hby d3_45) rfl rfl k) ?_
    refine Go.retV X4 hlk hx (t := (.object "com/example/naysay/naysay/rules/Key")) hret rfl (Or.inr (Or.inr (Or.inr (Or.inr ⟨rfl, rfl, rfl⟩)))) (hb hby d3_46) e4 ?_ (by decide) (by decide)
    show (some (.ref w_CARD) : Option Value) = some (rdV f1 w_TRANSACTION_ID w__VALUES w_CARD w_CUSTOMER w_MERCHANT w_DEVICE w_IP w_CARD_ID w_CUSTOMER_ID w_MERCHANT_ID w_DEVICE_ID w_IP_ADDRESS w_CURRENCY w_HOME_LOCATION w_HOUR w_MERCHANT_CATEGORY w_AMOUNT w_MERCHANT_LOCATION w_CARD_PRESENT w_OCCURRED_AT k__VALUES) ∧ _
    exact ⟨by rw [rdV, if_pos cd5], N1, K1⟩
  · refine Go.st (f' := (mkF m 39 #[rv f1, .val .null, rv b1, iv 5, iv 0, rv w_CARD] [])) (fun _ k => Jvm.RoadKit.acmp (g := (mkF m 30 #[rv f1, .val .null, rv b1, iv 5, iv 0, rv w_CARD] [(.ref f1), (.ref w_CARD_ID)])) X4 hx rfl rfl rfl (pc0 := 30) (pc' := 39) (same := false) rfl (hb hby d3_30) rfl (decide_eq_false fun q => cd5 (Value.ref.inj q)) (by decide) (by decide) k) ?_
    refine Go.st (f' := (mkF m 42 #[rv f1, .val .null, rv b1, iv 5, iv 1, rv w_CARD] [])) (fun _ k => XS.iinc X4.here hx rfl (hb hby d3_39) rfl (l' := #[rv f1, .val .null, rv b1, iv 5, iv 1, rv w_CARD]) rfl k) ?_
    refine Go.st (f' := (mkF m 12 #[rv f1, .val .null, rv b1, iv 5, iv 1, rv w_CARD] [])) (fun _ k => XS.goto X4.here hx rfl (pc0 := 42) (pc' := 12) rfl (hb hby d3_42) (by decide) (by decide) k) ?_
    refine Go.st (f' := (mkF m 14 #[rv f1, .val .null, rv b1, iv 5, iv 1, rv w_CARD] [(.int 1)])) (fun _ k => XS.iload X4.here hx rfl (hb hby d3_12) rfl k) ?_
    refine Go.st (f' := (mkF m 15 #[rv f1, .val .null, rv b1, iv 5, iv 1, rv w_CARD] [(.int 5), (.int 1)])) (fun _ k => XS.iloadN X4.here hx rfl (hb hby d3_14) rfl k) ?_
    refine Go.st (f' := (mkF m 18 #[rv f1, .val .null, rv b1, iv 5, iv 1, rv w_CARD] [])) (fun _ k => XS.icmpNo X4.here hx rfl (hb hby d3_15) rfl (by decide) k) ?_
    refine Go.st (f' := (mkF m 19 #[rv f1, .val .null, rv b1, iv 5, iv 1, rv w_CARD] [(.ref b1)])) (fun _ k => XS.aloadN X4.here hx rfl (hb hby d3_18) rfl rfl k) ?_
    refine Go.st (f' := (mkF m 21 #[rv f1, .val .null, rv b1, iv 5, iv 1, rv w_CARD] [(.int 1), (.ref b1)])) (fun _ k => XS.iload X4.here hx rfl (hb hby d3_19) rfl k) ?_
    obtain ⟨cl6, Ar6, -, S6, -, H6, -⟩ := id vq1
    have hin6 : ¬ ((1 : Int32) < 0 ∨ cl6.slots.size ≤ ((1 : Int32)).toNatClampNeg) := inb_of S6 ⟨by decide, by decide⟩
    have hat6 : cl6.slots[((1 : Int32)).toNatClampNeg]? = some (.ref w_CUSTOMER) := H6.at hin6 rfl
    refine Go.st (f' := (mkF m 22 #[rv f1, .val .null, rv b1, iv 5, iv 1, rv w_CARD] [(.ref w_CUSTOMER)])) (fun _ k => X4.aaload hx (j := (1 : Int32)) (v := (.ref w_CUSTOMER)) (by rw [e4]; exact Ar6.1) (State.isArrayOf_alike hZ.alike Ar6.2.1) rfl Ar6.2.2 hin6 hat6 (g := (mkF m 21 #[rv f1, .val .null, rv b1, iv 5, iv 1, rv w_CARD] [(.int 1), (.ref b1)])) rfl rfl (hb hby d3_21) _ k) ?_
    refine Go.st (f' := (mkF m 24 #[rv f1, .val .null, rv b1, iv 5, iv 1, rv w_CUSTOMER] [])) (fun _ k => XS.astore X4.here hx rfl (hb hby d3_22) rfl rfl (l' := #[rv f1, .val .null, rv b1, iv 5, iv 1, rv w_CUSTOMER]) rfl k) ?_
    refine Go.st (f' := (mkF m 26 #[rv f1, .val .null, rv b1, iv 5, iv 1, rv w_CUSTOMER] [(.ref w_CUSTOMER)])) (fun _ k => XS.aload X4.here hx rfl (hb hby d3_24) rfl rfl k) ?_
    obtain ⟨T7, X7, e7, st7⟩ := getF X4 hx hZ hown (host := "") (Or.inl (hw _ (List.mem_of_getElem? (i := 35) rfl))) Via.refl e4 (F_w_CUSTOMER_field.ext O1.2) (g := (mkF m 26 #[rv f1, .val .null, rv b1, iv 5, iv 1, rv w_CUSTOMER] [(.ref w_CUSTOMER)])) rfl rfl (hb hby d3_26)
    refine Go.st (f' := (mkF m 29 #[rv f1, .val .null, rv b1, iv 5, iv 1, rv w_CUSTOMER] [(.ref w_CUSTOMER_ID)])) (fun _ k => st7 _ k) ?_
    refine Go.st (f' := (mkF m 30 #[rv f1, .val .null, rv b1, iv 5, iv 1, rv w_CUSTOMER] [(.ref f1), (.ref w_CUSTOMER_ID)])) (fun _ k => XS.aloadN X7.here hx rfl (hb hby d3_29) rfl rfl k) ?_
    by_cases cd8 : w_CUSTOMER_ID = f1
    · refine Go.st (f' := (mkF m 33 #[rv f1, .val .null, rv b1, iv 5, iv 1, rv w_CUSTOMER] [])) (fun _ k => Jvm.RoadKit.acmp (g := (mkF m 30 #[rv f1, .val .null, rv b1, iv 5, iv 1, rv w_CUSTOMER] [(.ref f1), (.ref w_CUSTOMER_ID)])) X7 hx rfl rfl rfl (pc0 := 30) (pc' := 33) (same := true) rfl (hb hby d3_30) rfl (decide_eq_true (congrArg Value.ref cd8)) (by decide) (by decide) k) ?_
      refine Go.st (f' := (mkF m 35 #[rv f1, .val .null, rv b1, iv 5, iv 1, rv w_CUSTOMER] [(.ref w_CUSTOMER)])) (fun _ k => XS.aload X7.here hx rfl (hb hby d3_33) rfl rfl k) ?_
      refine Go.st (f' := (mkF m 36 #[rv f1, rv w_CUSTOMER, rv b1, iv 5, iv 1, rv w_CUSTOMER] [])) (fun _ k => XS.astoreN X7.here hx rfl (hb hby d3_35) rfl rfl (l' := #[rv f1, rv w_CUSTOMER, rv b1, iv 5, iv 1, rv w_CUSTOMER]) rfl k) ?_
      refine Go.st (f' := (mkF m 45 #[rv f1, rv w_CUSTOMER, rv b1, iv 5, iv 1, rv w_CUSTOMER] [])) (fun _ k => XS.goto X7.here hx rfl (pc0 := 36) (pc' := 45) rfl (hb hby d3_36) (by decide) (by decide) k) ?_
      refine Go.st (f' := (mkF m 46 #[rv f1, rv w_CUSTOMER, rv b1, iv 5, iv 1, rv w_CUSTOMER] [(.ref w_CUSTOMER)])) (fun _ k => XS.aloadN X7.here hx rfl (hb hby d3_45) rfl rfl k) ?_
      refine Go.retV X7 hlk hx (t := (.object "com/example/naysay/naysay/rules/Key")) hret rfl (Or.inr (Or.inr (Or.inr (Or.inr ⟨rfl, rfl, rfl⟩)))) (hb hby d3_46) e7 ?_ (by decide) (by decide)
      show (some (.ref w_CUSTOMER) : Option Value) = some (rdV f1 w_TRANSACTION_ID w__VALUES w_CARD w_CUSTOMER w_MERCHANT w_DEVICE w_IP w_CARD_ID w_CUSTOMER_ID w_MERCHANT_ID w_DEVICE_ID w_IP_ADDRESS w_CURRENCY w_HOME_LOCATION w_HOUR w_MERCHANT_CATEGORY w_AMOUNT w_MERCHANT_LOCATION w_CARD_PRESENT w_OCCURRED_AT k__VALUES) ∧ _
      exact ⟨by rw [rdV, if_neg cd5, if_pos cd8], N1, K1⟩
    · refine Go.st (f' := (mkF m 39 #[rv f1, .val .null, rv b1, iv 5, iv 1, rv w_CUSTOMER] [])) (fun _ k => Jvm.RoadKit.acmp (g := (mkF m 30 #[rv f1, .val .null, rv b1, iv 5, iv 1, rv w_CUSTOMER] [(.ref f1), (.ref w_CUSTOMER_ID)])) X7 hx rfl rfl rfl (pc0 := 30) (pc' := 39) (same := false) rfl (hb hby d3_30) rfl (decide_eq_false fun q => cd8 (Value.ref.inj q)) (by decide) (by decide) k) ?_
      refine Go.st (f' := (mkF m 42 #[rv f1, .val .null, rv b1, iv 5, iv 2, rv w_CUSTOMER] [])) (fun _ k => XS.iinc X7.here hx rfl (hb hby d3_39) rfl (l' := #[rv f1, .val .null, rv b1, iv 5, iv 2, rv w_CUSTOMER]) rfl k) ?_
      refine Go.st (f' := (mkF m 12 #[rv f1, .val .null, rv b1, iv 5, iv 2, rv w_CUSTOMER] [])) (fun _ k => XS.goto X7.here hx rfl (pc0 := 42) (pc' := 12) rfl (hb hby d3_42) (by decide) (by decide) k) ?_
      refine Go.st (f' := (mkF m 14 #[rv f1, .val .null, rv b1, iv 5, iv 2, rv w_CUSTOMER] [(.int 2)])) (fun _ k => XS.iload X7.here hx rfl (hb hby d3_12) rfl k) ?_
      refine Go.st (f' := (mkF m 15 #[rv f1, .val .null, rv b1, iv 5, iv 2, rv w_CUSTOMER] [(.int 5), (.int 2)])) (fun _ k => XS.iloadN X7.here hx rfl (hb hby d3_14) rfl k) ?_
      refine Go.st (f' := (mkF m 18 #[rv f1, .val .null, rv b1, iv 5, iv 2, rv w_CUSTOMER] [])) (fun _ k => XS.icmpNo X7.here hx rfl (hb hby d3_15) rfl (by decide) k) ?_
      refine Go.st (f' := (mkF m 19 #[rv f1, .val .null, rv b1, iv 5, iv 2, rv w_CUSTOMER] [(.ref b1)])) (fun _ k => XS.aloadN X7.here hx rfl (hb hby d3_18) rfl rfl k) ?_
      refine Go.st (f' := (mkF m 21 #[rv f1, .val .null, rv b1, iv 5, iv 2, rv w_CUSTOMER] [(.int 2), (.ref b1)])) (fun _ k => XS.iload X7.here hx rfl (hb hby d3_19) rfl k) ?_
      obtain ⟨cl9, Ar9, -, S9, -, H9, -⟩ := id vq1
      have hin9 : ¬ ((2 : Int32) < 0 ∨ cl9.slots.size ≤ ((2 : Int32)).toNatClampNeg) := inb_of S9 ⟨by decide, by decide⟩
      have hat9 : cl9.slots[((2 : Int32)).toNatClampNeg]? = some (.ref w_MERCHANT) := H9.at hin9 rfl
      refine Go.st (f' := (mkF m 22 #[rv f1, .val .null, rv b1, iv 5, iv 2, rv w_CUSTOMER] [(.ref w_MERCHANT)])) (fun _ k => X7.aaload hx (j := (2 : Int32)) (v := (.ref w_MERCHANT)) (by rw [e7]; exact Ar9.1) (State.isArrayOf_alike hZ.alike Ar9.2.1) rfl Ar9.2.2 hin9 hat9 (g := (mkF m 21 #[rv f1, .val .null, rv b1, iv 5, iv 2, rv w_CUSTOMER] [(.int 2), (.ref b1)])) rfl rfl (hb hby d3_21) _ k) ?_
      refine Go.st (f' := (mkF m 24 #[rv f1, .val .null, rv b1, iv 5, iv 2, rv w_MERCHANT] [])) (fun _ k => XS.astore X7.here hx rfl (hb hby d3_22) rfl rfl (l' := #[rv f1, .val .null, rv b1, iv 5, iv 2, rv w_MERCHANT]) rfl k) ?_
      refine Go.st (f' := (mkF m 26 #[rv f1, .val .null, rv b1, iv 5, iv 2, rv w_MERCHANT] [(.ref w_MERCHANT)])) (fun _ k => XS.aload X7.here hx rfl (hb hby d3_24) rfl rfl k) ?_
      obtain ⟨T10, X10, e10, st10⟩ := getF X7 hx hZ hown (host := "") (Or.inl (hw _ (List.mem_of_getElem? (i := 35) rfl))) Via.refl e7 (F_w_MERCHANT_field.ext O1.2) (g := (mkF m 26 #[rv f1, .val .null, rv b1, iv 5, iv 2, rv w_MERCHANT] [(.ref w_MERCHANT)])) rfl rfl (hb hby d3_26)
      refine Go.st (f' := (mkF m 29 #[rv f1, .val .null, rv b1, iv 5, iv 2, rv w_MERCHANT] [(.ref w_MERCHANT_ID)])) (fun _ k => st10 _ k) ?_
      refine Go.st (f' := (mkF m 30 #[rv f1, .val .null, rv b1, iv 5, iv 2, rv w_MERCHANT] [(.ref f1), (.ref w_MERCHANT_ID)])) (fun _ k => XS.aloadN X10.here hx rfl (hb hby d3_29) rfl rfl k) ?_
      by_cases cd11 : w_MERCHANT_ID = f1
      · refine Go.st (f' := (mkF m 33 #[rv f1, .val .null, rv b1, iv 5, iv 2, rv w_MERCHANT] [])) (fun _ k => Jvm.RoadKit.acmp (g := (mkF m 30 #[rv f1, .val .null, rv b1, iv 5, iv 2, rv w_MERCHANT] [(.ref f1), (.ref w_MERCHANT_ID)])) X10 hx rfl rfl rfl (pc0 := 30) (pc' := 33) (same := true) rfl (hb hby d3_30) rfl (decide_eq_true (congrArg Value.ref cd11)) (by decide) (by decide) k) ?_
        refine Go.st (f' := (mkF m 35 #[rv f1, .val .null, rv b1, iv 5, iv 2, rv w_MERCHANT] [(.ref w_MERCHANT)])) (fun _ k => XS.aload X10.here hx rfl (hb hby d3_33) rfl rfl k) ?_
        refine Go.st (f' := (mkF m 36 #[rv f1, rv w_MERCHANT, rv b1, iv 5, iv 2, rv w_MERCHANT] [])) (fun _ k => XS.astoreN X10.here hx rfl (hb hby d3_35) rfl rfl (l' := #[rv f1, rv w_MERCHANT, rv b1, iv 5, iv 2, rv w_MERCHANT]) rfl k) ?_
        refine Go.st (f' := (mkF m 45 #[rv f1, rv w_MERCHANT, rv b1, iv 5, iv 2, rv w_MERCHANT] [])) (fun _ k => XS.goto X10.here hx rfl (pc0 := 36) (pc' := 45) rfl (hb hby d3_36) (by decide) (by decide) k) ?_
        refine Go.st (f' := (mkF m 46 #[rv f1, rv w_MERCHANT, rv b1, iv 5, iv 2, rv w_MERCHANT] [(.ref w_MERCHANT)])) (fun _ k => XS.aloadN X10.here hx rfl (hb hby d3_45) rfl rfl k) ?_
        refine Go.retV X10 hlk hx (t := (.object "com/example/naysay/naysay/rules/Key")) hret rfl (Or.inr (Or.inr (Or.inr (Or.inr ⟨rfl, rfl, rfl⟩)))) (hb hby d3_46) e10 ?_ (by decide) (by decide)
        show (some (.ref w_MERCHANT) : Option Value) = some (rdV f1 w_TRANSACTION_ID w__VALUES w_CARD w_CUSTOMER w_MERCHANT w_DEVICE w_IP w_CARD_ID w_CUSTOMER_ID w_MERCHANT_ID w_DEVICE_ID w_IP_ADDRESS w_CURRENCY w_HOME_LOCATION w_HOUR w_MERCHANT_CATEGORY w_AMOUNT w_MERCHANT_LOCATION w_CARD_PRESENT w_OCCURRED_AT k__VALUES) ∧ _
        exact ⟨by rw [rdV, if_neg cd5, if_neg cd8, if_pos cd11], N1, K1⟩
      · refine Go.st (f' := (mkF m 39 #[rv f1, .val .null, rv b1, iv 5, iv 2, rv w_MERCHANT] [])) (fun _ k => Jvm.RoadKit.acmp (g := (mkF m 30 #[rv f1, .val .null, rv b1, iv 5, iv 2, rv w_MERCHANT] [(.ref f1), (.ref w_MERCHANT_ID)])) X10 hx rfl rfl rfl (pc0 := 30) (pc' := 39) (same := false) rfl (hb hby d3_30) rfl (decide_eq_false fun q => cd11 (Value.ref.inj q)) (by decide) (by decide) k) ?_
        refine Go.st (f' := (mkF m 42 #[rv f1, .val .null, rv b1, iv 5, iv 3, rv w_MERCHANT] [])) (fun _ k => XS.iinc X10.here hx rfl (hb hby d3_39) rfl (l' := #[rv f1, .val .null, rv b1, iv 5, iv 3, rv w_MERCHANT]) rfl k) ?_
        refine Go.st (f' := (mkF m 12 #[rv f1, .val .null, rv b1, iv 5, iv 3, rv w_MERCHANT] [])) (fun _ k => XS.goto X10.here hx rfl (pc0 := 42) (pc' := 12) rfl (hb hby d3_42) (by decide) (by decide) k) ?_
        refine Go.st (f' := (mkF m 14 #[rv f1, .val .null, rv b1, iv 5, iv 3, rv w_MERCHANT] [(.int 3)])) (fun _ k => XS.iload X10.here hx rfl (hb hby d3_12) rfl k) ?_
        refine Go.st (f' := (mkF m 15 #[rv f1, .val .null, rv b1, iv 5, iv 3, rv w_MERCHANT] [(.int 5), (.int 3)])) (fun _ k => XS.iloadN X10.here hx rfl (hb hby d3_14) rfl k) ?_
        refine Go.st (f' := (mkF m 18 #[rv f1, .val .null, rv b1, iv 5, iv 3, rv w_MERCHANT] [])) (fun _ k => XS.icmpNo X10.here hx rfl (hb hby d3_15) rfl (by decide) k) ?_
        refine Go.st (f' := (mkF m 19 #[rv f1, .val .null, rv b1, iv 5, iv 3, rv w_MERCHANT] [(.ref b1)])) (fun _ k => XS.aloadN X10.here hx rfl (hb hby d3_18) rfl rfl k) ?_
        refine Go.st (f' := (mkF m 21 #[rv f1, .val .null, rv b1, iv 5, iv 3, rv w_MERCHANT] [(.int 3), (.ref b1)])) (fun _ k => XS.iload X10.here hx rfl (hb hby d3_19) rfl k) ?_
        obtain ⟨cl12, Ar12, -, S12, -, H12, -⟩ := id vq1
        have hin12 : ¬ ((3 : Int32) < 0 ∨ cl12.slots.size ≤ ((3 : Int32)).toNatClampNeg) := inb_of S12 ⟨by decide, by decide⟩
        have hat12 : cl12.slots[((3 : Int32)).toNatClampNeg]? = some (.ref w_DEVICE) := H12.at hin12 rfl
        refine Go.st (f' := (mkF m 22 #[rv f1, .val .null, rv b1, iv 5, iv 3, rv w_MERCHANT] [(.ref w_DEVICE)])) (fun _ k => X10.aaload hx (j := (3 : Int32)) (v := (.ref w_DEVICE)) (by rw [e10]; exact Ar12.1) (State.isArrayOf_alike hZ.alike Ar12.2.1) rfl Ar12.2.2 hin12 hat12 (g := (mkF m 21 #[rv f1, .val .null, rv b1, iv 5, iv 3, rv w_MERCHANT] [(.int 3), (.ref b1)])) rfl rfl (hb hby d3_21) _ k) ?_
        refine Go.st (f' := (mkF m 24 #[rv f1, .val .null, rv b1, iv 5, iv 3, rv w_DEVICE] [])) (fun _ k => XS.astore X10.here hx rfl (hb hby d3_22) rfl rfl (l' := #[rv f1, .val .null, rv b1, iv 5, iv 3, rv w_DEVICE]) rfl k) ?_
        refine Go.st (f' := (mkF m 26 #[rv f1, .val .null, rv b1, iv 5, iv 3, rv w_DEVICE] [(.ref w_DEVICE)])) (fun _ k => XS.aload X10.here hx rfl (hb hby d3_24) rfl rfl k) ?_
        obtain ⟨T13, X13, e13, st13⟩ := getF X10 hx hZ hown (host := "") (Or.inl (hw _ (List.mem_of_getElem? (i := 35) rfl))) Via.refl e10 (F_w_DEVICE_field.ext O1.2) (g := (mkF m 26 #[rv f1, .val .null, rv b1, iv 5, iv 3, rv w_DEVICE] [(.ref w_DEVICE)])) rfl rfl (hb hby d3_26)
        refine Go.st (f' := (mkF m 29 #[rv f1, .val .null, rv b1, iv 5, iv 3, rv w_DEVICE] [(.ref w_DEVICE_ID)])) (fun _ k => st13 _ k) ?_
        refine Go.st (f' := (mkF m 30 #[rv f1, .val .null, rv b1, iv 5, iv 3, rv w_DEVICE] [(.ref f1), (.ref w_DEVICE_ID)])) (fun _ k => XS.aloadN X13.here hx rfl (hb hby d3_29) rfl rfl k) ?_
        by_cases cd14 : w_DEVICE_ID = f1
        · refine Go.st (f' := (mkF m 33 #[rv f1, .val .null, rv b1, iv 5, iv 3, rv w_DEVICE] [])) (fun _ k => Jvm.RoadKit.acmp (g := (mkF m 30 #[rv f1, .val .null, rv b1, iv 5, iv 3, rv w_DEVICE] [(.ref f1), (.ref w_DEVICE_ID)])) X13 hx rfl rfl rfl (pc0 := 30) (pc' := 33) (same := true) rfl (hb hby d3_30) rfl (decide_eq_true (congrArg Value.ref cd14)) (by decide) (by decide) k) ?_
          refine Go.st (f' := (mkF m 35 #[rv f1, .val .null, rv b1, iv 5, iv 3, rv w_DEVICE] [(.ref w_DEVICE)])) (fun _ k => XS.aload X13.here hx rfl (hb hby d3_33) rfl rfl k) ?_
          refine Go.st (f' := (mkF m 36 #[rv f1, rv w_DEVICE, rv b1, iv 5, iv 3, rv w_DEVICE] [])) (fun _ k => XS.astoreN X13.here hx rfl (hb hby d3_35) rfl rfl (l' := #[rv f1, rv w_DEVICE, rv b1, iv 5, iv 3, rv w_DEVICE]) rfl k) ?_
          refine Go.st (f' := (mkF m 45 #[rv f1, rv w_DEVICE, rv b1, iv 5, iv 3, rv w_DEVICE] [])) (fun _ k => XS.goto X13.here hx rfl (pc0 := 36) (pc' := 45) rfl (hb hby d3_36) (by decide) (by decide) k) ?_
          refine Go.st (f' := (mkF m 46 #[rv f1, rv w_DEVICE, rv b1, iv 5, iv 3, rv w_DEVICE] [(.ref w_DEVICE)])) (fun _ k => XS.aloadN X13.here hx rfl (hb hby d3_45) rfl rfl k) ?_
          refine Go.retV X13 hlk hx (t := (.object "com/example/naysay/naysay/rules/Key")) hret rfl (Or.inr (Or.inr (Or.inr (Or.inr ⟨rfl, rfl, rfl⟩)))) (hb hby d3_46) e13 ?_ (by decide) (by decide)
          show (some (.ref w_DEVICE) : Option Value) = some (rdV f1 w_TRANSACTION_ID w__VALUES w_CARD w_CUSTOMER w_MERCHANT w_DEVICE w_IP w_CARD_ID w_CUSTOMER_ID w_MERCHANT_ID w_DEVICE_ID w_IP_ADDRESS w_CURRENCY w_HOME_LOCATION w_HOUR w_MERCHANT_CATEGORY w_AMOUNT w_MERCHANT_LOCATION w_CARD_PRESENT w_OCCURRED_AT k__VALUES) ∧ _
          exact ⟨by rw [rdV, if_neg cd5, if_neg cd8, if_neg cd11, if_pos cd14], N1, K1⟩
        · refine Go.st (f' := (mkF m 39 #[rv f1, .val .null, rv b1, iv 5, iv 3, rv w_DEVICE] [])) (fun _ k => Jvm.RoadKit.acmp (g := (mkF m 30 #[rv f1, .val .null, rv b1, iv 5, iv 3, rv w_DEVICE] [(.ref f1), (.ref w_DEVICE_ID)])) X13 hx rfl rfl rfl (pc0 := 30) (pc' := 39) (same := false) rfl (hb hby d3_30) rfl (decide_eq_false fun q => cd14 (Value.ref.inj q)) (by decide) (by decide) k) ?_
          refine Go.st (f' := (mkF m 42 #[rv f1, .val .null, rv b1, iv 5, iv 4, rv w_DEVICE] [])) (fun _ k => XS.iinc X13.here hx rfl (hb hby d3_39) rfl (l' := #[rv f1, .val .null, rv b1, iv 5, iv 4, rv w_DEVICE]) rfl k) ?_
          refine Go.st (f' := (mkF m 12 #[rv f1, .val .null, rv b1, iv 5, iv 4, rv w_DEVICE] [])) (fun _ k => XS.goto X13.here hx rfl (pc0 := 42) (pc' := 12) rfl (hb hby d3_42) (by decide) (by decide) k) ?_
          refine Go.st (f' := (mkF m 14 #[rv f1, .val .null, rv b1, iv 5, iv 4, rv w_DEVICE] [(.int 4)])) (fun _ k => XS.iload X13.here hx rfl (hb hby d3_12) rfl k) ?_
          refine Go.st (f' := (mkF m 15 #[rv f1, .val .null, rv b1, iv 5, iv 4, rv w_DEVICE] [(.int 5), (.int 4)])) (fun _ k => XS.iloadN X13.here hx rfl (hb hby d3_14) rfl k) ?_
          refine Go.st (f' := (mkF m 18 #[rv f1, .val .null, rv b1, iv 5, iv 4, rv w_DEVICE] [])) (fun _ k => XS.icmpNo X13.here hx rfl (hb hby d3_15) rfl (by decide) k) ?_
          refine Go.st (f' := (mkF m 19 #[rv f1, .val .null, rv b1, iv 5, iv 4, rv w_DEVICE] [(.ref b1)])) (fun _ k => XS.aloadN X13.here hx rfl (hb hby d3_18) rfl rfl k) ?_
          refine Go.st (f' := (mkF m 21 #[rv f1, .val .null, rv b1, iv 5, iv 4, rv w_DEVICE] [(.int 4), (.ref b1)])) (fun _ k => XS.iload X13.here hx rfl (hb hby d3_19) rfl k) ?_
          obtain ⟨cl15, Ar15, -, S15, -, H15, -⟩ := id vq1
          have hin15 : ¬ ((4 : Int32) < 0 ∨ cl15.slots.size ≤ ((4 : Int32)).toNatClampNeg) := inb_of S15 ⟨by decide, by decide⟩
          have hat15 : cl15.slots[((4 : Int32)).toNatClampNeg]? = some (.ref w_IP) := H15.at hin15 rfl
          refine Go.st (f' := (mkF m 22 #[rv f1, .val .null, rv b1, iv 5, iv 4, rv w_DEVICE] [(.ref w_IP)])) (fun _ k => X13.aaload hx (j := (4 : Int32)) (v := (.ref w_IP)) (by rw [e13]; exact Ar15.1) (State.isArrayOf_alike hZ.alike Ar15.2.1) rfl Ar15.2.2 hin15 hat15 (g := (mkF m 21 #[rv f1, .val .null, rv b1, iv 5, iv 4, rv w_DEVICE] [(.int 4), (.ref b1)])) rfl rfl (hb hby d3_21) _ k) ?_
          refine Go.st (f' := (mkF m 24 #[rv f1, .val .null, rv b1, iv 5, iv 4, rv w_IP] [])) (fun _ k => XS.astore X13.here hx rfl (hb hby d3_22) rfl rfl (l' := #[rv f1, .val .null, rv b1, iv 5, iv 4, rv w_IP]) rfl k) ?_
          refine Go.st (f' := (mkF m 26 #[rv f1, .val .null, rv b1, iv 5, iv 4, rv w_IP] [(.ref w_IP)])) (fun _ k => XS.aload X13.here hx rfl (hb hby d3_24) rfl rfl k) ?_
          obtain ⟨T16, X16, e16, st16⟩ := getF X13 hx hZ hown (host := "") (Or.inl (hw _ (List.mem_of_getElem? (i := 35) rfl))) Via.refl e13 (F_w_IP_field.ext O1.2) (g := (mkF m 26 #[rv f1, .val .null, rv b1, iv 5, iv 4, rv w_IP] [(.ref w_IP)])) rfl rfl (hb hby d3_26)
          refine Go.st (f' := (mkF m 29 #[rv f1, .val .null, rv b1, iv 5, iv 4, rv w_IP] [(.ref w_IP_ADDRESS)])) (fun _ k => st16 _ k) ?_
          refine Go.st (f' := (mkF m 30 #[rv f1, .val .null, rv b1, iv 5, iv 4, rv w_IP] [(.ref f1), (.ref w_IP_ADDRESS)])) (fun _ k => XS.aloadN X16.here hx rfl (hb hby d3_29) rfl rfl k) ?_
          by_cases cd17 : w_IP_ADDRESS = f1
          · refine Go.st (f' := (mkF m 33 #[rv f1, .val .null, rv b1, iv 5, iv 4, rv w_IP] [])) (fun _ k => Jvm.RoadKit.acmp (g := (mkF m 30 #[rv f1, .val .null, rv b1, iv 5, iv 4, rv w_IP] [(.ref f1), (.ref w_IP_ADDRESS)])) X16 hx rfl rfl rfl (pc0 := 30) (pc' := 33) (same := true) rfl (hb hby d3_30) rfl (decide_eq_true (congrArg Value.ref cd17)) (by decide) (by decide) k) ?_
            refine Go.st (f' := (mkF m 35 #[rv f1, .val .null, rv b1, iv 5, iv 4, rv w_IP] [(.ref w_IP)])) (fun _ k => XS.aload X16.here hx rfl (hb hby d3_33) rfl rfl k) ?_
            refine Go.st (f' := (mkF m 36 #[rv f1, rv w_IP, rv b1, iv 5, iv 4, rv w_IP] [])) (fun _ k => XS.astoreN X16.here hx rfl (hb hby d3_35) rfl rfl (l' := #[rv f1, rv w_IP, rv b1, iv 5, iv 4, rv w_IP]) rfl k) ?_
            refine Go.st (f' := (mkF m 45 #[rv f1, rv w_IP, rv b1, iv 5, iv 4, rv w_IP] [])) (fun _ k => XS.goto X16.here hx rfl (pc0 := 36) (pc' := 45) rfl (hb hby d3_36) (by decide) (by decide) k) ?_
            refine Go.st (f' := (mkF m 46 #[rv f1, rv w_IP, rv b1, iv 5, iv 4, rv w_IP] [(.ref w_IP)])) (fun _ k => XS.aloadN X16.here hx rfl (hb hby d3_45) rfl rfl k) ?_
            refine Go.retV X16 hlk hx (t := (.object "com/example/naysay/naysay/rules/Key")) hret rfl (Or.inr (Or.inr (Or.inr (Or.inr ⟨rfl, rfl, rfl⟩)))) (hb hby d3_46) e16 ?_ (by decide) (by decide)
            show (some (.ref w_IP) : Option Value) = some (rdV f1 w_TRANSACTION_ID w__VALUES w_CARD w_CUSTOMER w_MERCHANT w_DEVICE w_IP w_CARD_ID w_CUSTOMER_ID w_MERCHANT_ID w_DEVICE_ID w_IP_ADDRESS w_CURRENCY w_HOME_LOCATION w_HOUR w_MERCHANT_CATEGORY w_AMOUNT w_MERCHANT_LOCATION w_CARD_PRESENT w_OCCURRED_AT k__VALUES) ∧ _
            exact ⟨by rw [rdV, if_neg cd5, if_neg cd8, if_neg cd11, if_neg cd14, if_pos cd17], N1, K1⟩
          · refine Go.st (f' := (mkF m 39 #[rv f1, .val .null, rv b1, iv 5, iv 4, rv w_IP] [])) (fun _ k => Jvm.RoadKit.acmp (g := (mkF m 30 #[rv f1, .val .null, rv b1, iv 5, iv 4, rv w_IP] [(.ref f1), (.ref w_IP_ADDRESS)])) X16 hx rfl rfl rfl (pc0 := 30) (pc' := 39) (same := false) rfl (hb hby d3_30) rfl (decide_eq_false fun q => cd17 (Value.ref.inj q)) (by decide) (by decide) k) ?_
            refine Go.st (f' := (mkF m 42 #[rv f1, .val .null, rv b1, iv 5, iv 5, rv w_IP] [])) (fun _ k => XS.iinc X16.here hx rfl (hb hby d3_39) rfl (l' := #[rv f1, .val .null, rv b1, iv 5, iv 5, rv w_IP]) rfl k) ?_
            refine Go.st (f' := (mkF m 12 #[rv f1, .val .null, rv b1, iv 5, iv 5, rv w_IP] [])) (fun _ k => XS.goto X16.here hx rfl (pc0 := 42) (pc' := 12) rfl (hb hby d3_42) (by decide) (by decide) k) ?_
            refine Go.st (f' := (mkF m 14 #[rv f1, .val .null, rv b1, iv 5, iv 5, rv w_IP] [(.int 5)])) (fun _ k => XS.iload X16.here hx rfl (hb hby d3_12) rfl k) ?_
            refine Go.st (f' := (mkF m 15 #[rv f1, .val .null, rv b1, iv 5, iv 5, rv w_IP] [(.int 5), (.int 5)])) (fun _ k => XS.iloadN X16.here hx rfl (hb hby d3_14) rfl k) ?_
            refine Go.st (f' := (mkF m 45 #[rv f1, .val .null, rv b1, iv 5, iv 5, rv w_IP] [])) (fun _ k => XS.icmpYes X16.here hx rfl (pc0 := 15) (pc' := 45) rfl (hb hby d3_15) rfl (by decide) (by decide) (by decide) k) ?_
            refine Go.st (f' := (mkF m 46 #[rv f1, .val .null, rv b1, iv 5, iv 5, rv w_IP] [.null])) (fun _ k => XS.aloadN X16.here hx rfl (hb hby d3_45) rfl rfl k) ?_
            refine Go.retV X16 hlk hx (t := (.object "com/example/naysay/naysay/rules/Key")) hret rfl (Or.inr (Or.inr (Or.inr (Or.inr ⟨rfl, rfl, rfl⟩)))) (hb hby d3_46) e16 ?_ (by decide) (by decide)
            show (some .null : Option Value) = some (rdV f1 w_TRANSACTION_ID w__VALUES w_CARD w_CUSTOMER w_MERCHANT w_DEVICE w_IP w_CARD_ID w_CUSTOMER_ID w_MERCHANT_ID w_DEVICE_ID w_IP_ADDRESS w_CURRENCY w_HOME_LOCATION w_HOUR w_MERCHANT_CATEGORY w_AMOUNT w_MERCHANT_LOCATION w_CARD_PRESENT w_OCCURRED_AT k__VALUES) ∧ _
            exact ⟨by rw [rdV, if_neg cd5, if_neg cd8, if_neg cd11, if_neg cd14, if_neg cd17], N1, K1⟩
theorem pd__I_Lcom_example_naysay_naysay_rules_Field_ : parseMethodDescriptor "(I)Lcom/example/naysay/naysay/rules/Field;" = some ⟨[.int], some (.object "com/example/naysay/naysay/rules/Field")⟩ := by decide +kernel
theorem pd__I_Lcom_example_naysay_naysay_rules_Key_ : parseMethodDescriptor "(I)Lcom/example/naysay/naysay/rules/Key;" = some ⟨[.int], some (.object "com/example/naysay/naysay/rules/Key")⟩ := by decide +kernel
theorem pd__Lcom_example_naysay_naysay_rules_Field__Lcom_example_naysay_naysay_rules_Key_ : parseMethodDescriptor "(Lcom/example/naysay/naysay/rules/Field;)Lcom/example/naysay/naysay/rules/Key;" = some ⟨[(.object "com/example/naysay/naysay/rules/Field")], some (.object "com/example/naysay/naysay/rules/Key")⟩ := by decide +kernel
set_option maxRecDepth 65536 in
set_option maxHeartbeats 40000000 in
theorem rm0 (l : Launch) (Z : State) (a0 : Array Value) (hw : ∀ d ∈ tables_1, d.before a0 Z = true) (ws : List Jvm.Cond) (p1 : Int32) (w_TRANSACTION_ID : Addr) (w__VALUES : Addr) (w_CARD : Addr) (w_CUSTOMER : Addr) (w_MERCHANT : Addr) (w_DEVICE : Addr) (w_IP : Addr) (w_CARD_ID : Addr) (w_CUSTOMER_ID : Addr) (w_MERCHANT_ID : Addr) (w_DEVICE_ID : Addr) (w_IP_ADDRESS : Addr) (w_CURRENCY : Addr) (w_HOME_LOCATION : Addr) (w_HOUR : Addr) (w_MERCHANT_CATEGORY : Addr) (w_AMOUNT : Addr) (w_MERCHANT_LOCATION : Addr) (w_CARD_PRESENT : Addr) (w_OCCURRED_AT : Addr) (k__VALUES : ClassId) (h0 : Heap) (n0 : Nat) (O0 : Old Z n0 h0) (WW : World1 Z w_TRANSACTION_ID w__VALUES w_CARD w_CUSTOMER w_MERCHANT w_DEVICE w_IP w_CARD_ID w_CUSTOMER_ID w_MERCHANT_ID w_DEVICE_ID w_IP_ADDRESS w_CURRENCY w_HOME_LOCATION w_HOUR w_MERCHANT_CATEGORY w_AMOUNT w_MERCHANT_LOCATION w_CARD_PRESENT w_OCCURRED_AT k__VALUES) :
    MetFree l x (head1 (Jvm.Cond.code x code maxLocals ret :: ws) room_1) (fun a U => a = #[(.int p1)] ∧ Z.Warmed39 U.vm ∧ U.heap = h0) (fun _ _ _ _ _ => True) (fun _ U o U' => ∃ v L, o = .returned v ∧ (fun v h L => v = some (.int (1 : Int32)) ∧ Fr n0 L) v U'.heap L ∧ FrameEnd U o U' L 16 128) := by
  refine MetFree.of_bodySF (plainFor_of_name pn_com_example_naysay_naysay_rules_KeyReadingPinLaw) hisR ?_
  intro p e s m args below meth c s₁ Bd hml0 hP hK
  obtain ⟨rfl, hZ, hh⟩ := hP
  have hx := Bd.exec
  have hby := Bd.bytes
  have hml : c.maxLocals = 4 := hml0
  have hlk := Bd.notSynchronized
  have hret := Bd.returns
  have hown : s.vm.findClass "com/example/naysay/naysay/rules/KeyReadingPinLaw" = some m.cls := findClass_of_methodNamed Bd.named
  have hnm := (name_of_methodNamed Bd.named Bd.method).1
  have X0 : Stand p l e room_1 s m #[(.int p1)] below meth c s₁ [] 0 0 := Stand.of_body Bd
  have e0 : s₁.heap = h0 := by rw [← hh, Bd.state]; rfl
  show Go p e below (Done s (fun v h L => v = some (.int (1 : Int32)) ∧ Fr n0 L) 16 128) s₁ _
  have N0 := Fr.nil n0
  refine Go.st (T' := s₁) (f' := (mkF m 0 #[iv p1, .unset, .unset, .unset] [])) (fun _ k => castTop (by first | (simp [entryFrame, mkF, argsToLocals, Value.category, maxLocals]; done) | rfl) k) ?_
  have ⟨S_w_TRANSACTION_ID, E_w_TRANSACTION_ID, S_w__VALUES, E_w__VALUES, S_w_CARD, E_w_CARD, S_w_CUSTOMER, E_w_CUSTOMER, S_w_MERCHANT, E_w_MERCHANT, S_w_DEVICE, E_w_DEVICE, S_w_IP, E_w_IP, S_w_CARD_ID, E_w_CARD_ID, S_w_CUSTOMER_ID, E_w_CUSTOMER_ID, S_w_MERCHANT_ID, E_w_MERCHANT_ID, S_w_DEVICE_ID, E_w_DEVICE_ID, S_w_IP_ADDRESS, E_w_IP_ADDRESS, S_w_CURRENCY, E_w_CURRENCY, S_w_HOME_LOCATION, E_w_HOME_LOCATION, S_w_HOUR, E_w_HOUR, S_w_MERCHANT_CATEGORY, E_w_MERCHANT_CATEGORY, S_w_AMOUNT, E_w_AMOUNT, S_w_MERCHANT_LOCATION, E_w_MERCHANT_LOCATION, S_w_CARD_PRESENT, E_w_CARD_PRESENT, S_w_OCCURRED_AT, E_w_OCCURRED_AT, F_w_CARD_ID_ordinal, F_w_TRANSACTION_ID_ordinal, F_w_CUSTOMER_ID_ordinal, F_w_MERCHANT_ID_ordinal, F_w_DEVICE_ID_ordinal, F_w_IP_ADDRESS_ordinal, F_w_CURRENCY_ordinal, F_w_HOME_LOCATION_ordinal, F_w_HOUR_ordinal, F_w_MERCHANT_CATEGORY_ordinal, F_w_AMOUNT_ordinal, F_w_MERCHANT_LOCATION_ordinal, F_w_CARD_PRESENT_ordinal, F_w_OCCURRED_AT_ordinal, F_w_CARD_field, F_w_CUSTOMER_field, F_w_MERCHANT_field, F_w_DEVICE_field, F_w_IP_field, V_w__VALUES⟩ := WW
  have lt_w_TRANSACTION_ID := E_w_TRANSACTION_ID.lt
  have lt_w__VALUES := E_w__VALUES.lt
  have lt_w_CARD := E_w_CARD.lt
  have lt_w_CUSTOMER := E_w_CUSTOMER.lt
  have lt_w_MERCHANT := E_w_MERCHANT.lt
  have lt_w_DEVICE := E_w_DEVICE.lt
  have lt_w_IP := E_w_IP.lt
  have lt_w_CARD_ID := E_w_CARD_ID.lt
  have lt_w_CUSTOMER_ID := E_w_CUSTOMER_ID.lt
  have lt_w_MERCHANT_ID := E_w_MERCHANT_ID.lt
  have lt_w_DEVICE_ID := E_w_DEVICE_ID.lt
  have lt_w_IP_ADDRESS := E_w_IP_ADDRESS.lt
  have lt_w_CURRENCY := E_w_CURRENCY.lt
  have lt_w_HOME_LOCATION := E_w_HOME_LOCATION.lt
  have lt_w_HOUR := E_w_HOUR.lt
  have lt_w_MERCHANT_CATEGORY := E_w_MERCHANT_CATEGORY.lt
  have lt_w_AMOUNT := E_w_AMOUNT.lt
  have lt_w_MERCHANT_LOCATION := E_w_MERCHANT_LOCATION.lt
  have lt_w_CARD_PRESENT := E_w_CARD_PRESENT.lt
  have lt_w_OCCURRED_AT := E_w_OCCURRED_AT.lt
  refine Go.st (f' := (mkF m 1 #[iv p1, .unset, .unset, .unset] [(.int p1)])) (fun _ k => XS.iloadN X0.here hx rfl (hb hby at_0) rfl k) ?_
  refine Go.st (f' := (mkF m 3 #[iv p1, .unset, .unset, .unset] [(.int 2147483647), (.int p1)])) (fun _ k => X0.ldcInt hx hown (mvT hZ (hw _ (List.mem_of_getElem? (i := 0) rfl))) (g := (mkF m 1 #[iv p1, .unset, .unset, .unset] [(.int p1)])) rfl (hb hby at_1) _ k) ?_
  refine Go.st (f' := (mkF m 4 #[iv p1, .unset, .unset, .unset] [(.int (p1 &&& (2147483647 : Int32)))])) (fun _ k => XS.iand X0.here hx rfl (hb hby at_3) rfl k) ?_
  refine Go.st (f' := (mkF m 6 #[iv p1, .unset, .unset, .unset] [(.int 14), (.int (p1 &&& (2147483647 : Int32)))])) (fun _ k => XS.bipush X0.here hx rfl (hb hby at_4) k) ?_
  refine Go.st (f' := (mkF m 7 #[iv p1, .unset, .unset, .unset] [(.int ((p1 &&& (2147483647 : Int32)) % (14 : Int32)))])) (fun _ k => iremM (g := (mkF m 6 #[.val (.int p1), .unset, .unset, .unset] [(.int (14 : Int32)), (.int (p1 &&& (2147483647 : Int32)))])) X0 hx rfl (hb hby at_6) rfl (by decide) k) ?_
  refine Go.st (f' := (mkF m 8 #[iv p1, .val (.int ((p1 &&& (2147483647 : Int32)) % (14 : Int32))), .unset, .unset] [])) (fun _ k => XS.istoreN X0.here hx rfl (hb hby at_7) rfl (l' := #[iv p1, .val (.int ((p1 &&& (2147483647 : Int32)) % (14 : Int32))), .unset, .unset]) rfl k) ?_
  by_cases cd1 : ((p1 &&& (2147483647 : Int32)) % (14 : Int32)) = (0 : Int32)
  · refine Go.st (f' := (mkF m 9 #[iv p1, .val (.int ((p1 &&& (2147483647 : Int32)) % (14 : Int32))), .unset, .unset] [(.int ((p1 &&& (2147483647 : Int32)) % (14 : Int32)))])) (fun _ k => XS.iloadN X0.here hx rfl (hb hby at_8) rfl k) ?_
    obtain ⟨_, _, ⟨T2, L2, kk2, nn2⟩, -, X2, ⟨Lc2, hQ2, lq2, yq2, zz2⟩, st2⟩ := Jvm.LawKit.callS X0 hx (y := (⟨"com/example/naysay/naysay/rules/KeyReadingPinLaw", "fieldAt", "(I)Lcom/example/naysay/naysay/rules/Field;"⟩ : MethodName)) hown (mvT hZ (hw _ (List.mem_of_getElem? (i := 1) rfl))) (mvT hZ (hw _ (List.mem_of_getElem? (i := 2) rfl))) (mvT hZ (hw _ (List.mem_of_getElem? (i := 3) rfl))) (mvT hZ (hw _ (List.mem_of_getElem? (i := 4) rfl))) (by decide) (own_back (W := 0) (rmF l Z a0 hw [] ((p1 &&& (2147483647 : Int32)) % (14 : Int32)) w_TRANSACTION_ID w__VALUES w_CARD w_CUSTOMER w_MERCHANT w_DEVICE w_IP w_CARD_ID w_CUSTOMER_ID w_MERCHANT_ID w_DEVICE_ID w_IP_ADDRESS w_CURRENCY w_HOME_LOCATION w_HOUR w_MERCHANT_CATEGORY w_AMOUNT w_MERCHANT_LOCATION w_CARD_PRESENT w_OCCURRED_AT k__VALUES h0 n0 O0 WW) hZ (hw _ (List.mem_of_getElem? (i := 4) rfl)) (hw _ (List.mem_of_getElem? (i := 3) rfl)) (by decide) (by decide)) (g := (mkF m 9 #[iv p1, .val (.int ((p1 &&& (2147483647 : Int32)) % (14 : Int32))), .unset, .unset] [(.int ((p1 &&& (2147483647 : Int32)) % (14 : Int32)))])) rfl (by rw [hml]; rfl) (argsL := [(.int ((p1 &&& (2147483647 : Int32)) % (14 : Int32)))]) (rest := []) (lenOf pd__I_Lcom_example_naysay_naysay_rules_Field_ rfl) rfl (by show 2 * 0 + _ ≤ _; exact Nat.le_of_eq rfl) (hb hby at_9) (fun _ _ => ⟨rfl, e0, (by decide : 0 + 0 ≤ _), (by decide : 0 + 0 ≤ _)⟩)
    dsimp only [Pt.U, Pt.locs, Pt.cells, Pt.slots] at X2 lq2 yq2 zz2 st2 hQ2
    subst lq2 yq2 zz2
    obtain ⟨rfl, Nq2, kq2⟩ := hQ2
    have N2 := Fr.app N0 Nq2
    rw [show fldV ((p1 &&& (2147483647 : Int32)) % (14 : Int32)) w_TRANSACTION_ID w__VALUES w_CARD w_CUSTOMER w_MERCHANT w_DEVICE w_IP w_CARD_ID w_CUSTOMER_ID w_MERCHANT_ID w_DEVICE_ID w_IP_ADDRESS w_CURRENCY w_HOME_LOCATION w_HOUR w_MERCHANT_CATEGORY w_AMOUNT w_MERCHANT_LOCATION w_CARD_PRESENT w_OCCURRED_AT k__VALUES = .ref w_TRANSACTION_ID from (by rw [fldV, if_pos cd1])] at st2
    refine Go.st (f' := (mkF m 12 #[iv p1, .val (.int ((p1 &&& (2147483647 : Int32)) % (14 : Int32))), .unset, .unset] [(.ref w_TRANSACTION_ID)])) (fun _ k => st2 _ k) ?_
    refine Go.st (f' := (mkF m 13 #[iv p1, .val (.int ((p1 &&& (2147483647 : Int32)) % (14 : Int32))), rv w_TRANSACTION_ID, .unset] [])) (fun _ k => XS.astoreN X2.here hx rfl (hb hby at_12) rfl rfl (l' := #[iv p1, .val (.int ((p1 &&& (2147483647 : Int32)) % (14 : Int32))), rv w_TRANSACTION_ID, .unset]) rfl k) ?_
    refine Go.st (f' := (mkF m 14 #[iv p1, .val (.int ((p1 &&& (2147483647 : Int32)) % (14 : Int32))), rv w_TRANSACTION_ID, .unset] [(.int ((p1 &&& (2147483647 : Int32)) % (14 : Int32)))])) (fun _ k => XS.iloadN X2.here hx rfl (hb hby at_13) rfl k) ?_
    obtain ⟨_, _, ⟨T3, L3, kk3, nn3⟩, -, X3, ⟨Lc3, hQ3, lq3, yq3, zz3⟩, st3⟩ := Jvm.LawKit.callS X2 hx (y := (⟨"com/example/naysay/naysay/rules/KeyReadingPinLaw", "expectedAt", "(I)Lcom/example/naysay/naysay/rules/Key;"⟩ : MethodName)) hown (mvT hZ (hw _ (List.mem_of_getElem? (i := 8) rfl))) (mvT hZ (hw _ (List.mem_of_getElem? (i := 9) rfl))) (mvT hZ (hw _ (List.mem_of_getElem? (i := 3) rfl))) (mvT hZ (hw _ (List.mem_of_getElem? (i := 10) rfl))) (by decide) (own_back (W := 0) (rmE l Z a0 hw [] ((p1 &&& (2147483647 : Int32)) % (14 : Int32)) w_TRANSACTION_ID w__VALUES w_CARD w_CUSTOMER w_MERCHANT w_DEVICE w_IP w_CARD_ID w_CUSTOMER_ID w_MERCHANT_ID w_DEVICE_ID w_IP_ADDRESS w_CURRENCY w_HOME_LOCATION w_HOUR w_MERCHANT_CATEGORY w_AMOUNT w_MERCHANT_LOCATION w_CARD_PRESENT w_OCCURRED_AT k__VALUES h0 n0 O0 WW) hZ (hw _ (List.mem_of_getElem? (i := 10) rfl)) (hw _ (List.mem_of_getElem? (i := 3) rfl)) (by decide) (by decide)) (g := (mkF m 14 #[iv p1, .val (.int ((p1 &&& (2147483647 : Int32)) % (14 : Int32))), rv w_TRANSACTION_ID, .unset] [(.int ((p1 &&& (2147483647 : Int32)) % (14 : Int32)))])) rfl (by rw [hml]; rfl) (argsL := [(.int ((p1 &&& (2147483647 : Int32)) % (14 : Int32)))]) (rest := []) (lenOf pd__I_Lcom_example_naysay_naysay_rules_Key_ rfl) rfl (by show 2 * 0 + _ ≤ _; exact Nat.le_of_eq rfl) (hb hby at_14) (fun _ _ => ⟨rfl, kq2, (by decide : 0 + 0 ≤ _), (by decide : 0 + 0 ≤ _)⟩)
    dsimp only [Pt.U, Pt.locs, Pt.cells, Pt.slots] at X3 lq3 yq3 zz3 st3 hQ3
    subst lq3 yq3 zz3
    obtain ⟨rfl, Nq3, kq3⟩ := hQ3
    have N3 := Fr.app N2 Nq3
    rw [show expV ((p1 &&& (2147483647 : Int32)) % (14 : Int32)) w_TRANSACTION_ID w__VALUES w_CARD w_CUSTOMER w_MERCHANT w_DEVICE w_IP w_CARD_ID w_CUSTOMER_ID w_MERCHANT_ID w_DEVICE_ID w_IP_ADDRESS w_CURRENCY w_HOME_LOCATION w_HOUR w_MERCHANT_CATEGORY w_AMOUNT w_MERCHANT_LOCATION w_CARD_PRESENT w_OCCURRED_AT k__VALUES = .null from (by rw [expV, if_neg (fun h => absurd (cd1.symm.trans h) (by decide)), if_neg (fun h => absurd (cd1.symm.trans h) (by decide)), if_neg (fun h => absurd (cd1.symm.trans h) (by decide)), if_neg (fun h => absurd (cd1.symm.trans h) (by decide)), if_neg (fun h => absurd (cd1.symm.trans h) (by decide))])] at st3
    refine Go.st (f' := (mkF m 17 #[iv p1, .val (.int ((p1 &&& (2147483647 : Int32)) % (14 : Int32))), rv w_TRANSACTION_ID, .unset] [.null])) (fun _ k => st3 _ k) ?_
    refine Go.st (f' := (mkF m 18 #[iv p1, .val (.int ((p1 &&& (2147483647 : Int32)) % (14 : Int32))), rv w_TRANSACTION_ID, .val .null] [])) (fun _ k => XS.astoreN X3.here hx rfl (hb hby at_17) rfl rfl (l' := #[iv p1, .val (.int ((p1 &&& (2147483647 : Int32)) % (14 : Int32))), rv w_TRANSACTION_ID, .val .null]) rfl k) ?_
    refine Go.st (f' := (mkF m 19 #[iv p1, .val (.int ((p1 &&& (2147483647 : Int32)) % (14 : Int32))), rv w_TRANSACTION_ID, .val .null] [(.ref w_TRANSACTION_ID)])) (fun _ k => XS.aloadN X3.here hx rfl (hb hby at_18) rfl rfl k) ?_
    obtain ⟨_, _, ⟨T4, L4, kk4, nn4⟩, -, X4, ⟨Lc4, hQ4, lq4, yq4, zz4⟩, st4⟩ := Jvm.LawKit.callS X3 hx (y := (⟨"com/example/naysay/naysay/rules/Key", "reading", "(Lcom/example/naysay/naysay/rules/Field;)Lcom/example/naysay/naysay/rules/Key;"⟩ : MethodName)) hown (mvT hZ (hw _ (List.mem_of_getElem? (i := 11) rfl))) (mvT hZ (hw _ (List.mem_of_getElem? (i := 12) rfl))) (mvT hZ (hw _ (List.mem_of_getElem? (i := 13) rfl))) (mvT hZ (hw _ (List.mem_of_getElem? (i := 14) rfl))) (by decide) (own_back (W := 0) (rmR l Z a0 hw [] w_TRANSACTION_ID w_TRANSACTION_ID w__VALUES w_CARD w_CUSTOMER w_MERCHANT w_DEVICE w_IP w_CARD_ID w_CUSTOMER_ID w_MERCHANT_ID w_DEVICE_ID w_IP_ADDRESS w_CURRENCY w_HOME_LOCATION w_HOUR w_MERCHANT_CATEGORY w_AMOUNT w_MERCHANT_LOCATION w_CARD_PRESENT w_OCCURRED_AT k__VALUES h0 n0 O0 WW) hZ (hw _ (List.mem_of_getElem? (i := 14) rfl)) (hw _ (List.mem_of_getElem? (i := 13) rfl)) (by decide) (by decide)) (g := (mkF m 19 #[iv p1, .val (.int ((p1 &&& (2147483647 : Int32)) % (14 : Int32))), rv w_TRANSACTION_ID, .val .null] [(.ref w_TRANSACTION_ID)])) rfl (by rw [hml]; rfl) (argsL := [(.ref w_TRANSACTION_ID)]) (rest := []) (lenOf pd__Lcom_example_naysay_naysay_rules_Field__Lcom_example_naysay_naysay_rules_Key_ rfl) rfl (by show 2 * 0 + _ ≤ _; exact Nat.le_of_eq rfl) (hb hby at_19) (fun _ _ => ⟨rfl, kq3, (by decide : 0 + 1 ≤ _), (by decide : 0 + 5 ≤ _)⟩)
    dsimp only [Pt.U, Pt.locs, Pt.cells, Pt.slots] at X4 lq4 yq4 zz4 st4 hQ4
    subst lq4 yq4 zz4
    obtain ⟨rfl, Nq4, kq4⟩ := hQ4
    have N4 := Fr.app N3 Nq4
    rw [show rdV w_TRANSACTION_ID w_TRANSACTION_ID w__VALUES w_CARD w_CUSTOMER w_MERCHANT w_DEVICE w_IP w_CARD_ID w_CUSTOMER_ID w_MERCHANT_ID w_DEVICE_ID w_IP_ADDRESS w_CURRENCY w_HOME_LOCATION w_HOUR w_MERCHANT_CATEGORY w_AMOUNT w_MERCHANT_LOCATION w_CARD_PRESENT w_OCCURRED_AT k__VALUES = .null from (by rw [rdV, if_neg (Fld.ne F_w_CARD_ID_ordinal F_w_TRANSACTION_ID_ordinal (by decide)), if_neg (Ne.symm (Fld.ne F_w_TRANSACTION_ID_ordinal F_w_CUSTOMER_ID_ordinal (by decide))), if_neg (Ne.symm (Fld.ne F_w_TRANSACTION_ID_ordinal F_w_MERCHANT_ID_ordinal (by decide))), if_neg (Ne.symm (Fld.ne F_w_TRANSACTION_ID_ordinal F_w_DEVICE_ID_ordinal (by decide))), if_neg (Ne.symm (Fld.ne F_w_TRANSACTION_ID_ordinal F_w_IP_ADDRESS_ordinal (by decide)))])] at st4
    have O4 : Old Z n0 T4.heap := O0.keep kq4 all0
    refine Go.st (f' := (mkF m 22 #[iv p1, .val (.int ((p1 &&& (2147483647 : Int32)) % (14 : Int32))), rv w_TRANSACTION_ID, .val .null] [.null])) (fun _ k => st4 _ k) ?_
    refine Go.st (f' := (mkF m 23 #[iv p1, .val (.int ((p1 &&& (2147483647 : Int32)) % (14 : Int32))), rv w_TRANSACTION_ID, .val .null] [.null, .null])) (fun _ k => XS.aloadN X4.here hx rfl (hb hby at_22) rfl rfl k) ?_
    refine Go.st (f' := (mkF m 26 #[iv p1, .val (.int ((p1 &&& (2147483647 : Int32)) % (14 : Int32))), rv w_TRANSACTION_ID, .val .null] [])) (fun _ k => Jvm.RoadKit.acmp (g := (mkF m 23 #[iv p1, .val (.int ((p1 &&& (2147483647 : Int32)) % (14 : Int32))), rv w_TRANSACTION_ID, .val .null] [.null, .null])) X4 hx rfl rfl rfl (pc0 := 23) (pc' := 26) (same := true) rfl (hb hby at_23) rfl (decide_eq_true rfl) (by decide) (by decide) k) ?_
    refine Go.st (f' := (mkF m 27 #[iv p1, .val (.int ((p1 &&& (2147483647 : Int32)) % (14 : Int32))), rv w_TRANSACTION_ID, .val .null] [(.int 1)])) (fun _ k => XS.iconst X4.here hx rfl (hb hby at_26) k) ?_
    refine Go.st (f' := (mkF m 31 #[iv p1, .val (.int ((p1 &&& (2147483647 : Int32)) % (14 : Int32))), rv w_TRANSACTION_ID, .val .null] [(.int 1)])) (fun _ k => XS.goto X4.here hx rfl (pc0 := 27) (pc' := 31) rfl (hb hby at_27) (by decide) (by decide) k) ?_
    refine Go.retB X4 hlk hx (t := .boolean) hret (by simp) (hb hby at_31) rfl ?_ (by decide) (by decide)
    exact ⟨rfl, N4⟩
  by_cases cd5 : ((p1 &&& (2147483647 : Int32)) % (14 : Int32)) = (1 : Int32)
  · refine Go.st (f' := (mkF m 9 #[iv p1, .val (.int ((p1 &&& (2147483647 : Int32)) % (14 : Int32))), .unset, .unset] [(.int ((p1 &&& (2147483647 : Int32)) % (14 : Int32)))])) (fun _ k => XS.iloadN X0.here hx rfl (hb hby at_8) rfl k) ?_
    obtain ⟨_, _, ⟨T6, L6, kk6, nn6⟩, -, X6, ⟨Lc6, hQ6, lq6, yq6, zz6⟩, st6⟩ := Jvm.LawKit.callS X0 hx (y := (⟨"com/example/naysay/naysay/rules/KeyReadingPinLaw", "fieldAt", "(I)Lcom/example/naysay/naysay/rules/Field;"⟩ : MethodName)) hown (mvT hZ (hw _ (List.mem_of_getElem? (i := 1) rfl))) (mvT hZ (hw _ (List.mem_of_getElem? (i := 2) rfl))) (mvT hZ (hw _ (List.mem_of_getElem? (i := 3) rfl))) (mvT hZ (hw _ (List.mem_of_getElem? (i := 4) rfl))) (by decide) (own_back (W := 0) (rmF l Z a0 hw [] ((p1 &&& (2147483647 : Int32)) % (14 : Int32)) w_TRANSACTION_ID w__VALUES w_CARD w_CUSTOMER w_MERCHANT w_DEVICE w_IP w_CARD_ID w_CUSTOMER_ID w_MERCHANT_ID w_DEVICE_ID w_IP_ADDRESS w_CURRENCY w_HOME_LOCATION w_HOUR w_MERCHANT_CATEGORY w_AMOUNT w_MERCHANT_LOCATION w_CARD_PRESENT w_OCCURRED_AT k__VALUES h0 n0 O0 WW) hZ (hw _ (List.mem_of_getElem? (i := 4) rfl)) (hw _ (List.mem_of_getElem? (i := 3) rfl)) (by decide) (by decide)) (g := (mkF m 9 #[iv p1, .val (.int ((p1 &&& (2147483647 : Int32)) % (14 : Int32))), .unset, .unset] [(.int ((p1 &&& (2147483647 : Int32)) % (14 : Int32)))])) rfl (by rw [hml]; rfl) (argsL := [(.int ((p1 &&& (2147483647 : Int32)) % (14 : Int32)))]) (rest := []) (lenOf pd__I_Lcom_example_naysay_naysay_rules_Field_ rfl) rfl (by show 2 * 0 + _ ≤ _; exact Nat.le_of_eq rfl) (hb hby at_9) (fun _ _ => ⟨rfl, e0, (by decide : 0 + 0 ≤ _), (by decide : 0 + 0 ≤ _)⟩)
    dsimp only [Pt.U, Pt.locs, Pt.cells, Pt.slots] at X6 lq6 yq6 zz6 st6 hQ6
    subst lq6 yq6 zz6
    obtain ⟨rfl, Nq6, kq6⟩ := hQ6
    have N6 := Fr.app N0 Nq6
    rw [show fldV ((p1 &&& (2147483647 : Int32)) % (14 : Int32)) w_TRANSACTION_ID w__VALUES w_CARD w_CUSTOMER w_MERCHANT w_DEVICE w_IP w_CARD_ID w_CUSTOMER_ID w_MERCHANT_ID w_DEVICE_ID w_IP_ADDRESS w_CURRENCY w_HOME_LOCATION w_HOUR w_MERCHANT_CATEGORY w_AMOUNT w_MERCHANT_LOCATION w_CARD_PRESENT w_OCCURRED_AT k__VALUES = .ref w_OCCURRED_AT from (by rw [fldV, if_neg cd1, if_pos cd5])] at st6
    refine Go.st (f' := (mkF m 12 #[iv p1, .val (.int ((p1 &&& (2147483647 : Int32)) % (14 : Int32))), .unset, .unset] [(.ref w_OCCURRED_AT)])) (fun _ k => st6 _ k) ?_
    refine Go.st (f' := (mkF m 13 #[iv p1, .val (.int ((p1 &&& (2147483647 : Int32)) % (14 : Int32))), rv w_OCCURRED_AT, .unset] [])) (fun _ k => XS.astoreN X6.here hx rfl (hb hby at_12) rfl rfl (l' := #[iv p1, .val (.int ((p1 &&& (2147483647 : Int32)) % (14 : Int32))), rv w_OCCURRED_AT, .unset]) rfl k) ?_
    refine Go.st (f' := (mkF m 14 #[iv p1, .val (.int ((p1 &&& (2147483647 : Int32)) % (14 : Int32))), rv w_OCCURRED_AT, .unset] [(.int ((p1 &&& (2147483647 : Int32)) % (14 : Int32)))])) (fun _ k => XS.iloadN X6.here hx rfl (hb hby at_13) rfl k) ?_
    obtain ⟨_, _, ⟨T7, L7, kk7, nn7⟩, -, X7, ⟨Lc7, hQ7, lq7, yq7, zz7⟩, st7⟩ := Jvm.LawKit.callS X6 hx (y := (⟨"com/example/naysay/naysay/rules/KeyReadingPinLaw", "expectedAt", "(I)Lcom/example/naysay/naysay/rules/Key;"⟩ : MethodName)) hown (mvT hZ (hw _ (List.mem_of_getElem? (i := 8) rfl))) (mvT hZ (hw _ (List.mem_of_getElem? (i := 9) rfl))) (mvT hZ (hw _ (List.mem_of_getElem? (i := 3) rfl))) (mvT hZ (hw _ (List.mem_of_getElem? (i := 10) rfl))) (by decide) (own_back (W := 0) (rmE l Z a0 hw [] ((p1 &&& (2147483647 : Int32)) % (14 : Int32)) w_TRANSACTION_ID w__VALUES w_CARD w_CUSTOMER w_MERCHANT w_DEVICE w_IP w_CARD_ID w_CUSTOMER_ID w_MERCHANT_ID w_DEVICE_ID w_IP_ADDRESS w_CURRENCY w_HOME_LOCATION w_HOUR w_MERCHANT_CATEGORY w_AMOUNT w_MERCHANT_LOCATION w_CARD_PRESENT w_OCCURRED_AT k__VALUES h0 n0 O0 WW) hZ (hw _ (List.mem_of_getElem? (i := 10) rfl)) (hw _ (List.mem_of_getElem? (i := 3) rfl)) (by decide) (by decide)) (g := (mkF m 14 #[iv p1, .val (.int ((p1 &&& (2147483647 : Int32)) % (14 : Int32))), rv w_OCCURRED_AT, .unset] [(.int ((p1 &&& (2147483647 : Int32)) % (14 : Int32)))])) rfl (by rw [hml]; rfl) (argsL := [(.int ((p1 &&& (2147483647 : Int32)) % (14 : Int32)))]) (rest := []) (lenOf pd__I_Lcom_example_naysay_naysay_rules_Key_ rfl) rfl (by show 2 * 0 + _ ≤ _; exact Nat.le_of_eq rfl) (hb hby at_14) (fun _ _ => ⟨rfl, kq6, (by decide : 0 + 0 ≤ _), (by decide : 0 + 0 ≤ _)⟩)
    dsimp only [Pt.U, Pt.locs, Pt.cells, Pt.slots] at X7 lq7 yq7 zz7 st7 hQ7
    subst lq7 yq7 zz7
    obtain ⟨rfl, Nq7, kq7⟩ := hQ7
    have N7 := Fr.app N6 Nq7
    rw [show expV ((p1 &&& (2147483647 : Int32)) % (14 : Int32)) w_TRANSACTION_ID w__VALUES w_CARD w_CUSTOMER w_MERCHANT w_DEVICE w_IP w_CARD_ID w_CUSTOMER_ID w_MERCHANT_ID w_DEVICE_ID w_IP_ADDRESS w_CURRENCY w_HOME_LOCATION w_HOUR w_MERCHANT_CATEGORY w_AMOUNT w_MERCHANT_LOCATION w_CARD_PRESENT w_OCCURRED_AT k__VALUES = .null from (by rw [expV, if_neg (fun h => absurd (cd5.symm.trans h) (by decide)), if_neg (fun h => absurd (cd5.symm.trans h) (by decide)), if_neg (fun h => absurd (cd5.symm.trans h) (by decide)), if_neg (fun h => absurd (cd5.symm.trans h) (by decide)), if_neg (fun h => absurd (cd5.symm.trans h) (by decide))])] at st7
    refine Go.st (f' := (mkF m 17 #[iv p1, .val (.int ((p1 &&& (2147483647 : Int32)) % (14 : Int32))), rv w_OCCURRED_AT, .unset] [.null])) (fun _ k => st7 _ k) ?_
    refine Go.st (f' := (mkF m 18 #[iv p1, .val (.int ((p1 &&& (2147483647 : Int32)) % (14 : Int32))), rv w_OCCURRED_AT, .val .null] [])) (fun _ k => XS.astoreN X7.here hx rfl (hb hby at_17) rfl rfl (l' := #[iv p1, .val (.int ((p1 &&& (2147483647 : Int32)) % (14 : Int32))), rv w_OCCURRED_AT, .val .null]) rfl k) ?_
    refine Go.st (f' := (mkF m 19 #[iv p1, .val (.int ((p1 &&& (2147483647 : Int32)) % (14 : Int32))), rv w_OCCURRED_AT, .val .null] [(.ref w_OCCURRED_AT)])) (fun _ k => XS.aloadN X7.here hx rfl (hb hby at_18) rfl rfl k) ?_
    obtain ⟨_, _, ⟨T8, L8, kk8, nn8⟩, -, X8, ⟨Lc8, hQ8, lq8, yq8, zz8⟩, st8⟩ := Jvm.LawKit.callS X7 hx (y := (⟨"com/example/naysay/naysay/rules/Key", "reading", "(Lcom/example/naysay/naysay/rules/Field;)Lcom/example/naysay/naysay/rules/Key;"⟩ : MethodName)) hown (mvT hZ (hw _ (List.mem_of_getElem? (i := 11) rfl))) (mvT hZ (hw _ (List.mem_of_getElem? (i := 12) rfl))) (mvT hZ (hw _ (List.mem_of_getElem? (i := 13) rfl))) (mvT hZ (hw _ (List.mem_of_getElem? (i := 14) rfl))) (by decide) (own_back (W := 0) (rmR l Z a0 hw [] w_OCCURRED_AT w_TRANSACTION_ID w__VALUES w_CARD w_CUSTOMER w_MERCHANT w_DEVICE w_IP w_CARD_ID w_CUSTOMER_ID w_MERCHANT_ID w_DEVICE_ID w_IP_ADDRESS w_CURRENCY w_HOME_LOCATION w_HOUR w_MERCHANT_CATEGORY w_AMOUNT w_MERCHANT_LOCATION w_CARD_PRESENT w_OCCURRED_AT k__VALUES h0 n0 O0 WW) hZ (hw _ (List.mem_of_getElem? (i := 14) rfl)) (hw _ (List.mem_of_getElem? (i := 13) rfl)) (by decide) (by decide)) (g := (mkF m 19 #[iv p1, .val (.int ((p1 &&& (2147483647 : Int32)) % (14 : Int32))), rv w_OCCURRED_AT, .val .null] [(.ref w_OCCURRED_AT)])) rfl (by rw [hml]; rfl) (argsL := [(.ref w_OCCURRED_AT)]) (rest := []) (lenOf pd__Lcom_example_naysay_naysay_rules_Field__Lcom_example_naysay_naysay_rules_Key_ rfl) rfl (by show 2 * 0 + _ ≤ _; exact Nat.le_of_eq rfl) (hb hby at_19) (fun _ _ => ⟨rfl, kq7, (by decide : 0 + 1 ≤ _), (by decide : 0 + 5 ≤ _)⟩)
    dsimp only [Pt.U, Pt.locs, Pt.cells, Pt.slots] at X8 lq8 yq8 zz8 st8 hQ8
    subst lq8 yq8 zz8
    obtain ⟨rfl, Nq8, kq8⟩ := hQ8
    have N8 := Fr.app N7 Nq8
    rw [show rdV w_OCCURRED_AT w_TRANSACTION_ID w__VALUES w_CARD w_CUSTOMER w_MERCHANT w_DEVICE w_IP w_CARD_ID w_CUSTOMER_ID w_MERCHANT_ID w_DEVICE_ID w_IP_ADDRESS w_CURRENCY w_HOME_LOCATION w_HOUR w_MERCHANT_CATEGORY w_AMOUNT w_MERCHANT_LOCATION w_CARD_PRESENT w_OCCURRED_AT k__VALUES = .null from (by rw [rdV, if_neg (Fld.ne F_w_CARD_ID_ordinal F_w_OCCURRED_AT_ordinal (by decide)), if_neg (Fld.ne F_w_CUSTOMER_ID_ordinal F_w_OCCURRED_AT_ordinal (by decide)), if_neg (Fld.ne F_w_MERCHANT_ID_ordinal F_w_OCCURRED_AT_ordinal (by decide)), if_neg (Fld.ne F_w_DEVICE_ID_ordinal F_w_OCCURRED_AT_ordinal (by decide)), if_neg (Fld.ne F_w_IP_ADDRESS_ordinal F_w_OCCURRED_AT_ordinal (by decide))])] at st8
    have O8 : Old Z n0 T8.heap := O0.keep kq8 all0
    refine Go.st (f' := (mkF m 22 #[iv p1, .val (.int ((p1 &&& (2147483647 : Int32)) % (14 : Int32))), rv w_OCCURRED_AT, .val .null] [.null])) (fun _ k => st8 _ k) ?_
    refine Go.st (f' := (mkF m 23 #[iv p1, .val (.int ((p1 &&& (2147483647 : Int32)) % (14 : Int32))), rv w_OCCURRED_AT, .val .null] [.null, .null])) (fun _ k => XS.aloadN X8.here hx rfl (hb hby at_22) rfl rfl k) ?_
    refine Go.st (f' := (mkF m 26 #[iv p1, .val (.int ((p1 &&& (2147483647 : Int32)) % (14 : Int32))), rv w_OCCURRED_AT, .val .null] [])) (fun _ k => Jvm.RoadKit.acmp (g := (mkF m 23 #[iv p1, .val (.int ((p1 &&& (2147483647 : Int32)) % (14 : Int32))), rv w_OCCURRED_AT, .val .null] [.null, .null])) X8 hx rfl rfl rfl (pc0 := 23) (pc' := 26) (same := true) rfl (hb hby at_23) rfl (decide_eq_true rfl) (by decide) (by decide) k) ?_
    refine Go.st (f' := (mkF m 27 #[iv p1, .val (.int ((p1 &&& (2147483647 : Int32)) % (14 : Int32))), rv w_OCCURRED_AT, .val .null] [(.int 1)])) (fun _ k => XS.iconst X8.here hx rfl (hb hby at_26) k) ?_
    refine Go.st (f' := (mkF m 31 #[iv p1, .val (.int ((p1 &&& (2147483647 : Int32)) % (14 : Int32))), rv w_OCCURRED_AT, .val .null] [(.int 1)])) (fun _ k => XS.goto X8.here hx rfl (pc0 := 27) (pc' := 31) rfl (hb hby at_27) (by decide) (by decide) k) ?_
    refine Go.retB X8 hlk hx (t := .boolean) hret (by simp) (hb hby at_31) rfl ?_ (by decide) (by decide)
    exact ⟨rfl, N8⟩
  by_cases cd9 : ((p1 &&& (2147483647 : Int32)) % (14 : Int32)) = (2 : Int32)
  · refine Go.st (f' := (mkF m 9 #[iv p1, .val (.int ((p1 &&& (2147483647 : Int32)) % (14 : Int32))), .unset, .unset] [(.int ((p1 &&& (2147483647 : Int32)) % (14 : Int32)))])) (fun _ k => XS.iloadN X0.here hx rfl (hb hby at_8) rfl k) ?_
    obtain ⟨_, _, ⟨T10, L10, kk10, nn10⟩, -, X10, ⟨Lc10, hQ10, lq10, yq10, zz10⟩, st10⟩ := Jvm.LawKit.callS X0 hx (y := (⟨"com/example/naysay/naysay/rules/KeyReadingPinLaw", "fieldAt", "(I)Lcom/example/naysay/naysay/rules/Field;"⟩ : MethodName)) hown (mvT hZ (hw _ (List.mem_of_getElem? (i := 1) rfl))) (mvT hZ (hw _ (List.mem_of_getElem? (i := 2) rfl))) (mvT hZ (hw _ (List.mem_of_getElem? (i := 3) rfl))) (mvT hZ (hw _ (List.mem_of_getElem? (i := 4) rfl))) (by decide) (own_back (W := 0) (rmF l Z a0 hw [] ((p1 &&& (2147483647 : Int32)) % (14 : Int32)) w_TRANSACTION_ID w__VALUES w_CARD w_CUSTOMER w_MERCHANT w_DEVICE w_IP w_CARD_ID w_CUSTOMER_ID w_MERCHANT_ID w_DEVICE_ID w_IP_ADDRESS w_CURRENCY w_HOME_LOCATION w_HOUR w_MERCHANT_CATEGORY w_AMOUNT w_MERCHANT_LOCATION w_CARD_PRESENT w_OCCURRED_AT k__VALUES h0 n0 O0 WW) hZ (hw _ (List.mem_of_getElem? (i := 4) rfl)) (hw _ (List.mem_of_getElem? (i := 3) rfl)) (by decide) (by decide)) (g := (mkF m 9 #[iv p1, .val (.int ((p1 &&& (2147483647 : Int32)) % (14 : Int32))), .unset, .unset] [(.int ((p1 &&& (2147483647 : Int32)) % (14 : Int32)))])) rfl (by rw [hml]; rfl) (argsL := [(.int ((p1 &&& (2147483647 : Int32)) % (14 : Int32)))]) (rest := []) (lenOf pd__I_Lcom_example_naysay_naysay_rules_Field_ rfl) rfl (by show 2 * 0 + _ ≤ _; exact Nat.le_of_eq rfl) (hb hby at_9) (fun _ _ => ⟨rfl, e0, (by decide : 0 + 0 ≤ _), (by decide : 0 + 0 ≤ _)⟩)
    dsimp only [Pt.U, Pt.locs, Pt.cells, Pt.slots] at X10 lq10 yq10 zz10 st10 hQ10
    subst lq10 yq10 zz10
    obtain ⟨rfl, Nq10, kq10⟩ := hQ10
    have N10 := Fr.app N0 Nq10
    rw [show fldV ((p1 &&& (2147483647 : Int32)) % (14 : Int32)) w_TRANSACTION_ID w__VALUES w_CARD w_CUSTOMER w_MERCHANT w_DEVICE w_IP w_CARD_ID w_CUSTOMER_ID w_MERCHANT_ID w_DEVICE_ID w_IP_ADDRESS w_CURRENCY w_HOME_LOCATION w_HOUR w_MERCHANT_CATEGORY w_AMOUNT w_MERCHANT_LOCATION w_CARD_PRESENT w_OCCURRED_AT k__VALUES = .ref w_AMOUNT from (by rw [fldV, if_neg cd1, if_neg cd5, if_pos cd9])] at st10
    refine Go.st (f' := (mkF m 12 #[iv p1, .val (.int ((p1 &&& (2147483647 : Int32)) % (14 : Int32))), .unset, .unset] [(.ref w_AMOUNT)])) (fun _ k => st10 _ k) ?_
    refine Go.st (f' := (mkF m 13 #[iv p1, .val (.int ((p1 &&& (2147483647 : Int32)) % (14 : Int32))), rv w_AMOUNT, .unset] [])) (fun _ k => XS.astoreN X10.here hx rfl (hb hby at_12) rfl rfl (l' := #[iv p1, .val (.int ((p1 &&& (2147483647 : Int32)) % (14 : Int32))), rv w_AMOUNT, .unset]) rfl k) ?_
    refine Go.st (f' := (mkF m 14 #[iv p1, .val (.int ((p1 &&& (2147483647 : Int32)) % (14 : Int32))), rv w_AMOUNT, .unset] [(.int ((p1 &&& (2147483647 : Int32)) % (14 : Int32)))])) (fun _ k => XS.iloadN X10.here hx rfl (hb hby at_13) rfl k) ?_
    obtain ⟨_, _, ⟨T11, L11, kk11, nn11⟩, -, X11, ⟨Lc11, hQ11, lq11, yq11, zz11⟩, st11⟩ := Jvm.LawKit.callS X10 hx (y := (⟨"com/example/naysay/naysay/rules/KeyReadingPinLaw", "expectedAt", "(I)Lcom/example/naysay/naysay/rules/Key;"⟩ : MethodName)) hown (mvT hZ (hw _ (List.mem_of_getElem? (i := 8) rfl))) (mvT hZ (hw _ (List.mem_of_getElem? (i := 9) rfl))) (mvT hZ (hw _ (List.mem_of_getElem? (i := 3) rfl))) (mvT hZ (hw _ (List.mem_of_getElem? (i := 10) rfl))) (by decide) (own_back (W := 0) (rmE l Z a0 hw [] ((p1 &&& (2147483647 : Int32)) % (14 : Int32)) w_TRANSACTION_ID w__VALUES w_CARD w_CUSTOMER w_MERCHANT w_DEVICE w_IP w_CARD_ID w_CUSTOMER_ID w_MERCHANT_ID w_DEVICE_ID w_IP_ADDRESS w_CURRENCY w_HOME_LOCATION w_HOUR w_MERCHANT_CATEGORY w_AMOUNT w_MERCHANT_LOCATION w_CARD_PRESENT w_OCCURRED_AT k__VALUES h0 n0 O0 WW) hZ (hw _ (List.mem_of_getElem? (i := 10) rfl)) (hw _ (List.mem_of_getElem? (i := 3) rfl)) (by decide) (by decide)) (g := (mkF m 14 #[iv p1, .val (.int ((p1 &&& (2147483647 : Int32)) % (14 : Int32))), rv w_AMOUNT, .unset] [(.int ((p1 &&& (2147483647 : Int32)) % (14 : Int32)))])) rfl (by rw [hml]; rfl) (argsL := [(.int ((p1 &&& (2147483647 : Int32)) % (14 : Int32)))]) (rest := []) (lenOf pd__I_Lcom_example_naysay_naysay_rules_Key_ rfl) rfl (by show 2 * 0 + _ ≤ _; exact Nat.le_of_eq rfl) (hb hby at_14) (fun _ _ => ⟨rfl, kq10, (by decide : 0 + 0 ≤ _), (by decide : 0 + 0 ≤ _)⟩)
    dsimp only [Pt.U, Pt.locs, Pt.cells, Pt.slots] at X11 lq11 yq11 zz11 st11 hQ11
    subst lq11 yq11 zz11
    obtain ⟨rfl, Nq11, kq11⟩ := hQ11
    have N11 := Fr.app N10 Nq11
    rw [show expV ((p1 &&& (2147483647 : Int32)) % (14 : Int32)) w_TRANSACTION_ID w__VALUES w_CARD w_CUSTOMER w_MERCHANT w_DEVICE w_IP w_CARD_ID w_CUSTOMER_ID w_MERCHANT_ID w_DEVICE_ID w_IP_ADDRESS w_CURRENCY w_HOME_LOCATION w_HOUR w_MERCHANT_CATEGORY w_AMOUNT w_MERCHANT_LOCATION w_CARD_PRESENT w_OCCURRED_AT k__VALUES = .null from (by rw [expV, if_neg (fun h => absurd (cd9.symm.trans h) (by decide)), if_neg (fun h => absurd (cd9.symm.trans h) (by decide)), if_neg (fun h => absurd (cd9.symm.trans h) (by decide)), if_neg (fun h => absurd (cd9.symm.trans h) (by decide)), if_neg (fun h => absurd (cd9.symm.trans h) (by decide))])] at st11
    refine Go.st (f' := (mkF m 17 #[iv p1, .val (.int ((p1 &&& (2147483647 : Int32)) % (14 : Int32))), rv w_AMOUNT, .unset] [.null])) (fun _ k => st11 _ k) ?_
    refine Go.st (f' := (mkF m 18 #[iv p1, .val (.int ((p1 &&& (2147483647 : Int32)) % (14 : Int32))), rv w_AMOUNT, .val .null] [])) (fun _ k => XS.astoreN X11.here hx rfl (hb hby at_17) rfl rfl (l' := #[iv p1, .val (.int ((p1 &&& (2147483647 : Int32)) % (14 : Int32))), rv w_AMOUNT, .val .null]) rfl k) ?_
    refine Go.st (f' := (mkF m 19 #[iv p1, .val (.int ((p1 &&& (2147483647 : Int32)) % (14 : Int32))), rv w_AMOUNT, .val .null] [(.ref w_AMOUNT)])) (fun _ k => XS.aloadN X11.here hx rfl (hb hby at_18) rfl rfl k) ?_
    obtain ⟨_, _, ⟨T12, L12, kk12, nn12⟩, -, X12, ⟨Lc12, hQ12, lq12, yq12, zz12⟩, st12⟩ := Jvm.LawKit.callS X11 hx (y := (⟨"com/example/naysay/naysay/rules/Key", "reading", "(Lcom/example/naysay/naysay/rules/Field;)Lcom/example/naysay/naysay/rules/Key;"⟩ : MethodName)) hown (mvT hZ (hw _ (List.mem_of_getElem? (i := 11) rfl))) (mvT hZ (hw _ (List.mem_of_getElem? (i := 12) rfl))) (mvT hZ (hw _ (List.mem_of_getElem? (i := 13) rfl))) (mvT hZ (hw _ (List.mem_of_getElem? (i := 14) rfl))) (by decide) (own_back (W := 0) (rmR l Z a0 hw [] w_AMOUNT w_TRANSACTION_ID w__VALUES w_CARD w_CUSTOMER w_MERCHANT w_DEVICE w_IP w_CARD_ID w_CUSTOMER_ID w_MERCHANT_ID w_DEVICE_ID w_IP_ADDRESS w_CURRENCY w_HOME_LOCATION w_HOUR w_MERCHANT_CATEGORY w_AMOUNT w_MERCHANT_LOCATION w_CARD_PRESENT w_OCCURRED_AT k__VALUES h0 n0 O0 WW) hZ (hw _ (List.mem_of_getElem? (i := 14) rfl)) (hw _ (List.mem_of_getElem? (i := 13) rfl)) (by decide) (by decide)) (g := (mkF m 19 #[iv p1, .val (.int ((p1 &&& (2147483647 : Int32)) % (14 : Int32))), rv w_AMOUNT, .val .null] [(.ref w_AMOUNT)])) rfl (by rw [hml]; rfl) (argsL := [(.ref w_AMOUNT)]) (rest := []) (lenOf pd__Lcom_example_naysay_naysay_rules_Field__Lcom_example_naysay_naysay_rules_Key_ rfl) rfl (by show 2 * 0 + _ ≤ _; exact Nat.le_of_eq rfl) (hb hby at_19) (fun _ _ => ⟨rfl, kq11, (by decide : 0 + 1 ≤ _), (by decide : 0 + 5 ≤ _)⟩)
    dsimp only [Pt.U, Pt.locs, Pt.cells, Pt.slots] at X12 lq12 yq12 zz12 st12 hQ12
    subst lq12 yq12 zz12
    obtain ⟨rfl, Nq12, kq12⟩ := hQ12
    have N12 := Fr.app N11 Nq12
    rw [show rdV w_AMOUNT w_TRANSACTION_ID w__VALUES w_CARD w_CUSTOMER w_MERCHANT w_DEVICE w_IP w_CARD_ID w_CUSTOMER_ID w_MERCHANT_ID w_DEVICE_ID w_IP_ADDRESS w_CURRENCY w_HOME_LOCATION w_HOUR w_MERCHANT_CATEGORY w_AMOUNT w_MERCHANT_LOCATION w_CARD_PRESENT w_OCCURRED_AT k__VALUES = .null from (by rw [rdV, if_neg (Fld.ne F_w_CARD_ID_ordinal F_w_AMOUNT_ordinal (by decide)), if_neg (Fld.ne F_w_CUSTOMER_ID_ordinal F_w_AMOUNT_ordinal (by decide)), if_neg (Fld.ne F_w_MERCHANT_ID_ordinal F_w_AMOUNT_ordinal (by decide)), if_neg (Fld.ne F_w_DEVICE_ID_ordinal F_w_AMOUNT_ordinal (by decide)), if_neg (Fld.ne F_w_IP_ADDRESS_ordinal F_w_AMOUNT_ordinal (by decide))])] at st12
    have O12 : Old Z n0 T12.heap := O0.keep kq12 all0
    refine Go.st (f' := (mkF m 22 #[iv p1, .val (.int ((p1 &&& (2147483647 : Int32)) % (14 : Int32))), rv w_AMOUNT, .val .null] [.null])) (fun _ k => st12 _ k) ?_
    refine Go.st (f' := (mkF m 23 #[iv p1, .val (.int ((p1 &&& (2147483647 : Int32)) % (14 : Int32))), rv w_AMOUNT, .val .null] [.null, .null])) (fun _ k => XS.aloadN X12.here hx rfl (hb hby at_22) rfl rfl k) ?_
    refine Go.st (f' := (mkF m 26 #[iv p1, .val (.int ((p1 &&& (2147483647 : Int32)) % (14 : Int32))), rv w_AMOUNT, .val .null] [])) (fun _ k => Jvm.RoadKit.acmp (g := (mkF m 23 #[iv p1, .val (.int ((p1 &&& (2147483647 : Int32)) % (14 : Int32))), rv w_AMOUNT, .val .null] [.null, .null])) X12 hx rfl rfl rfl (pc0 := 23) (pc' := 26) (same := true) rfl (hb hby at_23) rfl (decide_eq_true rfl) (by decide) (by decide) k) ?_
    refine Go.st (f' := (mkF m 27 #[iv p1, .val (.int ((p1 &&& (2147483647 : Int32)) % (14 : Int32))), rv w_AMOUNT, .val .null] [(.int 1)])) (fun _ k => XS.iconst X12.here hx rfl (hb hby at_26) k) ?_
    refine Go.st (f' := (mkF m 31 #[iv p1, .val (.int ((p1 &&& (2147483647 : Int32)) % (14 : Int32))), rv w_AMOUNT, .val .null] [(.int 1)])) (fun _ k => XS.goto X12.here hx rfl (pc0 := 27) (pc' := 31) rfl (hb hby at_27) (by decide) (by decide) k) ?_
    refine Go.retB X12 hlk hx (t := .boolean) hret (by simp) (hb hby at_31) rfl ?_ (by decide) (by decide)
    exact ⟨rfl, N12⟩
  by_cases cd13 : ((p1 &&& (2147483647 : Int32)) % (14 : Int32)) = (3 : Int32)
  · refine Go.st (f' := (mkF m 9 #[iv p1, .val (.int ((p1 &&& (2147483647 : Int32)) % (14 : Int32))), .unset, .unset] [(.int ((p1 &&& (2147483647 : Int32)) % (14 : Int32)))])) (fun _ k => XS.iloadN X0.here hx rfl (hb hby at_8) rfl k) ?_
    obtain ⟨_, _, ⟨T14, L14, kk14, nn14⟩, -, X14, ⟨Lc14, hQ14, lq14, yq14, zz14⟩, st14⟩ := Jvm.LawKit.callS X0 hx (y := (⟨"com/example/naysay/naysay/rules/KeyReadingPinLaw", "fieldAt", "(I)Lcom/example/naysay/naysay/rules/Field;"⟩ : MethodName)) hown (mvT hZ (hw _ (List.mem_of_getElem? (i := 1) rfl))) (mvT hZ (hw _ (List.mem_of_getElem? (i := 2) rfl))) (mvT hZ (hw _ (List.mem_of_getElem? (i := 3) rfl))) (mvT hZ (hw _ (List.mem_of_getElem? (i := 4) rfl))) (by decide) (own_back (W := 0) (rmF l Z a0 hw [] ((p1 &&& (2147483647 : Int32)) % (14 : Int32)) w_TRANSACTION_ID w__VALUES w_CARD w_CUSTOMER w_MERCHANT w_DEVICE w_IP w_CARD_ID w_CUSTOMER_ID w_MERCHANT_ID w_DEVICE_ID w_IP_ADDRESS w_CURRENCY w_HOME_LOCATION w_HOUR w_MERCHANT_CATEGORY w_AMOUNT w_MERCHANT_LOCATION w_CARD_PRESENT w_OCCURRED_AT k__VALUES h0 n0 O0 WW) hZ (hw _ (List.mem_of_getElem? (i := 4) rfl)) (hw _ (List.mem_of_getElem? (i := 3) rfl)) (by decide) (by decide)) (g := (mkF m 9 #[iv p1, .val (.int ((p1 &&& (2147483647 : Int32)) % (14 : Int32))), .unset, .unset] [(.int ((p1 &&& (2147483647 : Int32)) % (14 : Int32)))])) rfl (by rw [hml]; rfl) (argsL := [(.int ((p1 &&& (2147483647 : Int32)) % (14 : Int32)))]) (rest := []) (lenOf pd__I_Lcom_example_naysay_naysay_rules_Field_ rfl) rfl (by show 2 * 0 + _ ≤ _; exact Nat.le_of_eq rfl) (hb hby at_9) (fun _ _ => ⟨rfl, e0, (by decide : 0 + 0 ≤ _), (by decide : 0 + 0 ≤ _)⟩)
    dsimp only [Pt.U, Pt.locs, Pt.cells, Pt.slots] at X14 lq14 yq14 zz14 st14 hQ14
    subst lq14 yq14 zz14
    obtain ⟨rfl, Nq14, kq14⟩ := hQ14
    have N14 := Fr.app N0 Nq14
    rw [show fldV ((p1 &&& (2147483647 : Int32)) % (14 : Int32)) w_TRANSACTION_ID w__VALUES w_CARD w_CUSTOMER w_MERCHANT w_DEVICE w_IP w_CARD_ID w_CUSTOMER_ID w_MERCHANT_ID w_DEVICE_ID w_IP_ADDRESS w_CURRENCY w_HOME_LOCATION w_HOUR w_MERCHANT_CATEGORY w_AMOUNT w_MERCHANT_LOCATION w_CARD_PRESENT w_OCCURRED_AT k__VALUES = .ref w_CURRENCY from (by rw [fldV, if_neg cd1, if_neg cd5, if_neg cd9, if_pos cd13])] at st14
    refine Go.st (f' := (mkF m 12 #[iv p1, .val (.int ((p1 &&& (2147483647 : Int32)) % (14 : Int32))), .unset, .unset] [(.ref w_CURRENCY)])) (fun _ k => st14 _ k) ?_
    refine Go.st (f' := (mkF m 13 #[iv p1, .val (.int ((p1 &&& (2147483647 : Int32)) % (14 : Int32))), rv w_CURRENCY, .unset] [])) (fun _ k => XS.astoreN X14.here hx rfl (hb hby at_12) rfl rfl (l' := #[iv p1, .val (.int ((p1 &&& (2147483647 : Int32)) % (14 : Int32))), rv w_CURRENCY, .unset]) rfl k) ?_
    refine Go.st (f' := (mkF m 14 #[iv p1, .val (.int ((p1 &&& (2147483647 : Int32)) % (14 : Int32))), rv w_CURRENCY, .unset] [(.int ((p1 &&& (2147483647 : Int32)) % (14 : Int32)))])) (fun _ k => XS.iloadN X14.here hx rfl (hb hby at_13) rfl k) ?_
    obtain ⟨_, _, ⟨T15, L15, kk15, nn15⟩, -, X15, ⟨Lc15, hQ15, lq15, yq15, zz15⟩, st15⟩ := Jvm.LawKit.callS X14 hx (y := (⟨"com/example/naysay/naysay/rules/KeyReadingPinLaw", "expectedAt", "(I)Lcom/example/naysay/naysay/rules/Key;"⟩ : MethodName)) hown (mvT hZ (hw _ (List.mem_of_getElem? (i := 8) rfl))) (mvT hZ (hw _ (List.mem_of_getElem? (i := 9) rfl))) (mvT hZ (hw _ (List.mem_of_getElem? (i := 3) rfl))) (mvT hZ (hw _ (List.mem_of_getElem? (i := 10) rfl))) (by decide) (own_back (W := 0) (rmE l Z a0 hw [] ((p1 &&& (2147483647 : Int32)) % (14 : Int32)) w_TRANSACTION_ID w__VALUES w_CARD w_CUSTOMER w_MERCHANT w_DEVICE w_IP w_CARD_ID w_CUSTOMER_ID w_MERCHANT_ID w_DEVICE_ID w_IP_ADDRESS w_CURRENCY w_HOME_LOCATION w_HOUR w_MERCHANT_CATEGORY w_AMOUNT w_MERCHANT_LOCATION w_CARD_PRESENT w_OCCURRED_AT k__VALUES h0 n0 O0 WW) hZ (hw _ (List.mem_of_getElem? (i := 10) rfl)) (hw _ (List.mem_of_getElem? (i := 3) rfl)) (by decide) (by decide)) (g := (mkF m 14 #[iv p1, .val (.int ((p1 &&& (2147483647 : Int32)) % (14 : Int32))), rv w_CURRENCY, .unset] [(.int ((p1 &&& (2147483647 : Int32)) % (14 : Int32)))])) rfl (by rw [hml]; rfl) (argsL := [(.int ((p1 &&& (2147483647 : Int32)) % (14 : Int32)))]) (rest := []) (lenOf pd__I_Lcom_example_naysay_naysay_rules_Key_ rfl) rfl (by show 2 * 0 + _ ≤ _; exact Nat.le_of_eq rfl) (hb hby at_14) (fun _ _ => ⟨rfl, kq14, (by decide : 0 + 0 ≤ _), (by decide : 0 + 0 ≤ _)⟩)
    dsimp only [Pt.U, Pt.locs, Pt.cells, Pt.slots] at X15 lq15 yq15 zz15 st15 hQ15
    subst lq15 yq15 zz15
    obtain ⟨rfl, Nq15, kq15⟩ := hQ15
    have N15 := Fr.app N14 Nq15
    rw [show expV ((p1 &&& (2147483647 : Int32)) % (14 : Int32)) w_TRANSACTION_ID w__VALUES w_CARD w_CUSTOMER w_MERCHANT w_DEVICE w_IP w_CARD_ID w_CUSTOMER_ID w_MERCHANT_ID w_DEVICE_ID w_IP_ADDRESS w_CURRENCY w_HOME_LOCATION w_HOUR w_MERCHANT_CATEGORY w_AMOUNT w_MERCHANT_LOCATION w_CARD_PRESENT w_OCCURRED_AT k__VALUES = .null from (by rw [expV, if_neg (fun h => absurd (cd13.symm.trans h) (by decide)), if_neg (fun h => absurd (cd13.symm.trans h) (by decide)), if_neg (fun h => absurd (cd13.symm.trans h) (by decide)), if_neg (fun h => absurd (cd13.symm.trans h) (by decide)), if_neg (fun h => absurd (cd13.symm.trans h) (by decide))])] at st15
    refine Go.st (f' := (mkF m 17 #[iv p1, .val (.int ((p1 &&& (2147483647 : Int32)) % (14 : Int32))), rv w_CURRENCY, .unset] [.null])) (fun _ k => st15 _ k) ?_
    refine Go.st (f' := (mkF m 18 #[iv p1, .val (.int ((p1 &&& (2147483647 : Int32)) % (14 : Int32))), rv w_CURRENCY, .val .null] [])) (fun _ k => XS.astoreN X15.here hx rfl (hb hby at_17) rfl rfl (l' := #[iv p1, .val (.int ((p1 &&& (2147483647 : Int32)) % (14 : Int32))), rv w_CURRENCY, .val .null]) rfl k) ?_
    refine Go.st (f' := (mkF m 19 #[iv p1, .val (.int ((p1 &&& (2147483647 : Int32)) % (14 : Int32))), rv w_CURRENCY, .val .null] [(.ref w_CURRENCY)])) (fun _ k => XS.aloadN X15.here hx rfl (hb hby at_18) rfl rfl k) ?_
    obtain ⟨_, _, ⟨T16, L16, kk16, nn16⟩, -, X16, ⟨Lc16, hQ16, lq16, yq16, zz16⟩, st16⟩ := Jvm.LawKit.callS X15 hx (y := (⟨"com/example/naysay/naysay/rules/Key", "reading", "(Lcom/example/naysay/naysay/rules/Field;)Lcom/example/naysay/naysay/rules/Key;"⟩ : MethodName)) hown (mvT hZ (hw _ (List.mem_of_getElem? (i := 11) rfl))) (mvT hZ (hw _ (List.mem_of_getElem? (i := 12) rfl))) (mvT hZ (hw _ (List.mem_of_getElem? (i := 13) rfl))) (mvT hZ (hw _ (List.mem_of_getElem? (i := 14) rfl))) (by decide) (own_back (W := 0) (rmR l Z a0 hw [] w_CURRENCY w_TRANSACTION_ID w__VALUES w_CARD w_CUSTOMER w_MERCHANT w_DEVICE w_IP w_CARD_ID w_CUSTOMER_ID w_MERCHANT_ID w_DEVICE_ID w_IP_ADDRESS w_CURRENCY w_HOME_LOCATION w_HOUR w_MERCHANT_CATEGORY w_AMOUNT w_MERCHANT_LOCATION w_CARD_PRESENT w_OCCURRED_AT k__VALUES h0 n0 O0 WW) hZ (hw _ (List.mem_of_getElem? (i := 14) rfl)) (hw _ (List.mem_of_getElem? (i := 13) rfl)) (by decide) (by decide)) (g := (mkF m 19 #[iv p1, .val (.int ((p1 &&& (2147483647 : Int32)) % (14 : Int32))), rv w_CURRENCY, .val .null] [(.ref w_CURRENCY)])) rfl (by rw [hml]; rfl) (argsL := [(.ref w_CURRENCY)]) (rest := []) (lenOf pd__Lcom_example_naysay_naysay_rules_Field__Lcom_example_naysay_naysay_rules_Key_ rfl) rfl (by show 2 * 0 + _ ≤ _; exact Nat.le_of_eq rfl) (hb hby at_19) (fun _ _ => ⟨rfl, kq15, (by decide : 0 + 1 ≤ _), (by decide : 0 + 5 ≤ _)⟩)
    dsimp only [Pt.U, Pt.locs, Pt.cells, Pt.slots] at X16 lq16 yq16 zz16 st16 hQ16
    subst lq16 yq16 zz16
    obtain ⟨rfl, Nq16, kq16⟩ := hQ16
    have N16 := Fr.app N15 Nq16
    rw [show rdV w_CURRENCY w_TRANSACTION_ID w__VALUES w_CARD w_CUSTOMER w_MERCHANT w_DEVICE w_IP w_CARD_ID w_CUSTOMER_ID w_MERCHANT_ID w_DEVICE_ID w_IP_ADDRESS w_CURRENCY w_HOME_LOCATION w_HOUR w_MERCHANT_CATEGORY w_AMOUNT w_MERCHANT_LOCATION w_CARD_PRESENT w_OCCURRED_AT k__VALUES = .null from (by rw [rdV, if_neg (Fld.ne F_w_CARD_ID_ordinal F_w_CURRENCY_ordinal (by decide)), if_neg (Fld.ne F_w_CUSTOMER_ID_ordinal F_w_CURRENCY_ordinal (by decide)), if_neg (Fld.ne F_w_MERCHANT_ID_ordinal F_w_CURRENCY_ordinal (by decide)), if_neg (Fld.ne F_w_DEVICE_ID_ordinal F_w_CURRENCY_ordinal (by decide)), if_neg (Fld.ne F_w_IP_ADDRESS_ordinal F_w_CURRENCY_ordinal (by decide))])] at st16
    have O16 : Old Z n0 T16.heap := O0.keep kq16 all0
    refine Go.st (f' := (mkF m 22 #[iv p1, .val (.int ((p1 &&& (2147483647 : Int32)) % (14 : Int32))), rv w_CURRENCY, .val .null] [.null])) (fun _ k => st16 _ k) ?_
    refine Go.st (f' := (mkF m 23 #[iv p1, .val (.int ((p1 &&& (2147483647 : Int32)) % (14 : Int32))), rv w_CURRENCY, .val .null] [.null, .null])) (fun _ k => XS.aloadN X16.here hx rfl (hb hby at_22) rfl rfl k) ?_
    refine Go.st (f' := (mkF m 26 #[iv p1, .val (.int ((p1 &&& (2147483647 : Int32)) % (14 : Int32))), rv w_CURRENCY, .val .null] [])) (fun _ k => Jvm.RoadKit.acmp (g := (mkF m 23 #[iv p1, .val (.int ((p1 &&& (2147483647 : Int32)) % (14 : Int32))), rv w_CURRENCY, .val .null] [.null, .null])) X16 hx rfl rfl rfl (pc0 := 23) (pc' := 26) (same := true) rfl (hb hby at_23) rfl (decide_eq_true rfl) (by decide) (by decide) k) ?_
    refine Go.st (f' := (mkF m 27 #[iv p1, .val (.int ((p1 &&& (2147483647 : Int32)) % (14 : Int32))), rv w_CURRENCY, .val .null] [(.int 1)])) (fun _ k => XS.iconst X16.here hx rfl (hb hby at_26) k) ?_
    refine Go.st (f' := (mkF m 31 #[iv p1, .val (.int ((p1 &&& (2147483647 : Int32)) % (14 : Int32))), rv w_CURRENCY, .val .null] [(.int 1)])) (fun _ k => XS.goto X16.here hx rfl (pc0 := 27) (pc' := 31) rfl (hb hby at_27) (by decide) (by decide) k) ?_
    refine Go.retB X16 hlk hx (t := .boolean) hret (by simp) (hb hby at_31) rfl ?_ (by decide) (by decide)
    exact ⟨rfl, N16⟩
  by_cases cd17 : ((p1 &&& (2147483647 : Int32)) % (14 : Int32)) = (4 : Int32)
  · refine Go.st (f' := (mkF m 9 #[iv p1, .val (.int ((p1 &&& (2147483647 : Int32)) % (14 : Int32))), .unset, .unset] [(.int ((p1 &&& (2147483647 : Int32)) % (14 : Int32)))])) (fun _ k => XS.iloadN X0.here hx rfl (hb hby at_8) rfl k) ?_
    obtain ⟨_, _, ⟨T18, L18, kk18, nn18⟩, -, X18, ⟨Lc18, hQ18, lq18, yq18, zz18⟩, st18⟩ := Jvm.LawKit.callS X0 hx (y := (⟨"com/example/naysay/naysay/rules/KeyReadingPinLaw", "fieldAt", "(I)Lcom/example/naysay/naysay/rules/Field;"⟩ : MethodName)) hown (mvT hZ (hw _ (List.mem_of_getElem? (i := 1) rfl))) (mvT hZ (hw _ (List.mem_of_getElem? (i := 2) rfl))) (mvT hZ (hw _ (List.mem_of_getElem? (i := 3) rfl))) (mvT hZ (hw _ (List.mem_of_getElem? (i := 4) rfl))) (by decide) (own_back (W := 0) (rmF l Z a0 hw [] ((p1 &&& (2147483647 : Int32)) % (14 : Int32)) w_TRANSACTION_ID w__VALUES w_CARD w_CUSTOMER w_MERCHANT w_DEVICE w_IP w_CARD_ID w_CUSTOMER_ID w_MERCHANT_ID w_DEVICE_ID w_IP_ADDRESS w_CURRENCY w_HOME_LOCATION w_HOUR w_MERCHANT_CATEGORY w_AMOUNT w_MERCHANT_LOCATION w_CARD_PRESENT w_OCCURRED_AT k__VALUES h0 n0 O0 WW) hZ (hw _ (List.mem_of_getElem? (i := 4) rfl)) (hw _ (List.mem_of_getElem? (i := 3) rfl)) (by decide) (by decide)) (g := (mkF m 9 #[iv p1, .val (.int ((p1 &&& (2147483647 : Int32)) % (14 : Int32))), .unset, .unset] [(.int ((p1 &&& (2147483647 : Int32)) % (14 : Int32)))])) rfl (by rw [hml]; rfl) (argsL := [(.int ((p1 &&& (2147483647 : Int32)) % (14 : Int32)))]) (rest := []) (lenOf pd__I_Lcom_example_naysay_naysay_rules_Field_ rfl) rfl (by show 2 * 0 + _ ≤ _; exact Nat.le_of_eq rfl) (hb hby at_9) (fun _ _ => ⟨rfl, e0, (by decide : 0 + 0 ≤ _), (by decide : 0 + 0 ≤ _)⟩)
    dsimp only [Pt.U, Pt.locs, Pt.cells, Pt.slots] at X18 lq18 yq18 zz18 st18 hQ18
    subst lq18 yq18 zz18
    obtain ⟨rfl, Nq18, kq18⟩ := hQ18
    have N18 := Fr.app N0 Nq18
    rw [show fldV ((p1 &&& (2147483647 : Int32)) % (14 : Int32)) w_TRANSACTION_ID w__VALUES w_CARD w_CUSTOMER w_MERCHANT w_DEVICE w_IP w_CARD_ID w_CUSTOMER_ID w_MERCHANT_ID w_DEVICE_ID w_IP_ADDRESS w_CURRENCY w_HOME_LOCATION w_HOUR w_MERCHANT_CATEGORY w_AMOUNT w_MERCHANT_LOCATION w_CARD_PRESENT w_OCCURRED_AT k__VALUES = .ref w_CARD_ID from (by rw [fldV, if_neg cd1, if_neg cd5, if_neg cd9, if_neg cd13, if_pos cd17])] at st18
    refine Go.st (f' := (mkF m 12 #[iv p1, .val (.int ((p1 &&& (2147483647 : Int32)) % (14 : Int32))), .unset, .unset] [(.ref w_CARD_ID)])) (fun _ k => st18 _ k) ?_
    refine Go.st (f' := (mkF m 13 #[iv p1, .val (.int ((p1 &&& (2147483647 : Int32)) % (14 : Int32))), rv w_CARD_ID, .unset] [])) (fun _ k => XS.astoreN X18.here hx rfl (hb hby at_12) rfl rfl (l' := #[iv p1, .val (.int ((p1 &&& (2147483647 : Int32)) % (14 : Int32))), rv w_CARD_ID, .unset]) rfl k) ?_
    refine Go.st (f' := (mkF m 14 #[iv p1, .val (.int ((p1 &&& (2147483647 : Int32)) % (14 : Int32))), rv w_CARD_ID, .unset] [(.int ((p1 &&& (2147483647 : Int32)) % (14 : Int32)))])) (fun _ k => XS.iloadN X18.here hx rfl (hb hby at_13) rfl k) ?_
    obtain ⟨_, _, ⟨T19, L19, kk19, nn19⟩, -, X19, ⟨Lc19, hQ19, lq19, yq19, zz19⟩, st19⟩ := Jvm.LawKit.callS X18 hx (y := (⟨"com/example/naysay/naysay/rules/KeyReadingPinLaw", "expectedAt", "(I)Lcom/example/naysay/naysay/rules/Key;"⟩ : MethodName)) hown (mvT hZ (hw _ (List.mem_of_getElem? (i := 8) rfl))) (mvT hZ (hw _ (List.mem_of_getElem? (i := 9) rfl))) (mvT hZ (hw _ (List.mem_of_getElem? (i := 3) rfl))) (mvT hZ (hw _ (List.mem_of_getElem? (i := 10) rfl))) (by decide) (own_back (W := 0) (rmE l Z a0 hw [] ((p1 &&& (2147483647 : Int32)) % (14 : Int32)) w_TRANSACTION_ID w__VALUES w_CARD w_CUSTOMER w_MERCHANT w_DEVICE w_IP w_CARD_ID w_CUSTOMER_ID w_MERCHANT_ID w_DEVICE_ID w_IP_ADDRESS w_CURRENCY w_HOME_LOCATION w_HOUR w_MERCHANT_CATEGORY w_AMOUNT w_MERCHANT_LOCATION w_CARD_PRESENT w_OCCURRED_AT k__VALUES h0 n0 O0 WW) hZ (hw _ (List.mem_of_getElem? (i := 10) rfl)) (hw _ (List.mem_of_getElem? (i := 3) rfl)) (by decide) (by decide)) (g := (mkF m 14 #[iv p1, .val (.int ((p1 &&& (2147483647 : Int32)) % (14 : Int32))), rv w_CARD_ID, .unset] [(.int ((p1 &&& (2147483647 : Int32)) % (14 : Int32)))])) rfl (by rw [hml]; rfl) (argsL := [(.int ((p1 &&& (2147483647 : Int32)) % (14 : Int32)))]) (rest := []) (lenOf pd__I_Lcom_example_naysay_naysay_rules_Key_ rfl) rfl (by show 2 * 0 + _ ≤ _; exact Nat.le_of_eq rfl) (hb hby at_14) (fun _ _ => ⟨rfl, kq18, (by decide : 0 + 0 ≤ _), (by decide : 0 + 0 ≤ _)⟩)
    dsimp only [Pt.U, Pt.locs, Pt.cells, Pt.slots] at X19 lq19 yq19 zz19 st19 hQ19
    subst lq19 yq19 zz19
    obtain ⟨rfl, Nq19, kq19⟩ := hQ19
    have N19 := Fr.app N18 Nq19
    rw [show expV ((p1 &&& (2147483647 : Int32)) % (14 : Int32)) w_TRANSACTION_ID w__VALUES w_CARD w_CUSTOMER w_MERCHANT w_DEVICE w_IP w_CARD_ID w_CUSTOMER_ID w_MERCHANT_ID w_DEVICE_ID w_IP_ADDRESS w_CURRENCY w_HOME_LOCATION w_HOUR w_MERCHANT_CATEGORY w_AMOUNT w_MERCHANT_LOCATION w_CARD_PRESENT w_OCCURRED_AT k__VALUES = (.ref w_CARD) from (by rw [expV, if_pos cd17])] at st19
    refine Go.st (f' := (mkF m 17 #[iv p1, .val (.int ((p1 &&& (2147483647 : Int32)) % (14 : Int32))), rv w_CARD_ID, .unset] [(.ref w_CARD)])) (fun _ k => st19 _ k) ?_
    refine Go.st (f' := (mkF m 18 #[iv p1, .val (.int ((p1 &&& (2147483647 : Int32)) % (14 : Int32))), rv w_CARD_ID, rv w_CARD] [])) (fun _ k => XS.astoreN X19.here hx rfl (hb hby at_17) rfl rfl (l' := #[iv p1, .val (.int ((p1 &&& (2147483647 : Int32)) % (14 : Int32))), rv w_CARD_ID, rv w_CARD]) rfl k) ?_
    refine Go.st (f' := (mkF m 19 #[iv p1, .val (.int ((p1 &&& (2147483647 : Int32)) % (14 : Int32))), rv w_CARD_ID, rv w_CARD] [(.ref w_CARD_ID)])) (fun _ k => XS.aloadN X19.here hx rfl (hb hby at_18) rfl rfl k) ?_
    obtain ⟨_, _, ⟨T20, L20, kk20, nn20⟩, -, X20, ⟨Lc20, hQ20, lq20, yq20, zz20⟩, st20⟩ := Jvm.LawKit.callS X19 hx (y := (⟨"com/example/naysay/naysay/rules/Key", "reading", "(Lcom/example/naysay/naysay/rules/Field;)Lcom/example/naysay/naysay/rules/Key;"⟩ : MethodName)) hown (mvT hZ (hw _ (List.mem_of_getElem? (i := 11) rfl))) (mvT hZ (hw _ (List.mem_of_getElem? (i := 12) rfl))) (mvT hZ (hw _ (List.mem_of_getElem? (i := 13) rfl))) (mvT hZ (hw _ (List.mem_of_getElem? (i := 14) rfl))) (by decide) (own_back (W := 0) (rmR l Z a0 hw [] w_CARD_ID w_TRANSACTION_ID w__VALUES w_CARD w_CUSTOMER w_MERCHANT w_DEVICE w_IP w_CARD_ID w_CUSTOMER_ID w_MERCHANT_ID w_DEVICE_ID w_IP_ADDRESS w_CURRENCY w_HOME_LOCATION w_HOUR w_MERCHANT_CATEGORY w_AMOUNT w_MERCHANT_LOCATION w_CARD_PRESENT w_OCCURRED_AT k__VALUES h0 n0 O0 WW) hZ (hw _ (List.mem_of_getElem? (i := 14) rfl)) (hw _ (List.mem_of_getElem? (i := 13) rfl)) (by decide) (by decide)) (g := (mkF m 19 #[iv p1, .val (.int ((p1 &&& (2147483647 : Int32)) % (14 : Int32))), rv w_CARD_ID, rv w_CARD] [(.ref w_CARD_ID)])) rfl (by rw [hml]; rfl) (argsL := [(.ref w_CARD_ID)]) (rest := []) (lenOf pd__Lcom_example_naysay_naysay_rules_Field__Lcom_example_naysay_naysay_rules_Key_ rfl) rfl (by show 2 * 0 + _ ≤ _; exact Nat.le_of_eq rfl) (hb hby at_19) (fun _ _ => ⟨rfl, kq19, (by decide : 0 + 1 ≤ _), (by decide : 0 + 5 ≤ _)⟩)
    dsimp only [Pt.U, Pt.locs, Pt.cells, Pt.slots] at X20 lq20 yq20 zz20 st20 hQ20
    subst lq20 yq20 zz20
    obtain ⟨rfl, Nq20, kq20⟩ := hQ20
    have N20 := Fr.app N19 Nq20
    rw [show rdV w_CARD_ID w_TRANSACTION_ID w__VALUES w_CARD w_CUSTOMER w_MERCHANT w_DEVICE w_IP w_CARD_ID w_CUSTOMER_ID w_MERCHANT_ID w_DEVICE_ID w_IP_ADDRESS w_CURRENCY w_HOME_LOCATION w_HOUR w_MERCHANT_CATEGORY w_AMOUNT w_MERCHANT_LOCATION w_CARD_PRESENT w_OCCURRED_AT k__VALUES = (.ref w_CARD) from (by rw [rdV, if_pos rfl])] at st20
    have O20 : Old Z n0 T20.heap := O0.keep kq20 all0
    refine Go.st (f' := (mkF m 22 #[iv p1, .val (.int ((p1 &&& (2147483647 : Int32)) % (14 : Int32))), rv w_CARD_ID, rv w_CARD] [(.ref w_CARD)])) (fun _ k => st20 _ k) ?_
    refine Go.st (f' := (mkF m 23 #[iv p1, .val (.int ((p1 &&& (2147483647 : Int32)) % (14 : Int32))), rv w_CARD_ID, rv w_CARD] [(.ref w_CARD), (.ref w_CARD)])) (fun _ k => XS.aloadN X20.here hx rfl (hb hby at_22) rfl rfl k) ?_
    refine Go.st (f' := (mkF m 26 #[iv p1, .val (.int ((p1 &&& (2147483647 : Int32)) % (14 : Int32))), rv w_CARD_ID, rv w_CARD] [])) (fun _ k => Jvm.RoadKit.acmp (g := (mkF m 23 #[iv p1, .val (.int ((p1 &&& (2147483647 : Int32)) % (14 : Int32))), rv w_CARD_ID, rv w_CARD] [(.ref w_CARD), (.ref w_CARD)])) X20 hx rfl rfl rfl (pc0 := 23) (pc' := 26) (same := true) rfl (hb hby at_23) rfl (decide_eq_true rfl) (by decide) (by decide) k) ?_
    refine Go.st (f' := (mkF m 27 #[iv p1, .val (.int ((p1 &&& (2147483647 : Int32)) % (14 : Int32))), rv w_CARD_ID, rv w_CARD] [(.int 1)])) (fun _ k => XS.iconst X20.here hx rfl (hb hby at_26) k) ?_
    refine Go.st (f' := (mkF m 31 #[iv p1, .val (.int ((p1 &&& (2147483647 : Int32)) % (14 : Int32))), rv w_CARD_ID, rv w_CARD] [(.int 1)])) (fun _ k => XS.goto X20.here hx rfl (pc0 := 27) (pc' := 31) rfl (hb hby at_27) (by decide) (by decide) k) ?_
    refine Go.retB X20 hlk hx (t := .boolean) hret (by simp) (hb hby at_31) rfl ?_ (by decide) (by decide)
    exact ⟨rfl, N20⟩
  by_cases cd21 : ((p1 &&& (2147483647 : Int32)) % (14 : Int32)) = (5 : Int32)
  · refine Go.st (f' := (mkF m 9 #[iv p1, .val (.int ((p1 &&& (2147483647 : Int32)) % (14 : Int32))), .unset, .unset] [(.int ((p1 &&& (2147483647 : Int32)) % (14 : Int32)))])) (fun _ k => XS.iloadN X0.here hx rfl (hb hby at_8) rfl k) ?_
    obtain ⟨_, _, ⟨T22, L22, kk22, nn22⟩, -, X22, ⟨Lc22, hQ22, lq22, yq22, zz22⟩, st22⟩ := Jvm.LawKit.callS X0 hx (y := (⟨"com/example/naysay/naysay/rules/KeyReadingPinLaw", "fieldAt", "(I)Lcom/example/naysay/naysay/rules/Field;"⟩ : MethodName)) hown (mvT hZ (hw _ (List.mem_of_getElem? (i := 1) rfl))) (mvT hZ (hw _ (List.mem_of_getElem? (i := 2) rfl))) (mvT hZ (hw _ (List.mem_of_getElem? (i := 3) rfl))) (mvT hZ (hw _ (List.mem_of_getElem? (i := 4) rfl))) (by decide) (own_back (W := 0) (rmF l Z a0 hw [] ((p1 &&& (2147483647 : Int32)) % (14 : Int32)) w_TRANSACTION_ID w__VALUES w_CARD w_CUSTOMER w_MERCHANT w_DEVICE w_IP w_CARD_ID w_CUSTOMER_ID w_MERCHANT_ID w_DEVICE_ID w_IP_ADDRESS w_CURRENCY w_HOME_LOCATION w_HOUR w_MERCHANT_CATEGORY w_AMOUNT w_MERCHANT_LOCATION w_CARD_PRESENT w_OCCURRED_AT k__VALUES h0 n0 O0 WW) hZ (hw _ (List.mem_of_getElem? (i := 4) rfl)) (hw _ (List.mem_of_getElem? (i := 3) rfl)) (by decide) (by decide)) (g := (mkF m 9 #[iv p1, .val (.int ((p1 &&& (2147483647 : Int32)) % (14 : Int32))), .unset, .unset] [(.int ((p1 &&& (2147483647 : Int32)) % (14 : Int32)))])) rfl (by rw [hml]; rfl) (argsL := [(.int ((p1 &&& (2147483647 : Int32)) % (14 : Int32)))]) (rest := []) (lenOf pd__I_Lcom_example_naysay_naysay_rules_Field_ rfl) rfl (by show 2 * 0 + _ ≤ _; exact Nat.le_of_eq rfl) (hb hby at_9) (fun _ _ => ⟨rfl, e0, (by decide : 0 + 0 ≤ _), (by decide : 0 + 0 ≤ _)⟩)
    dsimp only [Pt.U, Pt.locs, Pt.cells, Pt.slots] at X22 lq22 yq22 zz22 st22 hQ22
    subst lq22 yq22 zz22
    obtain ⟨rfl, Nq22, kq22⟩ := hQ22
    have N22 := Fr.app N0 Nq22
    rw [show fldV ((p1 &&& (2147483647 : Int32)) % (14 : Int32)) w_TRANSACTION_ID w__VALUES w_CARD w_CUSTOMER w_MERCHANT w_DEVICE w_IP w_CARD_ID w_CUSTOMER_ID w_MERCHANT_ID w_DEVICE_ID w_IP_ADDRESS w_CURRENCY w_HOME_LOCATION w_HOUR w_MERCHANT_CATEGORY w_AMOUNT w_MERCHANT_LOCATION w_CARD_PRESENT w_OCCURRED_AT k__VALUES = .ref w_CUSTOMER_ID from (by rw [fldV, if_neg cd1, if_neg cd5, if_neg cd9, if_neg cd13, if_neg cd17, if_pos cd21])] at st22
    refine Go.st (f' := (mkF m 12 #[iv p1, .val (.int ((p1 &&& (2147483647 : Int32)) % (14 : Int32))), .unset, .unset] [(.ref w_CUSTOMER_ID)])) (fun _ k => st22 _ k) ?_
    refine Go.st (f' := (mkF m 13 #[iv p1, .val (.int ((p1 &&& (2147483647 : Int32)) % (14 : Int32))), rv w_CUSTOMER_ID, .unset] [])) (fun _ k => XS.astoreN X22.here hx rfl (hb hby at_12) rfl rfl (l' := #[iv p1, .val (.int ((p1 &&& (2147483647 : Int32)) % (14 : Int32))), rv w_CUSTOMER_ID, .unset]) rfl k) ?_
    refine Go.st (f' := (mkF m 14 #[iv p1, .val (.int ((p1 &&& (2147483647 : Int32)) % (14 : Int32))), rv w_CUSTOMER_ID, .unset] [(.int ((p1 &&& (2147483647 : Int32)) % (14 : Int32)))])) (fun _ k => XS.iloadN X22.here hx rfl (hb hby at_13) rfl k) ?_
    obtain ⟨_, _, ⟨T23, L23, kk23, nn23⟩, -, X23, ⟨Lc23, hQ23, lq23, yq23, zz23⟩, st23⟩ := Jvm.LawKit.callS X22 hx (y := (⟨"com/example/naysay/naysay/rules/KeyReadingPinLaw", "expectedAt", "(I)Lcom/example/naysay/naysay/rules/Key;"⟩ : MethodName)) hown (mvT hZ (hw _ (List.mem_of_getElem? (i := 8) rfl))) (mvT hZ (hw _ (List.mem_of_getElem? (i := 9) rfl))) (mvT hZ (hw _ (List.mem_of_getElem? (i := 3) rfl))) (mvT hZ (hw _ (List.mem_of_getElem? (i := 10) rfl))) (by decide) (own_back (W := 0) (rmE l Z a0 hw [] ((p1 &&& (2147483647 : Int32)) % (14 : Int32)) w_TRANSACTION_ID w__VALUES w_CARD w_CUSTOMER w_MERCHANT w_DEVICE w_IP w_CARD_ID w_CUSTOMER_ID w_MERCHANT_ID w_DEVICE_ID w_IP_ADDRESS w_CURRENCY w_HOME_LOCATION w_HOUR w_MERCHANT_CATEGORY w_AMOUNT w_MERCHANT_LOCATION w_CARD_PRESENT w_OCCURRED_AT k__VALUES h0 n0 O0 WW) hZ (hw _ (List.mem_of_getElem? (i := 10) rfl)) (hw _ (List.mem_of_getElem? (i := 3) rfl)) (by decide) (by decide)) (g := (mkF m 14 #[iv p1, .val (.int ((p1 &&& (2147483647 : Int32)) % (14 : Int32))), rv w_CUSTOMER_ID, .unset] [(.int ((p1 &&& (2147483647 : Int32)) % (14 : Int32)))])) rfl (by rw [hml]; rfl) (argsL := [(.int ((p1 &&& (2147483647 : Int32)) % (14 : Int32)))]) (rest := []) (lenOf pd__I_Lcom_example_naysay_naysay_rules_Key_ rfl) rfl (by show 2 * 0 + _ ≤ _; exact Nat.le_of_eq rfl) (hb hby at_14) (fun _ _ => ⟨rfl, kq22, (by decide : 0 + 0 ≤ _), (by decide : 0 + 0 ≤ _)⟩)
    dsimp only [Pt.U, Pt.locs, Pt.cells, Pt.slots] at X23 lq23 yq23 zz23 st23 hQ23
    subst lq23 yq23 zz23
    obtain ⟨rfl, Nq23, kq23⟩ := hQ23
    have N23 := Fr.app N22 Nq23
    rw [show expV ((p1 &&& (2147483647 : Int32)) % (14 : Int32)) w_TRANSACTION_ID w__VALUES w_CARD w_CUSTOMER w_MERCHANT w_DEVICE w_IP w_CARD_ID w_CUSTOMER_ID w_MERCHANT_ID w_DEVICE_ID w_IP_ADDRESS w_CURRENCY w_HOME_LOCATION w_HOUR w_MERCHANT_CATEGORY w_AMOUNT w_MERCHANT_LOCATION w_CARD_PRESENT w_OCCURRED_AT k__VALUES = (.ref w_CUSTOMER) from (by rw [expV, if_neg cd17, if_pos cd21])] at st23
    refine Go.st (f' := (mkF m 17 #[iv p1, .val (.int ((p1 &&& (2147483647 : Int32)) % (14 : Int32))), rv w_CUSTOMER_ID, .unset] [(.ref w_CUSTOMER)])) (fun _ k => st23 _ k) ?_
    refine Go.st (f' := (mkF m 18 #[iv p1, .val (.int ((p1 &&& (2147483647 : Int32)) % (14 : Int32))), rv w_CUSTOMER_ID, rv w_CUSTOMER] [])) (fun _ k => XS.astoreN X23.here hx rfl (hb hby at_17) rfl rfl (l' := #[iv p1, .val (.int ((p1 &&& (2147483647 : Int32)) % (14 : Int32))), rv w_CUSTOMER_ID, rv w_CUSTOMER]) rfl k) ?_
    refine Go.st (f' := (mkF m 19 #[iv p1, .val (.int ((p1 &&& (2147483647 : Int32)) % (14 : Int32))), rv w_CUSTOMER_ID, rv w_CUSTOMER] [(.ref w_CUSTOMER_ID)])) (fun _ k => XS.aloadN X23.here hx rfl (hb hby at_18) rfl rfl k) ?_
    obtain ⟨_, _, ⟨T24, L24, kk24, nn24⟩, -, X24, ⟨Lc24, hQ24, lq24, yq24, zz24⟩, st24⟩ := Jvm.LawKit.callS X23 hx (y := (⟨"com/example/naysay/naysay/rules/Key", "reading", "(Lcom/example/naysay/naysay/rules/Field;)Lcom/example/naysay/naysay/rules/Key;"⟩ : MethodName)) hown (mvT hZ (hw _ (List.mem_of_getElem? (i := 11) rfl))) (mvT hZ (hw _ (List.mem_of_getElem? (i := 12) rfl))) (mvT hZ (hw _ (List.mem_of_getElem? (i := 13) rfl))) (mvT hZ (hw _ (List.mem_of_getElem? (i := 14) rfl))) (by decide) (own_back (W := 0) (rmR l Z a0 hw [] w_CUSTOMER_ID w_TRANSACTION_ID w__VALUES w_CARD w_CUSTOMER w_MERCHANT w_DEVICE w_IP w_CARD_ID w_CUSTOMER_ID w_MERCHANT_ID w_DEVICE_ID w_IP_ADDRESS w_CURRENCY w_HOME_LOCATION w_HOUR w_MERCHANT_CATEGORY w_AMOUNT w_MERCHANT_LOCATION w_CARD_PRESENT w_OCCURRED_AT k__VALUES h0 n0 O0 WW) hZ (hw _ (List.mem_of_getElem? (i := 14) rfl)) (hw _ (List.mem_of_getElem? (i := 13) rfl)) (by decide) (by decide)) (g := (mkF m 19 #[iv p1, .val (.int ((p1 &&& (2147483647 : Int32)) % (14 : Int32))), rv w_CUSTOMER_ID, rv w_CUSTOMER] [(.ref w_CUSTOMER_ID)])) rfl (by rw [hml]; rfl) (argsL := [(.ref w_CUSTOMER_ID)]) (rest := []) (lenOf pd__Lcom_example_naysay_naysay_rules_Field__Lcom_example_naysay_naysay_rules_Key_ rfl) rfl (by show 2 * 0 + _ ≤ _; exact Nat.le_of_eq rfl) (hb hby at_19) (fun _ _ => ⟨rfl, kq23, (by decide : 0 + 1 ≤ _), (by decide : 0 + 5 ≤ _)⟩)
    dsimp only [Pt.U, Pt.locs, Pt.cells, Pt.slots] at X24 lq24 yq24 zz24 st24 hQ24
    subst lq24 yq24 zz24
    obtain ⟨rfl, Nq24, kq24⟩ := hQ24
    have N24 := Fr.app N23 Nq24
    rw [show rdV w_CUSTOMER_ID w_TRANSACTION_ID w__VALUES w_CARD w_CUSTOMER w_MERCHANT w_DEVICE w_IP w_CARD_ID w_CUSTOMER_ID w_MERCHANT_ID w_DEVICE_ID w_IP_ADDRESS w_CURRENCY w_HOME_LOCATION w_HOUR w_MERCHANT_CATEGORY w_AMOUNT w_MERCHANT_LOCATION w_CARD_PRESENT w_OCCURRED_AT k__VALUES = (.ref w_CUSTOMER) from (by rw [rdV, if_neg (Fld.ne F_w_CARD_ID_ordinal F_w_CUSTOMER_ID_ordinal (by decide)), if_pos rfl])] at st24
    have O24 : Old Z n0 T24.heap := O0.keep kq24 all0
    refine Go.st (f' := (mkF m 22 #[iv p1, .val (.int ((p1 &&& (2147483647 : Int32)) % (14 : Int32))), rv w_CUSTOMER_ID, rv w_CUSTOMER] [(.ref w_CUSTOMER)])) (fun _ k => st24 _ k) ?_
    refine Go.st (f' := (mkF m 23 #[iv p1, .val (.int ((p1 &&& (2147483647 : Int32)) % (14 : Int32))), rv w_CUSTOMER_ID, rv w_CUSTOMER] [(.ref w_CUSTOMER), (.ref w_CUSTOMER)])) (fun _ k => XS.aloadN X24.here hx rfl (hb hby at_22) rfl rfl k) ?_
    refine Go.st (f' := (mkF m 26 #[iv p1, .val (.int ((p1 &&& (2147483647 : Int32)) % (14 : Int32))), rv w_CUSTOMER_ID, rv w_CUSTOMER] [])) (fun _ k => Jvm.RoadKit.acmp (g := (mkF m 23 #[iv p1, .val (.int ((p1 &&& (2147483647 : Int32)) % (14 : Int32))), rv w_CUSTOMER_ID, rv w_CUSTOMER] [(.ref w_CUSTOMER), (.ref w_CUSTOMER)])) X24 hx rfl rfl rfl (pc0 := 23) (pc' := 26) (same := true) rfl (hb hby at_23) rfl (decide_eq_true rfl) (by decide) (by decide) k) ?_
    refine Go.st (f' := (mkF m 27 #[iv p1, .val (.int ((p1 &&& (2147483647 : Int32)) % (14 : Int32))), rv w_CUSTOMER_ID, rv w_CUSTOMER] [(.int 1)])) (fun _ k => XS.iconst X24.here hx rfl (hb hby at_26) k) ?_
    refine Go.st (f' := (mkF m 31 #[iv p1, .val (.int ((p1 &&& (2147483647 : Int32)) % (14 : Int32))), rv w_CUSTOMER_ID, rv w_CUSTOMER] [(.int 1)])) (fun _ k => XS.goto X24.here hx rfl (pc0 := 27) (pc' := 31) rfl (hb hby at_27) (by decide) (by decide) k) ?_
    refine Go.retB X24 hlk hx (t := .boolean) hret (by simp) (hb hby at_31) rfl ?_ (by decide) (by decide)
    exact ⟨rfl, N24⟩
  by_cases cd25 : ((p1 &&& (2147483647 : Int32)) % (14 : Int32)) = (6 : Int32)
  · refine Go.st (f' := (mkF m 9 #[iv p1, .val (.int ((p1 &&& (2147483647 : Int32)) % (14 : Int32))), .unset, .unset] [(.int ((p1 &&& (2147483647 : Int32)) % (14 : Int32)))])) (fun _ k => XS.iloadN X0.here hx rfl (hb hby at_8) rfl k) ?_
    obtain ⟨_, _, ⟨T26, L26, kk26, nn26⟩, -, X26, ⟨Lc26, hQ26, lq26, yq26, zz26⟩, st26⟩ := Jvm.LawKit.callS X0 hx (y := (⟨"com/example/naysay/naysay/rules/KeyReadingPinLaw", "fieldAt", "(I)Lcom/example/naysay/naysay/rules/Field;"⟩ : MethodName)) hown (mvT hZ (hw _ (List.mem_of_getElem? (i := 1) rfl))) (mvT hZ (hw _ (List.mem_of_getElem? (i := 2) rfl))) (mvT hZ (hw _ (List.mem_of_getElem? (i := 3) rfl))) (mvT hZ (hw _ (List.mem_of_getElem? (i := 4) rfl))) (by decide) (own_back (W := 0) (rmF l Z a0 hw [] ((p1 &&& (2147483647 : Int32)) % (14 : Int32)) w_TRANSACTION_ID w__VALUES w_CARD w_CUSTOMER w_MERCHANT w_DEVICE w_IP w_CARD_ID w_CUSTOMER_ID w_MERCHANT_ID w_DEVICE_ID w_IP_ADDRESS w_CURRENCY w_HOME_LOCATION w_HOUR w_MERCHANT_CATEGORY w_AMOUNT w_MERCHANT_LOCATION w_CARD_PRESENT w_OCCURRED_AT k__VALUES h0 n0 O0 WW) hZ (hw _ (List.mem_of_getElem? (i := 4) rfl)) (hw _ (List.mem_of_getElem? (i := 3) rfl)) (by decide) (by decide)) (g := (mkF m 9 #[iv p1, .val (.int ((p1 &&& (2147483647 : Int32)) % (14 : Int32))), .unset, .unset] [(.int ((p1 &&& (2147483647 : Int32)) % (14 : Int32)))])) rfl (by rw [hml]; rfl) (argsL := [(.int ((p1 &&& (2147483647 : Int32)) % (14 : Int32)))]) (rest := []) (lenOf pd__I_Lcom_example_naysay_naysay_rules_Field_ rfl) rfl (by show 2 * 0 + _ ≤ _; exact Nat.le_of_eq rfl) (hb hby at_9) (fun _ _ => ⟨rfl, e0, (by decide : 0 + 0 ≤ _), (by decide : 0 + 0 ≤ _)⟩)
    dsimp only [Pt.U, Pt.locs, Pt.cells, Pt.slots] at X26 lq26 yq26 zz26 st26 hQ26
    subst lq26 yq26 zz26
    obtain ⟨rfl, Nq26, kq26⟩ := hQ26
    have N26 := Fr.app N0 Nq26
    rw [show fldV ((p1 &&& (2147483647 : Int32)) % (14 : Int32)) w_TRANSACTION_ID w__VALUES w_CARD w_CUSTOMER w_MERCHANT w_DEVICE w_IP w_CARD_ID w_CUSTOMER_ID w_MERCHANT_ID w_DEVICE_ID w_IP_ADDRESS w_CURRENCY w_HOME_LOCATION w_HOUR w_MERCHANT_CATEGORY w_AMOUNT w_MERCHANT_LOCATION w_CARD_PRESENT w_OCCURRED_AT k__VALUES = .ref w_MERCHANT_ID from (by rw [fldV, if_neg cd1, if_neg cd5, if_neg cd9, if_neg cd13, if_neg cd17, if_neg cd21, if_pos cd25])] at st26
    refine Go.st (f' := (mkF m 12 #[iv p1, .val (.int ((p1 &&& (2147483647 : Int32)) % (14 : Int32))), .unset, .unset] [(.ref w_MERCHANT_ID)])) (fun _ k => st26 _ k) ?_
    refine Go.st (f' := (mkF m 13 #[iv p1, .val (.int ((p1 &&& (2147483647 : Int32)) % (14 : Int32))), rv w_MERCHANT_ID, .unset] [])) (fun _ k => XS.astoreN X26.here hx rfl (hb hby at_12) rfl rfl (l' := #[iv p1, .val (.int ((p1 &&& (2147483647 : Int32)) % (14 : Int32))), rv w_MERCHANT_ID, .unset]) rfl k) ?_
    refine Go.st (f' := (mkF m 14 #[iv p1, .val (.int ((p1 &&& (2147483647 : Int32)) % (14 : Int32))), rv w_MERCHANT_ID, .unset] [(.int ((p1 &&& (2147483647 : Int32)) % (14 : Int32)))])) (fun _ k => XS.iloadN X26.here hx rfl (hb hby at_13) rfl k) ?_
    obtain ⟨_, _, ⟨T27, L27, kk27, nn27⟩, -, X27, ⟨Lc27, hQ27, lq27, yq27, zz27⟩, st27⟩ := Jvm.LawKit.callS X26 hx (y := (⟨"com/example/naysay/naysay/rules/KeyReadingPinLaw", "expectedAt", "(I)Lcom/example/naysay/naysay/rules/Key;"⟩ : MethodName)) hown (mvT hZ (hw _ (List.mem_of_getElem? (i := 8) rfl))) (mvT hZ (hw _ (List.mem_of_getElem? (i := 9) rfl))) (mvT hZ (hw _ (List.mem_of_getElem? (i := 3) rfl))) (mvT hZ (hw _ (List.mem_of_getElem? (i := 10) rfl))) (by decide) (own_back (W := 0) (rmE l Z a0 hw [] ((p1 &&& (2147483647 : Int32)) % (14 : Int32)) w_TRANSACTION_ID w__VALUES w_CARD w_CUSTOMER w_MERCHANT w_DEVICE w_IP w_CARD_ID w_CUSTOMER_ID w_MERCHANT_ID w_DEVICE_ID w_IP_ADDRESS w_CURRENCY w_HOME_LOCATION w_HOUR w_MERCHANT_CATEGORY w_AMOUNT w_MERCHANT_LOCATION w_CARD_PRESENT w_OCCURRED_AT k__VALUES h0 n0 O0 WW) hZ (hw _ (List.mem_of_getElem? (i := 10) rfl)) (hw _ (List.mem_of_getElem? (i := 3) rfl)) (by decide) (by decide)) (g := (mkF m 14 #[iv p1, .val (.int ((p1 &&& (2147483647 : Int32)) % (14 : Int32))), rv w_MERCHANT_ID, .unset] [(.int ((p1 &&& (2147483647 : Int32)) % (14 : Int32)))])) rfl (by rw [hml]; rfl) (argsL := [(.int ((p1 &&& (2147483647 : Int32)) % (14 : Int32)))]) (rest := []) (lenOf pd__I_Lcom_example_naysay_naysay_rules_Key_ rfl) rfl (by show 2 * 0 + _ ≤ _; exact Nat.le_of_eq rfl) (hb hby at_14) (fun _ _ => ⟨rfl, kq26, (by decide : 0 + 0 ≤ _), (by decide : 0 + 0 ≤ _)⟩)
    dsimp only [Pt.U, Pt.locs, Pt.cells, Pt.slots] at X27 lq27 yq27 zz27 st27 hQ27
    subst lq27 yq27 zz27
    obtain ⟨rfl, Nq27, kq27⟩ := hQ27
    have N27 := Fr.app N26 Nq27
    rw [show expV ((p1 &&& (2147483647 : Int32)) % (14 : Int32)) w_TRANSACTION_ID w__VALUES w_CARD w_CUSTOMER w_MERCHANT w_DEVICE w_IP w_CARD_ID w_CUSTOMER_ID w_MERCHANT_ID w_DEVICE_ID w_IP_ADDRESS w_CURRENCY w_HOME_LOCATION w_HOUR w_MERCHANT_CATEGORY w_AMOUNT w_MERCHANT_LOCATION w_CARD_PRESENT w_OCCURRED_AT k__VALUES = (.ref w_MERCHANT) from (by rw [expV, if_neg cd17, if_neg cd21, if_pos cd25])] at st27
    refine Go.st (f' := (mkF m 17 #[iv p1, .val (.int ((p1 &&& (2147483647 : Int32)) % (14 : Int32))), rv w_MERCHANT_ID, .unset] [(.ref w_MERCHANT)])) (fun _ k => st27 _ k) ?_
    refine Go.st (f' := (mkF m 18 #[iv p1, .val (.int ((p1 &&& (2147483647 : Int32)) % (14 : Int32))), rv w_MERCHANT_ID, rv w_MERCHANT] [])) (fun _ k => XS.astoreN X27.here hx rfl (hb hby at_17) rfl rfl (l' := #[iv p1, .val (.int ((p1 &&& (2147483647 : Int32)) % (14 : Int32))), rv w_MERCHANT_ID, rv w_MERCHANT]) rfl k) ?_
    refine Go.st (f' := (mkF m 19 #[iv p1, .val (.int ((p1 &&& (2147483647 : Int32)) % (14 : Int32))), rv w_MERCHANT_ID, rv w_MERCHANT] [(.ref w_MERCHANT_ID)])) (fun _ k => XS.aloadN X27.here hx rfl (hb hby at_18) rfl rfl k) ?_
    obtain ⟨_, _, ⟨T28, L28, kk28, nn28⟩, -, X28, ⟨Lc28, hQ28, lq28, yq28, zz28⟩, st28⟩ := Jvm.LawKit.callS X27 hx (y := (⟨"com/example/naysay/naysay/rules/Key", "reading", "(Lcom/example/naysay/naysay/rules/Field;)Lcom/example/naysay/naysay/rules/Key;"⟩ : MethodName)) hown (mvT hZ (hw _ (List.mem_of_getElem? (i := 11) rfl))) (mvT hZ (hw _ (List.mem_of_getElem? (i := 12) rfl))) (mvT hZ (hw _ (List.mem_of_getElem? (i := 13) rfl))) (mvT hZ (hw _ (List.mem_of_getElem? (i := 14) rfl))) (by decide) (own_back (W := 0) (rmR l Z a0 hw [] w_MERCHANT_ID w_TRANSACTION_ID w__VALUES w_CARD w_CUSTOMER w_MERCHANT w_DEVICE w_IP w_CARD_ID w_CUSTOMER_ID w_MERCHANT_ID w_DEVICE_ID w_IP_ADDRESS w_CURRENCY w_HOME_LOCATION w_HOUR w_MERCHANT_CATEGORY w_AMOUNT w_MERCHANT_LOCATION w_CARD_PRESENT w_OCCURRED_AT k__VALUES h0 n0 O0 WW) hZ (hw _ (List.mem_of_getElem? (i := 14) rfl)) (hw _ (List.mem_of_getElem? (i := 13) rfl)) (by decide) (by decide)) (g := (mkF m 19 #[iv p1, .val (.int ((p1 &&& (2147483647 : Int32)) % (14 : Int32))), rv w_MERCHANT_ID, rv w_MERCHANT] [(.ref w_MERCHANT_ID)])) rfl (by rw [hml]; rfl) (argsL := [(.ref w_MERCHANT_ID)]) (rest := []) (lenOf pd__Lcom_example_naysay_naysay_rules_Field__Lcom_example_naysay_naysay_rules_Key_ rfl) rfl (by show 2 * 0 + _ ≤ _; exact Nat.le_of_eq rfl) (hb hby at_19) (fun _ _ => ⟨rfl, kq27, (by decide : 0 + 1 ≤ _), (by decide : 0 + 5 ≤ _)⟩)
    dsimp only [Pt.U, Pt.locs, Pt.cells, Pt.slots] at X28 lq28 yq28 zz28 st28 hQ28
    subst lq28 yq28 zz28
    obtain ⟨rfl, Nq28, kq28⟩ := hQ28
    have N28 := Fr.app N27 Nq28
    rw [show rdV w_MERCHANT_ID w_TRANSACTION_ID w__VALUES w_CARD w_CUSTOMER w_MERCHANT w_DEVICE w_IP w_CARD_ID w_CUSTOMER_ID w_MERCHANT_ID w_DEVICE_ID w_IP_ADDRESS w_CURRENCY w_HOME_LOCATION w_HOUR w_MERCHANT_CATEGORY w_AMOUNT w_MERCHANT_LOCATION w_CARD_PRESENT w_OCCURRED_AT k__VALUES = (.ref w_MERCHANT) from (by rw [rdV, if_neg (Fld.ne F_w_CARD_ID_ordinal F_w_MERCHANT_ID_ordinal (by decide)), if_neg (Fld.ne F_w_CUSTOMER_ID_ordinal F_w_MERCHANT_ID_ordinal (by decide)), if_pos rfl])] at st28
    have O28 : Old Z n0 T28.heap := O0.keep kq28 all0
    refine Go.st (f' := (mkF m 22 #[iv p1, .val (.int ((p1 &&& (2147483647 : Int32)) % (14 : Int32))), rv w_MERCHANT_ID, rv w_MERCHANT] [(.ref w_MERCHANT)])) (fun _ k => st28 _ k) ?_
    refine Go.st (f' := (mkF m 23 #[iv p1, .val (.int ((p1 &&& (2147483647 : Int32)) % (14 : Int32))), rv w_MERCHANT_ID, rv w_MERCHANT] [(.ref w_MERCHANT), (.ref w_MERCHANT)])) (fun _ k => XS.aloadN X28.here hx rfl (hb hby at_22) rfl rfl k) ?_
    refine Go.st (f' := (mkF m 26 #[iv p1, .val (.int ((p1 &&& (2147483647 : Int32)) % (14 : Int32))), rv w_MERCHANT_ID, rv w_MERCHANT] [])) (fun _ k => Jvm.RoadKit.acmp (g := (mkF m 23 #[iv p1, .val (.int ((p1 &&& (2147483647 : Int32)) % (14 : Int32))), rv w_MERCHANT_ID, rv w_MERCHANT] [(.ref w_MERCHANT), (.ref w_MERCHANT)])) X28 hx rfl rfl rfl (pc0 := 23) (pc' := 26) (same := true) rfl (hb hby at_23) rfl (decide_eq_true rfl) (by decide) (by decide) k) ?_
    refine Go.st (f' := (mkF m 27 #[iv p1, .val (.int ((p1 &&& (2147483647 : Int32)) % (14 : Int32))), rv w_MERCHANT_ID, rv w_MERCHANT] [(.int 1)])) (fun _ k => XS.iconst X28.here hx rfl (hb hby at_26) k) ?_
    refine Go.st (f' := (mkF m 31 #[iv p1, .val (.int ((p1 &&& (2147483647 : Int32)) % (14 : Int32))), rv w_MERCHANT_ID, rv w_MERCHANT] [(.int 1)])) (fun _ k => XS.goto X28.here hx rfl (pc0 := 27) (pc' := 31) rfl (hb hby at_27) (by decide) (by decide) k) ?_
    refine Go.retB X28 hlk hx (t := .boolean) hret (by simp) (hb hby at_31) rfl ?_ (by decide) (by decide)
    exact ⟨rfl, N28⟩
  by_cases cd29 : ((p1 &&& (2147483647 : Int32)) % (14 : Int32)) = (7 : Int32)
  · refine Go.st (f' := (mkF m 9 #[iv p1, .val (.int ((p1 &&& (2147483647 : Int32)) % (14 : Int32))), .unset, .unset] [(.int ((p1 &&& (2147483647 : Int32)) % (14 : Int32)))])) (fun _ k => XS.iloadN X0.here hx rfl (hb hby at_8) rfl k) ?_
    obtain ⟨_, _, ⟨T30, L30, kk30, nn30⟩, -, X30, ⟨Lc30, hQ30, lq30, yq30, zz30⟩, st30⟩ := Jvm.LawKit.callS X0 hx (y := (⟨"com/example/naysay/naysay/rules/KeyReadingPinLaw", "fieldAt", "(I)Lcom/example/naysay/naysay/rules/Field;"⟩ : MethodName)) hown (mvT hZ (hw _ (List.mem_of_getElem? (i := 1) rfl))) (mvT hZ (hw _ (List.mem_of_getElem? (i := 2) rfl))) (mvT hZ (hw _ (List.mem_of_getElem? (i := 3) rfl))) (mvT hZ (hw _ (List.mem_of_getElem? (i := 4) rfl))) (by decide) (own_back (W := 0) (rmF l Z a0 hw [] ((p1 &&& (2147483647 : Int32)) % (14 : Int32)) w_TRANSACTION_ID w__VALUES w_CARD w_CUSTOMER w_MERCHANT w_DEVICE w_IP w_CARD_ID w_CUSTOMER_ID w_MERCHANT_ID w_DEVICE_ID w_IP_ADDRESS w_CURRENCY w_HOME_LOCATION w_HOUR w_MERCHANT_CATEGORY w_AMOUNT w_MERCHANT_LOCATION w_CARD_PRESENT w_OCCURRED_AT k__VALUES h0 n0 O0 WW) hZ (hw _ (List.mem_of_getElem? (i := 4) rfl)) (hw _ (List.mem_of_getElem? (i := 3) rfl)) (by decide) (by decide)) (g := (mkF m 9 #[iv p1, .val (.int ((p1 &&& (2147483647 : Int32)) % (14 : Int32))), .unset, .unset] [(.int ((p1 &&& (2147483647 : Int32)) % (14 : Int32)))])) rfl (by rw [hml]; rfl) (argsL := [(.int ((p1 &&& (2147483647 : Int32)) % (14 : Int32)))]) (rest := []) (lenOf pd__I_Lcom_example_naysay_naysay_rules_Field_ rfl) rfl (by show 2 * 0 + _ ≤ _; exact Nat.le_of_eq rfl) (hb hby at_9) (fun _ _ => ⟨rfl, e0, (by decide : 0 + 0 ≤ _), (by decide : 0 + 0 ≤ _)⟩)
    dsimp only [Pt.U, Pt.locs, Pt.cells, Pt.slots] at X30 lq30 yq30 zz30 st30 hQ30
    subst lq30 yq30 zz30
    obtain ⟨rfl, Nq30, kq30⟩ := hQ30
    have N30 := Fr.app N0 Nq30
    rw [show fldV ((p1 &&& (2147483647 : Int32)) % (14 : Int32)) w_TRANSACTION_ID w__VALUES w_CARD w_CUSTOMER w_MERCHANT w_DEVICE w_IP w_CARD_ID w_CUSTOMER_ID w_MERCHANT_ID w_DEVICE_ID w_IP_ADDRESS w_CURRENCY w_HOME_LOCATION w_HOUR w_MERCHANT_CATEGORY w_AMOUNT w_MERCHANT_LOCATION w_CARD_PRESENT w_OCCURRED_AT k__VALUES = .ref w_MERCHANT_CATEGORY from (by rw [fldV, if_neg cd1, if_neg cd5, if_neg cd9, if_neg cd13, if_neg cd17, if_neg cd21, if_neg cd25, if_pos cd29])] at st30
    refine Go.st (f' := (mkF m 12 #[iv p1, .val (.int ((p1 &&& (2147483647 : Int32)) % (14 : Int32))), .unset, .unset] [(.ref w_MERCHANT_CATEGORY)])) (fun _ k => st30 _ k) ?_
    refine Go.st (f' := (mkF m 13 #[iv p1, .val (.int ((p1 &&& (2147483647 : Int32)) % (14 : Int32))), rv w_MERCHANT_CATEGORY, .unset] [])) (fun _ k => XS.astoreN X30.here hx rfl (hb hby at_12) rfl rfl (l' := #[iv p1, .val (.int ((p1 &&& (2147483647 : Int32)) % (14 : Int32))), rv w_MERCHANT_CATEGORY, .unset]) rfl k) ?_
    refine Go.st (f' := (mkF m 14 #[iv p1, .val (.int ((p1 &&& (2147483647 : Int32)) % (14 : Int32))), rv w_MERCHANT_CATEGORY, .unset] [(.int ((p1 &&& (2147483647 : Int32)) % (14 : Int32)))])) (fun _ k => XS.iloadN X30.here hx rfl (hb hby at_13) rfl k) ?_
    obtain ⟨_, _, ⟨T31, L31, kk31, nn31⟩, -, X31, ⟨Lc31, hQ31, lq31, yq31, zz31⟩, st31⟩ := Jvm.LawKit.callS X30 hx (y := (⟨"com/example/naysay/naysay/rules/KeyReadingPinLaw", "expectedAt", "(I)Lcom/example/naysay/naysay/rules/Key;"⟩ : MethodName)) hown (mvT hZ (hw _ (List.mem_of_getElem? (i := 8) rfl))) (mvT hZ (hw _ (List.mem_of_getElem? (i := 9) rfl))) (mvT hZ (hw _ (List.mem_of_getElem? (i := 3) rfl))) (mvT hZ (hw _ (List.mem_of_getElem? (i := 10) rfl))) (by decide) (own_back (W := 0) (rmE l Z a0 hw [] ((p1 &&& (2147483647 : Int32)) % (14 : Int32)) w_TRANSACTION_ID w__VALUES w_CARD w_CUSTOMER w_MERCHANT w_DEVICE w_IP w_CARD_ID w_CUSTOMER_ID w_MERCHANT_ID w_DEVICE_ID w_IP_ADDRESS w_CURRENCY w_HOME_LOCATION w_HOUR w_MERCHANT_CATEGORY w_AMOUNT w_MERCHANT_LOCATION w_CARD_PRESENT w_OCCURRED_AT k__VALUES h0 n0 O0 WW) hZ (hw _ (List.mem_of_getElem? (i := 10) rfl)) (hw _ (List.mem_of_getElem? (i := 3) rfl)) (by decide) (by decide)) (g := (mkF m 14 #[iv p1, .val (.int ((p1 &&& (2147483647 : Int32)) % (14 : Int32))), rv w_MERCHANT_CATEGORY, .unset] [(.int ((p1 &&& (2147483647 : Int32)) % (14 : Int32)))])) rfl (by rw [hml]; rfl) (argsL := [(.int ((p1 &&& (2147483647 : Int32)) % (14 : Int32)))]) (rest := []) (lenOf pd__I_Lcom_example_naysay_naysay_rules_Key_ rfl) rfl (by show 2 * 0 + _ ≤ _; exact Nat.le_of_eq rfl) (hb hby at_14) (fun _ _ => ⟨rfl, kq30, (by decide : 0 + 0 ≤ _), (by decide : 0 + 0 ≤ _)⟩)
    dsimp only [Pt.U, Pt.locs, Pt.cells, Pt.slots] at X31 lq31 yq31 zz31 st31 hQ31
    subst lq31 yq31 zz31
    obtain ⟨rfl, Nq31, kq31⟩ := hQ31
    have N31 := Fr.app N30 Nq31
    rw [show expV ((p1 &&& (2147483647 : Int32)) % (14 : Int32)) w_TRANSACTION_ID w__VALUES w_CARD w_CUSTOMER w_MERCHANT w_DEVICE w_IP w_CARD_ID w_CUSTOMER_ID w_MERCHANT_ID w_DEVICE_ID w_IP_ADDRESS w_CURRENCY w_HOME_LOCATION w_HOUR w_MERCHANT_CATEGORY w_AMOUNT w_MERCHANT_LOCATION w_CARD_PRESENT w_OCCURRED_AT k__VALUES = .null from (by rw [expV, if_neg cd17, if_neg cd21, if_neg cd25, if_neg (fun h => absurd (cd29.symm.trans h) (by decide)), if_neg (fun h => absurd (cd29.symm.trans h) (by decide))])] at st31
    refine Go.st (f' := (mkF m 17 #[iv p1, .val (.int ((p1 &&& (2147483647 : Int32)) % (14 : Int32))), rv w_MERCHANT_CATEGORY, .unset] [.null])) (fun _ k => st31 _ k) ?_
    refine Go.st (f' := (mkF m 18 #[iv p1, .val (.int ((p1 &&& (2147483647 : Int32)) % (14 : Int32))), rv w_MERCHANT_CATEGORY, .val .null] [])) (fun _ k => XS.astoreN X31.here hx rfl (hb hby at_17) rfl rfl (l' := #[iv p1, .val (.int ((p1 &&& (2147483647 : Int32)) % (14 : Int32))), rv w_MERCHANT_CATEGORY, .val .null]) rfl k) ?_
    refine Go.st (f' := (mkF m 19 #[iv p1, .val (.int ((p1 &&& (2147483647 : Int32)) % (14 : Int32))), rv w_MERCHANT_CATEGORY, .val .null] [(.ref w_MERCHANT_CATEGORY)])) (fun _ k => XS.aloadN X31.here hx rfl (hb hby at_18) rfl rfl k) ?_
    obtain ⟨_, _, ⟨T32, L32, kk32, nn32⟩, -, X32, ⟨Lc32, hQ32, lq32, yq32, zz32⟩, st32⟩ := Jvm.LawKit.callS X31 hx (y := (⟨"com/example/naysay/naysay/rules/Key", "reading", "(Lcom/example/naysay/naysay/rules/Field;)Lcom/example/naysay/naysay/rules/Key;"⟩ : MethodName)) hown (mvT hZ (hw _ (List.mem_of_getElem? (i := 11) rfl))) (mvT hZ (hw _ (List.mem_of_getElem? (i := 12) rfl))) (mvT hZ (hw _ (List.mem_of_getElem? (i := 13) rfl))) (mvT hZ (hw _ (List.mem_of_getElem? (i := 14) rfl))) (by decide) (own_back (W := 0) (rmR l Z a0 hw [] w_MERCHANT_CATEGORY w_TRANSACTION_ID w__VALUES w_CARD w_CUSTOMER w_MERCHANT w_DEVICE w_IP w_CARD_ID w_CUSTOMER_ID w_MERCHANT_ID w_DEVICE_ID w_IP_ADDRESS w_CURRENCY w_HOME_LOCATION w_HOUR w_MERCHANT_CATEGORY w_AMOUNT w_MERCHANT_LOCATION w_CARD_PRESENT w_OCCURRED_AT k__VALUES h0 n0 O0 WW) hZ (hw _ (List.mem_of_getElem? (i := 14) rfl)) (hw _ (List.mem_of_getElem? (i := 13) rfl)) (by decide) (by decide)) (g := (mkF m 19 #[iv p1, .val (.int ((p1 &&& (2147483647 : Int32)) % (14 : Int32))), rv w_MERCHANT_CATEGORY, .val .null] [(.ref w_MERCHANT_CATEGORY)])) rfl (by rw [hml]; rfl) (argsL := [(.ref w_MERCHANT_CATEGORY)]) (rest := []) (lenOf pd__Lcom_example_naysay_naysay_rules_Field__Lcom_example_naysay_naysay_rules_Key_ rfl) rfl (by show 2 * 0 + _ ≤ _; exact Nat.le_of_eq rfl) (hb hby at_19) (fun _ _ => ⟨rfl, kq31, (by decide : 0 + 1 ≤ _), (by decide : 0 + 5 ≤ _)⟩)
    dsimp only [Pt.U, Pt.locs, Pt.cells, Pt.slots] at X32 lq32 yq32 zz32 st32 hQ32
    subst lq32 yq32 zz32
    obtain ⟨rfl, Nq32, kq32⟩ := hQ32
    have N32 := Fr.app N31 Nq32
    rw [show rdV w_MERCHANT_CATEGORY w_TRANSACTION_ID w__VALUES w_CARD w_CUSTOMER w_MERCHANT w_DEVICE w_IP w_CARD_ID w_CUSTOMER_ID w_MERCHANT_ID w_DEVICE_ID w_IP_ADDRESS w_CURRENCY w_HOME_LOCATION w_HOUR w_MERCHANT_CATEGORY w_AMOUNT w_MERCHANT_LOCATION w_CARD_PRESENT w_OCCURRED_AT k__VALUES = .null from (by rw [rdV, if_neg (Fld.ne F_w_CARD_ID_ordinal F_w_MERCHANT_CATEGORY_ordinal (by decide)), if_neg (Fld.ne F_w_CUSTOMER_ID_ordinal F_w_MERCHANT_CATEGORY_ordinal (by decide)), if_neg (Fld.ne F_w_MERCHANT_ID_ordinal F_w_MERCHANT_CATEGORY_ordinal (by decide)), if_neg (Fld.ne F_w_DEVICE_ID_ordinal F_w_MERCHANT_CATEGORY_ordinal (by decide)), if_neg (Fld.ne F_w_IP_ADDRESS_ordinal F_w_MERCHANT_CATEGORY_ordinal (by decide))])] at st32
    have O32 : Old Z n0 T32.heap := O0.keep kq32 all0
    refine Go.st (f' := (mkF m 22 #[iv p1, .val (.int ((p1 &&& (2147483647 : Int32)) % (14 : Int32))), rv w_MERCHANT_CATEGORY, .val .null] [.null])) (fun _ k => st32 _ k) ?_
    refine Go.st (f' := (mkF m 23 #[iv p1, .val (.int ((p1 &&& (2147483647 : Int32)) % (14 : Int32))), rv w_MERCHANT_CATEGORY, .val .null] [.null, .null])) (fun _ k => XS.aloadN X32.here hx rfl (hb hby at_22) rfl rfl k) ?_
    refine Go.st (f' := (mkF m 26 #[iv p1, .val (.int ((p1 &&& (2147483647 : Int32)) % (14 : Int32))), rv w_MERCHANT_CATEGORY, .val .null] [])) (fun _ k => Jvm.RoadKit.acmp (g := (mkF m 23 #[iv p1, .val (.int ((p1 &&& (2147483647 : Int32)) % (14 : Int32))), rv w_MERCHANT_CATEGORY, .val .null] [.null, .null])) X32 hx rfl rfl rfl (pc0 := 23) (pc' := 26) (same := true) rfl (hb hby at_23) rfl (decide_eq_true rfl) (by decide) (by decide) k) ?_
    refine Go.st (f' := (mkF m 27 #[iv p1, .val (.int ((p1 &&& (2147483647 : Int32)) % (14 : Int32))), rv w_MERCHANT_CATEGORY, .val .null] [(.int 1)])) (fun _ k => XS.iconst X32.here hx rfl (hb hby at_26) k) ?_
    refine Go.st (f' := (mkF m 31 #[iv p1, .val (.int ((p1 &&& (2147483647 : Int32)) % (14 : Int32))), rv w_MERCHANT_CATEGORY, .val .null] [(.int 1)])) (fun _ k => XS.goto X32.here hx rfl (pc0 := 27) (pc' := 31) rfl (hb hby at_27) (by decide) (by decide) k) ?_
    refine Go.retB X32 hlk hx (t := .boolean) hret (by simp) (hb hby at_31) rfl ?_ (by decide) (by decide)
    exact ⟨rfl, N32⟩
  by_cases cd33 : ((p1 &&& (2147483647 : Int32)) % (14 : Int32)) = (8 : Int32)
  · refine Go.st (f' := (mkF m 9 #[iv p1, .val (.int ((p1 &&& (2147483647 : Int32)) % (14 : Int32))), .unset, .unset] [(.int ((p1 &&& (2147483647 : Int32)) % (14 : Int32)))])) (fun _ k => XS.iloadN X0.here hx rfl (hb hby at_8) rfl k) ?_
    obtain ⟨_, _, ⟨T34, L34, kk34, nn34⟩, -, X34, ⟨Lc34, hQ34, lq34, yq34, zz34⟩, st34⟩ := Jvm.LawKit.callS X0 hx (y := (⟨"com/example/naysay/naysay/rules/KeyReadingPinLaw", "fieldAt", "(I)Lcom/example/naysay/naysay/rules/Field;"⟩ : MethodName)) hown (mvT hZ (hw _ (List.mem_of_getElem? (i := 1) rfl))) (mvT hZ (hw _ (List.mem_of_getElem? (i := 2) rfl))) (mvT hZ (hw _ (List.mem_of_getElem? (i := 3) rfl))) (mvT hZ (hw _ (List.mem_of_getElem? (i := 4) rfl))) (by decide) (own_back (W := 0) (rmF l Z a0 hw [] ((p1 &&& (2147483647 : Int32)) % (14 : Int32)) w_TRANSACTION_ID w__VALUES w_CARD w_CUSTOMER w_MERCHANT w_DEVICE w_IP w_CARD_ID w_CUSTOMER_ID w_MERCHANT_ID w_DEVICE_ID w_IP_ADDRESS w_CURRENCY w_HOME_LOCATION w_HOUR w_MERCHANT_CATEGORY w_AMOUNT w_MERCHANT_LOCATION w_CARD_PRESENT w_OCCURRED_AT k__VALUES h0 n0 O0 WW) hZ (hw _ (List.mem_of_getElem? (i := 4) rfl)) (hw _ (List.mem_of_getElem? (i := 3) rfl)) (by decide) (by decide)) (g := (mkF m 9 #[iv p1, .val (.int ((p1 &&& (2147483647 : Int32)) % (14 : Int32))), .unset, .unset] [(.int ((p1 &&& (2147483647 : Int32)) % (14 : Int32)))])) rfl (by rw [hml]; rfl) (argsL := [(.int ((p1 &&& (2147483647 : Int32)) % (14 : Int32)))]) (rest := []) (lenOf pd__I_Lcom_example_naysay_naysay_rules_Field_ rfl) rfl (by show 2 * 0 + _ ≤ _; exact Nat.le_of_eq rfl) (hb hby at_9) (fun _ _ => ⟨rfl, e0, (by decide : 0 + 0 ≤ _), (by decide : 0 + 0 ≤ _)⟩)
    dsimp only [Pt.U, Pt.locs, Pt.cells, Pt.slots] at X34 lq34 yq34 zz34 st34 hQ34
    subst lq34 yq34 zz34
    obtain ⟨rfl, Nq34, kq34⟩ := hQ34
    have N34 := Fr.app N0 Nq34
    rw [show fldV ((p1 &&& (2147483647 : Int32)) % (14 : Int32)) w_TRANSACTION_ID w__VALUES w_CARD w_CUSTOMER w_MERCHANT w_DEVICE w_IP w_CARD_ID w_CUSTOMER_ID w_MERCHANT_ID w_DEVICE_ID w_IP_ADDRESS w_CURRENCY w_HOME_LOCATION w_HOUR w_MERCHANT_CATEGORY w_AMOUNT w_MERCHANT_LOCATION w_CARD_PRESENT w_OCCURRED_AT k__VALUES = .ref w_DEVICE_ID from (by rw [fldV, if_neg cd1, if_neg cd5, if_neg cd9, if_neg cd13, if_neg cd17, if_neg cd21, if_neg cd25, if_neg cd29, if_pos cd33])] at st34
    refine Go.st (f' := (mkF m 12 #[iv p1, .val (.int ((p1 &&& (2147483647 : Int32)) % (14 : Int32))), .unset, .unset] [(.ref w_DEVICE_ID)])) (fun _ k => st34 _ k) ?_
    refine Go.st (f' := (mkF m 13 #[iv p1, .val (.int ((p1 &&& (2147483647 : Int32)) % (14 : Int32))), rv w_DEVICE_ID, .unset] [])) (fun _ k => XS.astoreN X34.here hx rfl (hb hby at_12) rfl rfl (l' := #[iv p1, .val (.int ((p1 &&& (2147483647 : Int32)) % (14 : Int32))), rv w_DEVICE_ID, .unset]) rfl k) ?_
    refine Go.st (f' := (mkF m 14 #[iv p1, .val (.int ((p1 &&& (2147483647 : Int32)) % (14 : Int32))), rv w_DEVICE_ID, .unset] [(.int ((p1 &&& (2147483647 : Int32)) % (14 : Int32)))])) (fun _ k => XS.iloadN X34.here hx rfl (hb hby at_13) rfl k) ?_
    obtain ⟨_, _, ⟨T35, L35, kk35, nn35⟩, -, X35, ⟨Lc35, hQ35, lq35, yq35, zz35⟩, st35⟩ := Jvm.LawKit.callS X34 hx (y := (⟨"com/example/naysay/naysay/rules/KeyReadingPinLaw", "expectedAt", "(I)Lcom/example/naysay/naysay/rules/Key;"⟩ : MethodName)) hown (mvT hZ (hw _ (List.mem_of_getElem? (i := 8) rfl))) (mvT hZ (hw _ (List.mem_of_getElem? (i := 9) rfl))) (mvT hZ (hw _ (List.mem_of_getElem? (i := 3) rfl))) (mvT hZ (hw _ (List.mem_of_getElem? (i := 10) rfl))) (by decide) (own_back (W := 0) (rmE l Z a0 hw [] ((p1 &&& (2147483647 : Int32)) % (14 : Int32)) w_TRANSACTION_ID w__VALUES w_CARD w_CUSTOMER w_MERCHANT w_DEVICE w_IP w_CARD_ID w_CUSTOMER_ID w_MERCHANT_ID w_DEVICE_ID w_IP_ADDRESS w_CURRENCY w_HOME_LOCATION w_HOUR w_MERCHANT_CATEGORY w_AMOUNT w_MERCHANT_LOCATION w_CARD_PRESENT w_OCCURRED_AT k__VALUES h0 n0 O0 WW) hZ (hw _ (List.mem_of_getElem? (i := 10) rfl)) (hw _ (List.mem_of_getElem? (i := 3) rfl)) (by decide) (by decide)) (g := (mkF m 14 #[iv p1, .val (.int ((p1 &&& (2147483647 : Int32)) % (14 : Int32))), rv w_DEVICE_ID, .unset] [(.int ((p1 &&& (2147483647 : Int32)) % (14 : Int32)))])) rfl (by rw [hml]; rfl) (argsL := [(.int ((p1 &&& (2147483647 : Int32)) % (14 : Int32)))]) (rest := []) (lenOf pd__I_Lcom_example_naysay_naysay_rules_Key_ rfl) rfl (by show 2 * 0 + _ ≤ _; exact Nat.le_of_eq rfl) (hb hby at_14) (fun _ _ => ⟨rfl, kq34, (by decide : 0 + 0 ≤ _), (by decide : 0 + 0 ≤ _)⟩)
    dsimp only [Pt.U, Pt.locs, Pt.cells, Pt.slots] at X35 lq35 yq35 zz35 st35 hQ35
    subst lq35 yq35 zz35
    obtain ⟨rfl, Nq35, kq35⟩ := hQ35
    have N35 := Fr.app N34 Nq35
    rw [show expV ((p1 &&& (2147483647 : Int32)) % (14 : Int32)) w_TRANSACTION_ID w__VALUES w_CARD w_CUSTOMER w_MERCHANT w_DEVICE w_IP w_CARD_ID w_CUSTOMER_ID w_MERCHANT_ID w_DEVICE_ID w_IP_ADDRESS w_CURRENCY w_HOME_LOCATION w_HOUR w_MERCHANT_CATEGORY w_AMOUNT w_MERCHANT_LOCATION w_CARD_PRESENT w_OCCURRED_AT k__VALUES = (.ref w_DEVICE) from (by rw [expV, if_neg cd17, if_neg cd21, if_neg cd25, if_pos cd33])] at st35
    refine Go.st (f' := (mkF m 17 #[iv p1, .val (.int ((p1 &&& (2147483647 : Int32)) % (14 : Int32))), rv w_DEVICE_ID, .unset] [(.ref w_DEVICE)])) (fun _ k => st35 _ k) ?_
    refine Go.st (f' := (mkF m 18 #[iv p1, .val (.int ((p1 &&& (2147483647 : Int32)) % (14 : Int32))), rv w_DEVICE_ID, rv w_DEVICE] [])) (fun _ k => XS.astoreN X35.here hx rfl (hb hby at_17) rfl rfl (l' := #[iv p1, .val (.int ((p1 &&& (2147483647 : Int32)) % (14 : Int32))), rv w_DEVICE_ID, rv w_DEVICE]) rfl k) ?_
    refine Go.st (f' := (mkF m 19 #[iv p1, .val (.int ((p1 &&& (2147483647 : Int32)) % (14 : Int32))), rv w_DEVICE_ID, rv w_DEVICE] [(.ref w_DEVICE_ID)])) (fun _ k => XS.aloadN X35.here hx rfl (hb hby at_18) rfl rfl k) ?_
    obtain ⟨_, _, ⟨T36, L36, kk36, nn36⟩, -, X36, ⟨Lc36, hQ36, lq36, yq36, zz36⟩, st36⟩ := Jvm.LawKit.callS X35 hx (y := (⟨"com/example/naysay/naysay/rules/Key", "reading", "(Lcom/example/naysay/naysay/rules/Field;)Lcom/example/naysay/naysay/rules/Key;"⟩ : MethodName)) hown (mvT hZ (hw _ (List.mem_of_getElem? (i := 11) rfl))) (mvT hZ (hw _ (List.mem_of_getElem? (i := 12) rfl))) (mvT hZ (hw _ (List.mem_of_getElem? (i := 13) rfl))) (mvT hZ (hw _ (List.mem_of_getElem? (i := 14) rfl))) (by decide) (own_back (W := 0) (rmR l Z a0 hw [] w_DEVICE_ID w_TRANSACTION_ID w__VALUES w_CARD w_CUSTOMER w_MERCHANT w_DEVICE w_IP w_CARD_ID w_CUSTOMER_ID w_MERCHANT_ID w_DEVICE_ID w_IP_ADDRESS w_CURRENCY w_HOME_LOCATION w_HOUR w_MERCHANT_CATEGORY w_AMOUNT w_MERCHANT_LOCATION w_CARD_PRESENT w_OCCURRED_AT k__VALUES h0 n0 O0 WW) hZ (hw _ (List.mem_of_getElem? (i := 14) rfl)) (hw _ (List.mem_of_getElem? (i := 13) rfl)) (by decide) (by decide)) (g := (mkF m 19 #[iv p1, .val (.int ((p1 &&& (2147483647 : Int32)) % (14 : Int32))), rv w_DEVICE_ID, rv w_DEVICE] [(.ref w_DEVICE_ID)])) rfl (by rw [hml]; rfl) (argsL := [(.ref w_DEVICE_ID)]) (rest := []) (lenOf pd__Lcom_example_naysay_naysay_rules_Field__Lcom_example_naysay_naysay_rules_Key_ rfl) rfl (by show 2 * 0 + _ ≤ _; exact Nat.le_of_eq rfl) (hb hby at_19) (fun _ _ => ⟨rfl, kq35, (by decide : 0 + 1 ≤ _), (by decide : 0 + 5 ≤ _)⟩)
    dsimp only [Pt.U, Pt.locs, Pt.cells, Pt.slots] at X36 lq36 yq36 zz36 st36 hQ36
    subst lq36 yq36 zz36
    obtain ⟨rfl, Nq36, kq36⟩ := hQ36
    have N36 := Fr.app N35 Nq36
    rw [show rdV w_DEVICE_ID w_TRANSACTION_ID w__VALUES w_CARD w_CUSTOMER w_MERCHANT w_DEVICE w_IP w_CARD_ID w_CUSTOMER_ID w_MERCHANT_ID w_DEVICE_ID w_IP_ADDRESS w_CURRENCY w_HOME_LOCATION w_HOUR w_MERCHANT_CATEGORY w_AMOUNT w_MERCHANT_LOCATION w_CARD_PRESENT w_OCCURRED_AT k__VALUES = (.ref w_DEVICE) from (by rw [rdV, if_neg (Fld.ne F_w_CARD_ID_ordinal F_w_DEVICE_ID_ordinal (by decide)), if_neg (Fld.ne F_w_CUSTOMER_ID_ordinal F_w_DEVICE_ID_ordinal (by decide)), if_neg (Fld.ne F_w_MERCHANT_ID_ordinal F_w_DEVICE_ID_ordinal (by decide)), if_pos rfl])] at st36
    have O36 : Old Z n0 T36.heap := O0.keep kq36 all0
    refine Go.st (f' := (mkF m 22 #[iv p1, .val (.int ((p1 &&& (2147483647 : Int32)) % (14 : Int32))), rv w_DEVICE_ID, rv w_DEVICE] [(.ref w_DEVICE)])) (fun _ k => st36 _ k) ?_
    refine Go.st (f' := (mkF m 23 #[iv p1, .val (.int ((p1 &&& (2147483647 : Int32)) % (14 : Int32))), rv w_DEVICE_ID, rv w_DEVICE] [(.ref w_DEVICE), (.ref w_DEVICE)])) (fun _ k => XS.aloadN X36.here hx rfl (hb hby at_22) rfl rfl k) ?_
    refine Go.st (f' := (mkF m 26 #[iv p1, .val (.int ((p1 &&& (2147483647 : Int32)) % (14 : Int32))), rv w_DEVICE_ID, rv w_DEVICE] [])) (fun _ k => Jvm.RoadKit.acmp (g := (mkF m 23 #[iv p1, .val (.int ((p1 &&& (2147483647 : Int32)) % (14 : Int32))), rv w_DEVICE_ID, rv w_DEVICE] [(.ref w_DEVICE), (.ref w_DEVICE)])) X36 hx rfl rfl rfl (pc0 := 23) (pc' := 26) (same := true) rfl (hb hby at_23) rfl (decide_eq_true rfl) (by decide) (by decide) k) ?_
    refine Go.st (f' := (mkF m 27 #[iv p1, .val (.int ((p1 &&& (2147483647 : Int32)) % (14 : Int32))), rv w_DEVICE_ID, rv w_DEVICE] [(.int 1)])) (fun _ k => XS.iconst X36.here hx rfl (hb hby at_26) k) ?_
    refine Go.st (f' := (mkF m 31 #[iv p1, .val (.int ((p1 &&& (2147483647 : Int32)) % (14 : Int32))), rv w_DEVICE_ID, rv w_DEVICE] [(.int 1)])) (fun _ k => XS.goto X36.here hx rfl (pc0 := 27) (pc' := 31) rfl (hb hby at_27) (by decide) (by decide) k) ?_
    refine Go.retB X36 hlk hx (t := .boolean) hret (by simp) (hb hby at_31) rfl ?_ (by decide) (by decide)
    exact ⟨rfl, N36⟩
  by_cases cd37 : ((p1 &&& (2147483647 : Int32)) % (14 : Int32)) = (9 : Int32)
  · refine Go.st (f' := (mkF m 9 #[iv p1, .val (.int ((p1 &&& (2147483647 : Int32)) % (14 : Int32))), .unset, .unset] [(.int ((p1 &&& (2147483647 : Int32)) % (14 : Int32)))])) (fun _ k => XS.iloadN X0.here hx rfl (hb hby at_8) rfl k) ?_
    obtain ⟨_, _, ⟨T38, L38, kk38, nn38⟩, -, X38, ⟨Lc38, hQ38, lq38, yq38, zz38⟩, st38⟩ := Jvm.LawKit.callS X0 hx (y := (⟨"com/example/naysay/naysay/rules/KeyReadingPinLaw", "fieldAt", "(I)Lcom/example/naysay/naysay/rules/Field;"⟩ : MethodName)) hown (mvT hZ (hw _ (List.mem_of_getElem? (i := 1) rfl))) (mvT hZ (hw _ (List.mem_of_getElem? (i := 2) rfl))) (mvT hZ (hw _ (List.mem_of_getElem? (i := 3) rfl))) (mvT hZ (hw _ (List.mem_of_getElem? (i := 4) rfl))) (by decide) (own_back (W := 0) (rmF l Z a0 hw [] ((p1 &&& (2147483647 : Int32)) % (14 : Int32)) w_TRANSACTION_ID w__VALUES w_CARD w_CUSTOMER w_MERCHANT w_DEVICE w_IP w_CARD_ID w_CUSTOMER_ID w_MERCHANT_ID w_DEVICE_ID w_IP_ADDRESS w_CURRENCY w_HOME_LOCATION w_HOUR w_MERCHANT_CATEGORY w_AMOUNT w_MERCHANT_LOCATION w_CARD_PRESENT w_OCCURRED_AT k__VALUES h0 n0 O0 WW) hZ (hw _ (List.mem_of_getElem? (i := 4) rfl)) (hw _ (List.mem_of_getElem? (i := 3) rfl)) (by decide) (by decide)) (g := (mkF m 9 #[iv p1, .val (.int ((p1 &&& (2147483647 : Int32)) % (14 : Int32))), .unset, .unset] [(.int ((p1 &&& (2147483647 : Int32)) % (14 : Int32)))])) rfl (by rw [hml]; rfl) (argsL := [(.int ((p1 &&& (2147483647 : Int32)) % (14 : Int32)))]) (rest := []) (lenOf pd__I_Lcom_example_naysay_naysay_rules_Field_ rfl) rfl (by show 2 * 0 + _ ≤ _; exact Nat.le_of_eq rfl) (hb hby at_9) (fun _ _ => ⟨rfl, e0, (by decide : 0 + 0 ≤ _), (by decide : 0 + 0 ≤ _)⟩)
    dsimp only [Pt.U, Pt.locs, Pt.cells, Pt.slots] at X38 lq38 yq38 zz38 st38 hQ38
    subst lq38 yq38 zz38
    obtain ⟨rfl, Nq38, kq38⟩ := hQ38
    have N38 := Fr.app N0 Nq38
    rw [show fldV ((p1 &&& (2147483647 : Int32)) % (14 : Int32)) w_TRANSACTION_ID w__VALUES w_CARD w_CUSTOMER w_MERCHANT w_DEVICE w_IP w_CARD_ID w_CUSTOMER_ID w_MERCHANT_ID w_DEVICE_ID w_IP_ADDRESS w_CURRENCY w_HOME_LOCATION w_HOUR w_MERCHANT_CATEGORY w_AMOUNT w_MERCHANT_LOCATION w_CARD_PRESENT w_OCCURRED_AT k__VALUES = .ref w_IP_ADDRESS from (by rw [fldV, if_neg cd1, if_neg cd5, if_neg cd9, if_neg cd13, if_neg cd17, if_neg cd21, if_neg cd25, if_neg cd29, if_neg cd33, if_pos cd37])] at st38
    refine Go.st (f' := (mkF m 12 #[iv p1, .val (.int ((p1 &&& (2147483647 : Int32)) % (14 : Int32))), .unset, .unset] [(.ref w_IP_ADDRESS)])) (fun _ k => st38 _ k) ?_
    refine Go.st (f' := (mkF m 13 #[iv p1, .val (.int ((p1 &&& (2147483647 : Int32)) % (14 : Int32))), rv w_IP_ADDRESS, .unset] [])) (fun _ k => XS.astoreN X38.here hx rfl (hb hby at_12) rfl rfl (l' := #[iv p1, .val (.int ((p1 &&& (2147483647 : Int32)) % (14 : Int32))), rv w_IP_ADDRESS, .unset]) rfl k) ?_
    refine Go.st (f' := (mkF m 14 #[iv p1, .val (.int ((p1 &&& (2147483647 : Int32)) % (14 : Int32))), rv w_IP_ADDRESS, .unset] [(.int ((p1 &&& (2147483647 : Int32)) % (14 : Int32)))])) (fun _ k => XS.iloadN X38.here hx rfl (hb hby at_13) rfl k) ?_
    obtain ⟨_, _, ⟨T39, L39, kk39, nn39⟩, -, X39, ⟨Lc39, hQ39, lq39, yq39, zz39⟩, st39⟩ := Jvm.LawKit.callS X38 hx (y := (⟨"com/example/naysay/naysay/rules/KeyReadingPinLaw", "expectedAt", "(I)Lcom/example/naysay/naysay/rules/Key;"⟩ : MethodName)) hown (mvT hZ (hw _ (List.mem_of_getElem? (i := 8) rfl))) (mvT hZ (hw _ (List.mem_of_getElem? (i := 9) rfl))) (mvT hZ (hw _ (List.mem_of_getElem? (i := 3) rfl))) (mvT hZ (hw _ (List.mem_of_getElem? (i := 10) rfl))) (by decide) (own_back (W := 0) (rmE l Z a0 hw [] ((p1 &&& (2147483647 : Int32)) % (14 : Int32)) w_TRANSACTION_ID w__VALUES w_CARD w_CUSTOMER w_MERCHANT w_DEVICE w_IP w_CARD_ID w_CUSTOMER_ID w_MERCHANT_ID w_DEVICE_ID w_IP_ADDRESS w_CURRENCY w_HOME_LOCATION w_HOUR w_MERCHANT_CATEGORY w_AMOUNT w_MERCHANT_LOCATION w_CARD_PRESENT w_OCCURRED_AT k__VALUES h0 n0 O0 WW) hZ (hw _ (List.mem_of_getElem? (i := 10) rfl)) (hw _ (List.mem_of_getElem? (i := 3) rfl)) (by decide) (by decide)) (g := (mkF m 14 #[iv p1, .val (.int ((p1 &&& (2147483647 : Int32)) % (14 : Int32))), rv w_IP_ADDRESS, .unset] [(.int ((p1 &&& (2147483647 : Int32)) % (14 : Int32)))])) rfl (by rw [hml]; rfl) (argsL := [(.int ((p1 &&& (2147483647 : Int32)) % (14 : Int32)))]) (rest := []) (lenOf pd__I_Lcom_example_naysay_naysay_rules_Key_ rfl) rfl (by show 2 * 0 + _ ≤ _; exact Nat.le_of_eq rfl) (hb hby at_14) (fun _ _ => ⟨rfl, kq38, (by decide : 0 + 0 ≤ _), (by decide : 0 + 0 ≤ _)⟩)
    dsimp only [Pt.U, Pt.locs, Pt.cells, Pt.slots] at X39 lq39 yq39 zz39 st39 hQ39
    subst lq39 yq39 zz39
    obtain ⟨rfl, Nq39, kq39⟩ := hQ39
    have N39 := Fr.app N38 Nq39
    rw [show expV ((p1 &&& (2147483647 : Int32)) % (14 : Int32)) w_TRANSACTION_ID w__VALUES w_CARD w_CUSTOMER w_MERCHANT w_DEVICE w_IP w_CARD_ID w_CUSTOMER_ID w_MERCHANT_ID w_DEVICE_ID w_IP_ADDRESS w_CURRENCY w_HOME_LOCATION w_HOUR w_MERCHANT_CATEGORY w_AMOUNT w_MERCHANT_LOCATION w_CARD_PRESENT w_OCCURRED_AT k__VALUES = (.ref w_IP) from (by rw [expV, if_neg cd17, if_neg cd21, if_neg cd25, if_neg cd33, if_pos cd37])] at st39
    refine Go.st (f' := (mkF m 17 #[iv p1, .val (.int ((p1 &&& (2147483647 : Int32)) % (14 : Int32))), rv w_IP_ADDRESS, .unset] [(.ref w_IP)])) (fun _ k => st39 _ k) ?_
    refine Go.st (f' := (mkF m 18 #[iv p1, .val (.int ((p1 &&& (2147483647 : Int32)) % (14 : Int32))), rv w_IP_ADDRESS, rv w_IP] [])) (fun _ k => XS.astoreN X39.here hx rfl (hb hby at_17) rfl rfl (l' := #[iv p1, .val (.int ((p1 &&& (2147483647 : Int32)) % (14 : Int32))), rv w_IP_ADDRESS, rv w_IP]) rfl k) ?_
    refine Go.st (f' := (mkF m 19 #[iv p1, .val (.int ((p1 &&& (2147483647 : Int32)) % (14 : Int32))), rv w_IP_ADDRESS, rv w_IP] [(.ref w_IP_ADDRESS)])) (fun _ k => XS.aloadN X39.here hx rfl (hb hby at_18) rfl rfl k) ?_
    obtain ⟨_, _, ⟨T40, L40, kk40, nn40⟩, -, X40, ⟨Lc40, hQ40, lq40, yq40, zz40⟩, st40⟩ := Jvm.LawKit.callS X39 hx (y := (⟨"com/example/naysay/naysay/rules/Key", "reading", "(Lcom/example/naysay/naysay/rules/Field;)Lcom/example/naysay/naysay/rules/Key;"⟩ : MethodName)) hown (mvT hZ (hw _ (List.mem_of_getElem? (i := 11) rfl))) (mvT hZ (hw _ (List.mem_of_getElem? (i := 12) rfl))) (mvT hZ (hw _ (List.mem_of_getElem? (i := 13) rfl))) (mvT hZ (hw _ (List.mem_of_getElem? (i := 14) rfl))) (by decide) (own_back (W := 0) (rmR l Z a0 hw [] w_IP_ADDRESS w_TRANSACTION_ID w__VALUES w_CARD w_CUSTOMER w_MERCHANT w_DEVICE w_IP w_CARD_ID w_CUSTOMER_ID w_MERCHANT_ID w_DEVICE_ID w_IP_ADDRESS w_CURRENCY w_HOME_LOCATION w_HOUR w_MERCHANT_CATEGORY w_AMOUNT w_MERCHANT_LOCATION w_CARD_PRESENT w_OCCURRED_AT k__VALUES h0 n0 O0 WW) hZ (hw _ (List.mem_of_getElem? (i := 14) rfl)) (hw _ (List.mem_of_getElem? (i := 13) rfl)) (by decide) (by decide)) (g := (mkF m 19 #[iv p1, .val (.int ((p1 &&& (2147483647 : Int32)) % (14 : Int32))), rv w_IP_ADDRESS, rv w_IP] [(.ref w_IP_ADDRESS)])) rfl (by rw [hml]; rfl) (argsL := [(.ref w_IP_ADDRESS)]) (rest := []) (lenOf pd__Lcom_example_naysay_naysay_rules_Field__Lcom_example_naysay_naysay_rules_Key_ rfl) rfl (by show 2 * 0 + _ ≤ _; exact Nat.le_of_eq rfl) (hb hby at_19) (fun _ _ => ⟨rfl, kq39, (by decide : 0 + 1 ≤ _), (by decide : 0 + 5 ≤ _)⟩)
    dsimp only [Pt.U, Pt.locs, Pt.cells, Pt.slots] at X40 lq40 yq40 zz40 st40 hQ40
    subst lq40 yq40 zz40
    obtain ⟨rfl, Nq40, kq40⟩ := hQ40
    have N40 := Fr.app N39 Nq40
    rw [show rdV w_IP_ADDRESS w_TRANSACTION_ID w__VALUES w_CARD w_CUSTOMER w_MERCHANT w_DEVICE w_IP w_CARD_ID w_CUSTOMER_ID w_MERCHANT_ID w_DEVICE_ID w_IP_ADDRESS w_CURRENCY w_HOME_LOCATION w_HOUR w_MERCHANT_CATEGORY w_AMOUNT w_MERCHANT_LOCATION w_CARD_PRESENT w_OCCURRED_AT k__VALUES = (.ref w_IP) from (by rw [rdV, if_neg (Fld.ne F_w_CARD_ID_ordinal F_w_IP_ADDRESS_ordinal (by decide)), if_neg (Fld.ne F_w_CUSTOMER_ID_ordinal F_w_IP_ADDRESS_ordinal (by decide)), if_neg (Fld.ne F_w_MERCHANT_ID_ordinal F_w_IP_ADDRESS_ordinal (by decide)), if_neg (Fld.ne F_w_DEVICE_ID_ordinal F_w_IP_ADDRESS_ordinal (by decide)), if_pos rfl])] at st40
    have O40 : Old Z n0 T40.heap := O0.keep kq40 all0
    refine Go.st (f' := (mkF m 22 #[iv p1, .val (.int ((p1 &&& (2147483647 : Int32)) % (14 : Int32))), rv w_IP_ADDRESS, rv w_IP] [(.ref w_IP)])) (fun _ k => st40 _ k) ?_
    refine Go.st (f' := (mkF m 23 #[iv p1, .val (.int ((p1 &&& (2147483647 : Int32)) % (14 : Int32))), rv w_IP_ADDRESS, rv w_IP] [(.ref w_IP), (.ref w_IP)])) (fun _ k => XS.aloadN X40.here hx rfl (hb hby at_22) rfl rfl k) ?_
    refine Go.st (f' := (mkF m 26 #[iv p1, .val (.int ((p1 &&& (2147483647 : Int32)) % (14 : Int32))), rv w_IP_ADDRESS, rv w_IP] [])) (fun _ k => Jvm.RoadKit.acmp (g := (mkF m 23 #[iv p1, .val (.int ((p1 &&& (2147483647 : Int32)) % (14 : Int32))), rv w_IP_ADDRESS, rv w_IP] [(.ref w_IP), (.ref w_IP)])) X40 hx rfl rfl rfl (pc0 := 23) (pc' := 26) (same := true) rfl (hb hby at_23) rfl (decide_eq_true rfl) (by decide) (by decide) k) ?_
    refine Go.st (f' := (mkF m 27 #[iv p1, .val (.int ((p1 &&& (2147483647 : Int32)) % (14 : Int32))), rv w_IP_ADDRESS, rv w_IP] [(.int 1)])) (fun _ k => XS.iconst X40.here hx rfl (hb hby at_26) k) ?_
    refine Go.st (f' := (mkF m 31 #[iv p1, .val (.int ((p1 &&& (2147483647 : Int32)) % (14 : Int32))), rv w_IP_ADDRESS, rv w_IP] [(.int 1)])) (fun _ k => XS.goto X40.here hx rfl (pc0 := 27) (pc' := 31) rfl (hb hby at_27) (by decide) (by decide) k) ?_
    refine Go.retB X40 hlk hx (t := .boolean) hret (by simp) (hb hby at_31) rfl ?_ (by decide) (by decide)
    exact ⟨rfl, N40⟩
  by_cases cd41 : ((p1 &&& (2147483647 : Int32)) % (14 : Int32)) = (10 : Int32)
  · refine Go.st (f' := (mkF m 9 #[iv p1, .val (.int ((p1 &&& (2147483647 : Int32)) % (14 : Int32))), .unset, .unset] [(.int ((p1 &&& (2147483647 : Int32)) % (14 : Int32)))])) (fun _ k => XS.iloadN X0.here hx rfl (hb hby at_8) rfl k) ?_
    obtain ⟨_, _, ⟨T42, L42, kk42, nn42⟩, -, X42, ⟨Lc42, hQ42, lq42, yq42, zz42⟩, st42⟩ := Jvm.LawKit.callS X0 hx (y := (⟨"com/example/naysay/naysay/rules/KeyReadingPinLaw", "fieldAt", "(I)Lcom/example/naysay/naysay/rules/Field;"⟩ : MethodName)) hown (mvT hZ (hw _ (List.mem_of_getElem? (i := 1) rfl))) (mvT hZ (hw _ (List.mem_of_getElem? (i := 2) rfl))) (mvT hZ (hw _ (List.mem_of_getElem? (i := 3) rfl))) (mvT hZ (hw _ (List.mem_of_getElem? (i := 4) rfl))) (by decide) (own_back (W := 0) (rmF l Z a0 hw [] ((p1 &&& (2147483647 : Int32)) % (14 : Int32)) w_TRANSACTION_ID w__VALUES w_CARD w_CUSTOMER w_MERCHANT w_DEVICE w_IP w_CARD_ID w_CUSTOMER_ID w_MERCHANT_ID w_DEVICE_ID w_IP_ADDRESS w_CURRENCY w_HOME_LOCATION w_HOUR w_MERCHANT_CATEGORY w_AMOUNT w_MERCHANT_LOCATION w_CARD_PRESENT w_OCCURRED_AT k__VALUES h0 n0 O0 WW) hZ (hw _ (List.mem_of_getElem? (i := 4) rfl)) (hw _ (List.mem_of_getElem? (i := 3) rfl)) (by decide) (by decide)) (g := (mkF m 9 #[iv p1, .val (.int ((p1 &&& (2147483647 : Int32)) % (14 : Int32))), .unset, .unset] [(.int ((p1 &&& (2147483647 : Int32)) % (14 : Int32)))])) rfl (by rw [hml]; rfl) (argsL := [(.int ((p1 &&& (2147483647 : Int32)) % (14 : Int32)))]) (rest := []) (lenOf pd__I_Lcom_example_naysay_naysay_rules_Field_ rfl) rfl (by show 2 * 0 + _ ≤ _; exact Nat.le_of_eq rfl) (hb hby at_9) (fun _ _ => ⟨rfl, e0, (by decide : 0 + 0 ≤ _), (by decide : 0 + 0 ≤ _)⟩)
    dsimp only [Pt.U, Pt.locs, Pt.cells, Pt.slots] at X42 lq42 yq42 zz42 st42 hQ42
    subst lq42 yq42 zz42
    obtain ⟨rfl, Nq42, kq42⟩ := hQ42
    have N42 := Fr.app N0 Nq42
    rw [show fldV ((p1 &&& (2147483647 : Int32)) % (14 : Int32)) w_TRANSACTION_ID w__VALUES w_CARD w_CUSTOMER w_MERCHANT w_DEVICE w_IP w_CARD_ID w_CUSTOMER_ID w_MERCHANT_ID w_DEVICE_ID w_IP_ADDRESS w_CURRENCY w_HOME_LOCATION w_HOUR w_MERCHANT_CATEGORY w_AMOUNT w_MERCHANT_LOCATION w_CARD_PRESENT w_OCCURRED_AT k__VALUES = .ref w_CARD_PRESENT from (by rw [fldV, if_neg cd1, if_neg cd5, if_neg cd9, if_neg cd13, if_neg cd17, if_neg cd21, if_neg cd25, if_neg cd29, if_neg cd33, if_neg cd37, if_pos cd41])] at st42
    refine Go.st (f' := (mkF m 12 #[iv p1, .val (.int ((p1 &&& (2147483647 : Int32)) % (14 : Int32))), .unset, .unset] [(.ref w_CARD_PRESENT)])) (fun _ k => st42 _ k) ?_
    refine Go.st (f' := (mkF m 13 #[iv p1, .val (.int ((p1 &&& (2147483647 : Int32)) % (14 : Int32))), rv w_CARD_PRESENT, .unset] [])) (fun _ k => XS.astoreN X42.here hx rfl (hb hby at_12) rfl rfl (l' := #[iv p1, .val (.int ((p1 &&& (2147483647 : Int32)) % (14 : Int32))), rv w_CARD_PRESENT, .unset]) rfl k) ?_
    refine Go.st (f' := (mkF m 14 #[iv p1, .val (.int ((p1 &&& (2147483647 : Int32)) % (14 : Int32))), rv w_CARD_PRESENT, .unset] [(.int ((p1 &&& (2147483647 : Int32)) % (14 : Int32)))])) (fun _ k => XS.iloadN X42.here hx rfl (hb hby at_13) rfl k) ?_
    obtain ⟨_, _, ⟨T43, L43, kk43, nn43⟩, -, X43, ⟨Lc43, hQ43, lq43, yq43, zz43⟩, st43⟩ := Jvm.LawKit.callS X42 hx (y := (⟨"com/example/naysay/naysay/rules/KeyReadingPinLaw", "expectedAt", "(I)Lcom/example/naysay/naysay/rules/Key;"⟩ : MethodName)) hown (mvT hZ (hw _ (List.mem_of_getElem? (i := 8) rfl))) (mvT hZ (hw _ (List.mem_of_getElem? (i := 9) rfl))) (mvT hZ (hw _ (List.mem_of_getElem? (i := 3) rfl))) (mvT hZ (hw _ (List.mem_of_getElem? (i := 10) rfl))) (by decide) (own_back (W := 0) (rmE l Z a0 hw [] ((p1 &&& (2147483647 : Int32)) % (14 : Int32)) w_TRANSACTION_ID w__VALUES w_CARD w_CUSTOMER w_MERCHANT w_DEVICE w_IP w_CARD_ID w_CUSTOMER_ID w_MERCHANT_ID w_DEVICE_ID w_IP_ADDRESS w_CURRENCY w_HOME_LOCATION w_HOUR w_MERCHANT_CATEGORY w_AMOUNT w_MERCHANT_LOCATION w_CARD_PRESENT w_OCCURRED_AT k__VALUES h0 n0 O0 WW) hZ (hw _ (List.mem_of_getElem? (i := 10) rfl)) (hw _ (List.mem_of_getElem? (i := 3) rfl)) (by decide) (by decide)) (g := (mkF m 14 #[iv p1, .val (.int ((p1 &&& (2147483647 : Int32)) % (14 : Int32))), rv w_CARD_PRESENT, .unset] [(.int ((p1 &&& (2147483647 : Int32)) % (14 : Int32)))])) rfl (by rw [hml]; rfl) (argsL := [(.int ((p1 &&& (2147483647 : Int32)) % (14 : Int32)))]) (rest := []) (lenOf pd__I_Lcom_example_naysay_naysay_rules_Key_ rfl) rfl (by show 2 * 0 + _ ≤ _; exact Nat.le_of_eq rfl) (hb hby at_14) (fun _ _ => ⟨rfl, kq42, (by decide : 0 + 0 ≤ _), (by decide : 0 + 0 ≤ _)⟩)
    dsimp only [Pt.U, Pt.locs, Pt.cells, Pt.slots] at X43 lq43 yq43 zz43 st43 hQ43
    subst lq43 yq43 zz43
    obtain ⟨rfl, Nq43, kq43⟩ := hQ43
    have N43 := Fr.app N42 Nq43
    rw [show expV ((p1 &&& (2147483647 : Int32)) % (14 : Int32)) w_TRANSACTION_ID w__VALUES w_CARD w_CUSTOMER w_MERCHANT w_DEVICE w_IP w_CARD_ID w_CUSTOMER_ID w_MERCHANT_ID w_DEVICE_ID w_IP_ADDRESS w_CURRENCY w_HOME_LOCATION w_HOUR w_MERCHANT_CATEGORY w_AMOUNT w_MERCHANT_LOCATION w_CARD_PRESENT w_OCCURRED_AT k__VALUES = .null from (by rw [expV, if_neg cd17, if_neg cd21, if_neg cd25, if_neg cd33, if_neg cd37])] at st43
    refine Go.st (f' := (mkF m 17 #[iv p1, .val (.int ((p1 &&& (2147483647 : Int32)) % (14 : Int32))), rv w_CARD_PRESENT, .unset] [.null])) (fun _ k => st43 _ k) ?_
    refine Go.st (f' := (mkF m 18 #[iv p1, .val (.int ((p1 &&& (2147483647 : Int32)) % (14 : Int32))), rv w_CARD_PRESENT, .val .null] [])) (fun _ k => XS.astoreN X43.here hx rfl (hb hby at_17) rfl rfl (l' := #[iv p1, .val (.int ((p1 &&& (2147483647 : Int32)) % (14 : Int32))), rv w_CARD_PRESENT, .val .null]) rfl k) ?_
    refine Go.st (f' := (mkF m 19 #[iv p1, .val (.int ((p1 &&& (2147483647 : Int32)) % (14 : Int32))), rv w_CARD_PRESENT, .val .null] [(.ref w_CARD_PRESENT)])) (fun _ k => XS.aloadN X43.here hx rfl (hb hby at_18) rfl rfl k) ?_
    obtain ⟨_, _, ⟨T44, L44, kk44, nn44⟩, -, X44, ⟨Lc44, hQ44, lq44, yq44, zz44⟩, st44⟩ := Jvm.LawKit.callS X43 hx (y := (⟨"com/example/naysay/naysay/rules/Key", "reading", "(Lcom/example/naysay/naysay/rules/Field;)Lcom/example/naysay/naysay/rules/Key;"⟩ : MethodName)) hown (mvT hZ (hw _ (List.mem_of_getElem? (i := 11) rfl))) (mvT hZ (hw _ (List.mem_of_getElem? (i := 12) rfl))) (mvT hZ (hw _ (List.mem_of_getElem? (i := 13) rfl))) (mvT hZ (hw _ (List.mem_of_getElem? (i := 14) rfl))) (by decide) (own_back (W := 0) (rmR l Z a0 hw [] w_CARD_PRESENT w_TRANSACTION_ID w__VALUES w_CARD w_CUSTOMER w_MERCHANT w_DEVICE w_IP w_CARD_ID w_CUSTOMER_ID w_MERCHANT_ID w_DEVICE_ID w_IP_ADDRESS w_CURRENCY w_HOME_LOCATION w_HOUR w_MERCHANT_CATEGORY w_AMOUNT w_MERCHANT_LOCATION w_CARD_PRESENT w_OCCURRED_AT k__VALUES h0 n0 O0 WW) hZ (hw _ (List.mem_of_getElem? (i := 14) rfl)) (hw _ (List.mem_of_getElem? (i := 13) rfl)) (by decide) (by decide)) (g := (mkF m 19 #[iv p1, .val (.int ((p1 &&& (2147483647 : Int32)) % (14 : Int32))), rv w_CARD_PRESENT, .val .null] [(.ref w_CARD_PRESENT)])) rfl (by rw [hml]; rfl) (argsL := [(.ref w_CARD_PRESENT)]) (rest := []) (lenOf pd__Lcom_example_naysay_naysay_rules_Field__Lcom_example_naysay_naysay_rules_Key_ rfl) rfl (by show 2 * 0 + _ ≤ _; exact Nat.le_of_eq rfl) (hb hby at_19) (fun _ _ => ⟨rfl, kq43, (by decide : 0 + 1 ≤ _), (by decide : 0 + 5 ≤ _)⟩)
    dsimp only [Pt.U, Pt.locs, Pt.cells, Pt.slots] at X44 lq44 yq44 zz44 st44 hQ44
    subst lq44 yq44 zz44
    obtain ⟨rfl, Nq44, kq44⟩ := hQ44
    have N44 := Fr.app N43 Nq44
    rw [show rdV w_CARD_PRESENT w_TRANSACTION_ID w__VALUES w_CARD w_CUSTOMER w_MERCHANT w_DEVICE w_IP w_CARD_ID w_CUSTOMER_ID w_MERCHANT_ID w_DEVICE_ID w_IP_ADDRESS w_CURRENCY w_HOME_LOCATION w_HOUR w_MERCHANT_CATEGORY w_AMOUNT w_MERCHANT_LOCATION w_CARD_PRESENT w_OCCURRED_AT k__VALUES = .null from (by rw [rdV, if_neg (Fld.ne F_w_CARD_ID_ordinal F_w_CARD_PRESENT_ordinal (by decide)), if_neg (Fld.ne F_w_CUSTOMER_ID_ordinal F_w_CARD_PRESENT_ordinal (by decide)), if_neg (Fld.ne F_w_MERCHANT_ID_ordinal F_w_CARD_PRESENT_ordinal (by decide)), if_neg (Fld.ne F_w_DEVICE_ID_ordinal F_w_CARD_PRESENT_ordinal (by decide)), if_neg (Fld.ne F_w_IP_ADDRESS_ordinal F_w_CARD_PRESENT_ordinal (by decide))])] at st44
    have O44 : Old Z n0 T44.heap := O0.keep kq44 all0
    refine Go.st (f' := (mkF m 22 #[iv p1, .val (.int ((p1 &&& (2147483647 : Int32)) % (14 : Int32))), rv w_CARD_PRESENT, .val .null] [.null])) (fun _ k => st44 _ k) ?_
    refine Go.st (f' := (mkF m 23 #[iv p1, .val (.int ((p1 &&& (2147483647 : Int32)) % (14 : Int32))), rv w_CARD_PRESENT, .val .null] [.null, .null])) (fun _ k => XS.aloadN X44.here hx rfl (hb hby at_22) rfl rfl k) ?_
    refine Go.st (f' := (mkF m 26 #[iv p1, .val (.int ((p1 &&& (2147483647 : Int32)) % (14 : Int32))), rv w_CARD_PRESENT, .val .null] [])) (fun _ k => Jvm.RoadKit.acmp (g := (mkF m 23 #[iv p1, .val (.int ((p1 &&& (2147483647 : Int32)) % (14 : Int32))), rv w_CARD_PRESENT, .val .null] [.null, .null])) X44 hx rfl rfl rfl (pc0 := 23) (pc' := 26) (same := true) rfl (hb hby at_23) rfl (decide_eq_true rfl) (by decide) (by decide) k) ?_
    refine Go.st (f' := (mkF m 27 #[iv p1, .val (.int ((p1 &&& (2147483647 : Int32)) % (14 : Int32))), rv w_CARD_PRESENT, .val .null] [(.int 1)])) (fun _ k => XS.iconst X44.here hx rfl (hb hby at_26) k) ?_
    refine Go.st (f' := (mkF m 31 #[iv p1, .val (.int ((p1 &&& (2147483647 : Int32)) % (14 : Int32))), rv w_CARD_PRESENT, .val .null] [(.int 1)])) (fun _ k => XS.goto X44.here hx rfl (pc0 := 27) (pc' := 31) rfl (hb hby at_27) (by decide) (by decide) k) ?_
    refine Go.retB X44 hlk hx (t := .boolean) hret (by simp) (hb hby at_31) rfl ?_ (by decide) (by decide)
    exact ⟨rfl, N44⟩
  by_cases cd45 : ((p1 &&& (2147483647 : Int32)) % (14 : Int32)) = (11 : Int32)
  · refine Go.st (f' := (mkF m 9 #[iv p1, .val (.int ((p1 &&& (2147483647 : Int32)) % (14 : Int32))), .unset, .unset] [(.int ((p1 &&& (2147483647 : Int32)) % (14 : Int32)))])) (fun _ k => XS.iloadN X0.here hx rfl (hb hby at_8) rfl k) ?_
    obtain ⟨_, _, ⟨T46, L46, kk46, nn46⟩, -, X46, ⟨Lc46, hQ46, lq46, yq46, zz46⟩, st46⟩ := Jvm.LawKit.callS X0 hx (y := (⟨"com/example/naysay/naysay/rules/KeyReadingPinLaw", "fieldAt", "(I)Lcom/example/naysay/naysay/rules/Field;"⟩ : MethodName)) hown (mvT hZ (hw _ (List.mem_of_getElem? (i := 1) rfl))) (mvT hZ (hw _ (List.mem_of_getElem? (i := 2) rfl))) (mvT hZ (hw _ (List.mem_of_getElem? (i := 3) rfl))) (mvT hZ (hw _ (List.mem_of_getElem? (i := 4) rfl))) (by decide) (own_back (W := 0) (rmF l Z a0 hw [] ((p1 &&& (2147483647 : Int32)) % (14 : Int32)) w_TRANSACTION_ID w__VALUES w_CARD w_CUSTOMER w_MERCHANT w_DEVICE w_IP w_CARD_ID w_CUSTOMER_ID w_MERCHANT_ID w_DEVICE_ID w_IP_ADDRESS w_CURRENCY w_HOME_LOCATION w_HOUR w_MERCHANT_CATEGORY w_AMOUNT w_MERCHANT_LOCATION w_CARD_PRESENT w_OCCURRED_AT k__VALUES h0 n0 O0 WW) hZ (hw _ (List.mem_of_getElem? (i := 4) rfl)) (hw _ (List.mem_of_getElem? (i := 3) rfl)) (by decide) (by decide)) (g := (mkF m 9 #[iv p1, .val (.int ((p1 &&& (2147483647 : Int32)) % (14 : Int32))), .unset, .unset] [(.int ((p1 &&& (2147483647 : Int32)) % (14 : Int32)))])) rfl (by rw [hml]; rfl) (argsL := [(.int ((p1 &&& (2147483647 : Int32)) % (14 : Int32)))]) (rest := []) (lenOf pd__I_Lcom_example_naysay_naysay_rules_Field_ rfl) rfl (by show 2 * 0 + _ ≤ _; exact Nat.le_of_eq rfl) (hb hby at_9) (fun _ _ => ⟨rfl, e0, (by decide : 0 + 0 ≤ _), (by decide : 0 + 0 ≤ _)⟩)
    dsimp only [Pt.U, Pt.locs, Pt.cells, Pt.slots] at X46 lq46 yq46 zz46 st46 hQ46
    subst lq46 yq46 zz46
    obtain ⟨rfl, Nq46, kq46⟩ := hQ46
    have N46 := Fr.app N0 Nq46
    rw [show fldV ((p1 &&& (2147483647 : Int32)) % (14 : Int32)) w_TRANSACTION_ID w__VALUES w_CARD w_CUSTOMER w_MERCHANT w_DEVICE w_IP w_CARD_ID w_CUSTOMER_ID w_MERCHANT_ID w_DEVICE_ID w_IP_ADDRESS w_CURRENCY w_HOME_LOCATION w_HOUR w_MERCHANT_CATEGORY w_AMOUNT w_MERCHANT_LOCATION w_CARD_PRESENT w_OCCURRED_AT k__VALUES = .ref w_MERCHANT_LOCATION from (by rw [fldV, if_neg cd1, if_neg cd5, if_neg cd9, if_neg cd13, if_neg cd17, if_neg cd21, if_neg cd25, if_neg cd29, if_neg cd33, if_neg cd37, if_neg cd41, if_pos cd45])] at st46
    refine Go.st (f' := (mkF m 12 #[iv p1, .val (.int ((p1 &&& (2147483647 : Int32)) % (14 : Int32))), .unset, .unset] [(.ref w_MERCHANT_LOCATION)])) (fun _ k => st46 _ k) ?_
    refine Go.st (f' := (mkF m 13 #[iv p1, .val (.int ((p1 &&& (2147483647 : Int32)) % (14 : Int32))), rv w_MERCHANT_LOCATION, .unset] [])) (fun _ k => XS.astoreN X46.here hx rfl (hb hby at_12) rfl rfl (l' := #[iv p1, .val (.int ((p1 &&& (2147483647 : Int32)) % (14 : Int32))), rv w_MERCHANT_LOCATION, .unset]) rfl k) ?_
    refine Go.st (f' := (mkF m 14 #[iv p1, .val (.int ((p1 &&& (2147483647 : Int32)) % (14 : Int32))), rv w_MERCHANT_LOCATION, .unset] [(.int ((p1 &&& (2147483647 : Int32)) % (14 : Int32)))])) (fun _ k => XS.iloadN X46.here hx rfl (hb hby at_13) rfl k) ?_
    obtain ⟨_, _, ⟨T47, L47, kk47, nn47⟩, -, X47, ⟨Lc47, hQ47, lq47, yq47, zz47⟩, st47⟩ := Jvm.LawKit.callS X46 hx (y := (⟨"com/example/naysay/naysay/rules/KeyReadingPinLaw", "expectedAt", "(I)Lcom/example/naysay/naysay/rules/Key;"⟩ : MethodName)) hown (mvT hZ (hw _ (List.mem_of_getElem? (i := 8) rfl))) (mvT hZ (hw _ (List.mem_of_getElem? (i := 9) rfl))) (mvT hZ (hw _ (List.mem_of_getElem? (i := 3) rfl))) (mvT hZ (hw _ (List.mem_of_getElem? (i := 10) rfl))) (by decide) (own_back (W := 0) (rmE l Z a0 hw [] ((p1 &&& (2147483647 : Int32)) % (14 : Int32)) w_TRANSACTION_ID w__VALUES w_CARD w_CUSTOMER w_MERCHANT w_DEVICE w_IP w_CARD_ID w_CUSTOMER_ID w_MERCHANT_ID w_DEVICE_ID w_IP_ADDRESS w_CURRENCY w_HOME_LOCATION w_HOUR w_MERCHANT_CATEGORY w_AMOUNT w_MERCHANT_LOCATION w_CARD_PRESENT w_OCCURRED_AT k__VALUES h0 n0 O0 WW) hZ (hw _ (List.mem_of_getElem? (i := 10) rfl)) (hw _ (List.mem_of_getElem? (i := 3) rfl)) (by decide) (by decide)) (g := (mkF m 14 #[iv p1, .val (.int ((p1 &&& (2147483647 : Int32)) % (14 : Int32))), rv w_MERCHANT_LOCATION, .unset] [(.int ((p1 &&& (2147483647 : Int32)) % (14 : Int32)))])) rfl (by rw [hml]; rfl) (argsL := [(.int ((p1 &&& (2147483647 : Int32)) % (14 : Int32)))]) (rest := []) (lenOf pd__I_Lcom_example_naysay_naysay_rules_Key_ rfl) rfl (by show 2 * 0 + _ ≤ _; exact Nat.le_of_eq rfl) (hb hby at_14) (fun _ _ => ⟨rfl, kq46, (by decide : 0 + 0 ≤ _), (by decide : 0 + 0 ≤ _)⟩)
    dsimp only [Pt.U, Pt.locs, Pt.cells, Pt.slots] at X47 lq47 yq47 zz47 st47 hQ47
    subst lq47 yq47 zz47
    obtain ⟨rfl, Nq47, kq47⟩ := hQ47
    have N47 := Fr.app N46 Nq47
    rw [show expV ((p1 &&& (2147483647 : Int32)) % (14 : Int32)) w_TRANSACTION_ID w__VALUES w_CARD w_CUSTOMER w_MERCHANT w_DEVICE w_IP w_CARD_ID w_CUSTOMER_ID w_MERCHANT_ID w_DEVICE_ID w_IP_ADDRESS w_CURRENCY w_HOME_LOCATION w_HOUR w_MERCHANT_CATEGORY w_AMOUNT w_MERCHANT_LOCATION w_CARD_PRESENT w_OCCURRED_AT k__VALUES = .null from (by rw [expV, if_neg cd17, if_neg cd21, if_neg cd25, if_neg cd33, if_neg cd37])] at st47
    refine Go.st (f' := (mkF m 17 #[iv p1, .val (.int ((p1 &&& (2147483647 : Int32)) % (14 : Int32))), rv w_MERCHANT_LOCATION, .unset] [.null])) (fun _ k => st47 _ k) ?_
    refine Go.st (f' := (mkF m 18 #[iv p1, .val (.int ((p1 &&& (2147483647 : Int32)) % (14 : Int32))), rv w_MERCHANT_LOCATION, .val .null] [])) (fun _ k => XS.astoreN X47.here hx rfl (hb hby at_17) rfl rfl (l' := #[iv p1, .val (.int ((p1 &&& (2147483647 : Int32)) % (14 : Int32))), rv w_MERCHANT_LOCATION, .val .null]) rfl k) ?_
    refine Go.st (f' := (mkF m 19 #[iv p1, .val (.int ((p1 &&& (2147483647 : Int32)) % (14 : Int32))), rv w_MERCHANT_LOCATION, .val .null] [(.ref w_MERCHANT_LOCATION)])) (fun _ k => XS.aloadN X47.here hx rfl (hb hby at_18) rfl rfl k) ?_
    obtain ⟨_, _, ⟨T48, L48, kk48, nn48⟩, -, X48, ⟨Lc48, hQ48, lq48, yq48, zz48⟩, st48⟩ := Jvm.LawKit.callS X47 hx (y := (⟨"com/example/naysay/naysay/rules/Key", "reading", "(Lcom/example/naysay/naysay/rules/Field;)Lcom/example/naysay/naysay/rules/Key;"⟩ : MethodName)) hown (mvT hZ (hw _ (List.mem_of_getElem? (i := 11) rfl))) (mvT hZ (hw _ (List.mem_of_getElem? (i := 12) rfl))) (mvT hZ (hw _ (List.mem_of_getElem? (i := 13) rfl))) (mvT hZ (hw _ (List.mem_of_getElem? (i := 14) rfl))) (by decide) (own_back (W := 0) (rmR l Z a0 hw [] w_MERCHANT_LOCATION w_TRANSACTION_ID w__VALUES w_CARD w_CUSTOMER w_MERCHANT w_DEVICE w_IP w_CARD_ID w_CUSTOMER_ID w_MERCHANT_ID w_DEVICE_ID w_IP_ADDRESS w_CURRENCY w_HOME_LOCATION w_HOUR w_MERCHANT_CATEGORY w_AMOUNT w_MERCHANT_LOCATION w_CARD_PRESENT w_OCCURRED_AT k__VALUES h0 n0 O0 WW) hZ (hw _ (List.mem_of_getElem? (i := 14) rfl)) (hw _ (List.mem_of_getElem? (i := 13) rfl)) (by decide) (by decide)) (g := (mkF m 19 #[iv p1, .val (.int ((p1 &&& (2147483647 : Int32)) % (14 : Int32))), rv w_MERCHANT_LOCATION, .val .null] [(.ref w_MERCHANT_LOCATION)])) rfl (by rw [hml]; rfl) (argsL := [(.ref w_MERCHANT_LOCATION)]) (rest := []) (lenOf pd__Lcom_example_naysay_naysay_rules_Field__Lcom_example_naysay_naysay_rules_Key_ rfl) rfl (by show 2 * 0 + _ ≤ _; exact Nat.le_of_eq rfl) (hb hby at_19) (fun _ _ => ⟨rfl, kq47, (by decide : 0 + 1 ≤ _), (by decide : 0 + 5 ≤ _)⟩)
    dsimp only [Pt.U, Pt.locs, Pt.cells, Pt.slots] at X48 lq48 yq48 zz48 st48 hQ48
    subst lq48 yq48 zz48
    obtain ⟨rfl, Nq48, kq48⟩ := hQ48
    have N48 := Fr.app N47 Nq48
    rw [show rdV w_MERCHANT_LOCATION w_TRANSACTION_ID w__VALUES w_CARD w_CUSTOMER w_MERCHANT w_DEVICE w_IP w_CARD_ID w_CUSTOMER_ID w_MERCHANT_ID w_DEVICE_ID w_IP_ADDRESS w_CURRENCY w_HOME_LOCATION w_HOUR w_MERCHANT_CATEGORY w_AMOUNT w_MERCHANT_LOCATION w_CARD_PRESENT w_OCCURRED_AT k__VALUES = .null from (by rw [rdV, if_neg (Fld.ne F_w_CARD_ID_ordinal F_w_MERCHANT_LOCATION_ordinal (by decide)), if_neg (Fld.ne F_w_CUSTOMER_ID_ordinal F_w_MERCHANT_LOCATION_ordinal (by decide)), if_neg (Fld.ne F_w_MERCHANT_ID_ordinal F_w_MERCHANT_LOCATION_ordinal (by decide)), if_neg (Fld.ne F_w_DEVICE_ID_ordinal F_w_MERCHANT_LOCATION_ordinal (by decide)), if_neg (Fld.ne F_w_IP_ADDRESS_ordinal F_w_MERCHANT_LOCATION_ordinal (by decide))])] at st48
    have O48 : Old Z n0 T48.heap := O0.keep kq48 all0
    refine Go.st (f' := (mkF m 22 #[iv p1, .val (.int ((p1 &&& (2147483647 : Int32)) % (14 : Int32))), rv w_MERCHANT_LOCATION, .val .null] [.null])) (fun _ k => st48 _ k) ?_
    refine Go.st (f' := (mkF m 23 #[iv p1, .val (.int ((p1 &&& (2147483647 : Int32)) % (14 : Int32))), rv w_MERCHANT_LOCATION, .val .null] [.null, .null])) (fun _ k => XS.aloadN X48.here hx rfl (hb hby at_22) rfl rfl k) ?_
    refine Go.st (f' := (mkF m 26 #[iv p1, .val (.int ((p1 &&& (2147483647 : Int32)) % (14 : Int32))), rv w_MERCHANT_LOCATION, .val .null] [])) (fun _ k => Jvm.RoadKit.acmp (g := (mkF m 23 #[iv p1, .val (.int ((p1 &&& (2147483647 : Int32)) % (14 : Int32))), rv w_MERCHANT_LOCATION, .val .null] [.null, .null])) X48 hx rfl rfl rfl (pc0 := 23) (pc' := 26) (same := true) rfl (hb hby at_23) rfl (decide_eq_true rfl) (by decide) (by decide) k) ?_
    refine Go.st (f' := (mkF m 27 #[iv p1, .val (.int ((p1 &&& (2147483647 : Int32)) % (14 : Int32))), rv w_MERCHANT_LOCATION, .val .null] [(.int 1)])) (fun _ k => XS.iconst X48.here hx rfl (hb hby at_26) k) ?_
    refine Go.st (f' := (mkF m 31 #[iv p1, .val (.int ((p1 &&& (2147483647 : Int32)) % (14 : Int32))), rv w_MERCHANT_LOCATION, .val .null] [(.int 1)])) (fun _ k => XS.goto X48.here hx rfl (pc0 := 27) (pc' := 31) rfl (hb hby at_27) (by decide) (by decide) k) ?_
    refine Go.retB X48 hlk hx (t := .boolean) hret (by simp) (hb hby at_31) rfl ?_ (by decide) (by decide)
    exact ⟨rfl, N48⟩
  by_cases cd49 : ((p1 &&& (2147483647 : Int32)) % (14 : Int32)) = (12 : Int32)
  · refine Go.st (f' := (mkF m 9 #[iv p1, .val (.int ((p1 &&& (2147483647 : Int32)) % (14 : Int32))), .unset, .unset] [(.int ((p1 &&& (2147483647 : Int32)) % (14 : Int32)))])) (fun _ k => XS.iloadN X0.here hx rfl (hb hby at_8) rfl k) ?_
    obtain ⟨_, _, ⟨T50, L50, kk50, nn50⟩, -, X50, ⟨Lc50, hQ50, lq50, yq50, zz50⟩, st50⟩ := Jvm.LawKit.callS X0 hx (y := (⟨"com/example/naysay/naysay/rules/KeyReadingPinLaw", "fieldAt", "(I)Lcom/example/naysay/naysay/rules/Field;"⟩ : MethodName)) hown (mvT hZ (hw _ (List.mem_of_getElem? (i := 1) rfl))) (mvT hZ (hw _ (List.mem_of_getElem? (i := 2) rfl))) (mvT hZ (hw _ (List.mem_of_getElem? (i := 3) rfl))) (mvT hZ (hw _ (List.mem_of_getElem? (i := 4) rfl))) (by decide) (own_back (W := 0) (rmF l Z a0 hw [] ((p1 &&& (2147483647 : Int32)) % (14 : Int32)) w_TRANSACTION_ID w__VALUES w_CARD w_CUSTOMER w_MERCHANT w_DEVICE w_IP w_CARD_ID w_CUSTOMER_ID w_MERCHANT_ID w_DEVICE_ID w_IP_ADDRESS w_CURRENCY w_HOME_LOCATION w_HOUR w_MERCHANT_CATEGORY w_AMOUNT w_MERCHANT_LOCATION w_CARD_PRESENT w_OCCURRED_AT k__VALUES h0 n0 O0 WW) hZ (hw _ (List.mem_of_getElem? (i := 4) rfl)) (hw _ (List.mem_of_getElem? (i := 3) rfl)) (by decide) (by decide)) (g := (mkF m 9 #[iv p1, .val (.int ((p1 &&& (2147483647 : Int32)) % (14 : Int32))), .unset, .unset] [(.int ((p1 &&& (2147483647 : Int32)) % (14 : Int32)))])) rfl (by rw [hml]; rfl) (argsL := [(.int ((p1 &&& (2147483647 : Int32)) % (14 : Int32)))]) (rest := []) (lenOf pd__I_Lcom_example_naysay_naysay_rules_Field_ rfl) rfl (by show 2 * 0 + _ ≤ _; exact Nat.le_of_eq rfl) (hb hby at_9) (fun _ _ => ⟨rfl, e0, (by decide : 0 + 0 ≤ _), (by decide : 0 + 0 ≤ _)⟩)
    dsimp only [Pt.U, Pt.locs, Pt.cells, Pt.slots] at X50 lq50 yq50 zz50 st50 hQ50
    subst lq50 yq50 zz50
    obtain ⟨rfl, Nq50, kq50⟩ := hQ50
    have N50 := Fr.app N0 Nq50
    rw [show fldV ((p1 &&& (2147483647 : Int32)) % (14 : Int32)) w_TRANSACTION_ID w__VALUES w_CARD w_CUSTOMER w_MERCHANT w_DEVICE w_IP w_CARD_ID w_CUSTOMER_ID w_MERCHANT_ID w_DEVICE_ID w_IP_ADDRESS w_CURRENCY w_HOME_LOCATION w_HOUR w_MERCHANT_CATEGORY w_AMOUNT w_MERCHANT_LOCATION w_CARD_PRESENT w_OCCURRED_AT k__VALUES = .ref w_HOME_LOCATION from (by rw [fldV, if_neg cd1, if_neg cd5, if_neg cd9, if_neg cd13, if_neg cd17, if_neg cd21, if_neg cd25, if_neg cd29, if_neg cd33, if_neg cd37, if_neg cd41, if_neg cd45, if_pos cd49])] at st50
    refine Go.st (f' := (mkF m 12 #[iv p1, .val (.int ((p1 &&& (2147483647 : Int32)) % (14 : Int32))), .unset, .unset] [(.ref w_HOME_LOCATION)])) (fun _ k => st50 _ k) ?_
    refine Go.st (f' := (mkF m 13 #[iv p1, .val (.int ((p1 &&& (2147483647 : Int32)) % (14 : Int32))), rv w_HOME_LOCATION, .unset] [])) (fun _ k => XS.astoreN X50.here hx rfl (hb hby at_12) rfl rfl (l' := #[iv p1, .val (.int ((p1 &&& (2147483647 : Int32)) % (14 : Int32))), rv w_HOME_LOCATION, .unset]) rfl k) ?_
    refine Go.st (f' := (mkF m 14 #[iv p1, .val (.int ((p1 &&& (2147483647 : Int32)) % (14 : Int32))), rv w_HOME_LOCATION, .unset] [(.int ((p1 &&& (2147483647 : Int32)) % (14 : Int32)))])) (fun _ k => XS.iloadN X50.here hx rfl (hb hby at_13) rfl k) ?_
    obtain ⟨_, _, ⟨T51, L51, kk51, nn51⟩, -, X51, ⟨Lc51, hQ51, lq51, yq51, zz51⟩, st51⟩ := Jvm.LawKit.callS X50 hx (y := (⟨"com/example/naysay/naysay/rules/KeyReadingPinLaw", "expectedAt", "(I)Lcom/example/naysay/naysay/rules/Key;"⟩ : MethodName)) hown (mvT hZ (hw _ (List.mem_of_getElem? (i := 8) rfl))) (mvT hZ (hw _ (List.mem_of_getElem? (i := 9) rfl))) (mvT hZ (hw _ (List.mem_of_getElem? (i := 3) rfl))) (mvT hZ (hw _ (List.mem_of_getElem? (i := 10) rfl))) (by decide) (own_back (W := 0) (rmE l Z a0 hw [] ((p1 &&& (2147483647 : Int32)) % (14 : Int32)) w_TRANSACTION_ID w__VALUES w_CARD w_CUSTOMER w_MERCHANT w_DEVICE w_IP w_CARD_ID w_CUSTOMER_ID w_MERCHANT_ID w_DEVICE_ID w_IP_ADDRESS w_CURRENCY w_HOME_LOCATION w_HOUR w_MERCHANT_CATEGORY w_AMOUNT w_MERCHANT_LOCATION w_CARD_PRESENT w_OCCURRED_AT k__VALUES h0 n0 O0 WW) hZ (hw _ (List.mem_of_getElem? (i := 10) rfl)) (hw _ (List.mem_of_getElem? (i := 3) rfl)) (by decide) (by decide)) (g := (mkF m 14 #[iv p1, .val (.int ((p1 &&& (2147483647 : Int32)) % (14 : Int32))), rv w_HOME_LOCATION, .unset] [(.int ((p1 &&& (2147483647 : Int32)) % (14 : Int32)))])) rfl (by rw [hml]; rfl) (argsL := [(.int ((p1 &&& (2147483647 : Int32)) % (14 : Int32)))]) (rest := []) (lenOf pd__I_Lcom_example_naysay_naysay_rules_Key_ rfl) rfl (by show 2 * 0 + _ ≤ _; exact Nat.le_of_eq rfl) (hb hby at_14) (fun _ _ => ⟨rfl, kq50, (by decide : 0 + 0 ≤ _), (by decide : 0 + 0 ≤ _)⟩)
    dsimp only [Pt.U, Pt.locs, Pt.cells, Pt.slots] at X51 lq51 yq51 zz51 st51 hQ51
    subst lq51 yq51 zz51
    obtain ⟨rfl, Nq51, kq51⟩ := hQ51
    have N51 := Fr.app N50 Nq51
    rw [show expV ((p1 &&& (2147483647 : Int32)) % (14 : Int32)) w_TRANSACTION_ID w__VALUES w_CARD w_CUSTOMER w_MERCHANT w_DEVICE w_IP w_CARD_ID w_CUSTOMER_ID w_MERCHANT_ID w_DEVICE_ID w_IP_ADDRESS w_CURRENCY w_HOME_LOCATION w_HOUR w_MERCHANT_CATEGORY w_AMOUNT w_MERCHANT_LOCATION w_CARD_PRESENT w_OCCURRED_AT k__VALUES = .null from (by rw [expV, if_neg cd17, if_neg cd21, if_neg cd25, if_neg cd33, if_neg cd37])] at st51
    refine Go.st (f' := (mkF m 17 #[iv p1, .val (.int ((p1 &&& (2147483647 : Int32)) % (14 : Int32))), rv w_HOME_LOCATION, .unset] [.null])) (fun _ k => st51 _ k) ?_
    refine Go.st (f' := (mkF m 18 #[iv p1, .val (.int ((p1 &&& (2147483647 : Int32)) % (14 : Int32))), rv w_HOME_LOCATION, .val .null] [])) (fun _ k => XS.astoreN X51.here hx rfl (hb hby at_17) rfl rfl (l' := #[iv p1, .val (.int ((p1 &&& (2147483647 : Int32)) % (14 : Int32))), rv w_HOME_LOCATION, .val .null]) rfl k) ?_
    refine Go.st (f' := (mkF m 19 #[iv p1, .val (.int ((p1 &&& (2147483647 : Int32)) % (14 : Int32))), rv w_HOME_LOCATION, .val .null] [(.ref w_HOME_LOCATION)])) (fun _ k => XS.aloadN X51.here hx rfl (hb hby at_18) rfl rfl k) ?_
    obtain ⟨_, _, ⟨T52, L52, kk52, nn52⟩, -, X52, ⟨Lc52, hQ52, lq52, yq52, zz52⟩, st52⟩ := Jvm.LawKit.callS X51 hx (y := (⟨"com/example/naysay/naysay/rules/Key", "reading", "(Lcom/example/naysay/naysay/rules/Field;)Lcom/example/naysay/naysay/rules/Key;"⟩ : MethodName)) hown (mvT hZ (hw _ (List.mem_of_getElem? (i := 11) rfl))) (mvT hZ (hw _ (List.mem_of_getElem? (i := 12) rfl))) (mvT hZ (hw _ (List.mem_of_getElem? (i := 13) rfl))) (mvT hZ (hw _ (List.mem_of_getElem? (i := 14) rfl))) (by decide) (own_back (W := 0) (rmR l Z a0 hw [] w_HOME_LOCATION w_TRANSACTION_ID w__VALUES w_CARD w_CUSTOMER w_MERCHANT w_DEVICE w_IP w_CARD_ID w_CUSTOMER_ID w_MERCHANT_ID w_DEVICE_ID w_IP_ADDRESS w_CURRENCY w_HOME_LOCATION w_HOUR w_MERCHANT_CATEGORY w_AMOUNT w_MERCHANT_LOCATION w_CARD_PRESENT w_OCCURRED_AT k__VALUES h0 n0 O0 WW) hZ (hw _ (List.mem_of_getElem? (i := 14) rfl)) (hw _ (List.mem_of_getElem? (i := 13) rfl)) (by decide) (by decide)) (g := (mkF m 19 #[iv p1, .val (.int ((p1 &&& (2147483647 : Int32)) % (14 : Int32))), rv w_HOME_LOCATION, .val .null] [(.ref w_HOME_LOCATION)])) rfl (by rw [hml]; rfl) (argsL := [(.ref w_HOME_LOCATION)]) (rest := []) (lenOf pd__Lcom_example_naysay_naysay_rules_Field__Lcom_example_naysay_naysay_rules_Key_ rfl) rfl (by show 2 * 0 + _ ≤ _; exact Nat.le_of_eq rfl) (hb hby at_19) (fun _ _ => ⟨rfl, kq51, (by decide : 0 + 1 ≤ _), (by decide : 0 + 5 ≤ _)⟩)
    dsimp only [Pt.U, Pt.locs, Pt.cells, Pt.slots] at X52 lq52 yq52 zz52 st52 hQ52
    subst lq52 yq52 zz52
    obtain ⟨rfl, Nq52, kq52⟩ := hQ52
    have N52 := Fr.app N51 Nq52
    rw [show rdV w_HOME_LOCATION w_TRANSACTION_ID w__VALUES w_CARD w_CUSTOMER w_MERCHANT w_DEVICE w_IP w_CARD_ID w_CUSTOMER_ID w_MERCHANT_ID w_DEVICE_ID w_IP_ADDRESS w_CURRENCY w_HOME_LOCATION w_HOUR w_MERCHANT_CATEGORY w_AMOUNT w_MERCHANT_LOCATION w_CARD_PRESENT w_OCCURRED_AT k__VALUES = .null from (by rw [rdV, if_neg (Fld.ne F_w_CARD_ID_ordinal F_w_HOME_LOCATION_ordinal (by decide)), if_neg (Fld.ne F_w_CUSTOMER_ID_ordinal F_w_HOME_LOCATION_ordinal (by decide)), if_neg (Fld.ne F_w_MERCHANT_ID_ordinal F_w_HOME_LOCATION_ordinal (by decide)), if_neg (Fld.ne F_w_DEVICE_ID_ordinal F_w_HOME_LOCATION_ordinal (by decide)), if_neg (Fld.ne F_w_IP_ADDRESS_ordinal F_w_HOME_LOCATION_ordinal (by decide))])] at st52
    have O52 : Old Z n0 T52.heap := O0.keep kq52 all0
    refine Go.st (f' := (mkF m 22 #[iv p1, .val (.int ((p1 &&& (2147483647 : Int32)) % (14 : Int32))), rv w_HOME_LOCATION, .val .null] [.null])) (fun _ k => st52 _ k) ?_
    refine Go.st (f' := (mkF m 23 #[iv p1, .val (.int ((p1 &&& (2147483647 : Int32)) % (14 : Int32))), rv w_HOME_LOCATION, .val .null] [.null, .null])) (fun _ k => XS.aloadN X52.here hx rfl (hb hby at_22) rfl rfl k) ?_
    refine Go.st (f' := (mkF m 26 #[iv p1, .val (.int ((p1 &&& (2147483647 : Int32)) % (14 : Int32))), rv w_HOME_LOCATION, .val .null] [])) (fun _ k => Jvm.RoadKit.acmp (g := (mkF m 23 #[iv p1, .val (.int ((p1 &&& (2147483647 : Int32)) % (14 : Int32))), rv w_HOME_LOCATION, .val .null] [.null, .null])) X52 hx rfl rfl rfl (pc0 := 23) (pc' := 26) (same := true) rfl (hb hby at_23) rfl (decide_eq_true rfl) (by decide) (by decide) k) ?_
    refine Go.st (f' := (mkF m 27 #[iv p1, .val (.int ((p1 &&& (2147483647 : Int32)) % (14 : Int32))), rv w_HOME_LOCATION, .val .null] [(.int 1)])) (fun _ k => XS.iconst X52.here hx rfl (hb hby at_26) k) ?_
    refine Go.st (f' := (mkF m 31 #[iv p1, .val (.int ((p1 &&& (2147483647 : Int32)) % (14 : Int32))), rv w_HOME_LOCATION, .val .null] [(.int 1)])) (fun _ k => XS.goto X52.here hx rfl (pc0 := 27) (pc' := 31) rfl (hb hby at_27) (by decide) (by decide) k) ?_
    refine Go.retB X52 hlk hx (t := .boolean) hret (by simp) (hb hby at_31) rfl ?_ (by decide) (by decide)
    exact ⟨rfl, N52⟩
  refine Go.st (f' := (mkF m 9 #[iv p1, .val (.int ((p1 &&& (2147483647 : Int32)) % (14 : Int32))), .unset, .unset] [(.int ((p1 &&& (2147483647 : Int32)) % (14 : Int32)))])) (fun _ k => XS.iloadN X0.here hx rfl (hb hby at_8) rfl k) ?_
  obtain ⟨_, _, ⟨T53, L53, kk53, nn53⟩, -, X53, ⟨Lc53, hQ53, lq53, yq53, zz53⟩, st53⟩ := Jvm.LawKit.callS X0 hx (y := (⟨"com/example/naysay/naysay/rules/KeyReadingPinLaw", "fieldAt", "(I)Lcom/example/naysay/naysay/rules/Field;"⟩ : MethodName)) hown (mvT hZ (hw _ (List.mem_of_getElem? (i := 1) rfl))) (mvT hZ (hw _ (List.mem_of_getElem? (i := 2) rfl))) (mvT hZ (hw _ (List.mem_of_getElem? (i := 3) rfl))) (mvT hZ (hw _ (List.mem_of_getElem? (i := 4) rfl))) (by decide) (own_back (W := 0) (rmF l Z a0 hw [] ((p1 &&& (2147483647 : Int32)) % (14 : Int32)) w_TRANSACTION_ID w__VALUES w_CARD w_CUSTOMER w_MERCHANT w_DEVICE w_IP w_CARD_ID w_CUSTOMER_ID w_MERCHANT_ID w_DEVICE_ID w_IP_ADDRESS w_CURRENCY w_HOME_LOCATION w_HOUR w_MERCHANT_CATEGORY w_AMOUNT w_MERCHANT_LOCATION w_CARD_PRESENT w_OCCURRED_AT k__VALUES h0 n0 O0 WW) hZ (hw _ (List.mem_of_getElem? (i := 4) rfl)) (hw _ (List.mem_of_getElem? (i := 3) rfl)) (by decide) (by decide)) (g := (mkF m 9 #[iv p1, .val (.int ((p1 &&& (2147483647 : Int32)) % (14 : Int32))), .unset, .unset] [(.int ((p1 &&& (2147483647 : Int32)) % (14 : Int32)))])) rfl (by rw [hml]; rfl) (argsL := [(.int ((p1 &&& (2147483647 : Int32)) % (14 : Int32)))]) (rest := []) (lenOf pd__I_Lcom_example_naysay_naysay_rules_Field_ rfl) rfl (by show 2 * 0 + _ ≤ _; exact Nat.le_of_eq rfl) (hb hby at_9) (fun _ _ => ⟨rfl, e0, (by decide : 0 + 0 ≤ _), (by decide : 0 + 0 ≤ _)⟩)
  dsimp only [Pt.U, Pt.locs, Pt.cells, Pt.slots] at X53 lq53 yq53 zz53 st53 hQ53
  subst lq53 yq53 zz53
  obtain ⟨rfl, Nq53, kq53⟩ := hQ53
  have N53 := Fr.app N0 Nq53
  rw [show fldV ((p1 &&& (2147483647 : Int32)) % (14 : Int32)) w_TRANSACTION_ID w__VALUES w_CARD w_CUSTOMER w_MERCHANT w_DEVICE w_IP w_CARD_ID w_CUSTOMER_ID w_MERCHANT_ID w_DEVICE_ID w_IP_ADDRESS w_CURRENCY w_HOME_LOCATION w_HOUR w_MERCHANT_CATEGORY w_AMOUNT w_MERCHANT_LOCATION w_CARD_PRESENT w_OCCURRED_AT k__VALUES = .ref w_HOUR from (by rw [fldV, if_neg cd1, if_neg cd5, if_neg cd9, if_neg cd13, if_neg cd17, if_neg cd21, if_neg cd25, if_neg cd29, if_neg cd33, if_neg cd37, if_neg cd41, if_neg cd45, if_neg cd49])] at st53
  refine Go.st (f' := (mkF m 12 #[iv p1, .val (.int ((p1 &&& (2147483647 : Int32)) % (14 : Int32))), .unset, .unset] [(.ref w_HOUR)])) (fun _ k => st53 _ k) ?_
  refine Go.st (f' := (mkF m 13 #[iv p1, .val (.int ((p1 &&& (2147483647 : Int32)) % (14 : Int32))), rv w_HOUR, .unset] [])) (fun _ k => XS.astoreN X53.here hx rfl (hb hby at_12) rfl rfl (l' := #[iv p1, .val (.int ((p1 &&& (2147483647 : Int32)) % (14 : Int32))), rv w_HOUR, .unset]) rfl k) ?_
  refine Go.st (f' := (mkF m 14 #[iv p1, .val (.int ((p1 &&& (2147483647 : Int32)) % (14 : Int32))), rv w_HOUR, .unset] [(.int ((p1 &&& (2147483647 : Int32)) % (14 : Int32)))])) (fun _ k => XS.iloadN X53.here hx rfl (hb hby at_13) rfl k) ?_
  obtain ⟨_, _, ⟨T54, L54, kk54, nn54⟩, -, X54, ⟨Lc54, hQ54, lq54, yq54, zz54⟩, st54⟩ := Jvm.LawKit.callS X53 hx (y := (⟨"com/example/naysay/naysay/rules/KeyReadingPinLaw", "expectedAt", "(I)Lcom/example/naysay/naysay/rules/Key;"⟩ : MethodName)) hown (mvT hZ (hw _ (List.mem_of_getElem? (i := 8) rfl))) (mvT hZ (hw _ (List.mem_of_getElem? (i := 9) rfl))) (mvT hZ (hw _ (List.mem_of_getElem? (i := 3) rfl))) (mvT hZ (hw _ (List.mem_of_getElem? (i := 10) rfl))) (by decide) (own_back (W := 0) (rmE l Z a0 hw [] ((p1 &&& (2147483647 : Int32)) % (14 : Int32)) w_TRANSACTION_ID w__VALUES w_CARD w_CUSTOMER w_MERCHANT w_DEVICE w_IP w_CARD_ID w_CUSTOMER_ID w_MERCHANT_ID w_DEVICE_ID w_IP_ADDRESS w_CURRENCY w_HOME_LOCATION w_HOUR w_MERCHANT_CATEGORY w_AMOUNT w_MERCHANT_LOCATION w_CARD_PRESENT w_OCCURRED_AT k__VALUES h0 n0 O0 WW) hZ (hw _ (List.mem_of_getElem? (i := 10) rfl)) (hw _ (List.mem_of_getElem? (i := 3) rfl)) (by decide) (by decide)) (g := (mkF m 14 #[iv p1, .val (.int ((p1 &&& (2147483647 : Int32)) % (14 : Int32))), rv w_HOUR, .unset] [(.int ((p1 &&& (2147483647 : Int32)) % (14 : Int32)))])) rfl (by rw [hml]; rfl) (argsL := [(.int ((p1 &&& (2147483647 : Int32)) % (14 : Int32)))]) (rest := []) (lenOf pd__I_Lcom_example_naysay_naysay_rules_Key_ rfl) rfl (by show 2 * 0 + _ ≤ _; exact Nat.le_of_eq rfl) (hb hby at_14) (fun _ _ => ⟨rfl, kq53, (by decide : 0 + 0 ≤ _), (by decide : 0 + 0 ≤ _)⟩)
  dsimp only [Pt.U, Pt.locs, Pt.cells, Pt.slots] at X54 lq54 yq54 zz54 st54 hQ54
  subst lq54 yq54 zz54
  obtain ⟨rfl, Nq54, kq54⟩ := hQ54
  have N54 := Fr.app N53 Nq54
  rw [show expV ((p1 &&& (2147483647 : Int32)) % (14 : Int32)) w_TRANSACTION_ID w__VALUES w_CARD w_CUSTOMER w_MERCHANT w_DEVICE w_IP w_CARD_ID w_CUSTOMER_ID w_MERCHANT_ID w_DEVICE_ID w_IP_ADDRESS w_CURRENCY w_HOME_LOCATION w_HOUR w_MERCHANT_CATEGORY w_AMOUNT w_MERCHANT_LOCATION w_CARD_PRESENT w_OCCURRED_AT k__VALUES = .null from (by rw [expV, if_neg cd17, if_neg cd21, if_neg cd25, if_neg cd33, if_neg cd37])] at st54
  refine Go.st (f' := (mkF m 17 #[iv p1, .val (.int ((p1 &&& (2147483647 : Int32)) % (14 : Int32))), rv w_HOUR, .unset] [.null])) (fun _ k => st54 _ k) ?_
  refine Go.st (f' := (mkF m 18 #[iv p1, .val (.int ((p1 &&& (2147483647 : Int32)) % (14 : Int32))), rv w_HOUR, .val .null] [])) (fun _ k => XS.astoreN X54.here hx rfl (hb hby at_17) rfl rfl (l' := #[iv p1, .val (.int ((p1 &&& (2147483647 : Int32)) % (14 : Int32))), rv w_HOUR, .val .null]) rfl k) ?_
  refine Go.st (f' := (mkF m 19 #[iv p1, .val (.int ((p1 &&& (2147483647 : Int32)) % (14 : Int32))), rv w_HOUR, .val .null] [(.ref w_HOUR)])) (fun _ k => XS.aloadN X54.here hx rfl (hb hby at_18) rfl rfl k) ?_
  obtain ⟨_, _, ⟨T55, L55, kk55, nn55⟩, -, X55, ⟨Lc55, hQ55, lq55, yq55, zz55⟩, st55⟩ := Jvm.LawKit.callS X54 hx (y := (⟨"com/example/naysay/naysay/rules/Key", "reading", "(Lcom/example/naysay/naysay/rules/Field;)Lcom/example/naysay/naysay/rules/Key;"⟩ : MethodName)) hown (mvT hZ (hw _ (List.mem_of_getElem? (i := 11) rfl))) (mvT hZ (hw _ (List.mem_of_getElem? (i := 12) rfl))) (mvT hZ (hw _ (List.mem_of_getElem? (i := 13) rfl))) (mvT hZ (hw _ (List.mem_of_getElem? (i := 14) rfl))) (by decide) (own_back (W := 0) (rmR l Z a0 hw [] w_HOUR w_TRANSACTION_ID w__VALUES w_CARD w_CUSTOMER w_MERCHANT w_DEVICE w_IP w_CARD_ID w_CUSTOMER_ID w_MERCHANT_ID w_DEVICE_ID w_IP_ADDRESS w_CURRENCY w_HOME_LOCATION w_HOUR w_MERCHANT_CATEGORY w_AMOUNT w_MERCHANT_LOCATION w_CARD_PRESENT w_OCCURRED_AT k__VALUES h0 n0 O0 WW) hZ (hw _ (List.mem_of_getElem? (i := 14) rfl)) (hw _ (List.mem_of_getElem? (i := 13) rfl)) (by decide) (by decide)) (g := (mkF m 19 #[iv p1, .val (.int ((p1 &&& (2147483647 : Int32)) % (14 : Int32))), rv w_HOUR, .val .null] [(.ref w_HOUR)])) rfl (by rw [hml]; rfl) (argsL := [(.ref w_HOUR)]) (rest := []) (lenOf pd__Lcom_example_naysay_naysay_rules_Field__Lcom_example_naysay_naysay_rules_Key_ rfl) rfl (by show 2 * 0 + _ ≤ _; exact Nat.le_of_eq rfl) (hb hby at_19) (fun _ _ => ⟨rfl, kq54, (by decide : 0 + 1 ≤ _), (by decide : 0 + 5 ≤ _)⟩)
  dsimp only [Pt.U, Pt.locs, Pt.cells, Pt.slots] at X55 lq55 yq55 zz55 st55 hQ55
  subst lq55 yq55 zz55
  obtain ⟨rfl, Nq55, kq55⟩ := hQ55
  have N55 := Fr.app N54 Nq55
  rw [show rdV w_HOUR w_TRANSACTION_ID w__VALUES w_CARD w_CUSTOMER w_MERCHANT w_DEVICE w_IP w_CARD_ID w_CUSTOMER_ID w_MERCHANT_ID w_DEVICE_ID w_IP_ADDRESS w_CURRENCY w_HOME_LOCATION w_HOUR w_MERCHANT_CATEGORY w_AMOUNT w_MERCHANT_LOCATION w_CARD_PRESENT w_OCCURRED_AT k__VALUES = .null from (by rw [rdV, if_neg (Fld.ne F_w_CARD_ID_ordinal F_w_HOUR_ordinal (by decide)), if_neg (Fld.ne F_w_CUSTOMER_ID_ordinal F_w_HOUR_ordinal (by decide)), if_neg (Fld.ne F_w_MERCHANT_ID_ordinal F_w_HOUR_ordinal (by decide)), if_neg (Fld.ne F_w_DEVICE_ID_ordinal F_w_HOUR_ordinal (by decide)), if_neg (Fld.ne F_w_IP_ADDRESS_ordinal F_w_HOUR_ordinal (by decide))])] at st55
  have O55 : Old Z n0 T55.heap := O0.keep kq55 all0
  refine Go.st (f' := (mkF m 22 #[iv p1, .val (.int ((p1 &&& (2147483647 : Int32)) % (14 : Int32))), rv w_HOUR, .val .null] [.null])) (fun _ k => st55 _ k) ?_
  refine Go.st (f' := (mkF m 23 #[iv p1, .val (.int ((p1 &&& (2147483647 : Int32)) % (14 : Int32))), rv w_HOUR, .val .null] [.null, .null])) (fun _ k => XS.aloadN X55.here hx rfl (hb hby at_22) rfl rfl k) ?_
  refine Go.st (f' := (mkF m 26 #[iv p1, .val (.int ((p1 &&& (2147483647 : Int32)) % (14 : Int32))), rv w_HOUR, .val .null] [])) (fun _ k => Jvm.RoadKit.acmp (g := (mkF m 23 #[iv p1, .val (.int ((p1 &&& (2147483647 : Int32)) % (14 : Int32))), rv w_HOUR, .val .null] [.null, .null])) X55 hx rfl rfl rfl (pc0 := 23) (pc' := 26) (same := true) rfl (hb hby at_23) rfl (decide_eq_true rfl) (by decide) (by decide) k) ?_
  refine Go.st (f' := (mkF m 27 #[iv p1, .val (.int ((p1 &&& (2147483647 : Int32)) % (14 : Int32))), rv w_HOUR, .val .null] [(.int 1)])) (fun _ k => XS.iconst X55.here hx rfl (hb hby at_26) k) ?_
  refine Go.st (f' := (mkF m 31 #[iv p1, .val (.int ((p1 &&& (2147483647 : Int32)) % (14 : Int32))), rv w_HOUR, .val .null] [(.int 1)])) (fun _ k => XS.goto X55.here hx rfl (pc0 := 27) (pc' := 31) rfl (hb hby at_27) (by decide) (by decide) k) ?_
  refine Go.retB X55 hlk hx (t := .boolean) hret (by simp) (hb hby at_31) rfl ?_ (by decide) (by decide)
  exact ⟨rfl, N55⟩
set_option maxRecDepth 65536 in
set_option maxHeartbeats 40000000 in
theorem comes_1 {Post : Tables → Env → Array Value → State → Outcome → State → Prop} (hpost : ∀ tb e args s v u, (limb_1_1.after args s (.returned v) u = true ∧ limb_1_2.after args s (.returned v) u = true ∧ True) → FrameEnd s (.returned v) u (Jvm.fieldLocs frame_1_writes args s ++ Jvm.arrayLocs frame_1_arrays args s ++ Jvm.staticLocs frame_1_statics s) 16 128 → Post tb e args s (.returned v) u) :
    ArmFor flags0 classFile x code maxLocals ret World_1 tables_1 room_1 Calls_1 rest_1 Pre_1 Post := by
  intro l hfl _ _ p e ha hc hk s m args below hf hA hF happ hP
  obtain ⟨hcalls, hrest, hpre⟩ := hP
  obtain ⟨-, -, -, hnamed, -, -, -, hat⟩ := (Spec.applies_iff hf).mp happ
  obtain ⟨hg, hn⟩ := and_e (Cond.before_iff.mp (show (Jvm.Cond.and given_1 narrow_1).before args s = true from hpre))
  obtain ⟨g1, g2⟩ := and_e hg
  obtain ⟨v0, rfl⟩ : ∃ v0 : Value, args = #[v0] := by
    have hs : args.size = 1 := by simpa [Cond.value, given_1] using g1
    obtain ⟨L⟩ := args
    match L, hs with
    | [v0], _ => exact ⟨v0, rfl⟩
  have hw := fun d (hd : d ∈ tables_1) => atoms_spec (ws := Jvm.Cond.code x code maxLocals ret :: tables_1) hat d (List.mem_cons_of_mem _ hd)
  have hfit : Fit s := fun {y c} hc i hi => by
    obtain ⟨ha, rfl⟩ := Array.getElem?_eq_some_iff.mp hc
    have q := List.all_eq_true.mp ((Array.all_eq_true_iff_forall_mem.mp hF) _ (Array.getElem_mem ha)) i (List.mem_range.mpr hi)
    simpa [Array.getElem?_eq_getElem hi] using q
  obtain ⟨i0, ei0⟩ := is_v g2
  obtain rfl : v0 = (.int i0) := Option.some.inj ei0
  obtain ⟨q1, q2⟩ := and_e hn
  obtain ⟨q3, q4⟩ := and_e q2
  obtain ⟨q5, q6⟩ := and_e q4
  obtain ⟨q7, q8⟩ := and_e q6
  obtain ⟨q9, q10⟩ := and_e q8
  obtain ⟨q11, q12⟩ := and_e q10
  obtain ⟨q13, q14⟩ := and_e q12
  obtain ⟨q15, q16⟩ := and_e q14
  obtain ⟨q17, q18⟩ := and_e q16
  obtain ⟨q19, q20⟩ := and_e q18
  obtain ⟨q21, q22⟩ := and_e q20
  obtain ⟨q23, q24⟩ := and_e q22
  obtain ⟨q25, q26⟩ := and_e q24
  obtain ⟨q27, q28⟩ := and_e q26
  obtain ⟨q29, q30⟩ := and_e q28
  obtain ⟨q31, q32⟩ := and_e q30
  obtain ⟨q33, q34⟩ := and_e q32
  obtain ⟨q35, q36⟩ := and_e q34
  obtain ⟨q37, q38⟩ := and_e q36
  obtain ⟨q39, q40⟩ := and_e q38
  obtain ⟨q41, q42⟩ := and_e q40
  obtain ⟨q43, q44⟩ := and_e q42
  obtain ⟨q45, q46⟩ := and_e q44
  obtain ⟨q47, q48⟩ := and_e q46
  obtain ⟨q49, q50⟩ := and_e q48
  obtain ⟨q51, q52⟩ := and_e q50
  obtain ⟨q53, q54⟩ := and_e q52
  obtain ⟨q55, q56⟩ := and_e q54
  obtain ⟨q57, q58⟩ := and_e q56
  obtain ⟨q59, q60⟩ := and_e q58
  obtain ⟨q61, q62⟩ := and_e q60
  obtain ⟨q63, q64⟩ := and_e q62
  obtain ⟨q65, q66⟩ := and_e q64
  obtain ⟨q67, q68⟩ := and_e q66
  obtain ⟨q69, q70⟩ := and_e q68
  obtain ⟨q71, q72⟩ := and_e q70
  obtain ⟨q73, q74⟩ := and_e q72
  obtain ⟨q75, q76⟩ := and_e q74
  obtain ⟨q77, q78⟩ := and_e q76
  obtain ⟨q79, q80⟩ := and_e q78
  obtain ⟨q81, q82⟩ := and_e q80
  obtain ⟨q83, q84⟩ := and_e q82
  obtain ⟨q85, q86⟩ := and_e q84
  obtain ⟨q87, q88⟩ := and_e q86
  obtain ⟨q89, q90⟩ := and_e q88
  obtain ⟨w_TRANSACTION_ID, ev_w_TRANSACTION_ID⟩ := exa_v q1
  obtain ⟨w__VALUES, ev_w__VALUES⟩ := exa_v q5
  obtain ⟨w_CARD, ev_w_CARD⟩ := exa_v q9
  obtain ⟨w_CUSTOMER, ev_w_CUSTOMER⟩ := exa_v q13
  obtain ⟨w_MERCHANT, ev_w_MERCHANT⟩ := exa_v q17
  obtain ⟨w_DEVICE, ev_w_DEVICE⟩ := exa_v q21
  obtain ⟨w_IP, ev_w_IP⟩ := exa_v q25
  obtain ⟨w_CARD_ID, ev_w_CARD_ID⟩ := exa_v q29
  obtain ⟨w_CUSTOMER_ID, ev_w_CUSTOMER_ID⟩ := exa_v q37
  obtain ⟨w_MERCHANT_ID, ev_w_MERCHANT_ID⟩ := exa_v q43
  obtain ⟨w_DEVICE_ID, ev_w_DEVICE_ID⟩ := exa_v q49
  obtain ⟨w_IP_ADDRESS, ev_w_IP_ADDRESS⟩ := exa_v q55
  obtain ⟨w_CURRENCY, ev_w_CURRENCY⟩ := exa_v q61
  obtain ⟨w_HOME_LOCATION, ev_w_HOME_LOCATION⟩ := exa_v q65
  obtain ⟨w_HOUR, ev_w_HOUR⟩ := exa_v q69
  obtain ⟨w_MERCHANT_CATEGORY, ev_w_MERCHANT_CATEGORY⟩ := exa_v q73
  obtain ⟨w_AMOUNT, ev_w_AMOUNT⟩ := exa_v q77
  obtain ⟨w_MERCHANT_LOCATION, ev_w_MERCHANT_LOCATION⟩ := exa_v q81
  obtain ⟨w_CARD_PRESENT, ev_w_CARD_PRESENT⟩ := exa_v q85
  obtain ⟨w_OCCURRED_AT, ev_w_OCCURRED_AT⟩ := exa_v q89
  have S_w_TRANSACTION_ID := Sta.start ev_w_TRANSACTION_ID (Or.inr ⟨hw _ (List.mem_of_getElem? (i := 6) rfl), hw _ (List.mem_of_getElem? (i := 7) rfl)⟩)
  have E_w_TRANSACTION_ID := Exa.start ev_w_TRANSACTION_ID q1
  have S_w__VALUES := Sta.start ev_w__VALUES (Or.inl (hw _ (List.mem_of_getElem? (i := 32) rfl)))
  have E_w__VALUES := Exa.start ev_w__VALUES q5
  have S_w_CARD := Sta.start ev_w_CARD (Or.inr ⟨hw _ (List.mem_of_getElem? (i := 13) rfl), hw _ (List.mem_of_getElem? (i := 27) rfl)⟩)
  have E_w_CARD := Exa.start ev_w_CARD q9
  have S_w_CUSTOMER := Sta.start ev_w_CUSTOMER (Or.inr ⟨hw _ (List.mem_of_getElem? (i := 13) rfl), hw _ (List.mem_of_getElem? (i := 28) rfl)⟩)
  have E_w_CUSTOMER := Exa.start ev_w_CUSTOMER q13
  have S_w_MERCHANT := Sta.start ev_w_MERCHANT (Or.inr ⟨hw _ (List.mem_of_getElem? (i := 13) rfl), hw _ (List.mem_of_getElem? (i := 29) rfl)⟩)
  have E_w_MERCHANT := Exa.start ev_w_MERCHANT q17
  have S_w_DEVICE := Sta.start ev_w_DEVICE (Or.inr ⟨hw _ (List.mem_of_getElem? (i := 13) rfl), hw _ (List.mem_of_getElem? (i := 30) rfl)⟩)
  have E_w_DEVICE := Exa.start ev_w_DEVICE q21
  have S_w_IP := Sta.start ev_w_IP (Or.inr ⟨hw _ (List.mem_of_getElem? (i := 13) rfl), hw _ (List.mem_of_getElem? (i := 31) rfl)⟩)
  have E_w_IP := Exa.start ev_w_IP q25
  have S_w_CARD_ID := Sta.start ev_w_CARD_ID (Or.inr ⟨hw _ (List.mem_of_getElem? (i := 6) rfl), hw _ (List.mem_of_getElem? (i := 37) rfl)⟩)
  have E_w_CARD_ID := Exa.start ev_w_CARD_ID q29
  have S_w_CUSTOMER_ID := Sta.start ev_w_CUSTOMER_ID (Or.inr ⟨hw _ (List.mem_of_getElem? (i := 6) rfl), hw _ (List.mem_of_getElem? (i := 38) rfl)⟩)
  have E_w_CUSTOMER_ID := Exa.start ev_w_CUSTOMER_ID q37
  have S_w_MERCHANT_ID := Sta.start ev_w_MERCHANT_ID (Or.inr ⟨hw _ (List.mem_of_getElem? (i := 6) rfl), hw _ (List.mem_of_getElem? (i := 39) rfl)⟩)
  have E_w_MERCHANT_ID := Exa.start ev_w_MERCHANT_ID q43
  have S_w_DEVICE_ID := Sta.start ev_w_DEVICE_ID (Or.inr ⟨hw _ (List.mem_of_getElem? (i := 6) rfl), hw _ (List.mem_of_getElem? (i := 40) rfl)⟩)
  have E_w_DEVICE_ID := Exa.start ev_w_DEVICE_ID q49
  have S_w_IP_ADDRESS := Sta.start ev_w_IP_ADDRESS (Or.inr ⟨hw _ (List.mem_of_getElem? (i := 6) rfl), hw _ (List.mem_of_getElem? (i := 41) rfl)⟩)
  have E_w_IP_ADDRESS := Exa.start ev_w_IP_ADDRESS q55
  have S_w_CURRENCY := Sta.start ev_w_CURRENCY (Or.inr ⟨hw _ (List.mem_of_getElem? (i := 6) rfl), hw _ (List.mem_of_getElem? (i := 43) rfl)⟩)
  have E_w_CURRENCY := Exa.start ev_w_CURRENCY q61
  have S_w_HOME_LOCATION := Sta.start ev_w_HOME_LOCATION (Or.inr ⟨hw _ (List.mem_of_getElem? (i := 6) rfl), hw _ (List.mem_of_getElem? (i := 45) rfl)⟩)
  have E_w_HOME_LOCATION := Exa.start ev_w_HOME_LOCATION q65
  have S_w_HOUR := Sta.start ev_w_HOUR (Or.inr ⟨hw _ (List.mem_of_getElem? (i := 6) rfl), hw _ (List.mem_of_getElem? (i := 47) rfl)⟩)
  have E_w_HOUR := Exa.start ev_w_HOUR q69
  have S_w_MERCHANT_CATEGORY := Sta.start ev_w_MERCHANT_CATEGORY (Or.inr ⟨hw _ (List.mem_of_getElem? (i := 6) rfl), hw _ (List.mem_of_getElem? (i := 51) rfl)⟩)
  have E_w_MERCHANT_CATEGORY := Exa.start ev_w_MERCHANT_CATEGORY q73
  have S_w_AMOUNT := Sta.start ev_w_AMOUNT (Or.inr ⟨hw _ (List.mem_of_getElem? (i := 6) rfl), hw _ (List.mem_of_getElem? (i := 53) rfl)⟩)
  have E_w_AMOUNT := Exa.start ev_w_AMOUNT q77
  have S_w_MERCHANT_LOCATION := Sta.start ev_w_MERCHANT_LOCATION (Or.inr ⟨hw _ (List.mem_of_getElem? (i := 6) rfl), hw _ (List.mem_of_getElem? (i := 55) rfl)⟩)
  have E_w_MERCHANT_LOCATION := Exa.start ev_w_MERCHANT_LOCATION q81
  have S_w_CARD_PRESENT := Sta.start ev_w_CARD_PRESENT (Or.inr ⟨hw _ (List.mem_of_getElem? (i := 6) rfl), hw _ (List.mem_of_getElem? (i := 57) rfl)⟩)
  have E_w_CARD_PRESENT := Exa.start ev_w_CARD_PRESENT q85
  have S_w_OCCURRED_AT := Sta.start ev_w_OCCURRED_AT (Or.inr ⟨hw _ (List.mem_of_getElem? (i := 6) rfl), hw _ (List.mem_of_getElem? (i := 61) rfl)⟩)
  have E_w_OCCURRED_AT := Exa.start ev_w_OCCURRED_AT q89
  have F_w_CARD_field : Fld s s.heap w_CARD "com/example/naysay/naysay/rules/Key" "field" "Lcom/example/naysay/naysay/rules/Field;" (.ref w_CARD_ID) := Fld.start (by rw [← fld_at ev_w_CARD]; exact own_eq_ref q31 ev_w_CARD_ID)
  have F_w_CUSTOMER_field : Fld s s.heap w_CUSTOMER "com/example/naysay/naysay/rules/Key" "field" "Lcom/example/naysay/naysay/rules/Field;" (.ref w_CUSTOMER_ID) := Fld.start (by rw [← fld_at ev_w_CUSTOMER]; exact own_eq_ref q39 ev_w_CUSTOMER_ID)
  have F_w_MERCHANT_field : Fld s s.heap w_MERCHANT "com/example/naysay/naysay/rules/Key" "field" "Lcom/example/naysay/naysay/rules/Field;" (.ref w_MERCHANT_ID) := Fld.start (by rw [← fld_at ev_w_MERCHANT]; exact own_eq_ref q45 ev_w_MERCHANT_ID)
  have F_w_DEVICE_field : Fld s s.heap w_DEVICE "com/example/naysay/naysay/rules/Key" "field" "Lcom/example/naysay/naysay/rules/Field;" (.ref w_DEVICE_ID) := Fld.start (by rw [← fld_at ev_w_DEVICE]; exact own_eq_ref q51 ev_w_DEVICE_ID)
  have F_w_IP_field : Fld s s.heap w_IP "com/example/naysay/naysay/rules/Key" "field" "Lcom/example/naysay/naysay/rules/Field;" (.ref w_IP_ADDRESS) := Fld.start (by rw [← fld_at ev_w_IP]; exact own_eq_ref q57 ev_w_IP_ADDRESS)
  have F_w_CARD_ID_ordinal := own_fld q33 ev_w_CARD_ID
  have F_w_TRANSACTION_ID_ordinal := own_fld q35 ev_w_TRANSACTION_ID
  have F_w_CUSTOMER_ID_ordinal := own_fld q41 ev_w_CUSTOMER_ID
  have F_w_MERCHANT_ID_ordinal := own_fld q47 ev_w_MERCHANT_ID
  have F_w_DEVICE_ID_ordinal := own_fld q53 ev_w_DEVICE_ID
  have F_w_IP_ADDRESS_ordinal := own_fld q59 ev_w_IP_ADDRESS
  have F_w_CURRENCY_ordinal := own_fld q63 ev_w_CURRENCY
  have F_w_HOME_LOCATION_ordinal := own_fld q67 ev_w_HOME_LOCATION
  have F_w_HOUR_ordinal := own_fld q71 ev_w_HOUR
  have F_w_MERCHANT_CATEGORY_ordinal := own_fld q75 ev_w_MERCHANT_CATEGORY
  have F_w_AMOUNT_ordinal := own_fld q79 ev_w_AMOUNT
  have F_w_MERCHANT_LOCATION_ordinal := own_fld q83 ev_w_MERCHANT_LOCATION
  have F_w_CARD_PRESENT_ordinal := own_fld q87 ev_w_CARD_PRESENT
  have F_w_OCCURRED_AT_ordinal := own_fld q90 ev_w_OCCURRED_AT
  obtain ⟨cl_w__VALUES, Ar_w__VALUES⟩ := Arr.start ev_w__VALUES q3
  obtain ⟨z_w__VALUES, y_w__VALUES⟩ := own_len (own_eq_int q7) ev_w__VALUES Ar_w__VALUES.1
  have V_w__VALUES : Arv s s.heap w__VALUES cl_w__VALUES.cls (Jvm.ClassFile.FieldType.object "com/example/naysay/naysay/rules/Key") (5 : Int32) [(.ref w_CARD), (.ref w_CUSTOMER), (.ref w_MERCHANT), (.ref w_DEVICE), (.ref w_IP)] .null := Arv.start hfit Ar_w__VALUES z_w__VALUES y_w__VALUES (by decide) rfl ⟨own_elem q11 ev_w_CARD ev_w__VALUES Ar_w__VALUES.1 rfl, own_elem q15 ev_w_CUSTOMER ev_w__VALUES Ar_w__VALUES.1 rfl, own_elem q19 ev_w_MERCHANT ev_w__VALUES Ar_w__VALUES.1 rfl, own_elem q23 ev_w_DEVICE ev_w__VALUES Ar_w__VALUES.1 rfl, own_elem q27 ev_w_IP ev_w__VALUES Ar_w__VALUES.1 rfl, trivial⟩
  have WW : World1 s w_TRANSACTION_ID w__VALUES w_CARD w_CUSTOMER w_MERCHANT w_DEVICE w_IP w_CARD_ID w_CUSTOMER_ID w_MERCHANT_ID w_DEVICE_ID w_IP_ADDRESS w_CURRENCY w_HOME_LOCATION w_HOUR w_MERCHANT_CATEGORY w_AMOUNT w_MERCHANT_LOCATION w_CARD_PRESENT w_OCCURRED_AT cl_w__VALUES.cls   := ⟨S_w_TRANSACTION_ID, E_w_TRANSACTION_ID, S_w__VALUES, E_w__VALUES, S_w_CARD, E_w_CARD, S_w_CUSTOMER, E_w_CUSTOMER, S_w_MERCHANT, E_w_MERCHANT, S_w_DEVICE, E_w_DEVICE, S_w_IP, E_w_IP, S_w_CARD_ID, E_w_CARD_ID, S_w_CUSTOMER_ID, E_w_CUSTOMER_ID, S_w_MERCHANT_ID, E_w_MERCHANT_ID, S_w_DEVICE_ID, E_w_DEVICE_ID, S_w_IP_ADDRESS, E_w_IP_ADDRESS, S_w_CURRENCY, E_w_CURRENCY, S_w_HOME_LOCATION, E_w_HOME_LOCATION, S_w_HOUR, E_w_HOUR, S_w_MERCHANT_CATEGORY, E_w_MERCHANT_CATEGORY, S_w_AMOUNT, E_w_AMOUNT, S_w_MERCHANT_LOCATION, E_w_MERCHANT_LOCATION, S_w_CARD_PRESENT, E_w_CARD_PRESENT, S_w_OCCURRED_AT, E_w_OCCURRED_AT, F_w_CARD_ID_ordinal, F_w_TRANSACTION_ID_ordinal, F_w_CUSTOMER_ID_ordinal, F_w_MERCHANT_ID_ordinal, F_w_DEVICE_ID_ordinal, F_w_IP_ADDRESS_ordinal, F_w_CURRENCY_ordinal, F_w_HOME_LOCATION_ordinal, F_w_HOUR_ordinal, F_w_MERCHANT_CATEGORY_ordinal, F_w_AMOUNT_ordinal, F_w_MERCHANT_LOCATION_ordinal, F_w_CARD_PRESENT_ordinal, F_w_OCCURRED_AT_ordinal, F_w_CARD_field, F_w_CUSTOMER_field, F_w_MERCHANT_field, F_w_DEVICE_field, F_w_IP_field, V_w__VALUES⟩
  obtain ⟨n, o, h1, h2, h3, _, L, rfl, ⟨rfl, N⟩, hq⟩ := rm0 l s _ hw tables_1 i0 w_TRANSACTION_ID w__VALUES w_CARD w_CUSTOMER w_MERCHANT w_DEVICE w_IP w_CARD_ID w_CUSTOMER_ID w_MERCHANT_ID w_DEVICE_ID w_IP_ADDRESS w_CURRENCY w_HOME_LOCATION w_HOUR w_MERCHANT_CATEGORY w_AMOUNT w_MERCHANT_LOCATION w_CARD_PRESENT w_OCCURRED_AT cl_w__VALUES.cls   s.heap s.heap.size (Old.start s) WW  p e ha hc hk s m _ below hf ((Spec.applies_iff_loose hf).mp happ).1 ⟨rfl, State.Warmed39.refl s, rfl⟩ trivial
  refine ⟨n, _, h1, h2, h3, hpost _ _ _ _ _ _ ⟨Cond.after_iff.mpr rfl, Cond.after_iff.mpr (eq_i res_at (Term.int_eval (1)) rfl), trivial⟩ ⟨hq.1, hq.2.1, (hq.2.2.sift fun y hy => Or.inr (N y hy)).mono (by decide) (by decide)⟩⟩
theorem main_1_1 : Claimed_1_1 := comes_1 fun _ _ _ _ _ _ h hF => ⟨h.1, hF⟩
theorem main_1_2 : Claimed_1_2 := comes_1 fun _ _ _ _ _ _ h hF => ⟨h.2.1, hF⟩
end Jvm.Pilot.@@N@@
namespace Jvm.Pilot.@@N@@
open Jvm Jvm.ClassFile Sem Op Lib Jvm.Free Jvm.Stand Jvm.Pilot.@@N@@.Jvm.D
/-! MADE BY PROGRAM (witnessworld.py) out of the Statement's table words and the real class files: 14 classes; the members and pool entries that the words name. The judged class is class 1, her method 3. -/
namespace start1
open Jvm.ClassFile
def u (s : String) : CpInfo := .utf8 (stringToUtf16 s)
/-- a pool by its gaps: so many unusable entries, then the entry; so many at the end -/
def gap : Nat → List CpInfo → List CpInfo
  | 0, r => r
  | n + 1, r => .unusable :: gap n r
def poolList (es : List (Nat × CpInfo)) (last : Nat) : List CpInfo := es.foldr (fun e r => gap e.1 (e.2 :: r)) (gap last [])
def pool (es : List (Nat × CpInfo)) (last : Nat) : Array CpInfo := ⟨poolList es last⟩
def fileOf (pool : Array CpInfo) (this : Nat) (attrs : Array Attribute := #[]) (ms : Array MethodInfo := #[]) (fl : Nat := 33) (sup : Nat := 0) (ifs : Array Nat := #[]) (fds : Array FieldInfo := #[]) : ClassFile where
  minorVersion := 0
  majorVersion := 65
  constantPool := pool
  accessFlags := fl
  thisClass := this
  superClass := sup
  interfaces := ifs
  fields := fds
  methods := ms
  attributes := attrs
def plain (name : String) (sup : Option ClassId) : Class where
  name := name
  kind := .ordinary
  loader := none
  accessFlags := 33
  super := sup
  interfaces := #[]
  cf := none
  fields := #[]
  methods := #[]
  instanceTypes := #[]
  staticTypes := #[]
  resolved := #[]
  callSites := []
  init := .initialized
  statics := none
  mirror := none

def pool0 : Array CpInfo := pool [(5, u "<init>"), (0, u "()V"), (1, .class_ 10), (1, u "java/lang/Object"), (85, u "clone"), (0, u "()Ljava/lang/Object;")] 26

def k0m0 : Method := { name := "<init>", desc := "()V", sig := { parameters := [], returnType := none }, accessFlags := 1, code := none }
def k0m1 : Method := { name := "clone", desc := "()Ljava/lang/Object;", sig := { parameters := [], returnType := some (.object "java/lang/Object") }, accessFlags := 260, code := none }
/-- java/lang/Object -/
def k0 : Class := { plain "java/lang/Object" none with
  accessFlags := 33
  interfaces := #[]
  cf := some (fileOf pool0 8 #[] #[{ accessFlags := 1, nameIndex := 5, descriptorIndex := 6, attributes := #[] }, { accessFlags := 260, nameIndex := 96, descriptorIndex := 97, attributes := #[] }] 33 0 #[] #[])
  fields := #[]
  methods := #[k0m0, k0m1]
  instanceTypes := #[]
  staticTypes := #[]
  resolved := Array.replicate 124 none
  statics := none }

def pool1 : Array CpInfo := pool [(2, .class_ 4), (1, u "java/lang/Object"), (0, u "<init>"), (0, u "()V"), (0, .fieldref 8 9), (0, .class_ 10), (0, .nameAndType 11 12), (0, u "com/example/naysay/naysay/rules/Field"), (0, u "TRANSACTION_ID"), (0, u "Lcom/example/naysay/naysay/rules/Field;"), (0, .fieldref 8 14), (0, .nameAndType 15 12), (0, u "OCCURRED_AT"), (0, .fieldref 8 17), (0, .nameAndType 18 12), (0, u "AMOUNT"), (0, .fieldref 8 20), (0, .nameAndType 21 12), (0, u "CURRENCY"), (0, .fieldref 8 23), (0, .nameAndType 24 12), (0, u "CARD_ID"), (0, .fieldref 8 26), (0, .nameAndType 27 12), (0, u "CUSTOMER_ID"), (0, .fieldref 8 29), (0, .nameAndType 30 12), (0, u "MERCHANT_ID"), (0, .fieldref 8 32), (0, .nameAndType 33 12), (0, u "MERCHANT_CATEGORY"), (0, .fieldref 8 35), (0, .nameAndType 36 12), (0, u "DEVICE_ID"), (0, .fieldref 8 38), (0, .nameAndType 39 12), (0, u "IP_ADDRESS"), (0, .fieldref 8 41), (0, .nameAndType 42 12), (0, u "CARD_PRESENT"), (0, .fieldref 8 44), (0, .nameAndType 45 12), (0, u "MERCHANT_LOCATION"), (0, .fieldref 8 47), (0, .nameAndType 48 12), (0, u "HOME_LOCATION"), (0, .fieldref 8 50), (0, .nameAndType 51 12), (0, u "HOUR"), (0, .fieldref 53 54), (0, .class_ 55), (0, .nameAndType 56 57), (0, u "com/example/naysay/naysay/rules/Key"), (0, u "CARD"), (0, u "Lcom/example/naysay/naysay/rules/Key;"), (0, .fieldref 53 59), (0, .nameAndType 60 57), (0, u "CUSTOMER"), (0, .fieldref 53 62), (0, .nameAndType 63 57), (0, u "MERCHANT"), (0, .fieldref 53 65), (0, .nameAndType 66 57), (0, u "DEVICE"), (0, .fieldref 53 68), (0, .nameAndType 69 57), (0, u "IP"), (0, .integer 2147483647), (0, .methodref 72 73), (0, .class_ 74), (0, .nameAndType 75 76), (0, u "com/example/naysay/naysay/rules/KeyReadingPinLaw"), (0, u "fieldAt"), (0, u "(I)Lcom/example/naysay/naysay/rules/Field;"), (0, .methodref 72 78), (0, .nameAndType 79 80), (0, u "expectedAt"), (0, u "(I)Lcom/example/naysay/naysay/rules/Key;"), (0, .methodref 53 82), (0, .nameAndType 83 84), (0, u "reading"), (0, u "(Lcom/example/naysay/naysay/rules/Field;)Lcom/example/naysay/naysay/rules/Key;"), (3, u "law"), (0, u "(I)Z")] 2

def k1m0 : Method := { name := "<init>", desc := "()V", sig := { parameters := [], returnType := none }, accessFlags := 2, code := none }
def k1c1 : Code := { maxStack := 2, maxLocals := 1, code := method_2_code, exceptionTable := #[], attributes := #[] }
def k1m1 : Method := { name := "fieldAt", desc := "(I)Lcom/example/naysay/naysay/rules/Field;", sig := { parameters := [.int], returnType := some (.object "com/example/naysay/naysay/rules/Field") }, accessFlags := 10, code := some k1c1 }
def k1c2 : Code := { maxStack := 2, maxLocals := 1, code := method_3_code, exceptionTable := #[], attributes := #[] }
def k1m2 : Method := { name := "expectedAt", desc := "(I)Lcom/example/naysay/naysay/rules/Key;", sig := { parameters := [.int], returnType := some (.object "com/example/naysay/naysay/rules/Key") }, accessFlags := 10, code := some k1c2 }
def k1c3 : Code := { maxStack := 2, maxLocals := 4, code := code, exceptionTable := #[], attributes := #[] }
def k1m3 : Method := { name := "law", desc := "(I)Z", sig := { parameters := [.int], returnType := some .boolean }, accessFlags := 9, code := some k1c3 }
/-- com/example/naysay/naysay/rules/KeyReadingPinLaw -/
def k1 : Class := { plain "com/example/naysay/naysay/rules/KeyReadingPinLaw" (some 0) with
  accessFlags := 49
  interfaces := #[]
  cf := some (fileOf pool1 72 #[] #[{ accessFlags := 2, nameIndex := 5, descriptorIndex := 6, attributes := #[] }, { accessFlags := 10, nameIndex := 75, descriptorIndex := 76, attributes := #[] }, { accessFlags := 10, nameIndex := 79, descriptorIndex := 80, attributes := #[] }, { accessFlags := 9, nameIndex := 88, descriptorIndex := 89, attributes := #[] }] 49 2 #[] #[])
  fields := #[]
  methods := #[k1m0, k1m1, k1m2, k1m3]
  instanceTypes := #[]
  staticTypes := #[]
  resolved := Array.replicate 92 none
  statics := none }

def pool2 : Array CpInfo := pool [(1, .class_ 2), (0, u "java/lang/constant/Constable"), (0, .class_ 4), (0, u "java/lang/Object")] 6

/-- java/lang/constant/Constable -/
def k2 : Class := { plain "java/lang/constant/Constable" (some 0) with
  accessFlags := 1537
  interfaces := #[]
  cf := some (fileOf pool2 1 #[] #[] 1537 3 #[] #[])
  fields := #[]
  methods := #[]
  instanceTypes := #[]
  staticTypes := #[]
  resolved := Array.replicate 11 none
  statics := none }

def pool3 : Array CpInfo := pool [(1, .class_ 2), (0, u "java/lang/Comparable"), (0, .class_ 4), (0, u "java/lang/Object")] 7

/-- java/lang/Comparable -/
def k3 : Class := { plain "java/lang/Comparable" (some 0) with
  accessFlags := 1537
  interfaces := #[]
  cf := some (fileOf pool3 1 #[] #[] 1537 3 #[] #[])
  fields := #[]
  methods := #[]
  instanceTypes := #[]
  staticTypes := #[]
  resolved := Array.replicate 12 none
  statics := none }

def pool4 : Array CpInfo := pool [(1, .class_ 2), (0, u "java/io/Serializable"), (0, .class_ 4), (0, u "java/lang/Object")] 2

/-- java/io/Serializable -/
def k4 : Class := { plain "java/io/Serializable" (some 0) with
  accessFlags := 1537
  interfaces := #[]
  cf := some (fileOf pool4 1 #[] #[] 1537 3 #[] #[])
  fields := #[]
  methods := #[]
  instanceTypes := #[]
  staticTypes := #[]
  resolved := Array.replicate 7 none
  statics := none }

def pool5 : Array CpInfo := pool [(2, .class_ 4), (1, u "java/lang/Enum"), (0, u "name"), (0, u "Ljava/lang/String;"), (2, u "ordinal"), (0, u "I"), (1, .class_ 14), (1, u "java/lang/Object"), (4, u "hash"), (86, .class_ 108), (1, u "java/lang/Enum$EnumDesc"), (2, .class_ 112), (0, u "java/lang/constant/Constable"), (0, .class_ 114), (0, u "java/lang/Comparable"), (0, .class_ 116), (0, u "java/io/Serializable")] 87

/-- java/lang/Enum -/
def k5 : Class := { plain "java/lang/Enum" (some 0) with
  accessFlags := 1057
  interfaces := #[2, 3, 4]
  cf := some (fileOf pool5 2 #[.nestMembers #[106]] #[] 1057 12 #[111, 113, 115] #[{ accessFlags := 18, nameIndex := 5, descriptorIndex := 6, attributes := #[] }, { accessFlags := 18, nameIndex := 9, descriptorIndex := 10, attributes := #[] }, { accessFlags := 2, nameIndex := 19, descriptorIndex := 10, attributes := #[] }])
  fields := #[{ name := "name", type := (.object "java/lang/String"), accessFlags := 18, slot := 0, constantValue := 0 }, { name := "ordinal", type := .int, accessFlags := 18, slot := 1, constantValue := 0 }, { name := "hash", type := .int, accessFlags := 2, slot := 2, constantValue := 0 }]
  methods := #[]
  instanceTypes := #[(.object "java/lang/String"), .int, .int]
  staticTypes := #[]
  resolved := Array.replicate 204 none
  statics := none }

def pool6 : Array CpInfo := pool [(1, .class_ 2), (0, u "com/example/naysay/naysay/rules/Field"), (2, u "TRANSACTION_ID"), (0, u "Lcom/example/naysay/naysay/rules/Field;"), (2, u "OCCURRED_AT"), (2, u "AMOUNT"), (2, u "CURRENCY"), (2, u "CARD_ID"), (2, u "CUSTOMER_ID"), (2, u "MERCHANT_ID"), (2, u "MERCHANT_CATEGORY"), (2, u "DEVICE_ID"), (2, u "IP_ADDRESS"), (2, u "CARD_PRESENT"), (2, u "MERCHANT_LOCATION"), (2, u "HOME_LOCATION"), (2, u "HOUR"), (2, u "$VALUES"), (0, u "[Lcom/example/naysay/naysay/rules/Field;"), (6, .class_ 58), (1, u "java/lang/Enum"), (8, u "label"), (0, u "Ljava/lang/String;"), (2, u "type"), (0, u "Lcom/example/naysay/naysay/rules/Type;"), (2, u "value"), (0, u "Ljava/util/function/Function;")] 196

/-- com/example/naysay/naysay/rules/Field -/
def k6 : Class := { plain "com/example/naysay/naysay/rules/Field" (some 5) with
  accessFlags := 16433
  interfaces := #[]
  cf := some (fileOf pool6 1 #[] #[] 16433 56 #[] #[{ accessFlags := 16409, nameIndex := 5, descriptorIndex := 6, attributes := #[] }, { accessFlags := 16409, nameIndex := 9, descriptorIndex := 6, attributes := #[] }, { accessFlags := 16409, nameIndex := 12, descriptorIndex := 6, attributes := #[] }, { accessFlags := 16409, nameIndex := 15, descriptorIndex := 6, attributes := #[] }, { accessFlags := 16409, nameIndex := 18, descriptorIndex := 6, attributes := #[] }, { accessFlags := 16409, nameIndex := 21, descriptorIndex := 6, attributes := #[] }, { accessFlags := 16409, nameIndex := 24, descriptorIndex := 6, attributes := #[] }, { accessFlags := 16409, nameIndex := 27, descriptorIndex := 6, attributes := #[] }, { accessFlags := 16409, nameIndex := 30, descriptorIndex := 6, attributes := #[] }, { accessFlags := 16409, nameIndex := 33, descriptorIndex := 6, attributes := #[] }, { accessFlags := 16409, nameIndex := 36, descriptorIndex := 6, attributes := #[] }, { accessFlags := 16409, nameIndex := 39, descriptorIndex := 6, attributes := #[] }, { accessFlags := 16409, nameIndex := 42, descriptorIndex := 6, attributes := #[] }, { accessFlags := 16409, nameIndex := 45, descriptorIndex := 6, attributes := #[] }, { accessFlags := 18, nameIndex := 67, descriptorIndex := 68, attributes := #[] }, { accessFlags := 18, nameIndex := 71, descriptorIndex := 72, attributes := #[] }, { accessFlags := 18, nameIndex := 75, descriptorIndex := 76, attributes := #[] }, { accessFlags := 4122, nameIndex := 48, descriptorIndex := 49, attributes := #[] }])
  fields := #[{ name := "TRANSACTION_ID", type := (.object "com/example/naysay/naysay/rules/Field"), accessFlags := 16409, slot := 0, constantValue := 0 }, { name := "OCCURRED_AT", type := (.object "com/example/naysay/naysay/rules/Field"), accessFlags := 16409, slot := 1, constantValue := 0 }, { name := "AMOUNT", type := (.object "com/example/naysay/naysay/rules/Field"), accessFlags := 16409, slot := 2, constantValue := 0 }, { name := "CURRENCY", type := (.object "com/example/naysay/naysay/rules/Field"), accessFlags := 16409, slot := 3, constantValue := 0 }, { name := "CARD_ID", type := (.object "com/example/naysay/naysay/rules/Field"), accessFlags := 16409, slot := 4, constantValue := 0 }, { name := "CUSTOMER_ID", type := (.object "com/example/naysay/naysay/rules/Field"), accessFlags := 16409, slot := 5, constantValue := 0 }, { name := "MERCHANT_ID", type := (.object "com/example/naysay/naysay/rules/Field"), accessFlags := 16409, slot := 6, constantValue := 0 }, { name := "MERCHANT_CATEGORY", type := (.object "com/example/naysay/naysay/rules/Field"), accessFlags := 16409, slot := 7, constantValue := 0 }, { name := "DEVICE_ID", type := (.object "com/example/naysay/naysay/rules/Field"), accessFlags := 16409, slot := 8, constantValue := 0 }, { name := "IP_ADDRESS", type := (.object "com/example/naysay/naysay/rules/Field"), accessFlags := 16409, slot := 9, constantValue := 0 }, { name := "CARD_PRESENT", type := (.object "com/example/naysay/naysay/rules/Field"), accessFlags := 16409, slot := 10, constantValue := 0 }, { name := "MERCHANT_LOCATION", type := (.object "com/example/naysay/naysay/rules/Field"), accessFlags := 16409, slot := 11, constantValue := 0 }, { name := "HOME_LOCATION", type := (.object "com/example/naysay/naysay/rules/Field"), accessFlags := 16409, slot := 12, constantValue := 0 }, { name := "HOUR", type := (.object "com/example/naysay/naysay/rules/Field"), accessFlags := 16409, slot := 13, constantValue := 0 }, { name := "label", type := (.object "java/lang/String"), accessFlags := 18, slot := 3, constantValue := 0 }, { name := "type", type := (.object "com/example/naysay/naysay/rules/Type"), accessFlags := 18, slot := 4, constantValue := 0 }, { name := "value", type := (.object "java/util/function/Function"), accessFlags := 18, slot := 5, constantValue := 0 }, { name := "$VALUES", type := (.array (.object "com/example/naysay/naysay/rules/Field")), accessFlags := 4122, slot := 14, constantValue := 0 }]
  methods := #[]
  instanceTypes := #[(.object "java/lang/String"), .int, .int, (.object "java/lang/String"), (.object "com/example/naysay/naysay/rules/Type"), (.object "java/util/function/Function")]
  staticTypes := #[(.object "com/example/naysay/naysay/rules/Field"), (.object "com/example/naysay/naysay/rules/Field"), (.object "com/example/naysay/naysay/rules/Field"), (.object "com/example/naysay/naysay/rules/Field"), (.object "com/example/naysay/naysay/rules/Field"), (.object "com/example/naysay/naysay/rules/Field"), (.object "com/example/naysay/naysay/rules/Field"), (.object "com/example/naysay/naysay/rules/Field"), (.object "com/example/naysay/naysay/rules/Field"), (.object "com/example/naysay/naysay/rules/Field"), (.object "com/example/naysay/naysay/rules/Field"), (.object "com/example/naysay/naysay/rules/Field"), (.object "com/example/naysay/naysay/rules/Field"), (.object "com/example/naysay/naysay/rules/Field"), (.array (.object "com/example/naysay/naysay/rules/Field"))]
  resolved := Array.replicate 273 none
  statics := some 0 }

def pool7 : Array CpInfo := pool [(1, .class_ 2), (0, u "com/example/naysay/naysay/rules/Key"), (2, u "CARD"), (0, u "Lcom/example/naysay/naysay/rules/Key;"), (2, u "CUSTOMER"), (2, u "MERCHANT"), (2, u "DEVICE"), (2, u "IP"), (0, .fieldref 1 20), (0, .nameAndType 21 22), (0, u "$VALUES"), (0, u "[Lcom/example/naysay/naysay/rules/Key;"), (0, .methodref 24 25), (0, .class_ 22), (0, .nameAndType 26 27), (0, u "clone"), (0, u "()Ljava/lang/Object;"), (1, .class_ 31), (1, u "java/lang/Enum"), (8, u "label"), (0, u "Ljava/lang/String;"), (0, .fieldref 1 43), (0, .nameAndType 44 45), (0, u "field"), (0, u "Lcom/example/naysay/naysay/rules/Field;"), (0, .methodref 1 47), (0, .nameAndType 48 49), (0, u "values"), (0, u "()[Lcom/example/naysay/naysay/rules/Key;"), (61, u "reading"), (0, u "(Lcom/example/naysay/naysay/rules/Field;)Lcom/example/naysay/naysay/rules/Key;")] 30

def k7c0 : Code := { maxStack := 1, maxLocals := 0, code := prog_20_method_1_code, exceptionTable := #[], attributes := #[] }
def k7m0 : Method := { name := "values", desc := "()[Lcom/example/naysay/naysay/rules/Key;", sig := { parameters := [], returnType := some (.array (.object "com/example/naysay/naysay/rules/Key")) }, accessFlags := 9, code := some k7c0 }
def k7c1 : Code := { maxStack := 2, maxLocals := 6, code := prog_20_method_5_code, exceptionTable := #[], attributes := #[] }
def k7m1 : Method := { name := "reading", desc := "(Lcom/example/naysay/naysay/rules/Field;)Lcom/example/naysay/naysay/rules/Key;", sig := { parameters := [(.object "com/example/naysay/naysay/rules/Field")], returnType := some (.object "com/example/naysay/naysay/rules/Key") }, accessFlags := 9, code := some k7c1 }
/-- com/example/naysay/naysay/rules/Key -/
def k7 : Class := { plain "com/example/naysay/naysay/rules/Key" (some 5) with
  accessFlags := 16433
  interfaces := #[]
  cf := some (fileOf pool7 1 #[] #[{ accessFlags := 9, nameIndex := 48, descriptorIndex := 49, attributes := #[] }, { accessFlags := 9, nameIndex := 111, descriptorIndex := 112, attributes := #[] }] 16433 29 #[] #[{ accessFlags := 16409, nameIndex := 5, descriptorIndex := 6, attributes := #[] }, { accessFlags := 16409, nameIndex := 9, descriptorIndex := 6, attributes := #[] }, { accessFlags := 16409, nameIndex := 12, descriptorIndex := 6, attributes := #[] }, { accessFlags := 16409, nameIndex := 15, descriptorIndex := 6, attributes := #[] }, { accessFlags := 16409, nameIndex := 18, descriptorIndex := 6, attributes := #[] }, { accessFlags := 18, nameIndex := 40, descriptorIndex := 41, attributes := #[] }, { accessFlags := 18, nameIndex := 44, descriptorIndex := 45, attributes := #[] }, { accessFlags := 4122, nameIndex := 21, descriptorIndex := 22, attributes := #[] }])
  fields := #[{ name := "CARD", type := (.object "com/example/naysay/naysay/rules/Key"), accessFlags := 16409, slot := 0, constantValue := 0 }, { name := "CUSTOMER", type := (.object "com/example/naysay/naysay/rules/Key"), accessFlags := 16409, slot := 1, constantValue := 0 }, { name := "MERCHANT", type := (.object "com/example/naysay/naysay/rules/Key"), accessFlags := 16409, slot := 2, constantValue := 0 }, { name := "DEVICE", type := (.object "com/example/naysay/naysay/rules/Key"), accessFlags := 16409, slot := 3, constantValue := 0 }, { name := "IP", type := (.object "com/example/naysay/naysay/rules/Key"), accessFlags := 16409, slot := 4, constantValue := 0 }, { name := "label", type := (.object "java/lang/String"), accessFlags := 18, slot := 3, constantValue := 0 }, { name := "field", type := (.object "com/example/naysay/naysay/rules/Field"), accessFlags := 18, slot := 4, constantValue := 0 }, { name := "$VALUES", type := (.array (.object "com/example/naysay/naysay/rules/Key")), accessFlags := 4122, slot := 5, constantValue := 0 }]
  methods := #[k7m0, k7m1]
  instanceTypes := #[(.object "java/lang/String"), .int, .int, (.object "java/lang/String"), (.object "com/example/naysay/naysay/rules/Field")]
  staticTypes := #[(.object "com/example/naysay/naysay/rules/Key"), (.object "com/example/naysay/naysay/rules/Key"), (.object "com/example/naysay/naysay/rules/Key"), (.object "com/example/naysay/naysay/rules/Key"), (.object "com/example/naysay/naysay/rules/Key"), (.array (.object "com/example/naysay/naysay/rules/Key"))]
  resolved := Array.replicate 143 none
  statics := some 1 }

def pool8 : Array CpInfo := pool [(1, .class_ 2), (0, u "java/lang/Cloneable"), (0, .class_ 4), (0, u "java/lang/Object")] 2

/-- java/lang/Cloneable -/
def k8 : Class := { plain "java/lang/Cloneable" (some 0) with
  accessFlags := 1537
  interfaces := #[]
  cf := some (fileOf pool8 1 #[] #[] 1537 3 #[] #[])
  fields := #[]
  methods := #[]
  instanceTypes := #[]
  staticTypes := #[]
  resolved := Array.replicate 7 none
  statics := none }

/-- the primitive byte -/
def k9 : Class := { plain "byte" none with kind := .primitive 'B', accessFlags := 0x411 }
/-- [B -/
def k10 : Class := { plain "[B" (some 0) with kind := .array 9 .byte, interfaces := #[8, 4], accessFlags := 1041 }

/-- the primitive int -/
def k11 : Class := { plain "int" none with kind := .primitive 'I', accessFlags := 0x411 }
/-- [I -/
def k12 : Class := { plain "[I" (some 0) with kind := .array 11 .int, interfaces := #[8, 4], accessFlags := 1041 }

/-- [Lcom/example/naysay/naysay/rules/Key; -/
def k13 : Class := { plain "[Lcom/example/naysay/naysay/rules/Key;" (some 0) with kind := .array 7 (.object "com/example/naysay/naysay/rules/Key"), interfaces := #[8, 4], accessFlags := 1041 }

def heap : Heap := #[{ cls := 6, slots := #[.ref 3, .ref 21, .ref 18, .ref 14, .ref 9, .ref 10, .ref 11, .ref 17, .ref 12, .ref 13, .ref 20, .ref 19, .ref 15, .ref 16, .null], vm := .statics 6 },
  { cls := 7, slots := #[.ref 4, .ref 5, .ref 6, .ref 7, .ref 8, .ref 2], vm := .statics 7 },
  { cls := 13, slots := #[.ref 4, .ref 5, .ref 6, .ref 7, .ref 8], vm := .none },
  { cls := 6, slots := #[.null, .int 0, .int 0, .null, .null, .null], vm := .none },
  { cls := 7, slots := #[.null, .int 0, .int 0, .null, .ref 9], vm := .none },
  { cls := 7, slots := #[.null, .int 0, .int 0, .null, .ref 10], vm := .none },
  { cls := 7, slots := #[.null, .int 0, .int 0, .null, .ref 11], vm := .none },
  { cls := 7, slots := #[.null, .int 0, .int 0, .null, .ref 12], vm := .none },
  { cls := 7, slots := #[.null, .int 0, .int 0, .null, .ref 13], vm := .none },
  { cls := 6, slots := #[.null, .int 4, .int 0, .null, .null, .null], vm := .none },
  { cls := 6, slots := #[.null, .int 5, .int 0, .null, .null, .null], vm := .none },
  { cls := 6, slots := #[.null, .int 6, .int 0, .null, .null, .null], vm := .none },
  { cls := 6, slots := #[.null, .int 8, .int 0, .null, .null, .null], vm := .none },
  { cls := 6, slots := #[.null, .int 9, .int 0, .null, .null, .null], vm := .none },
  { cls := 6, slots := #[.null, .int 3, .int 0, .null, .null, .null], vm := .none },
  { cls := 6, slots := #[.null, .int 12, .int 0, .null, .null, .null], vm := .none },
  { cls := 6, slots := #[.null, .int 13, .int 0, .null, .null, .null], vm := .none },
  { cls := 6, slots := #[.null, .int 7, .int 0, .null, .null, .null], vm := .none },
  { cls := 6, slots := #[.null, .int 2, .int 0, .null, .null, .null], vm := .none },
  { cls := 6, slots := #[.null, .int 11, .int 0, .null, .null, .null], vm := .none },
  { cls := 6, slots := #[.null, .int 10, .int 0, .null, .null, .null], vm := .none },
  { cls := 6, slots := #[.null, .int 1, .int 0, .null, .null, .null], vm := .none }]
def classes : Array Class := #[k0, k1, k2, k3, k4, k5, k6, k7, k8, k9, k10, k11, k12, k13]
def interned : List (Array UInt16 × Addr) := []
def slotsUsed : Nat := 135
def theMethod : MethodId := ⟨1, 3⟩
def args0 : Array Value := #[.int 4]
def aboutOver (below : List Frame) : State where
  vm := { classes := classes, interned := interned.toArray }
  heap := heap
  slotsUsed := slotsUsed
  threads := #[{ frames := .invoking theMethod args0 :: below }]
def below0 : List Frame := [.native { method := ⟨0, 0⟩, args := #[] }]
def about1 : State := aboutOver below0
def p0 : Program := .bare "" "" ""
def e0 : Env := launch0.env 0 0 0
theorem w_frames : about1.frames = Frame.invoking theMethod args0 :: below0 := rfl
set_option maxRecDepth 65536 in
theorem w_args : argsFit about1.vm theMethod args0 = true := by decide +kernel
set_option maxRecDepth 65536 in
theorem w_heap : heapFits about1 = true := by decide +kernel
set_option maxRecDepth 65536 in
theorem w_runnable : about1.curStatus? = some .runnable := by decide +kernel
set_option maxRecDepth 65536 in
theorem w_alone : about1.alone = true := by decide +kernel
set_option maxRecDepth 65536 in
theorem w_named : about1.methodNamed? x = some theMethod := by decide +kernel
set_option maxRecDepth 65536 in
theorem w_hears : about1.hears theMethod below0 = true := by decide +kernel
set_option maxRecDepth 65536 in
theorem w_ripe : about1.ripe theMethod args0 below0 = true := by decide +kernel
theorem w_running : about1.status = .running := rfl
set_option maxRecDepth 65536 in
theorem w_room : about1.hasRoom e0.platform room_1 = true :=
  launch0.hasRoom_least _ room_1 (by decide +kernel) (by decide +kernel) (by decide +kernel) (by decide +kernel) (by decide +kernel) (by decide +kernel)
theorem allAtoms_all (ts : List Jvm.Cond) (a : Array Jvm.Value) (st : Jvm.State) : (allAtoms ts).before a st = ts.all (fun c => c.before a st) := by
  induction ts with
  | nil => rfl
  | cons c t ih =>
    show (Jvm.Cond.and c (allAtoms t)).before a st = _
    rw [Jvm.Cond.before_and, ih, List.all_cons]
def words1 : List Jvm.Cond := Jvm.Cond.code x code maxLocals ret :: tables_1
/-- a 'code' word, met by the world's own term for the bytes: nothing is compared byte by byte -/
theorem code_word {y : MethodName} {bytes : ByteArray} {mx : Nat} {rt : Option FieldType} {a : Array Value} {s : State} {m : MethodId} {meth : Method} {c : Code} (h1 : s.methodNamed? y = some m) (h2 : s.vm.method? m = some meth) (h3 : meth.code = some c) (h4 : c.code = bytes)
    (h5 : (c.maxLocals == mx && c.exceptionTable.isEmpty && decide (c.maxStack ≤ mostOperands) && decide (meth.sig.returnType = rt) && !meth.locks && decide (parseMethodDescriptor y.desc = some meth.sig)) = true) : (Jvm.Cond.code y bytes mx rt).before a s = true := by
  simp only [Bool.and_eq_true, beq_iff_eq, Bool.not_eq_true', decide_eq_true_eq] at h5
  obtain ⟨⟨⟨⟨⟨g1, g2⟩, g3⟩, g4⟩, g5⟩, g6⟩ := h5
  simp [Cond.before, Cond.holds, Cond.value, h1, h2, h3, h4, g1, g2, g3, g4, g5, g6]
def isCode : Jvm.Cond → Bool
  | .code _ _ _ _ => true
  | _ => false
theorem all_split {L : List Jvm.Cond} {P : Jvm.Cond → Bool} (h1 : L.all (fun c => isCode c || P c) = true) (h2 : ∀ c ∈ L.filter isCode, P c = true) : L.all P = true := by
  refine List.all_eq_true.mpr fun c hc => ?_
  have h := List.all_eq_true.mp h1 c hc
  rcases Bool.eq_false_or_eq_true (isCode c) with hi | hi
  · exact h2 c (List.mem_filter.mpr ⟨hc, hi⟩)
  · simpa [hi] using h
set_option maxRecDepth 65536 in
theorem w_c0 : (Jvm.Cond.code x code maxLocals ret).before args0 about1 = true := code_word (m := ⟨1, 3⟩) (meth := k1m3) (c := k1c3) (by decide +kernel) rfl rfl rfl (by decide +kernel)
set_option maxRecDepth 65536 in
theorem w_c1 : (Jvm.Cond.code ({ cls := "com/example/naysay/naysay/rules/KeyReadingPinLaw", name := "fieldAt", desc := "(I)Lcom/example/naysay/naysay/rules/Field;" } : Jvm.MethodName) method_2_code (1 : Nat) (Option.some (Jvm.ClassFile.FieldType.object "com/example/naysay/naysay/rules/Field"))).before args0 about1 = true := code_word (m := ⟨1, 1⟩) (meth := k1m1) (c := k1c1) (by decide +kernel) rfl rfl rfl (by decide +kernel)
set_option maxRecDepth 65536 in
theorem w_c2 : (Jvm.Cond.code ({ cls := "com/example/naysay/naysay/rules/KeyReadingPinLaw", name := "expectedAt", desc := "(I)Lcom/example/naysay/naysay/rules/Key;" } : Jvm.MethodName) method_3_code (1 : Nat) (Option.some (Jvm.ClassFile.FieldType.object "com/example/naysay/naysay/rules/Key"))).before args0 about1 = true := code_word (m := ⟨1, 2⟩) (meth := k1m2) (c := k1c2) (by decide +kernel) rfl rfl rfl (by decide +kernel)
set_option maxRecDepth 65536 in
theorem w_c3 : (Jvm.Cond.code ({ cls := "com/example/naysay/naysay/rules/Key", name := "reading", desc := "(Lcom/example/naysay/naysay/rules/Field;)Lcom/example/naysay/naysay/rules/Key;" } : Jvm.MethodName) prog_20_method_5_code (6 : Nat) (Option.some (Jvm.ClassFile.FieldType.object "com/example/naysay/naysay/rules/Key"))).before args0 about1 = true := code_word (m := ⟨7, 1⟩) (meth := k7m1) (c := k7c1) (by decide +kernel) rfl rfl rfl (by decide +kernel)
set_option maxRecDepth 65536 in
theorem w_c4 : (Jvm.Cond.code ({ cls := "com/example/naysay/naysay/rules/Key", name := "values", desc := "()[Lcom/example/naysay/naysay/rules/Key;" } : Jvm.MethodName) prog_20_method_1_code (0 : Nat) (Option.some (Jvm.ClassFile.FieldType.array (Jvm.ClassFile.FieldType.object "com/example/naysay/naysay/rules/Key")))).before args0 about1 = true := code_word (m := ⟨7, 0⟩) (meth := k7m0) (c := k7c0) (by decide +kernel) rfl rfl rfl (by decide +kernel)
def codes1 : List Jvm.Cond := [Jvm.Cond.code x code maxLocals ret, Jvm.Cond.code ({ cls := "com/example/naysay/naysay/rules/KeyReadingPinLaw", name := "fieldAt", desc := "(I)Lcom/example/naysay/naysay/rules/Field;" } : Jvm.MethodName) method_2_code (1 : Nat) (Option.some (Jvm.ClassFile.FieldType.object "com/example/naysay/naysay/rules/Field")), Jvm.Cond.code ({ cls := "com/example/naysay/naysay/rules/KeyReadingPinLaw", name := "expectedAt", desc := "(I)Lcom/example/naysay/naysay/rules/Key;" } : Jvm.MethodName) method_3_code (1 : Nat) (Option.some (Jvm.ClassFile.FieldType.object "com/example/naysay/naysay/rules/Key")), Jvm.Cond.code ({ cls := "com/example/naysay/naysay/rules/Key", name := "reading", desc := "(Lcom/example/naysay/naysay/rules/Field;)Lcom/example/naysay/naysay/rules/Key;" } : Jvm.MethodName) prog_20_method_5_code (6 : Nat) (Option.some (Jvm.ClassFile.FieldType.object "com/example/naysay/naysay/rules/Key")), Jvm.Cond.code ({ cls := "com/example/naysay/naysay/rules/Key", name := "values", desc := "()[Lcom/example/naysay/naysay/rules/Key;" } : Jvm.MethodName) prog_20_method_1_code (0 : Nat) (Option.some (Jvm.ClassFile.FieldType.array (Jvm.ClassFile.FieldType.object "com/example/naysay/naysay/rules/Key")))]
set_option maxRecDepth 65536 in
theorem codes_eq : words1.filter isCode = codes1 := rfl
theorem w_codes : ∀ c ∈ words1.filter isCode, c.before args0 about1 = true := by
  rw [codes_eq]
  intro c hc
  simp only [codes1, List.mem_cons, List.not_mem_nil, or_false] at hc
  rcases hc with rfl | rfl | rfl | rfl | rfl
  · exact w_c0
  · exact w_c1
  · exact w_c2
  · exact w_c3
  · exact w_c4
set_option maxRecDepth 65536 in
theorem w_t1 : (words1.take 24).all (fun c => isCode c || c.before args0 about1) = true := by decide +kernel
set_option maxRecDepth 65536 in
theorem w_t2 : ((words1.drop 24).take 24).all (fun c => isCode c || c.before args0 about1) = true := by decide +kernel
set_option maxRecDepth 65536 in
theorem w_t3 : ((words1.drop 24).drop 24).all (fun c => isCode c || c.before args0 about1) = true := by decide +kernel
theorem w_tables : (allAtoms (Jvm.Cond.code x code maxLocals ret :: tables_1)).before args0 about1 = true := by
  rw [allAtoms_all]
  show words1.all (fun c => c.before args0 about1) = true
  refine all_split ?_ w_codes
  rw [← List.take_append_drop 24 words1, List.all_append, w_t1, ← List.take_append_drop 24 (words1.drop 24), List.all_append, w_t2, w_t3]
  rfl
set_option maxRecDepth 65536 in
theorem w_case : (Jvm.Cond.and given_1 narrow_1).before args0 about1 = true := by decide +kernel
theorem w_applies : (headSpec (Jvm.Cond.code x code maxLocals ret :: tables_1) room_1).applies x e0.platform about1 = true :=
  (Spec.applies_iff w_frames).mpr ⟨w_running, w_runnable, w_alone, w_named, w_hears, w_ripe, w_room, w_tables⟩
theorem atStart : AtStart classFile x code maxLocals ret World_1 tables_1 room_1 Calls_1 rest_1 Pre_1 launch0 p0 e0 about1 theMethod args0 below0 :=
  ⟨lists_1, trivial, launch0.admits_env _ _ _, launch0.least_env, fairChoices_fair.cas, fairChoices_fair.clock, w_frames, w_args, w_heap, w_applies, trivial, trivial, w_case⟩
end start1
theorem witness_1 : WitnessClaimed_1 := ⟨start1.p0, start1.e0, start1.about1, start1.theMethod, start1.args0, start1.below0, start1.atStart⟩
end Jvm.Pilot.@@N@@
