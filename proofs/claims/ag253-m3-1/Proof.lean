import JvmDerived
import JvmDerived.Pilot.@@N@@Statement
import JvmDerived.Pilot.@@N@@Code
set_option linter.unusedVariables false
set_option linter.unusedSimpArgs false
namespace Jvm.Pilot.@@N@@
open Jvm Jvm.ClassFile Sem Op Lib Jvm.Free Jvm.Stand Jvm.LawKit Jvm.RoadKit Bundle Jvm.Pilot.@@N@@.Jvm.D

/-- the run that stands at T with the top frame f ends, and its end is as P says -/
def Go (p : Program) (e : Env) (below : List Frame) (P : Outcome → State → Prop) (T : State) (f : JFrame) : Prop :=
  ∃ s₂ o, Steps p.tables e below (T.setTop f) s₂ ∧ s₂.status = .running ∧ Ended s₂ below o ∧ P o s₂
theorem Go.st {p : Program} {e : Env} {below : List Frame} {P : Outcome → State → Prop} {T T' : State} {f f' : JFrame}
    (h : ∀ t, Steps p.tables e below (T'.setTop f') t → Steps p.tables e below (T.setTop f) t) (k : Go p e below P T' f') : Go p e below P T f := by
  obtain ⟨s₂, o, a, b⟩ := k
  exact ⟨s₂, o, h _ a, b⟩
theorem Go.tr {p : Program} {e : Env} {below : List Frame} {P : Outcome → State → Prop} {T T' : State} {f f' : JFrame}
    (h : Steps p.tables e below (T.setTop f) (T'.setTop f')) (k : Go p e below P T' f') : Go p e below P T f := by
  obtain ⟨s₂, o, a, b⟩ := k
  exact ⟨s₂, o, h.trans a, b⟩
/-- what a contract says of the end -/
abbrev Done (s : State) (Q : Option Value → Heap → List Loc → Prop) (C S : Nat) (o : Outcome) (U' : State) : Prop :=
  ∃ v L, o = .returned v ∧ Q v U'.heap L ∧ FrameEnd s o U' L C S
theorem Go.ret {p : Program} {l : Launch} {e : Env} {R : Room} {s : State} {m : MethodId} {args : Array Value} {below : List Frame} {meth : Method} {c : Code} {T : State} {locs : List Loc} {cells slots : Nat} {h : Heap}
    {Q : Option Value → Heap → List Loc → Prop} {C S : Nat} {v : Option Value} {f : JFrame}
    (X : Stand p l e R s m args below meth c T locs cells slots) (hlk : meth.locks = false) (hv : meth.sig.returnType = none → v = none)
    (hs : ∀ fs, (∀ (f : JFrame) (acts : List Action), f.method = m → f.locked = none → f.entered = [] → (doReturn e (T.setTop f) acts v).1 = T.setFrames fs) → Steps p.tables e below (T.setTop f) (T.setFrames fs))
    (eT : T.heap = h) (hQ : Q v h locs) (hc : cells ≤ C) (hl : slots ≤ S) : Go p e below (Done s Q C S) T f := by
  obtain ⟨fs, hr, hrun, hended, hW, hsame⟩ := X.leave (v := v) hv hlk
  refine ⟨_, _, hs fs hr, hrun, hended, v, locs, rfl, ?_, ⟨_, rfl⟩, hW, hsame.mono hc hl⟩
  show Q v T.heap locs
  rw [eT]; exact hQ
theorem Go.retB {p : Program} {l : Launch} {e : Env} {R : Room} {s : State} {m : MethodId} {args : Array Value} {below : List Frame} {meth : Method} {c : Code} {T : State} {locs : List Loc} {cells slots : Nat} {h : Heap}
    {Q : Option Value → Heap → List Loc → Prop} {C S : Nat} {pc : Nat} {Ls : Array Slot} {z : Int32} {rest : List Value} {t : FieldType}
    (X : Stand p l e R s m args below meth c T locs cells slots) (hlk : meth.locks = false) (hx : p.tables.exec = Jvm.exec) (hret : meth.sig.returnType = some t) (ht : t = .boolean ∨ t = .byte ∨ t = .char ∨ t = .short)
    (hd : decode c.code pc = .ok (.ireturn, 1)) (eT : T.heap = h) (hQ : Q (some (.int (nar t z))) h locs) (hc : cells ≤ C) (hl : slots ≤ S) : Go p e below (Done s Q C S) T (mkF m pc Ls (.int z :: rest)) :=
  Go.ret X hlk (fun h => by rw [hret] at h; cases h) (fun _ hr => retN X hx hret ht hd hr) eT hQ hc hl
theorem Go.retV {p : Program} {l : Launch} {e : Env} {R : Room} {s : State} {m : MethodId} {args : Array Value} {below : List Frame} {meth : Method} {c : Code} {T : State} {locs : List Loc} {cells slots : Nat} {h : Heap}
    {Q : Option Value → Heap → List Loc → Prop} {C S : Nat} {pc : Nat} {Ls : Array Slot} {w : Value} {rest : List Value} {t : FieldType} {i : Instr}
    (X : Stand p l e R s m args below meth c T locs cells slots) (hlk : meth.locks = false) (hx : p.tables.exec = Jvm.exec) (hret : meth.sig.returnType = some t) (hn : narrow t w = w)
    (hi : (i = .ireturn ∧ (t = .int ∨ t = .boolean ∨ t = .byte ∨ t = .char ∨ t = .short) ∧ ∃ z, w = .int z) ∨ (i = .lreturn ∧ t = .long ∧ ∃ z, w = .long z) ∨ (i = .dreturn ∧ t = .double ∧ ∃ z, w = .double z) ∨ (i = .freturn ∧ t = .float ∧ ∃ z, w = .float z) ∨ (i = .areturn ∧ t.isReference = true ∧ w.isRef = true))
    (hd : decode c.code pc = .ok (i, 1)) (eT : T.heap = h) (hQ : Q (some w) h locs) (hc : cells ≤ C) (hl : slots ≤ S) : Go p e below (Done s Q C S) T (mkF m pc Ls (w :: rest)) :=
  Go.ret X hlk (fun h => by rw [hret] at h; cases h) (fun _ hr => retOut X hx hret hn hi hd hr) eT hQ hc hl
theorem Go.ret0 {p : Program} {l : Launch} {e : Env} {R : Room} {s : State} {m : MethodId} {args : Array Value} {below : List Frame} {meth : Method} {c : Code} {T : State} {locs : List Loc} {cells slots : Nat} {h : Heap}
    {Q : Option Value → Heap → List Loc → Prop} {C S : Nat} {pc : Nat} {Ls : Array Slot}
    (X : Stand p l e R s m args below meth c T locs cells slots) (hlk : meth.locks = false) (hx : p.tables.exec = Jvm.exec) (hret : meth.sig.returnType = none)
    (hd : decode c.code pc = .ok (.return_, 1)) (eT : T.heap = h) (hQ : Q none h locs) (hc : cells ≤ C) (hl : slots ≤ S) : Go p e below (Done s Q C S) T (mkF m pc Ls []) :=
  Go.ret X hlk (fun _ => rfl) (fun _ hr => X.returnOut hx hret hd hr) eT hQ hc hl
/-- an entry that stands resolved stays so, also where String constants are loaded -/
theorem own_fieldRef {Z : State} {vm1 : Vm} {a0 : Array Value} {own O n d : String} {index : Nat} (hW : Z.Warmed39 vm1) (w : (Cond.fieldRef own index O n d).before a0 Z = true) : (Cond.fieldRef own index O n d).before a0 (Z.setVm vm1) = true := by
  simp only [Cond.before, Cond.holds, Cond.value, State.vm_setVm, hW.alike.findClass, State.names_setVm hW.alike] at w ⊢
  cases q1 : Z.vm.findClass own with
  | none => rw [q1] at w; simp at w
  | some cO =>
    cases q2 : Z.fieldFound? O n d with
    | none => rw [q1, q2] at w; simp at w
    | some z =>
      obtain ⟨c1, k1, i1, f1⟩ := z
      obtain ⟨k2, q3, -⟩ := State.fieldFound?_setVm hW.alike q2
      rw [q1, q2] at w
      rw [q3]
      cases q4 : Z.resolvedAt? own index with
      | none => rw [q4] at w; simp at w
      | some r => rw [State.resolvedAt?_warmed39 hW q4]; rw [q4] at w; exact w
/-- getfield through an entry that stands resolved at the start (the word fieldRef) -/
theorem own_getR {p : Program} {l : Launch} {e : Env} {R : Room} {s : State} {m : MethodId} {args : Array Value} {below : List Frame} {meth : Method} {c : Code} {T : State} {locs : List Loc} {cells slots : Nat} {Z : State} {a0 : Array Value} {h : Heap}
    (X : Stand p l e R s m args below meth c T locs cells slots) (hx : p.tables.exec = Jvm.exec) (hZ : Z.Warmed39 s.vm) {own O n d : String} {index : Nat} (hown : s.vm.findClass own = some m.cls) (w : (Cond.fieldRef own index O n d).before a0 Z = true)
    (eT : T.heap = h) {a : Addr} {v : Value} (F : Fld Z h a O n d v) {g : JFrame} (hg : g.method = m) {rest : List Value} (hs : g.stack = .ref a :: rest) (hd : decode c.code g.pc = .ok (.getfield index, 3)) :
    ∃ T', Stand p l e R s m args below meth c T' locs cells slots ∧ T'.heap = h ∧ ∀ target, Steps p.tables e below (T'.setTop { g with pc := g.pc + 3, stack := v :: rest }) target → Steps p.tables e below (T.setTop g) target := by
  obtain ⟨cell, cf, k, i, f, h1, h2, h3, h4, -, -, h7⟩ := F
  have w1 : (Cond.fieldRef own index O n d).before args s = true := (own_fieldRef hZ w : (Cond.fieldRef own index O n d).before a0 (Z.setVm s.vm) = true)
  have w2 := Cond.fieldRef_warmed X.warmed w1
  obtain ⟨k1, r1, -⟩ := State.fieldFound?_setVm (s := Z) hZ.alike h2
  obtain ⟨k2, r2, -⟩ := State.fieldFound?_setVm (s := s) X.warmed.alike (show s.fieldFound? O n d = _ from r1)
  obtain ⟨c', k', i', f', q1, q2⟩ := Cond.fieldRef_spec (s := s.setVm T.vm) (cur := m.cls) (by rw [State.vm_setVm, X.warmed.alike.findClass]; exact hown) w2
  cases q1.symm.trans r2
  exact ⟨T, X, eT, fun target k => (X.getfieldR hx hg q2 h3 hs (by rw [eT]; exact h1) h4 h7 hd (Steps.refl _)).trans k⟩
/-- the form of every contract here -/
def Con (l : Launch) (Z : State) (y : MethodName) (bytes : ByteArray) (ml : Nat) (ret : Option FieldType) (ws : List Jvm.Cond) (room : Room) (A : Array Value) (h0 : Heap) (Q : Option Value → Heap → List Loc → Prop) : Prop :=
  MetFree l y (head1 (Jvm.Cond.code y bytes ml ret :: ws) room) (fun a U => a = A ∧ Z.Warmed39 U.vm ∧ U.heap = h0) (fun _ _ _ _ _ => True) (fun _ U o U' => ∃ v L, o = .returned v ∧ Q v U'.heap L ∧ FrameEnd U o U' L room.cells room.slots)
theorem own_body {l : Launch} {Z : State} {y : MethodName} {bytes : ByteArray} {ml : Nat} {ret : Option FieldType} {ws : List Jvm.Cond} {room : Room} {A : Array Value} {h0 : Heap} {Q : Option Value → Heap → List Loc → Prop} (hpn : plainFor y = true)
    (body : ∀ (p : Program) (e : Env) (s : State) (m : MethodId) (below : List Frame) (meth : Method) (c : Code) (s₁ : State), p.tables.exec = Jvm.exec → c.code = bytes → c.maxLocals = ml → Z.Warmed39 s.vm → s.vm.findClass y.cls = some m.cls → meth.name = y.name → meth.locks = false → meth.sig.returnType = ret →
      Stand p l e room s m A below meth c s₁ [] 0 0 → s₁.heap = h0 → Go p e below (Done s Q room.cells room.slots) s₁ (entryFrame m A ml)) : Con l Z y bytes ml ret ws room A h0 Q := by
  refine MetFree.of_bodySF hpn hisR ?_
  intro p e s m args below meth c s₁ Bd hml0 hP hK
  obtain ⟨rfl, hZ, hh⟩ := hP
  exact body p e s m below meth c s₁ Bd.exec Bd.bytes hml0 hZ (findClass_of_methodNamed Bd.named) (name_of_methodNamed Bd.named Bd.method).1 Bd.notSynchronized Bd.returns (Stand.of_body Bd) (by rw [← hh, Bd.state]; rfl)
theorem own_back {l : Launch} {R : Room} {p : Program} {e : Env} {below : List Frame} {s Z : State} {args a0 : Array Value} {h : Heap} {y : MethodName} {bytes : ByteArray} {maxL : Nat} {ret : Option FieldType} {rm : Room} {len W : Nat} {as' : Array Value} {Q : Option Value → Heap → List Loc → Prop}
    (hM : Con l Z y bytes maxL ret [] rm as' h Q) (hZ : Z.Warmed39 s.vm) (wc : (Cond.code y bytes maxL ret).before a0 Z = true) (wz : (Cond.initialized y.cls).before a0 Z = true) (hf : rm.frames + 1 ≤ R.frames) (hl : W + (maxL + 11) + rm.locals ≤ R.locals) :
    Back l R p e below s args y len W (fun A a => a = as' ∧ A.U.heap = h ∧ A.cells + rm.cells ≤ R.cells ∧ A.slots + rm.slots ≤ R.slots)
      (fun A _ v B => ∃ L, Q v B.U.heap L ∧ B.locs = A.locs ++ L ∧ B.cells = A.cells + rm.cells ∧ B.slots = A.slots + rm.slots) := backOf (Q := Q) hM hZ wc wz hf hl
theorem Con.weaken {l : Launch} {Z : State} {y : MethodName} {bytes : ByteArray} {ml : Nat} {ret : Option FieldType} {ws : List Jvm.Cond} {room : Room} {A : Array Value} {h0 : Heap} {Q Q' : Option Value → Heap → List Loc → Prop} (h : Con l Z y bytes ml ret ws room A h0 Q) (hq : ∀ v h L, Q v h L → Q' v h L) : Con l Z y bytes ml ret ws room A h0 Q' := fun p e h1 h2 h3 s m args below hf happ hP hK => by
  obtain ⟨n, o, a, b, c, v, L, d, e, f⟩ := h p e h1 h2 h3 s m args below hf happ hP hK
  exact ⟨n, o, a, b, c, v, L, d, hq _ _ _ e, f⟩
theorem own_cat {v : Value} (h : v.isRef = true) : v.category = 1 := by cases v <;> first | rfl | (simp [Value.isRef] at h)
theorem acYes {c : ClassFile.ACond} {x y : Value} (h : x = y) : acV c (decide (x = y)) = acV c true := by rw [decide_eq_true h]

theorem own_weaken {l : Launch} {x : MethodName} {S : Spec} {P : Array Value → State → Prop} {K : Program → Env → List Frame → State → Array Value → Prop} {Q Q' : Array Value → State → Outcome → State → Prop} (h : MetFree l x S P K Q) (hq : ∀ a s o t, Q a s o t → Q' a s o t) : MetFree l x S P K Q' := fun p e h1 h2 h3 s m args below hf happ hP hK => by
  obtain ⟨n, o, a, b, c, d⟩ := h p e h1 h2 h3 s m args below hf happ hP hK
  exact ⟨n, o, a, b, c, hq _ _ _ _ d⟩
section Start
variable {args : Array Value} {first s : State} {o : Option Outcome} {idx : List Nat} {t u : Term}
theorem own_eq_int {k : Int32} (h : (Jvm.Cond.eq t (.int k)).value args first o s idx = some true) : t.eval args first o idx s = some (.int k) := by
  simp only [Cond.value, Term.eval] at h
  cases ht : t.eval args first o idx s with
  | none => simp [ht] at h
  | some x => cases x <;> simp [ht] at h ⊢ <;> exact h
theorem own_eq_ref {a : Addr} (h : (Jvm.Cond.eq t u).value args first o s idx = some true) (hu : u.eval args first o idx s = some (.ref a)) : t.eval args first o idx s = some (.ref a) := by
  simp only [Cond.value] at h
  rw [hu] at h
  cases ht : t.eval args first o idx s with
  | none => simp [ht] at h
  | some x => cases x <;> simp [ht] at h ⊢ <;> exact h
theorem own_len {a : Addr} {cl : Cell} {z : Int32} (h : (Term.length t).eval args first o idx s = some (.int z)) (ht : t.eval args first o idx s = some (.ref a)) (hc : s.heap[a]? = some cl) : cl.slots.size < 2 ^ 31 ∧ cl.slots.size.toInt32 = z := by
  obtain ⟨a', cell, e1, e2, e3⟩ := Term.length_spec h
  cases ht.symm.trans e1
  have e4 := (State.arrayAt?_spec e2).1
  cases hc.symm.trans e4
  refine ⟨?_, (Value.int.inj e3).symm⟩
  by_cases hn : cl.slots.size < 2147483648
  · exact hn
  · simp only [Term.eval, Option.bind_eq_bind, ht, Option.bind_some, e2] at h
    rw [if_neg hn] at h; cases h
theorem own_ne_int {z : Int32} (h : (Jvm.Cond.not (Jvm.Cond.eq t (.int 0))).value args first o s idx = some true) (ht : t.eval args first o idx s = some (.int z)) : ¬ z = 0 := by
  have h1 := not_v h
  intro e
  subst e
  simp [Cond.value, Term.eval, ht] at h1
theorem own_fld {a : Addr} {C n d : String} {k : Int32} (h : (Jvm.Cond.eq (Term.field t C n d) (.int k)).value args s none s [] = some true) (ht : t.eval args s none [] s = some (.ref a)) : Fld s s.heap a C n d (.int k) :=
  Fld.start (by rw [← fld_at ht]; exact own_eq_int h)
theorem own_elem {a : Addr} {cl : Cell} {w : Addr} {j : Int32} {i : Nat} (h : (Jvm.Cond.eq (Term.elem t (.int j)) u).value args s none s [] = some true) (hu : u.eval args s none [] s = some (.ref w)) (ht : t.eval args s none [] s = some (.ref a)) (hc : s.heap[a]? = some cl) (hj : j.toNatClampNeg = i) : cl.slots[i]? = some (.ref w) := by
  subst hj
  exact (elem_in (own_eq_ref h hu) ht rfl hc).2
end Start

def World1 (Z : State) (w_WARNING : Addr) (i_COMPACT_STRINGS : Int32) (v_SIOOBE_FORMATTER : Value) : Prop :=
  Sta Z Z.heap "java/lang/String" "COMPACT_STRINGS" "Z" (.int i_COMPACT_STRINGS) ∧
  ¬ i_COMPACT_STRINGS = (0 : Int32) ∧
  Sta Z Z.heap "jdk/internal/util/Preconditions" "SIOOBE_FORMATTER" "Ljava/util/function/BiFunction;" v_SIOOBE_FORMATTER ∧
  v_SIOOBE_FORMATTER.isRef = true ∧
  Sta Z Z.heap "com/example/lapwing/lapwing/profile/RuleViolation$Severity" "WARNING" "Lcom/example/lapwing/lapwing/profile/RuleViolation$Severity;" (.ref w_WARNING) ∧
  Exa Z Z.heap w_WARNING "com/example/lapwing/lapwing/profile/RuleViolation$Severity"
theorem pn_java_lang_StringUTF16 : plainName "java/lang/StringUTF16" = true := by first | (simp [plainName, overriddenIn]; done) | decide +kernel
theorem d5_0 : decode jdk_52_method_21_code 0 = .ok (.iconst 0, 1) := by decide +kernel
theorem d5_1 : decode jdk_52_method_21_code 1 = .ok (.istore 5, 2) := by decide +kernel
theorem d5_3 : decode jdk_52_method_21_code 3 = .ok (.iload 5, 2) := by decide +kernel
theorem d5_5 : decode jdk_52_method_21_code 5 = .ok (.iload 4, 2) := by decide +kernel
theorem d5_7 : decode jdk_52_method_21_code 7 = .ok (.if_icmp .ge 37, 3) := by decide +kernel
theorem d5_10 : decode jdk_52_method_21_code 10 = .ok (.aload_n 0, 1) := by decide +kernel
theorem d5_11 : decode jdk_52_method_21_code 11 = .ok (.iload_n 1, 1) := by decide +kernel
theorem d5_12 : decode jdk_52_method_21_code 12 = .ok (.caload, 1) := by decide +kernel
theorem d5_13 : decode jdk_52_method_21_code 13 = .ok (.istore 6, 2) := by decide +kernel
theorem d5_15 : decode jdk_52_method_21_code 15 = .ok (.iload 6, 2) := by decide +kernel
theorem d5_17 : decode jdk_52_method_21_code 17 = .ok (.sipush 255, 3) := by decide +kernel
theorem d5_20 : decode jdk_52_method_21_code 20 = .ok (.if_icmp .le 6, 3) := by decide +kernel
theorem d5_26 : decode jdk_52_method_21_code 26 = .ok (.aload_n 2, 1) := by decide +kernel
theorem d5_27 : decode jdk_52_method_21_code 27 = .ok (.iload_n 3, 1) := by decide +kernel
theorem d5_28 : decode jdk_52_method_21_code 28 = .ok (.iload 6, 2) := by decide +kernel
theorem d5_30 : decode jdk_52_method_21_code 30 = .ok (.i2b, 1) := by decide +kernel
theorem d5_31 : decode jdk_52_method_21_code 31 = .ok (.bastore, 1) := by decide +kernel
theorem d5_32 : decode jdk_52_method_21_code 32 = .ok (.iinc 1 1, 3) := by decide +kernel
theorem d5_35 : decode jdk_52_method_21_code 35 = .ok (.iinc 3 1, 3) := by decide +kernel
theorem d5_38 : decode jdk_52_method_21_code 38 = .ok (.iinc 5 1, 3) := by decide +kernel
theorem d5_41 : decode jdk_52_method_21_code 41 = .ok (.goto (-38), 3) := by decide +kernel
theorem d5_44 : decode jdk_52_method_21_code 44 = .ok (.iload 4, 2) := by decide +kernel
theorem d5_46 : decode jdk_52_method_21_code 46 = .ok (.ireturn, 1) := by decide +kernel
set_option maxRecDepth 65536 in
set_option maxHeartbeats 40000000 in
theorem st5_2 (l : Launch) (Z : State) (a0 : Array Value) (hw : ∀ d ∈ tables_1, d.before a0 Z = true) (ws : List Jvm.Cond) (a2 : Addr) (k2 : ClassId) (a1 : Addr) (k1 : ClassId) (c0 : Int32) (c1 : Int32) (h0 : Heap) (n0 : Nat) (O0 : Old Z n0 h0) (hc_c0 : ¬ (255 : Int32) < c0) (hc_c1 : ¬ (255 : Int32) < c1) (ne12 : a1 ≠ a2) (g_a2 : n0 ≤ a2) (V_a1 : Arv Z h0 a1 k1 .char (2 : Int32) [(.int c0), (.int c1)] (.int 0)) (V_a2 : Arv Z h0 a2 k2 .byte (2 : Int32) [(.int 0), (.int 0)] (.int 0)) :
    Con l Z (⟨"java/lang/StringUTF16", "compress", "([CI[BII)I"⟩ : MethodName) jdk_52_method_21_code 7 (some .int) ws ({ frames := 0, cells := 0, slots := 0, locals := 0 } : Room) #[(.ref a1), (.int 0), (.ref a2), (.int 0), (.int 2)] h0 (fun v h L => v = some (.int 2) ∧ Fr n0 L ∧ Keep h0 h [a2] ∧ Arv Z h a2 k2 .byte (2 : Int32) [(.int (nar .byte (c0.toInt8.toInt32))), (.int (nar .byte (c1.toInt8.toInt32)))] (.int 0)) := by
  refine own_body (plainFor_of_name pn_java_lang_StringUTF16) ?_
  intro p e s m below meth c s₁ hx hby hml hZ hown hnm hlk hret X0 e0
  have N0 := Fr.nil n0
  have K0 : Keep h0 h0 [a2] := Keep.refl _ _
  refine Go.st (T' := s₁) (f' := (mkF m 0 #[rv a1, iv 0, rv a2, iv 0, iv 2, .unset, .unset] [])) (fun _ k => castTop (by first | (simp [entryFrame, mkF, argsToLocals, Value.category]; done) | rfl) k) ?_
  have lt_a1 := V_a1.lt
  have lt_a2 := V_a2.lt
  refine Go.st (f' := (mkF m 1 #[rv a1, iv 0, rv a2, iv 0, iv 2, .unset, .unset] [(.int 0)])) (fun _ k => XS.iconst X0.here hx rfl (hb hby d5_0) k) ?_
  refine Go.st (f' := (mkF m 3 #[rv a1, iv 0, rv a2, iv 0, iv 2, iv 0, .unset] [])) (fun _ k => XS.istore X0.here hx rfl (hb hby d5_1) rfl (l' := #[rv a1, iv 0, rv a2, iv 0, iv 2, iv 0, .unset]) rfl k) ?_
  refine Go.st (f' := (mkF m 5 #[rv a1, iv 0, rv a2, iv 0, iv 2, iv 0, .unset] [(.int 0)])) (fun _ k => XS.iload X0.here hx rfl (hb hby d5_3) rfl k) ?_
  refine Go.st (f' := (mkF m 7 #[rv a1, iv 0, rv a2, iv 0, iv 2, iv 0, .unset] [(.int 2), (.int 0)])) (fun _ k => XS.iload X0.here hx rfl (hb hby d5_5) rfl k) ?_
  refine Go.st (f' := (mkF m 10 #[rv a1, iv 0, rv a2, iv 0, iv 2, iv 0, .unset] [])) (fun _ k => XS.icmpNo X0.here hx rfl (hb hby d5_7) rfl (by decide) k) ?_
  refine Go.st (f' := (mkF m 11 #[rv a1, iv 0, rv a2, iv 0, iv 2, iv 0, .unset] [(.ref a1)])) (fun _ k => XS.aloadN X0.here hx rfl (hb hby d5_10) rfl rfl k) ?_
  refine Go.st (f' := (mkF m 12 #[rv a1, iv 0, rv a2, iv 0, iv 2, iv 0, .unset] [(.int 0), (.ref a1)])) (fun _ k => XS.iloadN X0.here hx rfl (hb hby d5_11) rfl k) ?_
  obtain ⟨cl1, Ar1, -, S1, -, H1, -⟩ := id V_a1
  have hin1 : ¬ ((0 : Int32) < 0 ∨ cl1.slots.size ≤ ((0 : Int32)).toNatClampNeg) := inb_of S1 ⟨by decide, by decide⟩
  have hat1 : cl1.slots[((0 : Int32)).toNatClampNeg]? = some (.int c0) := H1.at hin1 rfl
  refine Go.st (f' := (mkF m 13 #[rv a1, iv 0, rv a2, iv 0, iv 2, iv 0, .unset] [(.int c0)])) (fun _ k => X0.caload hx (j := (0 : Int32)) (v := (.int c0)) (by rw [e0]; exact Ar1.1) (State.isArrayOf_alike hZ.alike Ar1.2.1) Ar1.2.2 hin1 hat1 (g := (mkF m 12 #[rv a1, iv 0, rv a2, iv 0, iv 2, iv 0, .unset] [(.int 0), (.ref a1)])) rfl rfl (hb hby d5_12) _ k) ?_
  refine Go.st (f' := (mkF m 15 #[rv a1, iv 0, rv a2, iv 0, iv 2, iv 0, iv c0] [])) (fun _ k => XS.istore X0.here hx rfl (hb hby d5_13) rfl (l' := #[rv a1, iv 0, rv a2, iv 0, iv 2, iv 0, iv c0]) rfl k) ?_
  refine Go.st (f' := (mkF m 17 #[rv a1, iv 0, rv a2, iv 0, iv 2, iv 0, iv c0] [(.int c0)])) (fun _ k => XS.iload X0.here hx rfl (hb hby d5_15) rfl k) ?_
  refine Go.st (f' := (mkF m 20 #[rv a1, iv 0, rv a2, iv 0, iv 2, iv 0, iv c0] [(.int 255), (.int c0)])) (fun _ k => XS.sipush X0.here hx rfl (hb hby d5_17) k) ?_
  refine Go.st (f' := (mkF m 26 #[rv a1, iv 0, rv a2, iv 0, iv 2, iv 0, iv c0] [])) (fun _ k => XS.icmpYes X0.here hx rfl (pc0 := 20) (pc' := 26) rfl (hb hby d5_20) rfl (flt hc_c0).2.2.2 (by decide) (by decide) k) ?_
  refine Go.st (f' := (mkF m 27 #[rv a1, iv 0, rv a2, iv 0, iv 2, iv 0, iv c0] [(.ref a2)])) (fun _ k => XS.aloadN X0.here hx rfl (hb hby d5_26) rfl rfl k) ?_
  refine Go.st (f' := (mkF m 28 #[rv a1, iv 0, rv a2, iv 0, iv 2, iv 0, iv c0] [(.int 0), (.ref a2)])) (fun _ k => XS.iloadN X0.here hx rfl (hb hby d5_27) rfl k) ?_
  refine Go.st (f' := (mkF m 30 #[rv a1, iv 0, rv a2, iv 0, iv 2, iv 0, iv c0] [(.int c0), (.int 0), (.ref a2)])) (fun _ k => XS.iload X0.here hx rfl (hb hby d5_28) rfl k) ?_
  refine Go.st (f' := (mkF m 31 #[rv a1, iv 0, rv a2, iv 0, iv 2, iv 0, iv c0] [(.int (c0.toInt8.toInt32)), (.int 0), (.ref a2)])) (fun _ k => XS.i2b X0.here hx rfl (hb hby d5_30) rfl k) ?_
  obtain ⟨cl2, Ar2, q2, S2, Nx2, H2, G2⟩ := id V_a2
  have hin2 : ¬ ((0 : Int32) < 0 ∨ cl2.slots.size ≤ ((0 : Int32)).toNatClampNeg) := inb_of S2 ⟨by decide, by decide⟩
  obtain ⟨T3, h3, X3, e3, W3, st3⟩ := stB X0 hx hZ e0 Ar2 (j := (0 : Int32)) hin2 (g := (mkF m 31 #[rv a1, iv 0, rv a2, iv 0, iv 2, iv 0, iv c0] [(.int (c0.toInt8.toInt32)), (.int 0), (.ref a2)])) rfl rfl (hb hby d5_31)
  have V_a2_3 : Arv Z h3 a2 k2 .byte (2 : Int32) [(.int (nar .byte (c0.toInt8.toInt32))), (.int (0 : Int32))] (.int (0 : Int32)) := Arv.set Ar2 q2 S2 Nx2 H2 G2 (fits_nar_byte _) W3 0 rfl (Nat.le_of_ble_eq_true rfl)
  have N3 := Fr.snoc X3 N0 g_a2
  have O3 : Old Z n0 h3 := O0.wr W3 g_a2
  have K3 : Keep h0 h3 [a2] := K0.wr W3 (Or.inl (List.mem_of_getElem? (i := 0) rfl))
  refine Go.st (f' := (mkF m 32 #[rv a1, iv 0, rv a2, iv 0, iv 2, iv 0, iv c0] [])) (fun _ k => st3 _ k) ?_
  refine Go.st (f' := (mkF m 35 #[rv a1, iv 1, rv a2, iv 0, iv 2, iv 0, iv c0] [])) (fun _ k => XS.iinc X3.here hx rfl (hb hby d5_32) rfl (l' := #[rv a1, iv 1, rv a2, iv 0, iv 2, iv 0, iv c0]) rfl k) ?_
  refine Go.st (f' := (mkF m 38 #[rv a1, iv 1, rv a2, iv 1, iv 2, iv 0, iv c0] [])) (fun _ k => XS.iinc X3.here hx rfl (hb hby d5_35) rfl (l' := #[rv a1, iv 1, rv a2, iv 1, iv 2, iv 0, iv c0]) rfl k) ?_
  refine Go.st (f' := (mkF m 41 #[rv a1, iv 1, rv a2, iv 1, iv 2, iv 1, iv c0] [])) (fun _ k => XS.iinc X3.here hx rfl (hb hby d5_38) rfl (l' := #[rv a1, iv 1, rv a2, iv 1, iv 2, iv 1, iv c0]) rfl k) ?_
  refine Go.st (f' := (mkF m 3 #[rv a1, iv 1, rv a2, iv 1, iv 2, iv 1, iv c0] [])) (fun _ k => XS.goto X3.here hx rfl (pc0 := 41) (pc' := 3) rfl (hb hby d5_41) (by decide) (by decide) k) ?_
  refine Go.st (f' := (mkF m 5 #[rv a1, iv 1, rv a2, iv 1, iv 2, iv 1, iv c0] [(.int 1)])) (fun _ k => XS.iload X3.here hx rfl (hb hby d5_3) rfl k) ?_
  refine Go.st (f' := (mkF m 7 #[rv a1, iv 1, rv a2, iv 1, iv 2, iv 1, iv c0] [(.int 2), (.int 1)])) (fun _ k => XS.iload X3.here hx rfl (hb hby d5_5) rfl k) ?_
  refine Go.st (f' := (mkF m 10 #[rv a1, iv 1, rv a2, iv 1, iv 2, iv 1, iv c0] [])) (fun _ k => XS.icmpNo X3.here hx rfl (hb hby d5_7) rfl (by decide) k) ?_
  refine Go.st (f' := (mkF m 11 #[rv a1, iv 1, rv a2, iv 1, iv 2, iv 1, iv c0] [(.ref a1)])) (fun _ k => XS.aloadN X3.here hx rfl (hb hby d5_10) rfl rfl k) ?_
  refine Go.st (f' := (mkF m 12 #[rv a1, iv 1, rv a2, iv 1, iv 2, iv 1, iv c0] [(.int 1), (.ref a1)])) (fun _ k => XS.iloadN X3.here hx rfl (hb hby d5_11) rfl k) ?_
  have ft5 := (V_a1.other W3 ne12)
  obtain ⟨cl4, Ar4, -, S4, -, H4, -⟩ := id ft5
  have hin4 : ¬ ((1 : Int32) < 0 ∨ cl4.slots.size ≤ ((1 : Int32)).toNatClampNeg) := inb_of S4 ⟨by decide, by decide⟩
  have hat4 : cl4.slots[((1 : Int32)).toNatClampNeg]? = some (.int c1) := H4.at hin4 rfl
  refine Go.st (f' := (mkF m 13 #[rv a1, iv 1, rv a2, iv 1, iv 2, iv 1, iv c0] [(.int c1)])) (fun _ k => X3.caload hx (j := (1 : Int32)) (v := (.int c1)) (by rw [e3]; exact Ar4.1) (State.isArrayOf_alike hZ.alike Ar4.2.1) Ar4.2.2 hin4 hat4 (g := (mkF m 12 #[rv a1, iv 1, rv a2, iv 1, iv 2, iv 1, iv c0] [(.int 1), (.ref a1)])) rfl rfl (hb hby d5_12) _ k) ?_
  refine Go.st (f' := (mkF m 15 #[rv a1, iv 1, rv a2, iv 1, iv 2, iv 1, iv c1] [])) (fun _ k => XS.istore X3.here hx rfl (hb hby d5_13) rfl (l' := #[rv a1, iv 1, rv a2, iv 1, iv 2, iv 1, iv c1]) rfl k) ?_
  refine Go.st (f' := (mkF m 17 #[rv a1, iv 1, rv a2, iv 1, iv 2, iv 1, iv c1] [(.int c1)])) (fun _ k => XS.iload X3.here hx rfl (hb hby d5_15) rfl k) ?_
  refine Go.st (f' := (mkF m 20 #[rv a1, iv 1, rv a2, iv 1, iv 2, iv 1, iv c1] [(.int 255), (.int c1)])) (fun _ k => XS.sipush X3.here hx rfl (hb hby d5_17) k) ?_
  refine Go.st (f' := (mkF m 26 #[rv a1, iv 1, rv a2, iv 1, iv 2, iv 1, iv c1] [])) (fun _ k => XS.icmpYes X3.here hx rfl (pc0 := 20) (pc' := 26) rfl (hb hby d5_20) rfl (flt hc_c1).2.2.2 (by decide) (by decide) k) ?_
  refine Go.st (f' := (mkF m 27 #[rv a1, iv 1, rv a2, iv 1, iv 2, iv 1, iv c1] [(.ref a2)])) (fun _ k => XS.aloadN X3.here hx rfl (hb hby d5_26) rfl rfl k) ?_
  refine Go.st (f' := (mkF m 28 #[rv a1, iv 1, rv a2, iv 1, iv 2, iv 1, iv c1] [(.int 1), (.ref a2)])) (fun _ k => XS.iloadN X3.here hx rfl (hb hby d5_27) rfl k) ?_
  refine Go.st (f' := (mkF m 30 #[rv a1, iv 1, rv a2, iv 1, iv 2, iv 1, iv c1] [(.int c1), (.int 1), (.ref a2)])) (fun _ k => XS.iload X3.here hx rfl (hb hby d5_28) rfl k) ?_
  refine Go.st (f' := (mkF m 31 #[rv a1, iv 1, rv a2, iv 1, iv 2, iv 1, iv c1] [(.int (c1.toInt8.toInt32)), (.int 1), (.ref a2)])) (fun _ k => XS.i2b X3.here hx rfl (hb hby d5_30) rfl k) ?_
  obtain ⟨cl6, Ar6, q6, S6, Nx6, H6, G6⟩ := id V_a2_3
  have hin6 : ¬ ((1 : Int32) < 0 ∨ cl6.slots.size ≤ ((1 : Int32)).toNatClampNeg) := inb_of S6 ⟨by decide, by decide⟩
  obtain ⟨T7, h7, X7, e7, W7, st7⟩ := stB X3 hx hZ e3 Ar6 (j := (1 : Int32)) hin6 (g := (mkF m 31 #[rv a1, iv 1, rv a2, iv 1, iv 2, iv 1, iv c1] [(.int (c1.toInt8.toInt32)), (.int 1), (.ref a2)])) rfl rfl (hb hby d5_31)
  have V_a2_7 : Arv Z h7 a2 k2 .byte (2 : Int32) [(.int (nar .byte (c0.toInt8.toInt32))), (.int (nar .byte (c1.toInt8.toInt32)))] (.int (0 : Int32)) := Arv.set Ar6 q6 S6 Nx6 H6 G6 (fits_nar_byte _) W7 1 rfl (Nat.le_of_ble_eq_true rfl)
  have N7 := Fr.snoc X7 N3 g_a2
  have O7 : Old Z n0 h7 := O3.wr W7 g_a2
  have K7 : Keep h0 h7 [a2] := K3.wr W7 (Or.inl (List.mem_of_getElem? (i := 0) rfl))
  refine Go.st (f' := (mkF m 32 #[rv a1, iv 1, rv a2, iv 1, iv 2, iv 1, iv c1] [])) (fun _ k => st7 _ k) ?_
  refine Go.st (f' := (mkF m 35 #[rv a1, iv 2, rv a2, iv 1, iv 2, iv 1, iv c1] [])) (fun _ k => XS.iinc X7.here hx rfl (hb hby d5_32) rfl (l' := #[rv a1, iv 2, rv a2, iv 1, iv 2, iv 1, iv c1]) rfl k) ?_
  refine Go.st (f' := (mkF m 38 #[rv a1, iv 2, rv a2, iv 2, iv 2, iv 1, iv c1] [])) (fun _ k => XS.iinc X7.here hx rfl (hb hby d5_35) rfl (l' := #[rv a1, iv 2, rv a2, iv 2, iv 2, iv 1, iv c1]) rfl k) ?_
  refine Go.st (f' := (mkF m 41 #[rv a1, iv 2, rv a2, iv 2, iv 2, iv 2, iv c1] [])) (fun _ k => XS.iinc X7.here hx rfl (hb hby d5_38) rfl (l' := #[rv a1, iv 2, rv a2, iv 2, iv 2, iv 2, iv c1]) rfl k) ?_
  refine Go.st (f' := (mkF m 3 #[rv a1, iv 2, rv a2, iv 2, iv 2, iv 2, iv c1] [])) (fun _ k => XS.goto X7.here hx rfl (pc0 := 41) (pc' := 3) rfl (hb hby d5_41) (by decide) (by decide) k) ?_
  refine Go.st (f' := (mkF m 5 #[rv a1, iv 2, rv a2, iv 2, iv 2, iv 2, iv c1] [(.int 2)])) (fun _ k => XS.iload X7.here hx rfl (hb hby d5_3) rfl k) ?_
  refine Go.st (f' := (mkF m 7 #[rv a1, iv 2, rv a2, iv 2, iv 2, iv 2, iv c1] [(.int 2), (.int 2)])) (fun _ k => XS.iload X7.here hx rfl (hb hby d5_5) rfl k) ?_
  refine Go.st (f' := (mkF m 44 #[rv a1, iv 2, rv a2, iv 2, iv 2, iv 2, iv c1] [])) (fun _ k => XS.icmpYes X7.here hx rfl (pc0 := 7) (pc' := 44) rfl (hb hby d5_7) rfl (by decide) (by decide) (by decide) k) ?_
  refine Go.st (f' := (mkF m 46 #[rv a1, iv 2, rv a2, iv 2, iv 2, iv 2, iv c1] [(.int 2)])) (fun _ k => XS.iload X7.here hx rfl (hb hby d5_44) rfl k) ?_
  refine Go.retV X7 hlk hx (t := .int) hret rfl (Or.inl ⟨rfl, Or.inl rfl, _, rfl⟩) (hb hby d5_46) e7 ?_ (by decide) (by decide)
  exact ⟨rfl, N7, K7, V_a2_7⟩
theorem d4_0 : decode jdk_52_method_16_code 0 = .ok (.iload_n 2, 1) := by decide +kernel
theorem d4_1 : decode jdk_52_method_16_code 1 = .ok (.newarray .byte, 2) := by decide +kernel
theorem d4_3 : decode jdk_52_method_16_code 3 = .ok (.astore_n 3, 1) := by decide +kernel
theorem d4_4 : decode jdk_52_method_16_code 4 = .ok (.aload_n 0, 1) := by decide +kernel
theorem d4_5 : decode jdk_52_method_16_code 5 = .ok (.iload_n 1, 1) := by decide +kernel
theorem d4_6 : decode jdk_52_method_16_code 6 = .ok (.aload_n 3, 1) := by decide +kernel
theorem d4_7 : decode jdk_52_method_16_code 7 = .ok (.iconst 0, 1) := by decide +kernel
theorem d4_8 : decode jdk_52_method_16_code 8 = .ok (.iload_n 2, 1) := by decide +kernel
theorem d4_9 : decode jdk_52_method_16_code 9 = .ok (.invokestatic 115, 3) := by decide +kernel
theorem pd___CI_BII_I : parseMethodDescriptor "([CI[BII)I" = some ⟨[(.array .char), .int, (.array .byte), .int, .int], some .int⟩ := by decide +kernel
theorem d4_12 : decode jdk_52_method_16_code 12 = .ok (.istore 4, 2) := by decide +kernel
theorem d4_14 : decode jdk_52_method_16_code 14 = .ok (.iload 4, 2) := by decide +kernel
theorem d4_16 : decode jdk_52_method_16_code 16 = .ok (.iload_n 2, 1) := by decide +kernel
theorem d4_17 : decode jdk_52_method_16_code 17 = .ok (.if_icmp .eq 40, 3) := by decide +kernel
theorem d4_57 : decode jdk_52_method_16_code 57 = .ok (.aload_n 3, 1) := by decide +kernel
theorem d4_58 : decode jdk_52_method_16_code 58 = .ok (.areturn, 1) := by decide +kernel
set_option maxRecDepth 65536 in
set_option maxHeartbeats 40000000 in
theorem st3_2 (l : Launch) (Z : State) (a0 : Array Value) (hw : ∀ d ∈ tables_1, d.before a0 Z = true) (ws : List Jvm.Cond) (a1 : Addr) (k1 : ClassId) (c0 : Int32) (c1 : Int32) (h0 : Heap) (n0 : Nat) (O0 : Old Z n0 h0) (hc_c0 : ¬ (255 : Int32) < c0) (hc_c1 : ¬ (255 : Int32) < c1) (V_a1 : Arv Z h0 a1 k1 .char (2 : Int32) [(.int c0), (.int c1)] (.int 0)) :
    Con l Z (⟨"java/lang/StringUTF16", "compress", "([CII)[B"⟩ : MethodName) jdk_52_method_16_code 6 (some (.array .byte)) ws ({ frames := 1, cells := 1, slots := 2, locals := 18 } : Room) #[(.ref a1), (.int 0), (.int 2)] h0 (fun v h L => ∃ (b : Addr) (kb : ClassId), v = some (.ref b) ∧ Fr n0 L ∧ h0.size ≤ b ∧ Keep h0 h [] ∧ Arv Z h b kb .byte (2 : Int32) [(.int (nar .byte (c0.toInt8.toInt32))), (.int (nar .byte (c1.toInt8.toInt32)))] (.int 0)) := by
  refine own_body (plainFor_of_name pn_java_lang_StringUTF16) ?_
  intro p e s m below meth c s₁ hx hby hml hZ hown hnm hlk hret X0 e0
  have N0 := Fr.nil n0
  have K0 : Keep h0 h0 [] := Keep.refl _ _
  refine Go.st (T' := s₁) (f' := (mkF m 0 #[rv a1, iv 0, iv 2, .unset, .unset, .unset] [])) (fun _ k => castTop (by first | (simp [entryFrame, mkF, argsToLocals, Value.category]; done) | rfl) k) ?_
  have lt_a1 := V_a1.lt
  refine Go.st (f' := (mkF m 1 #[rv a1, iv 0, iv 2, .unset, .unset, .unset] [(.int 2)])) (fun _ k => XS.iloadN X0.here hx rfl (hb hby d4_0) rfl k) ?_
  obtain ⟨T1, h1, kc1, X1, e1, E1, A1, st1⟩ := newP X0 hx hZ (hw _ (List.mem_of_getElem? (i := 19) rfl)) e0 (g := (mkF m 1 #[rv a1, iv 0, iv 2, .unset, .unset, .unset] [(.int 2)])) rfl (hb hby d4_1) rfl (by decide) (cap := 2) (by decide) (by decide) (by decide) (by decide)
  obtain ⟨b1, g1⟩ : ∃ z, z = h0.size := ⟨_, rfl⟩
  rw [← g1] at A1 st1
  have ne_a1_b1 : a1 ≠ b1 := Nat.ne_of_lt (Nat.lt_of_lt_of_eq lt_a1 g1.symm)
  have g_b1 : n0 ≤ b1 := Nat.le_trans (O0.1 ▸ O0.2.1) (Nat.le_of_eq g1.symm)
  have O1 : Old Z n0 h1 := O0.ext E1
  have sz_b1 : h0.size ≤ b1 := Nat.le_trans K0.1 (Nat.le_of_eq g1.symm)
  have K1 : Keep h0 h1 [] := K0.ext E1
  have V_b1 : Arv Z h1 b1 kc1 .byte (2 : Int32) [(.int (0 : Int32)), (.int (0 : Int32))] (.int (0 : Int32)) := (Arv.new A1 (by decide)).pad (pad_rep [] (.int (0 : Int32)) 2)
  have lt_b1 := V_b1.lt
  refine Go.st (f' := (mkF m 3 #[rv a1, iv 0, iv 2, .unset, .unset, .unset] [(.ref b1)])) (fun _ k => st1 _ k) ?_
  refine Go.st (f' := (mkF m 4 #[rv a1, iv 0, iv 2, rv b1, .unset, .unset] [])) (fun _ k => XS.astoreN X1.here hx rfl (hb hby d4_3) rfl rfl (l' := #[rv a1, iv 0, iv 2, rv b1, .unset, .unset]) rfl k) ?_
  refine Go.st (f' := (mkF m 5 #[rv a1, iv 0, iv 2, rv b1, .unset, .unset] [(.ref a1)])) (fun _ k => XS.aloadN X1.here hx rfl (hb hby d4_4) rfl rfl k) ?_
  refine Go.st (f' := (mkF m 6 #[rv a1, iv 0, iv 2, rv b1, .unset, .unset] [(.int 0), (.ref a1)])) (fun _ k => XS.iloadN X1.here hx rfl (hb hby d4_5) rfl k) ?_
  refine Go.st (f' := (mkF m 7 #[rv a1, iv 0, iv 2, rv b1, .unset, .unset] [(.ref b1), (.int 0), (.ref a1)])) (fun _ k => XS.aloadN X1.here hx rfl (hb hby d4_6) rfl rfl k) ?_
  refine Go.st (f' := (mkF m 8 #[rv a1, iv 0, iv 2, rv b1, .unset, .unset] [(.int 0), (.ref b1), (.int 0), (.ref a1)])) (fun _ k => XS.iconst X1.here hx rfl (hb hby d4_7) k) ?_
  refine Go.st (f' := (mkF m 9 #[rv a1, iv 0, iv 2, rv b1, .unset, .unset] [(.int 2), (.int 0), (.ref b1), (.int 0), (.ref a1)])) (fun _ k => XS.iloadN X1.here hx rfl (hb hby d4_8) rfl k) ?_
  have ft3 := (V_a1.ext E1)
  obtain ⟨_, _, ⟨T2, L2, kk2, nn2⟩, -, X2, ⟨Lc2, hQ2, lq2, yq2, zz2⟩, st2⟩ := Jvm.LawKit.callS X1 hx (y := (⟨"java/lang/StringUTF16", "compress", "([CI[BII)I"⟩ : MethodName)) hown (mvT hZ (hw _ (List.mem_of_getElem? (i := 20) rfl))) (mvT hZ (hw _ (List.mem_of_getElem? (i := 21) rfl))) (mvT hZ (hw _ (List.mem_of_getElem? (i := 17) rfl))) (mvT hZ (hw _ (List.mem_of_getElem? (i := 22) rfl))) (by decide) (own_back (W := 0) (st5_2 l Z a0 hw [] b1 kc1 a1 k1 c0 c1 h1 n0 O1 hc_c0 hc_c1 ne_a1_b1 g_b1 ft3 V_b1) hZ (hw _ (List.mem_of_getElem? (i := 22) rfl)) (hw _ (List.mem_of_getElem? (i := 17) rfl)) (by decide) (by decide)) (g := (mkF m 9 #[rv a1, iv 0, iv 2, rv b1, .unset, .unset] [(.int 2), (.int 0), (.ref b1), (.int 0), (.ref a1)])) rfl (by rw [hml]; rfl) (argsL := [(.ref a1), (.int (0 : Int32)), (.ref b1), (.int (0 : Int32)), (.int (2 : Int32))]) (rest := []) (lenOf pd___CI_BII_I rfl) rfl (by show 2 * 0 + _ ≤ _; exact Nat.le_of_eq rfl) (hb hby d4_9) (fun _ _ => ⟨rfl, e1, (by decide : 1 + 0 ≤ _), (by decide : 2 + 0 ≤ _)⟩)
  dsimp only [Pt.U, Pt.locs, Pt.cells, Pt.slots] at X2 lq2 yq2 zz2 st2 hQ2
  subst lq2 yq2 zz2
  obtain ⟨rfl, Nq2, kq2, vq2⟩ := hQ2
  have N2 := Fr.app N0 Nq2
  have O2 : Old Z n0 T2.heap := O1.keep kq2 (allS g_b1 all0)
  have K2 : Keep h0 T2.heap [] := K1.trans kq2 (allS (Or.inr sz_b1) all0)
  refine Go.st (f' := (mkF m 12 #[rv a1, iv 0, iv 2, rv b1, .unset, .unset] [(.int 2)])) (fun _ k => st2 _ k) ?_
  refine Go.st (f' := (mkF m 14 #[rv a1, iv 0, iv 2, rv b1, iv 2, .unset] [])) (fun _ k => XS.istore X2.here hx rfl (hb hby d4_12) rfl (l' := #[rv a1, iv 0, iv 2, rv b1, iv 2, .unset]) rfl k) ?_
  refine Go.st (f' := (mkF m 16 #[rv a1, iv 0, iv 2, rv b1, iv 2, .unset] [(.int 2)])) (fun _ k => XS.iload X2.here hx rfl (hb hby d4_14) rfl k) ?_
  refine Go.st (f' := (mkF m 17 #[rv a1, iv 0, iv 2, rv b1, iv 2, .unset] [(.int 2), (.int 2)])) (fun _ k => XS.iloadN X2.here hx rfl (hb hby d4_16) rfl k) ?_
  refine Go.st (f' := (mkF m 57 #[rv a1, iv 0, iv 2, rv b1, iv 2, .unset] [])) (fun _ k => XS.icmpYes X2.here hx rfl (pc0 := 17) (pc' := 57) rfl (hb hby d4_17) rfl (by decide) (by decide) (by decide) k) ?_
  refine Go.st (f' := (mkF m 58 #[rv a1, iv 0, iv 2, rv b1, iv 2, .unset] [(.ref b1)])) (fun _ k => XS.aloadN X2.here hx rfl (hb hby d4_57) rfl rfl k) ?_
  refine Go.retV X2 hlk hx (t := (.array .byte)) hret rfl (Or.inr (Or.inr (Or.inr (Or.inr ⟨rfl, rfl, rfl⟩)))) (hb hby d4_58) rfl ?_ (by decide) (by decide)
  exact ⟨b1, kc1, rfl, N2, sz_b1, K2, vq2⟩
theorem d6_0 : decode jdk_52_method_15_code 0 = .ok (.iload_n 1, 1) := by decide +kernel
theorem d6_1 : decode jdk_52_method_15_code 1 = .ok (.aload_n 0, 1) := by decide +kernel
theorem d6_2 : decode jdk_52_method_15_code 2 = .ok (.arraylength, 1) := by decide +kernel
theorem d6_3 : decode jdk_52_method_15_code 3 = .ok (.isub, 1) := by decide +kernel
theorem d6_4 : decode jdk_52_method_15_code 4 = .ok (.bipush 31, 2) := by decide +kernel
theorem d6_6 : decode jdk_52_method_15_code 6 = .ok (.iushr, 1) := by decide +kernel
theorem d6_7 : decode jdk_52_method_15_code 7 = .ok (.i2b, 1) := by decide +kernel
theorem d6_8 : decode jdk_52_method_15_code 8 = .ok (.ireturn, 1) := by decide +kernel
set_option maxRecDepth 65536 in
set_option maxHeartbeats 40000000 in
theorem stc_2 (l : Launch) (Z : State) (a0 : Array Value) (hw : ∀ d ∈ tables_1, d.before a0 Z = true) (ws : List Jvm.Cond) (a1 : Addr) (k1 : ClassId) (x0 : Int32) (x1 : Int32) (h0 : Heap) (n0 : Nat) (O0 : Old Z n0 h0) (V_a1 : Arv Z h0 a1 k1 .byte (2 : Int32) [(.int x0), (.int x1)] (.int 0)) :
    Con l Z (⟨"java/lang/StringUTF16", "coderFromArrayLen", "([BI)B"⟩ : MethodName) jdk_52_method_15_code 2 (some .byte) ws ({ frames := 0, cells := 0, slots := 0, locals := 0 } : Room) #[(.ref a1), (.int 2)] h0 (fun v h L => v = some (.int 0) ∧ Fr n0 L ∧ h = h0) := by
  refine own_body (plainFor_of_name pn_java_lang_StringUTF16) ?_
  intro p e s m below meth c s₁ hx hby hml hZ hown hnm hlk hret X0 e0
  have N0 := Fr.nil n0
  refine Go.st (T' := s₁) (f' := (mkF m 0 #[rv a1, iv 2] [])) (fun _ k => castTop (by first | (simp [entryFrame, mkF, argsToLocals, Value.category]; done) | rfl) k) ?_
  have lt_a1 := V_a1.lt
  refine Go.st (f' := (mkF m 1 #[rv a1, iv 2] [(.int 2)])) (fun _ k => XS.iloadN X0.here hx rfl (hb hby d6_0) rfl k) ?_
  refine Go.st (f' := (mkF m 2 #[rv a1, iv 2] [(.ref a1), (.int 2)])) (fun _ k => XS.aloadN X0.here hx rfl (hb hby d6_1) rfl rfl k) ?_
  obtain ⟨cl1, Ar1, -, S1, Nx1, -, -⟩ := id V_a1
  refine Go.st (T' := s₁) (f' := (mkF m 3 #[rv a1, iv 2] [(.int 2), (.int 2)])) (fun _ k => X0.arraylength hx (by rw [e0]; exact Ar1.1) (State.isArrayOf_alike hZ.alike Ar1.2.1) (g := (mkF m 2 #[rv a1, iv 2] [(.ref a1), (.int 2)])) rfl rfl (hb hby d6_2) _ (by rw [len_of S1 Nx1]; exact k)) ?_
  refine Go.st (f' := (mkF m 4 #[rv a1, iv 2] [(.int 0)])) (fun _ k => XS.isub X0.here hx rfl (hb hby d6_3) rfl k) ?_
  refine Go.st (f' := (mkF m 6 #[rv a1, iv 2] [(.int 31), (.int 0)])) (fun _ k => XS.bipush X0.here hx rfl (hb hby d6_4) k) ?_
  refine Go.st (f' := (mkF m 7 #[rv a1, iv 2] [(.int 0)])) (fun _ k => XS.iushr X0.here hx rfl (hb hby d6_6) rfl k) ?_
  refine Go.st (f' := (mkF m 8 #[rv a1, iv 2] [(.int 0)])) (fun _ k => XS.i2b X0.here hx rfl (hb hby d6_7) rfl k) ?_
  refine Go.retB X0 hlk hx (t := .byte) hret (by simp) (hb hby d6_8) e0 ?_ (by decide) (by decide)
  exact ⟨rfl, N0, rfl⟩
theorem pn_java_lang_String : plainName "java/lang/String" = true := by first | (simp [plainName, overriddenIn]; done) | decide +kernel
theorem d2_0 : decode jdk_42_method_149_code 0 = .ok (.aload_n 0, 1) := by decide +kernel
theorem d2_1 : decode jdk_42_method_149_code 1 = .ok (.invokespecial 1, 3) := by decide +kernel
theorem d2_4 : decode jdk_42_method_149_code 4 = .ok (.iload_n 3, 1) := by decide +kernel
theorem d2_5 : decode jdk_42_method_149_code 5 = .ok (.ifCond .ne 22, 3) := by decide +kernel
theorem d2_27 : decode jdk_42_method_149_code 27 = .ok (.getstatic 38, 3) := by decide +kernel
theorem d2_30 : decode jdk_42_method_149_code 30 = .ok (.ifCond .eq 28, 3) := by decide +kernel
theorem d2_33 : decode jdk_42_method_149_code 33 = .ok (.aload_n 1, 1) := by decide +kernel
theorem d2_34 : decode jdk_42_method_149_code 34 = .ok (.iload_n 2, 1) := by decide +kernel
theorem d2_35 : decode jdk_42_method_149_code 35 = .ok (.iload_n 3, 1) := by decide +kernel
theorem d2_36 : decode jdk_42_method_149_code 36 = .ok (.invokestatic 177, 3) := by decide +kernel
theorem pd___CII__B : parseMethodDescriptor "([CII)[B" = some ⟨[(.array .char), .int, .int], some (.array .byte)⟩ := by decide +kernel
theorem d2_39 : decode jdk_42_method_149_code 39 = .ok (.astore 5, 2) := by decide +kernel
theorem d2_41 : decode jdk_42_method_149_code 41 = .ok (.aload_n 0, 1) := by decide +kernel
theorem d2_42 : decode jdk_42_method_149_code 42 = .ok (.aload 5, 2) := by decide +kernel
theorem d2_44 : decode jdk_42_method_149_code 44 = .ok (.iload_n 3, 1) := by decide +kernel
theorem d2_45 : decode jdk_42_method_149_code 45 = .ok (.invokestatic 47, 3) := by decide +kernel
theorem pd___BI_B : parseMethodDescriptor "([BI)B" = some ⟨[(.array .byte), .int], some .byte⟩ := by decide +kernel
theorem d2_48 : decode jdk_42_method_149_code 48 = .ok (.putfield 15, 3) := by decide +kernel
theorem d2_51 : decode jdk_42_method_149_code 51 = .ok (.aload_n 0, 1) := by decide +kernel
theorem d2_52 : decode jdk_42_method_149_code 52 = .ok (.aload 5, 2) := by decide +kernel
theorem d2_54 : decode jdk_42_method_149_code 54 = .ok (.putfield 9, 3) := by decide +kernel
theorem d2_57 : decode jdk_42_method_149_code 57 = .ok (.return_, 1) := by decide +kernel
set_option maxRecDepth 65536 in
set_option maxHeartbeats 40000000 in
theorem stv_2 (l : Launch) (Z : State) (a0 : Array Value) (hw : ∀ d ∈ tables_1, d.before a0 Z = true) (ws : List Jvm.Cond) (a0b : Addr) (a1 : Addr) (k1 : ClassId) (c0 : Int32) (c1 : Int32) (w_WARNING : Addr) (i_COMPACT_STRINGS : Int32) (v_SIOOBE_FORMATTER : Value) (h0 : Heap) (n0 : Nat) (O0 : Old Z n0 h0) (hc_c0 : ¬ (255 : Int32) < c0) (hc_c1 : ¬ (255 : Int32) < c1) (g_a0b : n0 ≤ a0b) (nb1 : a0b ≠ a1) (E_a0b : Exa Z h0 a0b "java/lang/String") (F_a0b_coder : Fld Z h0 a0b "java/lang/String" "coder" "B" (.int 0)) (F_a0b_value : Fld Z h0 a0b "java/lang/String" "value" "[B" .null) (V_a1 : Arv Z h0 a1 k1 .char (2 : Int32) [(.int c0), (.int c1)] (.int 0)) (WW : World1 Z w_WARNING i_COMPACT_STRINGS v_SIOOBE_FORMATTER) :
    Con l Z (⟨"java/lang/String", "<init>", "([CIILjava/lang/Void;)V"⟩ : MethodName) jdk_42_method_149_code 6 none ws ({ frames := 2, cells := 1, slots := 2, locals := 35 } : Room) #[(.ref a0b), (.ref a1), (.int 0), (.int 2), .null] h0 (fun v h L => v = none ∧ Fr n0 L ∧ Keep h0 h [a0b] ∧ Exa Z h a0b "java/lang/String" ∧ Fld Z h a0b "java/lang/String" "coder" "B" (.int 0) ∧ ∃ (t : Addr) (kt : ClassId), h0.size ≤ t ∧ Fld Z h a0b "java/lang/String" "value" "[B" (.ref t) ∧ Arv Z h t kt .byte (2 : Int32) [(.int (nar .byte (c0.toInt8.toInt32))), (.int (nar .byte (c1.toInt8.toInt32)))] (.int 0)) := by
  refine own_body (plainFor_of_name pn_java_lang_String) ?_
  intro p e s m below meth c s₁ hx hby hml hZ hown hnm hlk hret X0 e0
  have N0 := Fr.nil n0
  have K0 : Keep h0 h0 [a0b] := Keep.refl _ _
  refine Go.st (T' := s₁) (f' := (mkF m 0 #[rv a0b, rv a1, iv 0, iv 2, .val .null, .unset] [])) (fun _ k => castTop (by first | (simp [entryFrame, mkF, argsToLocals, Value.category]; done) | rfl) k) ?_
  have ⟨S_i_COMPACT_STRINGS, nz_i_COMPACT_STRINGS, S_v_SIOOBE_FORMATTER, r_v_SIOOBE_FORMATTER, S_w_WARNING, E_w_WARNING⟩ := WW
  have lt_w_WARNING := E_w_WARNING.lt
  have lt_a0b := E_a0b.lt
  have ne_w_WARNING_a0b : w_WARNING ≠ a0b := O0.ne lt_w_WARNING g_a0b
  have lt_a1 := V_a1.lt
  refine Go.st (f' := (mkF m 1 #[rv a0b, rv a1, iv 0, iv 2, .val .null, .unset] [(.ref a0b)])) (fun _ k => XS.aloadN X0.here hx rfl (hb hby d2_0) rfl rfl k) ?_
  obtain ⟨T1, X1, e1, st1⟩ := initO X0 hx hZ hown (hw _ (List.mem_of_getElem? (i := 11) rfl)) (hw _ (List.mem_of_getElem? (i := 12) rfl)) (hw _ (List.mem_of_getElem? (i := 13) rfl)) e0 (g := (mkF m 1 #[rv a0b, rv a1, iv 0, iv 2, .val .null, .unset] [(.ref a0b)])) rfl (by rw [hml]; rfl) rfl (hb hby d2_1) (by decide) (W := 0) (by show 2 * 0 + _ ≤ _; exact Nat.le_of_eq rfl) (by decide)
  refine Go.st (f' := (mkF m 4 #[rv a0b, rv a1, iv 0, iv 2, .val .null, .unset] [])) (fun _ k => st1 _ k) ?_
  refine Go.st (f' := (mkF m 5 #[rv a0b, rv a1, iv 0, iv 2, .val .null, .unset] [(.int 2)])) (fun _ k => XS.iloadN X1.here hx rfl (hb hby d2_4) rfl k) ?_
  refine Go.st (f' := (mkF m 27 #[rv a0b, rv a1, iv 0, iv 2, .val .null, .unset] [])) (fun _ k => XS.ifYes X1.here hx rfl (pc0 := 5) (pc' := 27) rfl (hb hby d2_5) rfl (by decide) (by decide) (by decide) k) ?_
  obtain ⟨T2, X2, e2, st2⟩ := getS2 X1 hx hZ hown (host := "") (Or.inl (hw _ (List.mem_of_getElem? (i := 14) rfl))) Via.refl e1 (S_i_COMPACT_STRINGS.ext O0.2) (g := (mkF m 27 #[rv a0b, rv a1, iv 0, iv 2, .val .null, .unset] [])) rfl (hb hby d2_27)
  refine Go.st (f' := (mkF m 30 #[rv a0b, rv a1, iv 0, iv 2, .val .null, .unset] [(.int i_COMPACT_STRINGS)])) (fun _ k => st2 _ k) ?_
  refine Go.st (f' := (mkF m 33 #[rv a0b, rv a1, iv 0, iv 2, .val .null, .unset] [])) (fun _ k => XS.ifNo X2.here hx rfl (hb hby d2_30) rfl ((if0 _ _).trans (feq nz_i_COMPACT_STRINGS).1) k) ?_
  refine Go.st (f' := (mkF m 34 #[rv a0b, rv a1, iv 0, iv 2, .val .null, .unset] [(.ref a1)])) (fun _ k => XS.aloadN X2.here hx rfl (hb hby d2_33) rfl rfl k) ?_
  refine Go.st (f' := (mkF m 35 #[rv a0b, rv a1, iv 0, iv 2, .val .null, .unset] [(.int 0), (.ref a1)])) (fun _ k => XS.iloadN X2.here hx rfl (hb hby d2_34) rfl k) ?_
  refine Go.st (f' := (mkF m 36 #[rv a0b, rv a1, iv 0, iv 2, .val .null, .unset] [(.int 2), (.int 0), (.ref a1)])) (fun _ k => XS.iloadN X2.here hx rfl (hb hby d2_35) rfl k) ?_
  obtain ⟨_, _, ⟨T3, L3, kk3, nn3⟩, -, X3, ⟨Lc3, hQ3, lq3, yq3, zz3⟩, st3⟩ := Jvm.LawKit.callS X2 hx (y := (⟨"java/lang/StringUTF16", "compress", "([CII)[B"⟩ : MethodName)) hown (mvT hZ (hw _ (List.mem_of_getElem? (i := 15) rfl))) (mvT hZ (hw _ (List.mem_of_getElem? (i := 16) rfl))) (mvT hZ (hw _ (List.mem_of_getElem? (i := 17) rfl))) (mvT hZ (hw _ (List.mem_of_getElem? (i := 18) rfl))) (by decide) (own_back (W := 0) (st3_2 l Z a0 hw [] a1 k1 c0 c1 h0 n0 O0 hc_c0 hc_c1 V_a1) hZ (hw _ (List.mem_of_getElem? (i := 18) rfl)) (hw _ (List.mem_of_getElem? (i := 17) rfl)) (by decide) (by decide)) (g := (mkF m 36 #[rv a0b, rv a1, iv 0, iv 2, .val .null, .unset] [(.int 2), (.int 0), (.ref a1)])) rfl (by rw [hml]; rfl) (argsL := [(.ref a1), (.int (0 : Int32)), (.int (2 : Int32))]) (rest := []) (lenOf pd___CII__B rfl) rfl (by show 2 * 0 + _ ≤ _; exact Nat.le_of_eq rfl) (hb hby d2_36) (fun _ _ => ⟨rfl, e2, (by decide : 0 + 1 ≤ _), (by decide : 0 + 2 ≤ _)⟩)
  dsimp only [Pt.U, Pt.locs, Pt.cells, Pt.slots] at X3 lq3 yq3 zz3 st3 hQ3
  subst lq3 yq3 zz3
  obtain ⟨b3, kb3, rfl, Nq3, zq3, kq3, vq3⟩ := hQ3
  have N3 := Fr.app N0 Nq3
  have ne_a0b_b3 : a0b ≠ b3 := Nat.ne_of_lt (Nat.lt_of_lt_of_le lt_a0b zq3)
  have ne_a1_b3 : a1 ≠ b3 := Nat.ne_of_lt (Nat.lt_of_lt_of_le lt_a1 zq3)
  have ne_w_WARNING_b3 : w_WARNING ≠ b3 := Nat.ne_of_lt (Nat.lt_of_lt_of_le lt_w_WARNING (Nat.le_trans O0.2.1 zq3))
  have g_b3 : n0 ≤ b3 := Nat.le_trans (O0.1 ▸ O0.2.1) zq3
  have sz_b3 : h0.size ≤ b3 := Nat.le_trans K0.1 zq3
  have O3 : Old Z n0 T3.heap := O0.keep kq3 all0
  have K3 : Keep h0 T3.heap [a0b] := K0.trans kq3 all0
  have lt_b3 := vq3.lt
  refine Go.st (f' := (mkF m 39 #[rv a0b, rv a1, iv 0, iv 2, .val .null, .unset] [(.ref b3)])) (fun _ k => st3 _ k) ?_
  refine Go.st (f' := (mkF m 41 #[rv a0b, rv a1, iv 0, iv 2, .val .null, rv b3] [])) (fun _ k => XS.astore X3.here hx rfl (hb hby d2_39) rfl rfl (l' := #[rv a0b, rv a1, iv 0, iv 2, .val .null, rv b3]) rfl k) ?_
  refine Go.st (f' := (mkF m 42 #[rv a0b, rv a1, iv 0, iv 2, .val .null, rv b3] [(.ref a0b)])) (fun _ k => XS.aloadN X3.here hx rfl (hb hby d2_41) rfl rfl k) ?_
  refine Go.st (f' := (mkF m 44 #[rv a0b, rv a1, iv 0, iv 2, .val .null, rv b3] [(.ref b3), (.ref a0b)])) (fun _ k => XS.aload X3.here hx rfl (hb hby d2_42) rfl rfl k) ?_
  refine Go.st (f' := (mkF m 45 #[rv a0b, rv a1, iv 0, iv 2, .val .null, rv b3] [(.int 2), (.ref b3), (.ref a0b)])) (fun _ k => XS.iloadN X3.here hx rfl (hb hby d2_44) rfl k) ?_
  obtain ⟨_, _, ⟨T4, L4, kk4, nn4⟩, -, X4, ⟨Lc4, hQ4, lq4, yq4, zz4⟩, st4⟩ := Jvm.LawKit.callS X3 hx (y := (⟨"java/lang/StringUTF16", "coderFromArrayLen", "([BI)B"⟩ : MethodName)) hown (mvT hZ (hw _ (List.mem_of_getElem? (i := 23) rfl))) (mvT hZ (hw _ (List.mem_of_getElem? (i := 24) rfl))) (mvT hZ (hw _ (List.mem_of_getElem? (i := 17) rfl))) (mvT hZ (hw _ (List.mem_of_getElem? (i := 25) rfl))) (by decide) (own_back (W := 1) (stc_2 l Z a0 hw [] b3 kb3 (nar .byte (c0.toInt8.toInt32)) (nar .byte (c1.toInt8.toInt32)) T3.heap n0 O3 vq3) hZ (hw _ (List.mem_of_getElem? (i := 25) rfl)) (hw _ (List.mem_of_getElem? (i := 17) rfl)) (by decide) (by decide)) (g := (mkF m 45 #[rv a0b, rv a1, iv 0, iv 2, .val .null, rv b3] [(.int 2), (.ref b3), (.ref a0b)])) rfl (by rw [hml]; rfl) (argsL := [(.ref b3), (.int (2 : Int32))]) (rest := [(.ref a0b)]) (lenOf pd___BI_B rfl) rfl (by show 2 * 0 + _ ≤ _; exact Nat.le_of_eq rfl) (hb hby d2_45) (fun _ _ => ⟨rfl, rfl, (by decide : 1 + 0 ≤ _), (by decide : 2 + 0 ≤ _)⟩)
  dsimp only [Pt.U, Pt.locs, Pt.cells, Pt.slots] at X4 lq4 yq4 zz4 st4 hQ4
  subst lq4 yq4 zz4
  obtain ⟨rfl, Nq4, kq4⟩ := hQ4
  have N4 := Fr.app N3 Nq4
  refine Go.st (f' := (mkF m 48 #[rv a0b, rv a1, iv 0, iv 2, .val .null, rv b3] [(.int 0), (.ref a0b)])) (fun _ k => st4 _ k) ?_
  have ft5 := (E_a0b.keep kq3)
  have ft6 := (F_a0b_coder.keep kq3 nin0)
  obtain ⟨T7, h7, X7, e7, W7, st7⟩ := putFN X4 hx hZ hown (hw _ (List.mem_of_getElem? (i := 26) rfl)) Via.refl kq4 ft6 ft5 (Or.inr ⟨(hw _ (List.mem_of_getElem? (i := 27) rfl)), rfl, hnm⟩) (hw _ (List.mem_of_getElem? (i := 2) rfl)) (ty := .byte) (v' := (.int (0 : Int32))) (by decide) rfl (by decide) (g := (mkF m 48 #[rv a0b, rv a1, iv 0, iv 2, .val .null, rv b3] [(.int 0), (.ref a0b)])) rfl rfl (hb hby d2_48)
  have N7 := Fr.snoc X7 N4 g_a0b
  have O7 : Old Z n0 h7 := O3.wr W7 g_a0b
  have K7 : Keep h0 h7 [a0b] := K3.wr W7 (Or.inl (List.mem_of_getElem? (i := 0) rfl))
  have Fw7 := ft6.same W7
  refine Go.st (f' := (mkF m 51 #[rv a0b, rv a1, iv 0, iv 2, .val .null, rv b3] [])) (fun _ k => st7 _ k) ?_
  refine Go.st (f' := (mkF m 52 #[rv a0b, rv a1, iv 0, iv 2, .val .null, rv b3] [(.ref a0b)])) (fun _ k => XS.aloadN X7.here hx rfl (hb hby d2_51) rfl rfl k) ?_
  refine Go.st (f' := (mkF m 54 #[rv a0b, rv a1, iv 0, iv 2, .val .null, rv b3] [(.ref b3), (.ref a0b)])) (fun _ k => XS.aload X7.here hx rfl (hb hby d2_52) rfl rfl k) ?_
  have ft8 := (ft5.wr W7)
  have ft9 := ((F_a0b_value.keep kq3 nin0).other W7 (Or.inr (slot_ne (Or.inr (hw _ (List.mem_of_getElem? (i := 29) rfl))) (Or.inr (hw _ (List.mem_of_getElem? (i := 27) rfl))) (by decide) (t := (.array .byte)) (t' := .byte) (by decide) (by decide))))
  obtain ⟨T10, h10, X10, e10, W10, st10⟩ := putF X7 hx hZ hown (host := "") (Or.inl (hw _ (List.mem_of_getElem? (i := 28) rfl))) Via.refl e7 ft9 ft8 (Or.inr ⟨(hw _ (List.mem_of_getElem? (i := 29) rfl)), rfl, hnm⟩) (hw _ (List.mem_of_getElem? (i := 2) rfl)) (ty := (.array .byte)) (by decide) rfl rfl (g := (mkF m 54 #[rv a0b, rv a1, iv 0, iv 2, .val .null, rv b3] [(.ref b3), (.ref a0b)])) rfl rfl (hb hby d2_54)
  have N10 := Fr.snoc X10 N7 g_a0b
  have O10 : Old Z n0 h10 := O7.wr W10 g_a0b
  have K10 : Keep h0 h10 [a0b] := K7.wr W10 (Or.inl (List.mem_of_getElem? (i := 0) rfl))
  have Fw10 := ft9.same W10
  refine Go.st (f' := (mkF m 57 #[rv a0b, rv a1, iv 0, iv 2, .val .null, rv b3] [])) (fun _ k => st10 _ k) ?_
  refine Go.ret0 X10 hlk hx hret (hb hby d2_57) e10 ?_ (by decide) (by decide)
  have ft11 := (ft8.wr W10)
  have ft12 := (Fw7.other W10 (Or.inr (slot_ne (Or.inr (hw _ (List.mem_of_getElem? (i := 27) rfl))) (Or.inr (hw _ (List.mem_of_getElem? (i := 29) rfl))) (by decide) (t := .byte) (t' := (.array .byte)) (by decide) (by decide))))
  have ft13 := ((vq3.other W7 (Ne.symm ne_a0b_b3)).other W10 (Ne.symm ne_a0b_b3))
  exact ⟨rfl, N10, K10, ft11, ft12, b3, kb3, sz_b3, Fw10, ft13⟩
theorem d1_0 : decode jdk_42_method_3_code 0 = .ok (.aload_n 0, 1) := by decide +kernel
theorem d1_1 : decode jdk_42_method_3_code 1 = .ok (.aload_n 1, 1) := by decide +kernel
theorem d1_2 : decode jdk_42_method_3_code 2 = .ok (.iconst 0, 1) := by decide +kernel
theorem d1_3 : decode jdk_42_method_3_code 3 = .ok (.aload_n 1, 1) := by decide +kernel
theorem d1_4 : decode jdk_42_method_3_code 4 = .ok (.arraylength, 1) := by decide +kernel
theorem d1_5 : decode jdk_42_method_3_code 5 = .ok (.aconst_null, 1) := by decide +kernel
theorem d1_6 : decode jdk_42_method_3_code 6 = .ok (.invokespecial 27, 3) := by decide +kernel
theorem pd___CIILjava_lang_Void__V : parseMethodDescriptor "([CIILjava/lang/Void;)V" = some ⟨[(.array .char), .int, .int, (.object "java/lang/Void")], none⟩ := by decide +kernel
theorem d1_9 : decode jdk_42_method_3_code 9 = .ok (.return_, 1) := by decide +kernel
set_option maxRecDepth 65536 in
set_option maxHeartbeats 40000000 in
theorem st1_2 (l : Launch) (Z : State) (a0 : Array Value) (hw : ∀ d ∈ tables_1, d.before a0 Z = true) (ws : List Jvm.Cond) (a0b : Addr) (a1 : Addr) (k1 : ClassId) (c0 : Int32) (c1 : Int32) (w_WARNING : Addr) (i_COMPACT_STRINGS : Int32) (v_SIOOBE_FORMATTER : Value) (h0 : Heap) (n0 : Nat) (O0 : Old Z n0 h0) (hc_c0 : ¬ (255 : Int32) < c0) (hc_c1 : ¬ (255 : Int32) < c1) (g_a0b : n0 ≤ a0b) (nb1 : a0b ≠ a1) (E_a0b : Exa Z h0 a0b "java/lang/String") (F_a0b_coder : Fld Z h0 a0b "java/lang/String" "coder" "B" (.int 0)) (F_a0b_value : Fld Z h0 a0b "java/lang/String" "value" "[B" .null) (V_a1 : Arv Z h0 a1 k1 .char (2 : Int32) [(.int c0), (.int c1)] (.int 0)) (WW : World1 Z w_WARNING i_COMPACT_STRINGS v_SIOOBE_FORMATTER) :
    Con l Z (⟨"java/lang/String", "<init>", "([C)V"⟩ : MethodName) jdk_42_method_3_code 2 none ws ({ frames := 3, cells := 1, slots := 2, locals := 52 } : Room) #[(.ref a0b), (.ref a1)] h0 (fun v h L => v = none ∧ Fr n0 L ∧ Keep h0 h [a0b] ∧ Exa Z h a0b "java/lang/String" ∧ Fld Z h a0b "java/lang/String" "coder" "B" (.int 0) ∧ ∃ (t : Addr) (kt : ClassId), h0.size ≤ t ∧ Fld Z h a0b "java/lang/String" "value" "[B" (.ref t) ∧ Arv Z h t kt .byte (2 : Int32) [(.int (nar .byte (c0.toInt8.toInt32))), (.int (nar .byte (c1.toInt8.toInt32)))] (.int 0)) := by
  refine own_body (plainFor_of_name pn_java_lang_String) ?_
  intro p e s m below meth c s₁ hx hby hml hZ hown hnm hlk hret X0 e0
  have N0 := Fr.nil n0
  have K0 : Keep h0 h0 [a0b] := Keep.refl _ _
  refine Go.st (T' := s₁) (f' := (mkF m 0 #[rv a0b, rv a1] [])) (fun _ k => castTop (by first | (simp [entryFrame, mkF, argsToLocals, Value.category]; done) | rfl) k) ?_
  have ⟨S_i_COMPACT_STRINGS, nz_i_COMPACT_STRINGS, S_v_SIOOBE_FORMATTER, r_v_SIOOBE_FORMATTER, S_w_WARNING, E_w_WARNING⟩ := WW
  have lt_w_WARNING := E_w_WARNING.lt
  have lt_a0b := E_a0b.lt
  have ne_w_WARNING_a0b : w_WARNING ≠ a0b := O0.ne lt_w_WARNING g_a0b
  have lt_a1 := V_a1.lt
  refine Go.st (f' := (mkF m 1 #[rv a0b, rv a1] [(.ref a0b)])) (fun _ k => XS.aloadN X0.here hx rfl (hb hby d1_0) rfl rfl k) ?_
  refine Go.st (f' := (mkF m 2 #[rv a0b, rv a1] [(.ref a1), (.ref a0b)])) (fun _ k => XS.aloadN X0.here hx rfl (hb hby d1_1) rfl rfl k) ?_
  refine Go.st (f' := (mkF m 3 #[rv a0b, rv a1] [(.int 0), (.ref a1), (.ref a0b)])) (fun _ k => XS.iconst X0.here hx rfl (hb hby d1_2) k) ?_
  refine Go.st (f' := (mkF m 4 #[rv a0b, rv a1] [(.ref a1), (.int 0), (.ref a1), (.ref a0b)])) (fun _ k => XS.aloadN X0.here hx rfl (hb hby d1_3) rfl rfl k) ?_
  obtain ⟨cl1, Ar1, -, S1, Nx1, -, -⟩ := id V_a1
  refine Go.st (T' := s₁) (f' := (mkF m 5 #[rv a0b, rv a1] [(.int 2), (.int 0), (.ref a1), (.ref a0b)])) (fun _ k => X0.arraylength hx (by rw [e0]; exact Ar1.1) (State.isArrayOf_alike hZ.alike Ar1.2.1) (g := (mkF m 4 #[rv a0b, rv a1] [(.ref a1), (.int 0), (.ref a1), (.ref a0b)])) rfl rfl (hb hby d1_4) _ (by rw [len_of S1 Nx1]; exact k)) ?_
  refine Go.st (f' := (mkF m 6 #[rv a0b, rv a1] [.null, (.int 2), (.int 0), (.ref a1), (.ref a0b)])) (fun _ k => XS.aconstNull X0.here hx rfl (hb hby d1_5) k) ?_
  obtain ⟨_, _, ⟨T2, L2, kk2, nn2⟩, -, X2, ⟨Lc2, hQ2, lq2, yq2, zz2⟩, st2⟩ := X0.specialBack hx (y := (⟨"java/lang/String", "<init>", "([CIILjava/lang/Void;)V"⟩ : MethodName)) rfl hown (mvT hZ (hw _ (List.mem_of_getElem? (i := 7) rfl))) (mvT hZ (hw _ (List.mem_of_getElem? (i := 8) rfl))) (mvT hZ (hw _ (List.mem_of_getElem? (i := 10) rfl))) (by decide) (own_back (W := 0) (stv_2 l Z a0 hw [] a0b a1 k1 c0 c1 w_WARNING i_COMPACT_STRINGS v_SIOOBE_FORMATTER h0 n0 O0 hc_c0 hc_c1 g_a0b nb1 E_a0b F_a0b_coder F_a0b_value V_a1 WW) hZ (hw _ (List.mem_of_getElem? (i := 10) rfl)) (hw _ (List.mem_of_getElem? (i := 3) rfl)) (by decide) (by decide)) (g := (mkF m 6 #[rv a0b, rv a1] [.null, (.int 2), (.int 0), (.ref a1), (.ref a0b)])) rfl (by rw [hml]; rfl) (Steps.refl _) (a := a0b) (argsL := [(.ref a1), (.int (0 : Int32)), (.int (2 : Int32)), .null]) (rest := []) (lenOf pd___CIILjava_lang_Void__V rfl) rfl (by show 2 * 0 + _ ≤ _; exact Nat.le_of_eq rfl) (hb hby d1_6) (fun _ _ => ⟨rfl, e0, (by decide : 0 + 1 ≤ _), (by decide : 0 + 2 ≤ _)⟩)
  dsimp only [Pt.U, Pt.locs, Pt.cells, Pt.slots] at X2 lq2 yq2 zz2 st2 hQ2
  subst lq2 yq2 zz2
  obtain ⟨rfl, Nq2, kq2, eq2, cq2, tt2, kt2, zq2, fq2, vq2⟩ := hQ2
  have N2 := Fr.app N0 Nq2
  have ne_a0b_tt2 : a0b ≠ tt2 := Nat.ne_of_lt (Nat.lt_of_lt_of_le lt_a0b zq2)
  have ne_a1_tt2 : a1 ≠ tt2 := Nat.ne_of_lt (Nat.lt_of_lt_of_le lt_a1 zq2)
  have ne_w_WARNING_tt2 : w_WARNING ≠ tt2 := Nat.ne_of_lt (Nat.lt_of_lt_of_le lt_w_WARNING (Nat.le_trans O0.2.1 zq2))
  have g_tt2 : n0 ≤ tt2 := Nat.le_trans (O0.1 ▸ O0.2.1) zq2
  have sz_tt2 : h0.size ≤ tt2 := Nat.le_trans K0.1 zq2
  have O2 : Old Z n0 T2.heap := O0.keep kq2 (allS g_a0b all0)
  have K2 : Keep h0 T2.heap [a0b] := K0.trans kq2 (allS (Or.inl (List.mem_of_getElem? (i := 0) rfl)) all0)
  have lt_tt2 := vq2.lt
  refine Go.tr (f' := (mkF m 9 #[rv a0b, rv a1] [])) st2 ?_
  refine Go.ret0 X2 hlk hx hret (hb hby d1_9) rfl ?_ (by decide) (by decide)
  exact ⟨rfl, N2, K2, eq2, cq2, tt2, kt2, sz_tt2, fq2, vq2⟩
theorem pn_java_lang_StringLatin1 : plainName "java/lang/StringLatin1" = true := by first | (simp [plainName, overriddenIn]; done) | decide +kernel
theorem d15_0 : decode jdk_43_method_3_code 0 = .ok (.iload_n 0, 1) := by decide +kernel
theorem d15_1 : decode jdk_43_method_3_code 1 = .ok (.sipush 255, 3) := by decide +kernel
theorem d15_4 : decode jdk_43_method_3_code 4 = .ok (.if_icmp .gt 7, 3) := by decide +kernel
theorem d15_7 : decode jdk_43_method_3_code 7 = .ok (.iconst 1, 1) := by decide +kernel
theorem d15_8 : decode jdk_43_method_3_code 8 = .ok (.goto 4, 3) := by decide +kernel
theorem d15_12 : decode jdk_43_method_3_code 12 = .ok (.ireturn, 1) := by decide +kernel
set_option maxRecDepth 65536 in
set_option maxHeartbeats 40000000 in
theorem st_enc (l : Launch) (Z : State) (a0 : Array Value) (hw : ∀ d ∈ tables_1, d.before a0 Z = true) (ws : List Jvm.Cond) (c0 : Int32) (h0 : Heap) (n0 : Nat) (O0 : Old Z n0 h0) (hc_c0 : ¬ (255 : Int32) < c0) :
    Con l Z (⟨"java/lang/StringLatin1", "canEncode", "(C)Z"⟩ : MethodName) jdk_43_method_3_code 1 (some .boolean) ws ({ frames := 0, cells := 0, slots := 0, locals := 0 } : Room) #[(.int c0)] h0 (fun v h L => v = some (.int 1) ∧ Fr n0 L ∧ h = h0) := by
  refine own_body (plainFor_of_name pn_java_lang_StringLatin1) ?_
  intro p e s m below meth c s₁ hx hby hml hZ hown hnm hlk hret X0 e0
  have N0 := Fr.nil n0
  refine Go.st (T' := s₁) (f' := (mkF m 0 #[iv c0] [])) (fun _ k => castTop (by first | (simp [entryFrame, mkF, argsToLocals, Value.category]; done) | rfl) k) ?_
  refine Go.st (f' := (mkF m 1 #[iv c0] [(.int c0)])) (fun _ k => XS.iloadN X0.here hx rfl (hb hby d15_0) rfl k) ?_
  refine Go.st (f' := (mkF m 4 #[iv c0] [(.int 255), (.int c0)])) (fun _ k => XS.sipush X0.here hx rfl (hb hby d15_1) k) ?_
  refine Go.st (f' := (mkF m 7 #[iv c0] [])) (fun _ k => XS.icmpNo X0.here hx rfl (hb hby d15_4) rfl (flt hc_c0).2.2.1 k) ?_
  refine Go.st (f' := (mkF m 8 #[iv c0] [(.int 1)])) (fun _ k => XS.iconst X0.here hx rfl (hb hby d15_7) k) ?_
  refine Go.st (f' := (mkF m 12 #[iv c0] [(.int 1)])) (fun _ k => XS.goto X0.here hx rfl (pc0 := 8) (pc' := 12) rfl (hb hby d15_8) (by decide) (by decide) k) ?_
  refine Go.retB X0 hlk hx (t := .boolean) hret (by simp) (hb hby d15_12) e0 ?_ (by decide) (by decide)
  exact ⟨rfl, N0, rfl⟩
theorem d16_0 : decode jdk_43_method_46_code 0 = .ok (.iconst 1, 1) := by decide +kernel
theorem d16_1 : decode jdk_43_method_46_code 1 = .ok (.newarray .byte, 2) := by decide +kernel
theorem d16_3 : decode jdk_43_method_46_code 3 = .ok (.dup, 1) := by decide +kernel
theorem d16_4 : decode jdk_43_method_46_code 4 = .ok (.iconst 0, 1) := by decide +kernel
theorem d16_5 : decode jdk_43_method_46_code 5 = .ok (.iload_n 0, 1) := by decide +kernel
theorem d16_6 : decode jdk_43_method_46_code 6 = .ok (.i2b, 1) := by decide +kernel
theorem d16_7 : decode jdk_43_method_46_code 7 = .ok (.bastore, 1) := by decide +kernel
theorem d16_8 : decode jdk_43_method_46_code 8 = .ok (.areturn, 1) := by decide +kernel
set_option maxRecDepth 65536 in
set_option maxHeartbeats 40000000 in
theorem st_tob (l : Launch) (Z : State) (a0 : Array Value) (hw : ∀ d ∈ tables_1, d.before a0 Z = true) (ws : List Jvm.Cond) (c0 : Int32) (h0 : Heap) (n0 : Nat) (O0 : Old Z n0 h0)  :
    Con l Z (⟨"java/lang/StringLatin1", "toBytes", "(C)[B"⟩ : MethodName) jdk_43_method_46_code 1 (some (.array .byte)) ws ({ frames := 0, cells := 1, slots := 1, locals := 0 } : Room) #[(.int c0)] h0 (fun v h L => ∃ (b : Addr) (kb : ClassId), v = some (.ref b) ∧ Fr n0 L ∧ h0.size ≤ b ∧ Keep h0 h [] ∧ Arv Z h b kb .byte (1 : Int32) [(.int (nar .byte (c0.toInt8.toInt32)))] (.int 0)) := by
  refine own_body (plainFor_of_name pn_java_lang_StringLatin1) ?_
  intro p e s m below meth c s₁ hx hby hml hZ hown hnm hlk hret X0 e0
  have N0 := Fr.nil n0
  have K0 : Keep h0 h0 [] := Keep.refl _ _
  refine Go.st (T' := s₁) (f' := (mkF m 0 #[iv c0] [])) (fun _ k => castTop (by first | (simp [entryFrame, mkF, argsToLocals, Value.category]; done) | rfl) k) ?_
  refine Go.st (f' := (mkF m 1 #[iv c0] [(.int 1)])) (fun _ k => XS.iconst X0.here hx rfl (hb hby d16_0) k) ?_
  obtain ⟨T1, h1, kc1, X1, e1, E1, A1, st1⟩ := newP X0 hx hZ (hw _ (List.mem_of_getElem? (i := 19) rfl)) e0 (g := (mkF m 1 #[iv c0] [(.int 1)])) rfl (hb hby d16_1) rfl (by decide) (cap := 1) (by decide) (by decide) (by decide) (by decide)
  obtain ⟨b1, g1⟩ : ∃ z, z = h0.size := ⟨_, rfl⟩
  rw [← g1] at A1 st1
  have g_b1 : n0 ≤ b1 := Nat.le_trans (O0.1 ▸ O0.2.1) (Nat.le_of_eq g1.symm)
  have O1 : Old Z n0 h1 := O0.ext E1
  have sz_b1 : h0.size ≤ b1 := Nat.le_trans K0.1 (Nat.le_of_eq g1.symm)
  have K1 : Keep h0 h1 [] := K0.ext E1
  have V_b1 : Arv Z h1 b1 kc1 .byte (1 : Int32) [(.int (0 : Int32))] (.int (0 : Int32)) := (Arv.new A1 (by decide)).pad (pad_rep [] (.int (0 : Int32)) 1)
  have lt_b1 := V_b1.lt
  refine Go.st (f' := (mkF m 3 #[iv c0] [(.ref b1)])) (fun _ k => st1 _ k) ?_
  refine Go.st (f' := (mkF m 4 #[iv c0] [(.ref b1), (.ref b1)])) (fun _ k => XS.dup X1.here hx rfl (hb hby d16_3) rfl rfl k) ?_
  refine Go.st (f' := (mkF m 5 #[iv c0] [(.int 0), (.ref b1), (.ref b1)])) (fun _ k => XS.iconst X1.here hx rfl (hb hby d16_4) k) ?_
  refine Go.st (f' := (mkF m 6 #[iv c0] [(.int c0), (.int 0), (.ref b1), (.ref b1)])) (fun _ k => XS.iloadN X1.here hx rfl (hb hby d16_5) rfl k) ?_
  refine Go.st (f' := (mkF m 7 #[iv c0] [(.int (c0.toInt8.toInt32)), (.int 0), (.ref b1), (.ref b1)])) (fun _ k => XS.i2b X1.here hx rfl (hb hby d16_6) rfl k) ?_
  obtain ⟨cl2, Ar2, q2, S2, Nx2, H2, G2⟩ := id V_b1
  have hin2 : ¬ ((0 : Int32) < 0 ∨ cl2.slots.size ≤ ((0 : Int32)).toNatClampNeg) := inb_of S2 ⟨by decide, by decide⟩
  obtain ⟨T3, h3, X3, e3, W3, st3⟩ := stB X1 hx hZ e1 Ar2 (j := (0 : Int32)) hin2 (g := (mkF m 7 #[iv c0] [(.int (c0.toInt8.toInt32)), (.int 0), (.ref b1), (.ref b1)])) rfl rfl (hb hby d16_7)
  have V_b1_3 : Arv Z h3 b1 kc1 .byte (1 : Int32) [(.int (nar .byte (c0.toInt8.toInt32)))] (.int (0 : Int32)) := Arv.set Ar2 q2 S2 Nx2 H2 G2 (fits_nar_byte _) W3 0 rfl (Nat.le_of_ble_eq_true rfl)
  have N3 := Fr.snoc X3 N0 g_b1
  have O3 : Old Z n0 h3 := O1.wr W3 g_b1
  have K3 : Keep h0 h3 [] := K1.wr W3 (Or.inr sz_b1)
  refine Go.st (f' := (mkF m 8 #[iv c0] [(.ref b1)])) (fun _ k => st3 _ k) ?_
  refine Go.retV X3 hlk hx (t := (.array .byte)) hret rfl (Or.inr (Or.inr (Or.inr (Or.inr ⟨rfl, rfl, rfl⟩)))) (hb hby d16_8) e3 ?_ (by decide) (by decide)
  exact ⟨b1, kc1, rfl, N3, sz_b1, K3, V_b1_3⟩
theorem d17_0 : decode jdk_42_method_151_code 0 = .ok (.aload_n 0, 1) := by decide +kernel
theorem d17_1 : decode jdk_42_method_151_code 1 = .ok (.invokespecial 1, 3) := by decide +kernel
theorem d17_4 : decode jdk_42_method_151_code 4 = .ok (.aload_n 0, 1) := by decide +kernel
theorem d17_5 : decode jdk_42_method_151_code 5 = .ok (.aload_n 1, 1) := by decide +kernel
theorem d17_6 : decode jdk_42_method_151_code 6 = .ok (.putfield 9, 3) := by decide +kernel
theorem d17_9 : decode jdk_42_method_151_code 9 = .ok (.aload_n 0, 1) := by decide +kernel
theorem d17_10 : decode jdk_42_method_151_code 10 = .ok (.iload_n 2, 1) := by decide +kernel
theorem d17_11 : decode jdk_42_method_151_code 11 = .ok (.putfield 15, 3) := by decide +kernel
theorem d17_14 : decode jdk_42_method_151_code 14 = .ok (.return_, 1) := by decide +kernel
set_option maxRecDepth 65536 in
set_option maxHeartbeats 40000000 in
theorem st_bb (l : Launch) (Z : State) (a0 : Array Value) (hw : ∀ d ∈ tables_1, d.before a0 Z = true) (ws : List Jvm.Cond) (a1 : Addr) (t1 : Addr) (h0 : Heap) (n0 : Nat) (O0 : Old Z n0 h0) (g_a1 : n0 ≤ a1) (E_a1 : Exa Z h0 a1 "java/lang/String") (F_a1_coder : Fld Z h0 a1 "java/lang/String" "coder" "B" (.int 0)) (F_a1_value : Fld Z h0 a1 "java/lang/String" "value" "[B" .null) :
    Con l Z (⟨"java/lang/String", "<init>", "([BB)V"⟩ : MethodName) jdk_42_method_151_code 3 none ws ({ frames := 1, cells := 0, slots := 0, locals := 12 } : Room) #[(.ref a1), (.ref t1), (.int 0)] h0 (fun v h L => v = none ∧ Fr n0 L ∧ Keep h0 h [a1] ∧ Exa Z h a1 "java/lang/String" ∧ Fld Z h a1 "java/lang/String" "coder" "B" (.int 0) ∧ Fld Z h a1 "java/lang/String" "value" "[B" (.ref t1)) := by
  refine own_body (plainFor_of_name pn_java_lang_String) ?_
  intro p e s m below meth c s₁ hx hby hml hZ hown hnm hlk hret X0 e0
  have N0 := Fr.nil n0
  have K0 : Keep h0 h0 [a1] := Keep.refl _ _
  refine Go.st (T' := s₁) (f' := (mkF m 0 #[rv a1, rv t1, iv 0] [])) (fun _ k => castTop (by first | (simp [entryFrame, mkF, argsToLocals, Value.category]; done) | rfl) k) ?_
  have lt_a1 := E_a1.lt
  refine Go.st (f' := (mkF m 1 #[rv a1, rv t1, iv 0] [(.ref a1)])) (fun _ k => XS.aloadN X0.here hx rfl (hb hby d17_0) rfl rfl k) ?_
  obtain ⟨T1, X1, e1, st1⟩ := initO X0 hx hZ hown (hw _ (List.mem_of_getElem? (i := 11) rfl)) (hw _ (List.mem_of_getElem? (i := 12) rfl)) (hw _ (List.mem_of_getElem? (i := 13) rfl)) e0 (g := (mkF m 1 #[rv a1, rv t1, iv 0] [(.ref a1)])) rfl (by rw [hml]; rfl) rfl (hb hby d17_1) (by decide) (W := 0) (by show 2 * 0 + _ ≤ _; exact Nat.le_of_eq rfl) (by decide)
  refine Go.st (f' := (mkF m 4 #[rv a1, rv t1, iv 0] [])) (fun _ k => st1 _ k) ?_
  refine Go.st (f' := (mkF m 5 #[rv a1, rv t1, iv 0] [(.ref a1)])) (fun _ k => XS.aloadN X1.here hx rfl (hb hby d17_4) rfl rfl k) ?_
  refine Go.st (f' := (mkF m 6 #[rv a1, rv t1, iv 0] [(.ref t1), (.ref a1)])) (fun _ k => XS.aloadN X1.here hx rfl (hb hby d17_5) rfl rfl k) ?_
  obtain ⟨T2, h2, X2, e2, W2, st2⟩ := putF X1 hx hZ hown (host := "") (Or.inl (hw _ (List.mem_of_getElem? (i := 28) rfl))) Via.refl e1 F_a1_value E_a1 (Or.inr ⟨(hw _ (List.mem_of_getElem? (i := 29) rfl)), rfl, hnm⟩) (hw _ (List.mem_of_getElem? (i := 2) rfl)) (ty := (.array .byte)) (by decide) rfl rfl (g := (mkF m 6 #[rv a1, rv t1, iv 0] [(.ref t1), (.ref a1)])) rfl rfl (hb hby d17_6)
  have N2 := Fr.snoc X2 N0 g_a1
  have O2 : Old Z n0 h2 := O0.wr W2 g_a1
  have K2 : Keep h0 h2 [a1] := K0.wr W2 (Or.inl (List.mem_of_getElem? (i := 0) rfl))
  have Fw2 := F_a1_value.same W2
  refine Go.st (f' := (mkF m 9 #[rv a1, rv t1, iv 0] [])) (fun _ k => st2 _ k) ?_
  refine Go.st (f' := (mkF m 10 #[rv a1, rv t1, iv 0] [(.ref a1)])) (fun _ k => XS.aloadN X2.here hx rfl (hb hby d17_9) rfl rfl k) ?_
  refine Go.st (f' := (mkF m 11 #[rv a1, rv t1, iv 0] [(.int 0), (.ref a1)])) (fun _ k => XS.iloadN X2.here hx rfl (hb hby d17_10) rfl k) ?_
  have ft3 := (E_a1.wr W2)
  have ft4 := (F_a1_coder.other W2 (Or.inr (slot_ne (Or.inr (hw _ (List.mem_of_getElem? (i := 27) rfl))) (Or.inr (hw _ (List.mem_of_getElem? (i := 29) rfl))) (by decide) (t := .byte) (t' := (.array .byte)) (by decide) (by decide))))
  obtain ⟨T5, h5, X5, e5, W5, st5⟩ := putFN X2 hx hZ hown (hw _ (List.mem_of_getElem? (i := 26) rfl)) Via.refl e2 ft4 ft3 (Or.inr ⟨(hw _ (List.mem_of_getElem? (i := 27) rfl)), rfl, hnm⟩) (hw _ (List.mem_of_getElem? (i := 2) rfl)) (ty := .byte) (v' := (.int (0 : Int32))) (by decide) rfl (by decide) (g := (mkF m 11 #[rv a1, rv t1, iv 0] [(.int 0), (.ref a1)])) rfl rfl (hb hby d17_11)
  have N5 := Fr.snoc X5 N2 g_a1
  have O5 : Old Z n0 h5 := O2.wr W5 g_a1
  have K5 : Keep h0 h5 [a1] := K2.wr W5 (Or.inl (List.mem_of_getElem? (i := 0) rfl))
  have Fw5 := ft4.same W5
  refine Go.st (f' := (mkF m 14 #[rv a1, rv t1, iv 0] [])) (fun _ k => st5 _ k) ?_
  refine Go.ret0 X5 hlk hx hret (hb hby d17_14) e5 ?_ (by decide) (by decide)
  have ft6 := (ft3.wr W5)
  have ft7 := (Fw2.other W5 (Or.inr (slot_ne (Or.inr (hw _ (List.mem_of_getElem? (i := 29) rfl))) (Or.inr (hw _ (List.mem_of_getElem? (i := 27) rfl))) (by decide) (t := (.array .byte)) (t' := .byte) (by decide) (by decide))))
  exact ⟨rfl, N5, K5, ft6, Fw5, ft7⟩
theorem d14_0 : decode jdk_42_method_139_code 0 = .ok (.getstatic 38, 3) := by decide +kernel
theorem d14_3 : decode jdk_42_method_139_code 3 = .ok (.ifCond .eq 23, 3) := by decide +kernel
theorem d14_6 : decode jdk_42_method_139_code 6 = .ok (.iload_n 0, 1) := by decide +kernel
theorem d14_7 : decode jdk_42_method_139_code 7 = .ok (.invokestatic 1015, 3) := by decide +kernel
theorem pd__C_Z : parseMethodDescriptor "(C)Z" = some ⟨[.char], some .boolean⟩ := by decide +kernel
theorem d14_10 : decode jdk_42_method_139_code 10 = .ok (.ifCond .eq 16, 3) := by decide +kernel
theorem d14_13 : decode jdk_42_method_139_code 13 = .ok (.new 10, 3) := by decide +kernel
theorem d14_16 : decode jdk_42_method_139_code 16 = .ok (.dup, 1) := by decide +kernel
theorem d14_17 : decode jdk_42_method_139_code 17 = .ok (.iload_n 0, 1) := by decide +kernel
theorem d14_18 : decode jdk_42_method_139_code 18 = .ok (.invokestatic 1018, 3) := by decide +kernel
theorem pd__C__B : parseMethodDescriptor "(C)[B" = some ⟨[.char], some (.array .byte)⟩ := by decide +kernel
theorem d14_21 : decode jdk_42_method_139_code 21 = .ok (.iconst 0, 1) := by decide +kernel
theorem d14_22 : decode jdk_42_method_139_code 22 = .ok (.invokespecial 209, 3) := by decide +kernel
theorem pd___BB_V : parseMethodDescriptor "([BB)V" = some ⟨[(.array .byte), .byte], none⟩ := by decide +kernel
theorem d14_25 : decode jdk_42_method_139_code 25 = .ok (.areturn, 1) := by decide +kernel
set_option maxRecDepth 65536 in
set_option maxHeartbeats 40000000 in
theorem st_vof (l : Launch) (Z : State) (a0 : Array Value) (hw : ∀ d ∈ tables_1, d.before a0 Z = true) (ws : List Jvm.Cond) (c0 : Int32) (w_WARNING : Addr) (i_COMPACT_STRINGS : Int32) (v_SIOOBE_FORMATTER : Value) (h0 : Heap) (n0 : Nat) (O0 : Old Z n0 h0) (hc_c0 : ¬ (255 : Int32) < c0) (WW : World1 Z w_WARNING i_COMPACT_STRINGS v_SIOOBE_FORMATTER) :
    Con l Z (⟨"java/lang/String", "valueOf", "(C)Ljava/lang/String;"⟩ : MethodName) jdk_42_method_139_code 1 (some (.object "java/lang/String")) ws ({ frames := 2, cells := 2, slots := 5, locals := 27 } : Room) #[(.int c0)] h0 (fun v h L => ∃ b : Addr, v = some (.ref b) ∧ Fr n0 L ∧ h0.size ≤ b ∧ Keep h0 h [] ∧ Exa Z h b "java/lang/String" ∧ Fld Z h b "java/lang/String" "coder" "B" (.int 0) ∧ ∃ (t : Addr) (kt : ClassId), h0.size ≤ t ∧ Fld Z h b "java/lang/String" "value" "[B" (.ref t) ∧ Arv Z h t kt .byte (1 : Int32) [(.int (nar .byte (c0.toInt8.toInt32)))] (.int 0)) := by
  refine own_body (plainFor_of_name pn_java_lang_String) ?_
  intro p e s m below meth c s₁ hx hby hml hZ hown hnm hlk hret X0 e0
  have N0 := Fr.nil n0
  have K0 : Keep h0 h0 [] := Keep.refl _ _
  refine Go.st (T' := s₁) (f' := (mkF m 0 #[iv c0] [])) (fun _ k => castTop (by first | (simp [entryFrame, mkF, argsToLocals, Value.category]; done) | rfl) k) ?_
  have ⟨S_i_COMPACT_STRINGS, nz_i_COMPACT_STRINGS, S_v_SIOOBE_FORMATTER, r_v_SIOOBE_FORMATTER, S_w_WARNING, E_w_WARNING⟩ := WW
  have lt_w_WARNING := E_w_WARNING.lt
  obtain ⟨T1, X1, e1, st1⟩ := getS2 X0 hx hZ hown (host := "") (Or.inl (hw _ (List.mem_of_getElem? (i := 14) rfl))) Via.refl e0 (S_i_COMPACT_STRINGS.ext O0.2) (g := (mkF m 0 #[iv c0] [])) rfl (hb hby d14_0)
  refine Go.st (f' := (mkF m 3 #[iv c0] [(.int i_COMPACT_STRINGS)])) (fun _ k => st1 _ k) ?_
  refine Go.st (f' := (mkF m 6 #[iv c0] [])) (fun _ k => XS.ifNo X1.here hx rfl (hb hby d14_3) rfl ((if0 _ _).trans (feq nz_i_COMPACT_STRINGS).1) k) ?_
  refine Go.st (f' := (mkF m 7 #[iv c0] [(.int c0)])) (fun _ k => XS.iloadN X1.here hx rfl (hb hby d14_6) rfl k) ?_
  obtain ⟨_, _, ⟨T2, L2, kk2, nn2⟩, -, X2, ⟨Lc2, hQ2, lq2, yq2, zz2⟩, st2⟩ := Jvm.LawKit.callS X1 hx (y := (⟨"java/lang/StringLatin1", "canEncode", "(C)Z"⟩ : MethodName)) hown (mvT hZ (hw _ (List.mem_of_getElem? (i := 78) rfl))) (mvT hZ (hw _ (List.mem_of_getElem? (i := 79) rfl))) (mvT hZ (hw _ (List.mem_of_getElem? (i := 80) rfl))) (mvT hZ (hw _ (List.mem_of_getElem? (i := 81) rfl))) (by decide) (own_back (W := 0) (st_enc l Z a0 hw [] c0 h0 n0 O0 hc_c0) hZ (hw _ (List.mem_of_getElem? (i := 81) rfl)) (hw _ (List.mem_of_getElem? (i := 80) rfl)) (by decide) (by decide)) (g := (mkF m 7 #[iv c0] [(.int c0)])) rfl (by rw [hml]; rfl) (argsL := [(.int c0)]) (rest := []) (lenOf pd__C_Z rfl) rfl (by show 2 * 0 + _ ≤ _; exact Nat.le_of_eq rfl) (hb hby d14_7) (fun _ _ => ⟨rfl, e1, (by decide : 0 + 0 ≤ _), (by decide : 0 + 0 ≤ _)⟩)
  dsimp only [Pt.U, Pt.locs, Pt.cells, Pt.slots] at X2 lq2 yq2 zz2 st2 hQ2
  subst lq2 yq2 zz2
  obtain ⟨rfl, Nq2, kq2⟩ := hQ2
  have N2 := Fr.app N0 Nq2
  refine Go.st (f' := (mkF m 10 #[iv c0] [(.int 1)])) (fun _ k => st2 _ k) ?_
  refine Go.st (f' := (mkF m 13 #[iv c0] [])) (fun _ k => XS.ifNo X2.here hx rfl (hb hby d14_10) rfl (by decide) k) ?_
  obtain ⟨T3, h3, X3, e3, E3, A3, D3, -, st3⟩ := newO X2 hx hZ hown (hw _ (List.mem_of_getElem? (i := 82) rfl)) (hw _ (List.mem_of_getElem? (i := 2) rfl)) (hw _ (List.mem_of_getElem? (i := 3) rfl)) kq2 (g := (mkF m 13 #[iv c0] [])) rfl (hb hby d14_13) (by decide) (by decide)
  obtain ⟨b3, g3⟩ : ∃ z, z = h0.size := ⟨_, rfl⟩
  rw [← g3] at A3 D3 st3
  have ne_w_WARNING_b3 : w_WARNING ≠ b3 := Nat.ne_of_lt (Nat.lt_of_lt_of_le lt_w_WARNING (Nat.le_trans O0.2.1 (Nat.le_of_eq g3.symm)))
  have g_b3 : n0 ≤ b3 := Nat.le_trans (O0.1 ▸ O0.2.1) (Nat.le_of_eq g3.symm)
  have O3 : Old Z n0 h3 := O0.ext E3
  have sz_b3 : h0.size ≤ b3 := Nat.le_trans K0.1 (Nat.le_of_eq g3.symm)
  have K3 : Keep h0 h3 [] := K0.ext E3
  have lt_b3 := A3.lt
  have F_coder_b3 : Fld Z h3 b3 "java/lang/String" "coder" "B" (.int (0 : Int32)) := D3 (Or.inr (hw _ (List.mem_of_getElem? (i := 27) rfl))) (ty := .byte) (by decide)
  have F_value_b3 : Fld Z h3 b3 "java/lang/String" "value" "[B" .null := D3 (Or.inr (hw _ (List.mem_of_getElem? (i := 29) rfl))) (ty := (.array .byte)) (by decide)
  refine Go.st (f' := (mkF m 16 #[iv c0] [(.ref b3)])) (fun _ k => st3 _ k) ?_
  refine Go.st (f' := (mkF m 17 #[iv c0] [(.ref b3), (.ref b3)])) (fun _ k => XS.dup X3.here hx rfl (hb hby d14_16) rfl rfl k) ?_
  refine Go.st (f' := (mkF m 18 #[iv c0] [(.int c0), (.ref b3), (.ref b3)])) (fun _ k => XS.iloadN X3.here hx rfl (hb hby d14_17) rfl k) ?_
  obtain ⟨_, _, ⟨T4, L4, kk4, nn4⟩, -, X4, ⟨Lc4, hQ4, lq4, yq4, zz4⟩, st4⟩ := Jvm.LawKit.callS X3 hx (y := (⟨"java/lang/StringLatin1", "toBytes", "(C)[B"⟩ : MethodName)) hown (mvT hZ (hw _ (List.mem_of_getElem? (i := 83) rfl))) (mvT hZ (hw _ (List.mem_of_getElem? (i := 84) rfl))) (mvT hZ (hw _ (List.mem_of_getElem? (i := 80) rfl))) (mvT hZ (hw _ (List.mem_of_getElem? (i := 85) rfl))) (by decide) (own_back (W := 2) (st_tob l Z a0 hw [] c0 h3 n0 O3) hZ (hw _ (List.mem_of_getElem? (i := 85) rfl)) (hw _ (List.mem_of_getElem? (i := 80) rfl)) (by decide) (by decide)) (g := (mkF m 18 #[iv c0] [(.int c0), (.ref b3), (.ref b3)])) rfl (by rw [hml]; rfl) (argsL := [(.int c0)]) (rest := [(.ref b3), (.ref b3)]) (lenOf pd__C__B rfl) rfl (by show 2 * 0 + _ ≤ _; exact Nat.le_of_eq rfl) (hb hby d14_18) (fun _ _ => ⟨rfl, e3, (by decide : 1 + 1 ≤ _), (by decide : 4 + 1 ≤ _)⟩)
  dsimp only [Pt.U, Pt.locs, Pt.cells, Pt.slots] at X4 lq4 yq4 zz4 st4 hQ4
  subst lq4 yq4 zz4
  obtain ⟨b4, kb4, rfl, Nq4, zq4, kq4, vq4⟩ := hQ4
  have N4 := Fr.app N2 Nq4
  have ne_b3_b4 : b3 ≠ b4 := Nat.ne_of_lt (Nat.lt_of_lt_of_le lt_b3 zq4)
  have ne_w_WARNING_b4 : w_WARNING ≠ b4 := Nat.ne_of_lt (Nat.lt_of_lt_of_le lt_w_WARNING (Nat.le_trans O3.2.1 zq4))
  have g_b4 : n0 ≤ b4 := Nat.le_trans (O3.1 ▸ O3.2.1) zq4
  have sz_b4 : h0.size ≤ b4 := Nat.le_trans K3.1 zq4
  have O4 : Old Z n0 T4.heap := O3.keep kq4 all0
  have K4 : Keep h0 T4.heap [] := K3.trans kq4 all0
  have lt_b4 := vq4.lt
  refine Go.st (f' := (mkF m 21 #[iv c0] [(.ref b4), (.ref b3), (.ref b3)])) (fun _ k => st4 _ k) ?_
  refine Go.st (f' := (mkF m 22 #[iv c0] [(.int 0), (.ref b4), (.ref b3), (.ref b3)])) (fun _ k => XS.iconst X4.here hx rfl (hb hby d14_21) k) ?_
  have ft6 := (A3.keep kq4)
  have ft7 := (F_coder_b3.keep kq4 nin0)
  have ft8 := (F_value_b3.keep kq4 nin0)
  obtain ⟨_, _, ⟨T5, L5, kk5, nn5⟩, -, X5, ⟨Lc5, hQ5, lq5, yq5, zz5⟩, st5⟩ := X4.specialBack hx (y := (⟨"java/lang/String", "<init>", "([BB)V"⟩ : MethodName)) rfl hown (mvT hZ (hw _ (List.mem_of_getElem? (i := 86) rfl))) (mvT hZ (hw _ (List.mem_of_getElem? (i := 87) rfl))) (mvT hZ (hw _ (List.mem_of_getElem? (i := 88) rfl))) (by decide) (own_back (W := 1) (st_bb l Z a0 hw [] b3 b4 T4.heap n0 O4 g_b3 ft6 ft7 ft8 ) hZ (hw _ (List.mem_of_getElem? (i := 88) rfl)) (hw _ (List.mem_of_getElem? (i := 3) rfl)) (by decide) (by decide)) (g := (mkF m 22 #[iv c0] [(.int 0), (.ref b4), (.ref b3), (.ref b3)])) rfl (by rw [hml]; rfl) (Steps.refl _) (a := b3) (argsL := [(.ref b4), (.int (0 : Int32))]) (rest := [(.ref b3)]) (lenOf pd___BB_V rfl) rfl (by show 2 * 0 + _ ≤ _; exact Nat.le_of_eq rfl) (hb hby d14_22) (fun _ _ => ⟨rfl, rfl, (by decide : 2 + 0 ≤ _), (by decide : 5 + 0 ≤ _)⟩)
  dsimp only [Pt.U, Pt.locs, Pt.cells, Pt.slots] at X5 lq5 yq5 zz5 st5 hQ5
  subst lq5 yq5 zz5
  obtain ⟨rfl, Nq5, kq5, eq5, fq5_0, fq5_1⟩ := hQ5
  have N5 := Fr.app N4 Nq5
  have O5 : Old Z n0 T5.heap := O4.keep kq5 (allS g_b3 all0)
  have K5 : Keep h0 T5.heap [] := K4.trans kq5 (allS (Or.inr sz_b3) all0)
  refine Go.tr (f' := (mkF m 25 #[iv c0] [(.ref b3)])) st5 ?_
  refine Go.retV X5 hlk hx (t := (.object "java/lang/String")) hret rfl (Or.inr (Or.inr (Or.inr (Or.inr ⟨rfl, rfl, rfl⟩)))) (hb hby d14_25) rfl ?_ (by decide) (by decide)
  have ft9 := (vq4.keep kq5 (ninS (Ne.symm ne_b3_b4) nin0))
  exact ⟨b3, rfl, N5, sz_b3, K5, eq5, fq5_0, b4, kb4, sz_b4, fq5_1, ft9⟩
theorem d12_0 : decode jdk_42_method_66_code 0 = .ok (.aload_n 0, 1) := by decide +kernel
theorem d12_1 : decode jdk_42_method_66_code 1 = .ok (.aload_n 1, 1) := by decide +kernel
theorem d12_2 : decode jdk_42_method_66_code 2 = .ok (.if_acmp .ne 5, 3) := by decide +kernel
theorem d12_5 : decode jdk_42_method_66_code 5 = .ok (.iconst 1, 1) := by decide +kernel
theorem d12_6 : decode jdk_42_method_66_code 6 = .ok (.ireturn, 1) := by decide +kernel
set_option maxRecDepth 65536 in
set_option maxHeartbeats 40000000 in
theorem st_eqs (l : Launch) (Z : State) (a0 : Array Value) (hw : ∀ d ∈ tables_1, d.before a0 Z = true) (ws : List Jvm.Cond) (a1 : Addr) (h0 : Heap) (n0 : Nat) (O0 : Old Z n0 h0)  :
    Con l Z (⟨"java/lang/String", "equals", "(Ljava/lang/Object;)Z"⟩ : MethodName) jdk_42_method_66_code 3 (some .boolean) ws ({ frames := 0, cells := 0, slots := 0, locals := 0 } : Room) #[(.ref a1), (.ref a1)] h0 (fun v h L => v = some (.int 1) ∧ Fr n0 L ∧ h = h0) := by
  refine own_body (plainFor_of_name pn_java_lang_String) ?_
  intro p e s m below meth c s₁ hx hby hml hZ hown hnm hlk hret X0 e0
  have N0 := Fr.nil n0
  refine Go.st (T' := s₁) (f' := (mkF m 0 #[rv a1, rv a1, .unset] [])) (fun _ k => castTop (by first | (simp [entryFrame, mkF, argsToLocals, Value.category]; done) | rfl) k) ?_
  refine Go.st (f' := (mkF m 1 #[rv a1, rv a1, .unset] [(.ref a1)])) (fun _ k => XS.aloadN X0.here hx rfl (hb hby d12_0) rfl rfl k) ?_
  refine Go.st (f' := (mkF m 2 #[rv a1, rv a1, .unset] [(.ref a1), (.ref a1)])) (fun _ k => XS.aloadN X0.here hx rfl (hb hby d12_1) rfl rfl k) ?_
  refine Go.st (f' := (mkF m 5 #[rv a1, rv a1, .unset] [])) (fun _ k => Jvm.RoadKit.acmp (g := (mkF m 2 #[rv a1, rv a1, .unset] [(.ref a1), (.ref a1)])) X0 hx rfl rfl rfl (pc0 := 2) (pc' := 5) (same := true) rfl (hb hby d12_2) rfl (decide_eq_true rfl) (by decide) (by decide) k) ?_
  refine Go.st (f' := (mkF m 6 #[rv a1, rv a1, .unset] [(.int 1)])) (fun _ k => XS.iconst X0.here hx rfl (hb hby d12_5) k) ?_
  refine Go.retB X0 hlk hx (t := .boolean) hret (by simp) (hb hby d12_6) e0 ?_ (by decide) (by decide)
  exact ⟨rfl, N0, rfl⟩
theorem pn_java_lang_Record : plainName "java/lang/Record" = true := by first | (simp [plainName, overriddenIn]; done) | decide +kernel
theorem d9_0 : decode jdk_30_method_1_code 0 = .ok (.aload_n 0, 1) := by decide +kernel
theorem d9_1 : decode jdk_30_method_1_code 1 = .ok (.invokespecial 1, 3) := by decide +kernel
theorem d9_4 : decode jdk_30_method_1_code 4 = .ok (.return_, 1) := by decide +kernel
set_option maxRecDepth 65536 in
set_option maxHeartbeats 40000000 in
theorem rmRec (l : Launch) (Z : State) (a0 : Array Value) (hw : ∀ d ∈ tables_1, d.before a0 Z = true) (ws : List Jvm.Cond) (a1 : Addr) (h0 : Heap) (n0 : Nat) (O0 : Old Z n0 h0)  :
    Con l Z (⟨"java/lang/Record", "<init>", "()V"⟩ : MethodName) jdk_30_method_1_code 1 none ws ({ frames := 1, cells := 0, slots := 0, locals := 12 } : Room) #[(.ref a1)] h0 (fun v h L => v = none ∧ Fr n0 L ∧ h = h0) := by
  refine own_body (plainFor_of_name pn_java_lang_Record) ?_
  intro p e s m below meth c s₁ hx hby hml hZ hown hnm hlk hret X0 e0
  have N0 := Fr.nil n0
  refine Go.st (T' := s₁) (f' := (mkF m 0 #[rv a1] [])) (fun _ k => castTop (by first | (simp [entryFrame, mkF, argsToLocals, Value.category]; done) | rfl) k) ?_
  refine Go.st (f' := (mkF m 1 #[rv a1] [(.ref a1)])) (fun _ k => XS.aloadN X0.here hx rfl (hb hby d9_0) rfl rfl k) ?_
  obtain ⟨T1, X1, e1, st1⟩ := initO X0 hx hZ hown (hw _ (List.mem_of_getElem? (i := 47) rfl)) (hw _ (List.mem_of_getElem? (i := 12) rfl)) (hw _ (List.mem_of_getElem? (i := 13) rfl)) e0 (g := (mkF m 1 #[rv a1] [(.ref a1)])) rfl (by rw [hml]; rfl) rfl (hb hby d9_1) (by decide) (W := 0) (by show 2 * 0 + _ ≤ _; exact Nat.le_of_eq rfl) (by decide)
  refine Go.st (f' := (mkF m 4 #[rv a1] [])) (fun _ k => st1 _ k) ?_
  refine Go.ret0 X1 hlk hx hret (hb hby d9_4) e1 ?_ (by decide) (by decide)
  exact ⟨rfl, N0, rfl⟩
theorem pn_com_example_lapwing_lapwing_profile_RuleViolation : plainName "com/example/lapwing/lapwing/profile/RuleViolation" = true := by first | (simp [plainName, overriddenIn]; done) | decide +kernel
theorem d8_0 : decode prog_38_method_1_code 0 = .ok (.aload_n 0, 1) := by decide +kernel
theorem d8_1 : decode prog_38_method_1_code 1 = .ok (.invokespecial 1, 3) := by decide +kernel
theorem pd___V : parseMethodDescriptor "()V" = some ⟨[], none⟩ := by decide +kernel
theorem d8_4 : decode prog_38_method_1_code 4 = .ok (.aload_n 0, 1) := by decide +kernel
theorem d8_5 : decode prog_38_method_1_code 5 = .ok (.aload_n 1, 1) := by decide +kernel
theorem d8_6 : decode prog_38_method_1_code 6 = .ok (.putfield 7, 3) := by decide +kernel
theorem d8_9 : decode prog_38_method_1_code 9 = .ok (.aload_n 0, 1) := by decide +kernel
theorem d8_10 : decode prog_38_method_1_code 10 = .ok (.aload_n 2, 1) := by decide +kernel
theorem d8_11 : decode prog_38_method_1_code 11 = .ok (.putfield 13, 3) := by decide +kernel
theorem d8_14 : decode prog_38_method_1_code 14 = .ok (.aload_n 0, 1) := by decide +kernel
theorem d8_15 : decode prog_38_method_1_code 15 = .ok (.aload_n 3, 1) := by decide +kernel
theorem d8_16 : decode prog_38_method_1_code 16 = .ok (.putfield 17, 3) := by decide +kernel
theorem d8_19 : decode prog_38_method_1_code 19 = .ok (.return_, 1) := by decide +kernel
set_option maxRecDepth 65536 in
set_option maxHeartbeats 40000000 in
theorem rmInit (l : Launch) (Z : State) (a0 : Array Value) (hw : ∀ d ∈ tables_1, d.before a0 Z = true) (ws : List Jvm.Cond) (a1 : Addr) (s1 : Addr) (p1 : Addr) (m1 : Addr) (h0 : Heap) (n0 : Nat) (O0 : Old Z n0 h0) (g_a1 : n0 ≤ a1) (E_a1 : Exa Z h0 a1 "com/example/lapwing/lapwing/profile/RuleViolation") (F_a1_severity : Fld Z h0 a1 "com/example/lapwing/lapwing/profile/RuleViolation" "severity" "Lcom/example/lapwing/lapwing/profile/RuleViolation$Severity;" .null) (F_a1_path : Fld Z h0 a1 "com/example/lapwing/lapwing/profile/RuleViolation" "path" "Ljava/lang/String;" .null) (F_a1_message : Fld Z h0 a1 "com/example/lapwing/lapwing/profile/RuleViolation" "message" "Ljava/lang/String;" .null) :
    Con l Z (⟨"com/example/lapwing/lapwing/profile/RuleViolation", "<init>", "(Lcom/example/lapwing/lapwing/profile/RuleViolation$Severity;Ljava/lang/String;Ljava/lang/String;)V"⟩ : MethodName) prog_38_method_1_code 4 none ws ({ frames := 2, cells := 0, slots := 0, locals := 24 } : Room) #[(.ref a1), (.ref s1), (.ref p1), (.ref m1)] h0 (fun v h L => v = none ∧ Fr n0 L ∧ Keep h0 h [a1] ∧ Exa Z h a1 "com/example/lapwing/lapwing/profile/RuleViolation" ∧ Fld Z h a1 "com/example/lapwing/lapwing/profile/RuleViolation" "severity" "Lcom/example/lapwing/lapwing/profile/RuleViolation$Severity;" (.ref s1) ∧ Fld Z h a1 "com/example/lapwing/lapwing/profile/RuleViolation" "path" "Ljava/lang/String;" (.ref p1) ∧ Fld Z h a1 "com/example/lapwing/lapwing/profile/RuleViolation" "message" "Ljava/lang/String;" (.ref m1)) := by
  refine own_body (plainFor_of_name pn_com_example_lapwing_lapwing_profile_RuleViolation) ?_
  intro p e s m below meth c s₁ hx hby hml hZ hown hnm hlk hret X0 e0
  have N0 := Fr.nil n0
  have K0 : Keep h0 h0 [a1] := Keep.refl _ _
  refine Go.st (T' := s₁) (f' := (mkF m 0 #[rv a1, rv s1, rv p1, rv m1] [])) (fun _ k => castTop (by first | (simp [entryFrame, mkF, argsToLocals, Value.category]; done) | rfl) k) ?_
  have lt_a1 := E_a1.lt
  refine Go.st (f' := (mkF m 1 #[rv a1, rv s1, rv p1, rv m1] [(.ref a1)])) (fun _ k => XS.aloadN X0.here hx rfl (hb hby d8_0) rfl rfl k) ?_
  obtain ⟨_, _, ⟨T1, L1, kk1, nn1⟩, -, X1, ⟨Lc1, hQ1, lq1, yq1, zz1⟩, st1⟩ := X0.specialBack hx (y := (⟨"java/lang/Record", "<init>", "()V"⟩ : MethodName)) rfl hown (mvT hZ (hw _ (List.mem_of_getElem? (i := 42) rfl))) (mvT hZ (hw _ (List.mem_of_getElem? (i := 43) rfl))) (mvT hZ (hw _ (List.mem_of_getElem? (i := 46) rfl))) (by decide) (own_back (W := 0) (rmRec l Z a0 hw [] a1 h0 n0 O0) hZ (hw _ (List.mem_of_getElem? (i := 46) rfl)) (hw _ (List.mem_of_getElem? (i := 45) rfl)) (by decide) (by decide)) (g := (mkF m 1 #[rv a1, rv s1, rv p1, rv m1] [(.ref a1)])) rfl (by rw [hml]; rfl) (Steps.refl _) (a := a1) (argsL := []) (rest := []) (lenOf pd___V rfl) rfl (by show 2 * 0 + _ ≤ _; exact Nat.le_of_eq rfl) (hb hby d8_1) (fun _ _ => ⟨rfl, e0, (by decide : 0 + 0 ≤ _), (by decide : 0 + 0 ≤ _)⟩)
  dsimp only [Pt.U, Pt.locs, Pt.cells, Pt.slots] at X1 lq1 yq1 zz1 st1 hQ1
  subst lq1 yq1 zz1
  obtain ⟨rfl, Nq1, kq1⟩ := hQ1
  have N1 := Fr.app N0 Nq1
  refine Go.tr (f' := (mkF m 4 #[rv a1, rv s1, rv p1, rv m1] [])) st1 ?_
  refine Go.st (f' := (mkF m 5 #[rv a1, rv s1, rv p1, rv m1] [(.ref a1)])) (fun _ k => XS.aloadN X1.here hx rfl (hb hby d8_4) rfl rfl k) ?_
  refine Go.st (f' := (mkF m 6 #[rv a1, rv s1, rv p1, rv m1] [(.ref s1), (.ref a1)])) (fun _ k => XS.aloadN X1.here hx rfl (hb hby d8_5) rfl rfl k) ?_
  obtain ⟨T2, h2, X2, e2, W2, st2⟩ := putF X1 hx hZ hown (host := "") (Or.inl (hw _ (List.mem_of_getElem? (i := 48) rfl))) Via.refl kq1 F_a1_severity E_a1 (Or.inr ⟨(hw _ (List.mem_of_getElem? (i := 49) rfl)), rfl, hnm⟩) (hw _ (List.mem_of_getElem? (i := 35) rfl)) (ty := (.object "com/example/lapwing/lapwing/profile/RuleViolation$Severity")) (by decide) rfl rfl (g := (mkF m 6 #[rv a1, rv s1, rv p1, rv m1] [(.ref s1), (.ref a1)])) rfl rfl (hb hby d8_6)
  have N2 := Fr.snoc X2 N1 g_a1
  have O2 : Old Z n0 h2 := O0.wr W2 g_a1
  have K2 : Keep h0 h2 [a1] := K0.wr W2 (Or.inl (List.mem_of_getElem? (i := 0) rfl))
  have Fw2 := F_a1_severity.same W2
  refine Go.st (f' := (mkF m 9 #[rv a1, rv s1, rv p1, rv m1] [])) (fun _ k => st2 _ k) ?_
  refine Go.st (f' := (mkF m 10 #[rv a1, rv s1, rv p1, rv m1] [(.ref a1)])) (fun _ k => XS.aloadN X2.here hx rfl (hb hby d8_9) rfl rfl k) ?_
  refine Go.st (f' := (mkF m 11 #[rv a1, rv s1, rv p1, rv m1] [(.ref p1), (.ref a1)])) (fun _ k => XS.aloadN X2.here hx rfl (hb hby d8_10) rfl rfl k) ?_
  have ft3 := (E_a1.wr W2)
  have ft4 := (F_a1_path.other W2 (Or.inr (slot_ne (Or.inr (hw _ (List.mem_of_getElem? (i := 51) rfl))) (Or.inr (hw _ (List.mem_of_getElem? (i := 49) rfl))) (by decide) (t := (.object "java/lang/String")) (t' := (.object "com/example/lapwing/lapwing/profile/RuleViolation$Severity")) (by decide) (by decide))))
  obtain ⟨T5, h5, X5, e5, W5, st5⟩ := putF X2 hx hZ hown (host := "") (Or.inl (hw _ (List.mem_of_getElem? (i := 50) rfl))) Via.refl e2 ft4 ft3 (Or.inr ⟨(hw _ (List.mem_of_getElem? (i := 51) rfl)), rfl, hnm⟩) (hw _ (List.mem_of_getElem? (i := 35) rfl)) (ty := (.object "java/lang/String")) (by decide) rfl rfl (g := (mkF m 11 #[rv a1, rv s1, rv p1, rv m1] [(.ref p1), (.ref a1)])) rfl rfl (hb hby d8_11)
  have N5 := Fr.snoc X5 N2 g_a1
  have O5 : Old Z n0 h5 := O2.wr W5 g_a1
  have K5 : Keep h0 h5 [a1] := K2.wr W5 (Or.inl (List.mem_of_getElem? (i := 0) rfl))
  have Fw5 := ft4.same W5
  refine Go.st (f' := (mkF m 14 #[rv a1, rv s1, rv p1, rv m1] [])) (fun _ k => st5 _ k) ?_
  refine Go.st (f' := (mkF m 15 #[rv a1, rv s1, rv p1, rv m1] [(.ref a1)])) (fun _ k => XS.aloadN X5.here hx rfl (hb hby d8_14) rfl rfl k) ?_
  refine Go.st (f' := (mkF m 16 #[rv a1, rv s1, rv p1, rv m1] [(.ref m1), (.ref a1)])) (fun _ k => XS.aloadN X5.here hx rfl (hb hby d8_15) rfl rfl k) ?_
  have ft6 := (ft3.wr W5)
  have ft7 := ((F_a1_message.other W2 (Or.inr (slot_ne (Or.inr (hw _ (List.mem_of_getElem? (i := 53) rfl))) (Or.inr (hw _ (List.mem_of_getElem? (i := 49) rfl))) (by decide) (t := (.object "java/lang/String")) (t' := (.object "com/example/lapwing/lapwing/profile/RuleViolation$Severity")) (by decide) (by decide)))).other W5 (Or.inr (slot_ne (Or.inr (hw _ (List.mem_of_getElem? (i := 53) rfl))) (Or.inr (hw _ (List.mem_of_getElem? (i := 51) rfl))) (by decide) (t := (.object "java/lang/String")) (t' := (.object "java/lang/String")) (by decide) (by decide))))
  obtain ⟨T8, h8, X8, e8, W8, st8⟩ := putF X5 hx hZ hown (host := "") (Or.inl (hw _ (List.mem_of_getElem? (i := 52) rfl))) Via.refl e5 ft7 ft6 (Or.inr ⟨(hw _ (List.mem_of_getElem? (i := 53) rfl)), rfl, hnm⟩) (hw _ (List.mem_of_getElem? (i := 35) rfl)) (ty := (.object "java/lang/String")) (by decide) rfl rfl (g := (mkF m 16 #[rv a1, rv s1, rv p1, rv m1] [(.ref m1), (.ref a1)])) rfl rfl (hb hby d8_16)
  have N8 := Fr.snoc X8 N5 g_a1
  have O8 : Old Z n0 h8 := O5.wr W8 g_a1
  have K8 : Keep h0 h8 [a1] := K5.wr W8 (Or.inl (List.mem_of_getElem? (i := 0) rfl))
  have Fw8 := ft7.same W8
  refine Go.st (f' := (mkF m 19 #[rv a1, rv s1, rv p1, rv m1] [])) (fun _ k => st8 _ k) ?_
  refine Go.ret0 X8 hlk hx hret (hb hby d8_19) e8 ?_ (by decide) (by decide)
  have ft9 := (ft6.wr W8)
  have ft10 := ((Fw2.other W5 (Or.inr (slot_ne (Or.inr (hw _ (List.mem_of_getElem? (i := 49) rfl))) (Or.inr (hw _ (List.mem_of_getElem? (i := 51) rfl))) (by decide) (t := (.object "com/example/lapwing/lapwing/profile/RuleViolation$Severity")) (t' := (.object "java/lang/String")) (by decide) (by decide)))).other W8 (Or.inr (slot_ne (Or.inr (hw _ (List.mem_of_getElem? (i := 49) rfl))) (Or.inr (hw _ (List.mem_of_getElem? (i := 53) rfl))) (by decide) (t := (.object "com/example/lapwing/lapwing/profile/RuleViolation$Severity")) (t' := (.object "java/lang/String")) (by decide) (by decide))))
  have ft11 := (Fw5.other W8 (Or.inr (slot_ne (Or.inr (hw _ (List.mem_of_getElem? (i := 51) rfl))) (Or.inr (hw _ (List.mem_of_getElem? (i := 53) rfl))) (by decide) (t := (.object "java/lang/String")) (t' := (.object "java/lang/String")) (by decide) (by decide))))
  exact ⟨rfl, N8, K8, ft9, ft10, ft11, Fw8⟩
theorem d7_0 : decode prog_38_method_3_code 0 = .ok (.new 8, 3) := by decide +kernel
theorem d7_3 : decode prog_38_method_3_code 3 = .ok (.dup, 1) := by decide +kernel
theorem d7_4 : decode prog_38_method_3_code 4 = .ok (.getstatic 28, 3) := by decide +kernel
theorem d7_7 : decode prog_38_method_3_code 7 = .ok (.aload_n 0, 1) := by decide +kernel
theorem d7_8 : decode prog_38_method_3_code 8 = .ok (.aload_n 1, 1) := by decide +kernel
theorem d7_9 : decode prog_38_method_3_code 9 = .ok (.invokespecial 25, 3) := by decide +kernel
theorem pd__Lcom_example_lapwing_lapwing_profile_RuleViolation_Severity_Ljava_lang_String_Ljava_lang_String__V : parseMethodDescriptor "(Lcom/example/lapwing/lapwing/profile/RuleViolation$Severity;Ljava/lang/String;Ljava/lang/String;)V" = some ⟨[(.object "com/example/lapwing/lapwing/profile/RuleViolation$Severity"), (.object "java/lang/String"), (.object "java/lang/String")], none⟩ := by decide +kernel
theorem d7_12 : decode prog_38_method_3_code 12 = .ok (.areturn, 1) := by decide +kernel
set_option maxRecDepth 65536 in
set_option maxHeartbeats 40000000 in
theorem rmW (l : Launch) (Z : State) (a0 : Array Value) (hw : ∀ d ∈ tables_1, d.before a0 Z = true) (ws : List Jvm.Cond) (p1 : Addr) (m1 : Addr) (w_WARNING : Addr) (i_COMPACT_STRINGS : Int32) (v_SIOOBE_FORMATTER : Value) (h0 : Heap) (n0 : Nat) (O0 : Old Z n0 h0) (WW : World1 Z w_WARNING i_COMPACT_STRINGS v_SIOOBE_FORMATTER) :
    Con l Z (⟨"com/example/lapwing/lapwing/profile/RuleViolation", "warning", "(Ljava/lang/String;Ljava/lang/String;)Lcom/example/lapwing/lapwing/profile/RuleViolation;"⟩ : MethodName) prog_38_method_3_code 2 (some (.object "com/example/lapwing/lapwing/profile/RuleViolation")) ws ({ frames := 3, cells := 1, slots := 3, locals := 40 } : Room) #[(.ref p1), (.ref m1)] h0 (fun v h L => ∃ b : Addr, v = some (.ref b) ∧ Fr n0 L ∧ h0.size ≤ b ∧ Keep h0 h [] ∧ Exa Z h b "com/example/lapwing/lapwing/profile/RuleViolation" ∧ Fld Z h b "com/example/lapwing/lapwing/profile/RuleViolation" "severity" "Lcom/example/lapwing/lapwing/profile/RuleViolation$Severity;" (.ref w_WARNING) ∧ Fld Z h b "com/example/lapwing/lapwing/profile/RuleViolation" "path" "Ljava/lang/String;" (.ref p1) ∧ Fld Z h b "com/example/lapwing/lapwing/profile/RuleViolation" "message" "Ljava/lang/String;" (.ref m1)) := by
  refine own_body (plainFor_of_name pn_com_example_lapwing_lapwing_profile_RuleViolation) ?_
  intro p e s m below meth c s₁ hx hby hml hZ hown hnm hlk hret X0 e0
  have N0 := Fr.nil n0
  have K0 : Keep h0 h0 [] := Keep.refl _ _
  refine Go.st (T' := s₁) (f' := (mkF m 0 #[rv p1, rv m1] [])) (fun _ k => castTop (by first | (simp [entryFrame, mkF, argsToLocals, Value.category]; done) | rfl) k) ?_
  have ⟨S_i_COMPACT_STRINGS, nz_i_COMPACT_STRINGS, S_v_SIOOBE_FORMATTER, r_v_SIOOBE_FORMATTER, S_w_WARNING, E_w_WARNING⟩ := WW
  have lt_w_WARNING := E_w_WARNING.lt
  obtain ⟨T1, h1, X1, e1, E1, A1, D1, -, st1⟩ := newO X0 hx hZ hown (hw _ (List.mem_of_getElem? (i := 34) rfl)) (hw _ (List.mem_of_getElem? (i := 35) rfl)) (hw _ (List.mem_of_getElem? (i := 32) rfl)) e0 (g := (mkF m 0 #[rv p1, rv m1] [])) rfl (hb hby d7_0) (by decide) (by decide)
  obtain ⟨b1, g1⟩ : ∃ z, z = h0.size := ⟨_, rfl⟩
  rw [← g1] at A1 D1 st1
  have ne_w_WARNING_b1 : w_WARNING ≠ b1 := Nat.ne_of_lt (Nat.lt_of_lt_of_le lt_w_WARNING (Nat.le_trans O0.2.1 (Nat.le_of_eq g1.symm)))
  have g_b1 : n0 ≤ b1 := Nat.le_trans (O0.1 ▸ O0.2.1) (Nat.le_of_eq g1.symm)
  have O1 : Old Z n0 h1 := O0.ext E1
  have sz_b1 : h0.size ≤ b1 := Nat.le_trans K0.1 (Nat.le_of_eq g1.symm)
  have K1 : Keep h0 h1 [] := K0.ext E1
  have lt_b1 := A1.lt
  have F_severity_b1 : Fld Z h1 b1 "com/example/lapwing/lapwing/profile/RuleViolation" "severity" "Lcom/example/lapwing/lapwing/profile/RuleViolation$Severity;" .null := D1 (Or.inr (hw _ (List.mem_of_getElem? (i := 49) rfl))) (ty := (.object "com/example/lapwing/lapwing/profile/RuleViolation$Severity")) (by decide)
  have F_path_b1 : Fld Z h1 b1 "com/example/lapwing/lapwing/profile/RuleViolation" "path" "Ljava/lang/String;" .null := D1 (Or.inr (hw _ (List.mem_of_getElem? (i := 51) rfl))) (ty := (.object "java/lang/String")) (by decide)
  have F_message_b1 : Fld Z h1 b1 "com/example/lapwing/lapwing/profile/RuleViolation" "message" "Ljava/lang/String;" .null := D1 (Or.inr (hw _ (List.mem_of_getElem? (i := 53) rfl))) (ty := (.object "java/lang/String")) (by decide)
  refine Go.st (f' := (mkF m 3 #[rv p1, rv m1] [(.ref b1)])) (fun _ k => st1 _ k) ?_
  refine Go.st (f' := (mkF m 4 #[rv p1, rv m1] [(.ref b1), (.ref b1)])) (fun _ k => XS.dup X1.here hx rfl (hb hby d7_3) rfl rfl k) ?_
  obtain ⟨T2, X2, e2, st2⟩ := getS2 X1 hx hZ hown (host := "") (Or.inl (hw _ (List.mem_of_getElem? (i := 36) rfl))) Via.refl e1 (S_w_WARNING.ext O1.2) (g := (mkF m 4 #[rv p1, rv m1] [(.ref b1), (.ref b1)])) rfl (hb hby d7_4)
  refine Go.st (f' := (mkF m 7 #[rv p1, rv m1] [(.ref w_WARNING), (.ref b1), (.ref b1)])) (fun _ k => st2 _ k) ?_
  refine Go.st (f' := (mkF m 8 #[rv p1, rv m1] [(.ref p1), (.ref w_WARNING), (.ref b1), (.ref b1)])) (fun _ k => XS.aloadN X2.here hx rfl (hb hby d7_7) rfl rfl k) ?_
  refine Go.st (f' := (mkF m 9 #[rv p1, rv m1] [(.ref m1), (.ref p1), (.ref w_WARNING), (.ref b1), (.ref b1)])) (fun _ k => XS.aloadN X2.here hx rfl (hb hby d7_8) rfl rfl k) ?_
  obtain ⟨_, _, ⟨T3, L3, kk3, nn3⟩, -, X3, ⟨Lc3, hQ3, lq3, yq3, zz3⟩, st3⟩ := X2.specialBack hx (y := (⟨"com/example/lapwing/lapwing/profile/RuleViolation", "<init>", "(Lcom/example/lapwing/lapwing/profile/RuleViolation$Severity;Ljava/lang/String;Ljava/lang/String;)V"⟩ : MethodName)) rfl hown (mvT hZ (hw _ (List.mem_of_getElem? (i := 39) rfl))) (mvT hZ (hw _ (List.mem_of_getElem? (i := 40) rfl))) (mvT hZ (hw _ (List.mem_of_getElem? (i := 41) rfl))) (by decide) (own_back (W := 1) (rmInit l Z a0 hw [] b1 w_WARNING p1 m1 h1 n0 O1 g_b1 A1 F_severity_b1 F_path_b1 F_message_b1 ) hZ (hw _ (List.mem_of_getElem? (i := 41) rfl)) (hw _ (List.mem_of_getElem? (i := 32) rfl)) (by decide) (by decide)) (g := (mkF m 9 #[rv p1, rv m1] [(.ref m1), (.ref p1), (.ref w_WARNING), (.ref b1), (.ref b1)])) rfl (by rw [hml]; rfl) (Steps.refl _) (a := b1) (argsL := [(.ref w_WARNING), (.ref p1), (.ref m1)]) (rest := [(.ref b1)]) (lenOf pd__Lcom_example_lapwing_lapwing_profile_RuleViolation_Severity_Ljava_lang_String_Ljava_lang_String__V rfl) rfl (by show 2 * 0 + _ ≤ _; exact Nat.le_of_eq rfl) (hb hby d7_9) (fun _ _ => ⟨rfl, e2, (by decide : 1 + 0 ≤ _), (by decide : 3 + 0 ≤ _)⟩)
  dsimp only [Pt.U, Pt.locs, Pt.cells, Pt.slots] at X3 lq3 yq3 zz3 st3 hQ3
  subst lq3 yq3 zz3
  obtain ⟨rfl, Nq3, kq3, eq3, fq3_0, fq3_1, fq3_2⟩ := hQ3
  have N3 := Fr.app N0 Nq3
  have O3 : Old Z n0 T3.heap := O1.keep kq3 (allS g_b1 all0)
  have K3 : Keep h0 T3.heap [] := K1.trans kq3 (allS (Or.inr sz_b1) all0)
  refine Go.tr (f' := (mkF m 12 #[rv p1, rv m1] [(.ref b1)])) st3 ?_
  refine Go.retV X3 hlk hx (t := (.object "com/example/lapwing/lapwing/profile/RuleViolation")) hret rfl (Or.inr (Or.inr (Or.inr (Or.inr ⟨rfl, rfl, rfl⟩)))) (hb hby d7_12) rfl ?_ (by decide) (by decide)
  exact ⟨b1, rfl, N3, sz_b1, K3, eq3, fq3_0, fq3_1, fq3_2⟩
theorem d10_0 : decode prog_38_method_7_code 0 = .ok (.aload_n 0, 1) := by decide +kernel
theorem d10_1 : decode prog_38_method_7_code 1 = .ok (.getfield 7, 3) := by decide +kernel
theorem d10_4 : decode prog_38_method_7_code 4 = .ok (.areturn, 1) := by decide +kernel
set_option maxRecDepth 65536 in
set_option maxHeartbeats 40000000 in
theorem rmG_severity (l : Launch) (Z : State) (a0 : Array Value) (hw : ∀ d ∈ tables_1, d.before a0 Z = true) (ws : List Jvm.Cond) (a1 : Addr) (u1 : Addr) (h0 : Heap) (n0 : Nat) (O0 : Old Z n0 h0) (E_a1 : Exa Z h0 a1 "com/example/lapwing/lapwing/profile/RuleViolation") (F_a1_severity : Fld Z h0 a1 "com/example/lapwing/lapwing/profile/RuleViolation" "severity" "Lcom/example/lapwing/lapwing/profile/RuleViolation$Severity;" (.ref u1)) :
    Con l Z (⟨"com/example/lapwing/lapwing/profile/RuleViolation", "severity", "()Lcom/example/lapwing/lapwing/profile/RuleViolation$Severity;"⟩ : MethodName) prog_38_method_7_code 1 (some (.object "com/example/lapwing/lapwing/profile/RuleViolation$Severity")) ws ({ frames := 0, cells := 0, slots := 0, locals := 0 } : Room) #[(.ref a1)] h0 (fun v h L => v = some (.ref u1) ∧ Fr n0 L ∧ h = h0) := by
  refine own_body (plainFor_of_name pn_com_example_lapwing_lapwing_profile_RuleViolation) ?_
  intro p e s m below meth c s₁ hx hby hml hZ hown hnm hlk hret X0 e0
  have N0 := Fr.nil n0
  refine Go.st (T' := s₁) (f' := (mkF m 0 #[rv a1] [])) (fun _ k => castTop (by first | (simp [entryFrame, mkF, argsToLocals, Value.category]; done) | rfl) k) ?_
  have lt_a1 := E_a1.lt
  refine Go.st (f' := (mkF m 1 #[rv a1] [(.ref a1)])) (fun _ k => XS.aloadN X0.here hx rfl (hb hby d10_0) rfl rfl k) ?_
  obtain ⟨T1, X1, e1, st1⟩ := getF X0 hx hZ hown (host := "") (Or.inl (hw _ (List.mem_of_getElem? (i := 48) rfl))) Via.refl e0 F_a1_severity (g := (mkF m 1 #[rv a1] [(.ref a1)])) rfl rfl (hb hby d10_1)
  refine Go.st (f' := (mkF m 4 #[rv a1] [(.ref u1)])) (fun _ k => st1 _ k) ?_
  refine Go.retV X1 hlk hx (t := (.object "com/example/lapwing/lapwing/profile/RuleViolation$Severity")) hret rfl (Or.inr (Or.inr (Or.inr (Or.inr ⟨rfl, rfl, rfl⟩)))) (hb hby d10_4) e1 ?_ (by decide) (by decide)
  exact ⟨rfl, N0, rfl⟩
theorem d11_0 : decode prog_38_method_8_code 0 = .ok (.aload_n 0, 1) := by decide +kernel
theorem d11_1 : decode prog_38_method_8_code 1 = .ok (.getfield 13, 3) := by decide +kernel
theorem d11_4 : decode prog_38_method_8_code 4 = .ok (.areturn, 1) := by decide +kernel
set_option maxRecDepth 65536 in
set_option maxHeartbeats 40000000 in
theorem rmG_path (l : Launch) (Z : State) (a0 : Array Value) (hw : ∀ d ∈ tables_1, d.before a0 Z = true) (ws : List Jvm.Cond) (a1 : Addr) (u1 : Addr) (h0 : Heap) (n0 : Nat) (O0 : Old Z n0 h0) (E_a1 : Exa Z h0 a1 "com/example/lapwing/lapwing/profile/RuleViolation") (F_a1_path : Fld Z h0 a1 "com/example/lapwing/lapwing/profile/RuleViolation" "path" "Ljava/lang/String;" (.ref u1)) :
    Con l Z (⟨"com/example/lapwing/lapwing/profile/RuleViolation", "path", "()Ljava/lang/String;"⟩ : MethodName) prog_38_method_8_code 1 (some (.object "java/lang/String")) ws ({ frames := 0, cells := 0, slots := 0, locals := 0 } : Room) #[(.ref a1)] h0 (fun v h L => v = some (.ref u1) ∧ Fr n0 L ∧ h = h0) := by
  refine own_body (plainFor_of_name pn_com_example_lapwing_lapwing_profile_RuleViolation) ?_
  intro p e s m below meth c s₁ hx hby hml hZ hown hnm hlk hret X0 e0
  have N0 := Fr.nil n0
  refine Go.st (T' := s₁) (f' := (mkF m 0 #[rv a1] [])) (fun _ k => castTop (by first | (simp [entryFrame, mkF, argsToLocals, Value.category]; done) | rfl) k) ?_
  have lt_a1 := E_a1.lt
  refine Go.st (f' := (mkF m 1 #[rv a1] [(.ref a1)])) (fun _ k => XS.aloadN X0.here hx rfl (hb hby d11_0) rfl rfl k) ?_
  obtain ⟨T1, X1, e1, st1⟩ := getF X0 hx hZ hown (host := "") (Or.inl (hw _ (List.mem_of_getElem? (i := 50) rfl))) Via.refl e0 F_a1_path (g := (mkF m 1 #[rv a1] [(.ref a1)])) rfl rfl (hb hby d11_1)
  refine Go.st (f' := (mkF m 4 #[rv a1] [(.ref u1)])) (fun _ k => st1 _ k) ?_
  refine Go.retV X1 hlk hx (t := (.object "java/lang/String")) hret rfl (Or.inr (Or.inr (Or.inr (Or.inr ⟨rfl, rfl, rfl⟩)))) (hb hby d11_4) e1 ?_ (by decide) (by decide)
  exact ⟨rfl, N0, rfl⟩
theorem d13_0 : decode prog_38_method_9_code 0 = .ok (.aload_n 0, 1) := by decide +kernel
theorem d13_1 : decode prog_38_method_9_code 1 = .ok (.getfield 17, 3) := by decide +kernel
theorem d13_4 : decode prog_38_method_9_code 4 = .ok (.areturn, 1) := by decide +kernel
set_option maxRecDepth 65536 in
set_option maxHeartbeats 40000000 in
theorem rmG_message (l : Launch) (Z : State) (a0 : Array Value) (hw : ∀ d ∈ tables_1, d.before a0 Z = true) (ws : List Jvm.Cond) (a1 : Addr) (u1 : Addr) (h0 : Heap) (n0 : Nat) (O0 : Old Z n0 h0) (E_a1 : Exa Z h0 a1 "com/example/lapwing/lapwing/profile/RuleViolation") (F_a1_message : Fld Z h0 a1 "com/example/lapwing/lapwing/profile/RuleViolation" "message" "Ljava/lang/String;" (.ref u1)) :
    Con l Z (⟨"com/example/lapwing/lapwing/profile/RuleViolation", "message", "()Ljava/lang/String;"⟩ : MethodName) prog_38_method_9_code 1 (some (.object "java/lang/String")) ws ({ frames := 0, cells := 0, slots := 0, locals := 0 } : Room) #[(.ref a1)] h0 (fun v h L => v = some (.ref u1) ∧ Fr n0 L ∧ h = h0) := by
  refine own_body (plainFor_of_name pn_com_example_lapwing_lapwing_profile_RuleViolation) ?_
  intro p e s m below meth c s₁ hx hby hml hZ hown hnm hlk hret X0 e0
  have N0 := Fr.nil n0
  refine Go.st (T' := s₁) (f' := (mkF m 0 #[rv a1] [])) (fun _ k => castTop (by first | (simp [entryFrame, mkF, argsToLocals, Value.category]; done) | rfl) k) ?_
  have lt_a1 := E_a1.lt
  refine Go.st (f' := (mkF m 1 #[rv a1] [(.ref a1)])) (fun _ k => XS.aloadN X0.here hx rfl (hb hby d13_0) rfl rfl k) ?_
  obtain ⟨T1, X1, e1, st1⟩ := getF X0 hx hZ hown (host := "") (Or.inl (hw _ (List.mem_of_getElem? (i := 52) rfl))) Via.refl e0 F_a1_message (g := (mkF m 1 #[rv a1] [(.ref a1)])) rfl rfl (hb hby d13_1)
  refine Go.st (f' := (mkF m 4 #[rv a1] [(.ref u1)])) (fun _ k => st1 _ k) ?_
  refine Go.retV X1 hlk hx (t := (.object "java/lang/String")) hret rfl (Or.inr (Or.inr (Or.inr (Or.inr ⟨rfl, rfl, rfl⟩)))) (hb hby d13_4) e1 ?_ (by decide) (by decide)
  exact ⟨rfl, N0, rfl⟩
theorem own_ch (x : Int32) : ¬ (255 : Int32) < nar .char ((x &&& (255 : Int32)).toUInt32.toUInt16.toUInt32.toInt32) := by
  have e : nar .char ((x &&& (255 : Int32)).toUInt32.toUInt16.toUInt32.toInt32) = x &&& 255 := by
    show ((x &&& (255 : Int32)).toUInt32.toUInt16.toUInt32.toInt32).toUInt32.toUInt16.toUInt32.toInt32 = _
    rw [i2c_mask, i2c_mask]
  rw [e, Int32.lt_iff_toInt_lt]
  have h := (c_and x 255 (by decide)).2
  omega
theorem pn_com_example_lapwing_lapwing_profile_RuleViolationWarningPinLaw : plainName "com/example/lapwing/lapwing/profile/RuleViolationWarningPinLaw" = true := by first | (simp [plainName, overriddenIn]; done) | decide +kernel
theorem pd___C_V : parseMethodDescriptor "([C)V" = some ⟨[(.array .char)], none⟩ := by decide +kernel
theorem pd__Ljava_lang_String_Ljava_lang_String__Lcom_example_lapwing_lapwing_profile_RuleViolation_ : parseMethodDescriptor "(Ljava/lang/String;Ljava/lang/String;)Lcom/example/lapwing/lapwing/profile/RuleViolation;" = some ⟨[(.object "java/lang/String"), (.object "java/lang/String")], some (.object "com/example/lapwing/lapwing/profile/RuleViolation")⟩ := by decide +kernel
theorem pd___Lcom_example_lapwing_lapwing_profile_RuleViolation_Severity_ : parseMethodDescriptor "()Lcom/example/lapwing/lapwing/profile/RuleViolation$Severity;" = some ⟨[], some (.object "com/example/lapwing/lapwing/profile/RuleViolation$Severity")⟩ := by decide +kernel
theorem pd___Ljava_lang_String_ : parseMethodDescriptor "()Ljava/lang/String;" = some ⟨[], some (.object "java/lang/String")⟩ := by decide +kernel
theorem pd__Ljava_lang_Object__Z : parseMethodDescriptor "(Ljava/lang/Object;)Z" = some ⟨[(.object "java/lang/Object")], some .boolean⟩ := by decide +kernel
theorem pd__C_Ljava_lang_String_ : parseMethodDescriptor "(C)Ljava/lang/String;" = some ⟨[.char], some (.object "java/lang/String")⟩ := by decide +kernel
set_option maxRecDepth 65536 in
set_option maxHeartbeats 40000000 in
theorem rm0 (l : Launch) (Z : State) (a0 : Array Value) (hw : ∀ d ∈ tables_1, d.before a0 Z = true) (ws : List Jvm.Cond) (p1 : Int32) (p2 : Int32) (p3 : Int32) (p4 : Int32) (p5 : Int32) (w_WARNING : Addr) (i_COMPACT_STRINGS : Int32) (v_SIOOBE_FORMATTER : Value) (h0 : Heap) (n0 : Nat) (O0 : Old Z n0 h0) (WW : World1 Z w_WARNING i_COMPACT_STRINGS v_SIOOBE_FORMATTER) :
    MetFree l x (head1 (Jvm.Cond.code x code maxLocals ret :: ws) room_1) (fun a U => a = #[(.int p1), (.int p2), (.int p3), (.int p4), (.int p5)] ∧ Z.Warmed39 U.vm ∧ U.heap = h0) (fun _ _ _ _ _ => True) (fun _ U o U' => ∃ v L, o = .returned v ∧ (fun v h L => v = some (.int (1 : Int32)) ∧ Fr n0 L) v U'.heap L ∧ FrameEnd U o U' L 24 128) := by
  refine MetFree.of_bodySF (plainFor_of_name pn_com_example_lapwing_lapwing_profile_RuleViolationWarningPinLaw) hisR ?_
  intro p e s m args below meth c s₁ Bd hml0 hP hK
  obtain ⟨rfl, hZ, hh⟩ := hP
  have hx := Bd.exec
  have hby := Bd.bytes
  have hml : c.maxLocals = 10 := hml0
  have hlk := Bd.notSynchronized
  have hret := Bd.returns
  have hown : s.vm.findClass "com/example/lapwing/lapwing/profile/RuleViolationWarningPinLaw" = some m.cls := findClass_of_methodNamed Bd.named
  have hnm := (name_of_methodNamed Bd.named Bd.method).1
  have X0 : Stand p l e room_1 s m #[(.int p1), (.int p2), (.int p3), (.int p4), (.int p5)] below meth c s₁ [] 0 0 := Stand.of_body Bd
  have e0 : s₁.heap = h0 := by rw [← hh, Bd.state]; rfl
  show Go p e below (Done s (fun v h L => v = some (.int (1 : Int32)) ∧ Fr n0 L) 24 128) s₁ _
  have N0 := Fr.nil n0
  refine Go.st (T' := s₁) (f' := (mkF m 0 #[iv p1, iv p2, iv p3, iv p4, iv p5, .unset, .unset, .unset, .unset, .unset] [])) (fun _ k => castTop (by first | (simp [entryFrame, mkF, argsToLocals, Value.category, maxLocals]; done) | rfl) k) ?_
  have ⟨S_i_COMPACT_STRINGS, nz_i_COMPACT_STRINGS, S_v_SIOOBE_FORMATTER, r_v_SIOOBE_FORMATTER, S_w_WARNING, E_w_WARNING⟩ := WW
  have lt_w_WARNING := E_w_WARNING.lt
  refine Go.st (f' := (mkF m 1 #[iv p1, iv p2, iv p3, iv p4, iv p5, .unset, .unset, .unset, .unset, .unset] [(.int 2)])) (fun _ k => XS.iconst X0.here hx rfl (hb hby at_0) k) ?_
  obtain ⟨T1, h1, kc1, X1, e1, E1, A1, st1⟩ := newP X0 hx hZ (hw _ (List.mem_of_getElem? (i := 0) rfl)) e0 (g := (mkF m 1 #[iv p1, iv p2, iv p3, iv p4, iv p5, .unset, .unset, .unset, .unset, .unset] [(.int 2)])) rfl (hb hby at_1) rfl (by decide) (cap := 2) (by decide) (by decide) (by decide) (by decide)
  obtain ⟨b1, g1⟩ : ∃ z, z = h0.size := ⟨_, rfl⟩
  rw [← g1] at A1 st1
  have ne_w_WARNING_b1 : w_WARNING ≠ b1 := Nat.ne_of_lt (Nat.lt_of_lt_of_le lt_w_WARNING (Nat.le_trans O0.2.1 (Nat.le_of_eq g1.symm)))
  have g_b1 : n0 ≤ b1 := Nat.le_trans (O0.1 ▸ O0.2.1) (Nat.le_of_eq g1.symm)
  have O1 : Old Z n0 h1 := O0.ext E1
  have V_b1 : Arv Z h1 b1 kc1 .char (2 : Int32) [(.int (0 : Int32)), (.int (0 : Int32))] (.int (0 : Int32)) := (Arv.new A1 (by decide)).pad (pad_rep [] (.int (0 : Int32)) 2)
  have lt_b1 := V_b1.lt
  refine Go.st (f' := (mkF m 3 #[iv p1, iv p2, iv p3, iv p4, iv p5, .unset, .unset, .unset, .unset, .unset] [(.ref b1)])) (fun _ k => st1 _ k) ?_
  refine Go.st (f' := (mkF m 5 #[iv p1, iv p2, iv p3, iv p4, iv p5, rv b1, .unset, .unset, .unset, .unset] [])) (fun _ k => XS.astore X1.here hx rfl (hb hby at_3) rfl rfl (l' := #[iv p1, iv p2, iv p3, iv p4, iv p5, rv b1, .unset, .unset, .unset, .unset]) rfl k) ?_
  refine Go.st (f' := (mkF m 7 #[iv p1, iv p2, iv p3, iv p4, iv p5, rv b1, .unset, .unset, .unset, .unset] [(.ref b1)])) (fun _ k => XS.aload X1.here hx rfl (hb hby at_5) rfl rfl k) ?_
  refine Go.st (f' := (mkF m 8 #[iv p1, iv p2, iv p3, iv p4, iv p5, rv b1, .unset, .unset, .unset, .unset] [(.int 0), (.ref b1)])) (fun _ k => XS.iconst X1.here hx rfl (hb hby at_7) k) ?_
  refine Go.st (f' := (mkF m 9 #[iv p1, iv p2, iv p3, iv p4, iv p5, rv b1, .unset, .unset, .unset, .unset] [(.int p1), (.int 0), (.ref b1)])) (fun _ k => XS.iloadN X1.here hx rfl (hb hby at_8) rfl k) ?_
  refine Go.st (f' := (mkF m 12 #[iv p1, iv p2, iv p3, iv p4, iv p5, rv b1, .unset, .unset, .unset, .unset] [(.int 255), (.int p1), (.int 0), (.ref b1)])) (fun _ k => XS.sipush X1.here hx rfl (hb hby at_9) k) ?_
  refine Go.st (f' := (mkF m 13 #[iv p1, iv p2, iv p3, iv p4, iv p5, rv b1, .unset, .unset, .unset, .unset] [(.int (p1 &&& (255 : Int32))), (.int 0), (.ref b1)])) (fun _ k => XS.iand X1.here hx rfl (hb hby at_12) rfl k) ?_
  refine Go.st (f' := (mkF m 14 #[iv p1, iv p2, iv p3, iv p4, iv p5, rv b1, .unset, .unset, .unset, .unset] [(.int ((p1 &&& (255 : Int32)).toUInt32.toUInt16.toUInt32.toInt32)), (.int 0), (.ref b1)])) (fun _ k => XS.i2c X1.here hx rfl (hb hby at_13) rfl k) ?_
  obtain ⟨cl2, Ar2, q2, S2, Nx2, H2, G2⟩ := id V_b1
  have hin2 : ¬ ((0 : Int32) < 0 ∨ cl2.slots.size ≤ ((0 : Int32)).toNatClampNeg) := inb_of S2 ⟨by decide, by decide⟩
  obtain ⟨T3, h3, X3, e3, W3, st3⟩ := stC X1 hx hZ e1 Ar2 (j := (0 : Int32)) hin2 (g := (mkF m 14 #[iv p1, iv p2, iv p3, iv p4, iv p5, rv b1, .unset, .unset, .unset, .unset] [(.int ((p1 &&& (255 : Int32)).toUInt32.toUInt16.toUInt32.toInt32)), (.int 0), (.ref b1)])) rfl rfl (hb hby at_14)
  have V_b1_3 : Arv Z h3 b1 kc1 .char (2 : Int32) [(.int (nar .char ((p1 &&& (255 : Int32)).toUInt32.toUInt16.toUInt32.toInt32))), (.int (0 : Int32))] (.int (0 : Int32)) := Arv.set Ar2 q2 S2 Nx2 H2 G2 (fits_nar_char _) W3 0 rfl (Nat.le_of_ble_eq_true rfl)
  have N3 := Fr.snoc X3 N0 g_b1
  have O3 : Old Z n0 h3 := O1.wr W3 g_b1
  refine Go.st (f' := (mkF m 15 #[iv p1, iv p2, iv p3, iv p4, iv p5, rv b1, .unset, .unset, .unset, .unset] [])) (fun _ k => st3 _ k) ?_
  refine Go.st (f' := (mkF m 17 #[iv p1, iv p2, iv p3, iv p4, iv p5, rv b1, .unset, .unset, .unset, .unset] [(.ref b1)])) (fun _ k => XS.aload X3.here hx rfl (hb hby at_15) rfl rfl k) ?_
  refine Go.st (f' := (mkF m 18 #[iv p1, iv p2, iv p3, iv p4, iv p5, rv b1, .unset, .unset, .unset, .unset] [(.int 1), (.ref b1)])) (fun _ k => XS.iconst X3.here hx rfl (hb hby at_17) k) ?_
  refine Go.st (f' := (mkF m 19 #[iv p1, iv p2, iv p3, iv p4, iv p5, rv b1, .unset, .unset, .unset, .unset] [(.int p2), (.int 1), (.ref b1)])) (fun _ k => XS.iloadN X3.here hx rfl (hb hby at_18) rfl k) ?_
  refine Go.st (f' := (mkF m 22 #[iv p1, iv p2, iv p3, iv p4, iv p5, rv b1, .unset, .unset, .unset, .unset] [(.int 255), (.int p2), (.int 1), (.ref b1)])) (fun _ k => XS.sipush X3.here hx rfl (hb hby at_19) k) ?_
  refine Go.st (f' := (mkF m 23 #[iv p1, iv p2, iv p3, iv p4, iv p5, rv b1, .unset, .unset, .unset, .unset] [(.int (p2 &&& (255 : Int32))), (.int 1), (.ref b1)])) (fun _ k => XS.iand X3.here hx rfl (hb hby at_22) rfl k) ?_
  refine Go.st (f' := (mkF m 24 #[iv p1, iv p2, iv p3, iv p4, iv p5, rv b1, .unset, .unset, .unset, .unset] [(.int ((p2 &&& (255 : Int32)).toUInt32.toUInt16.toUInt32.toInt32)), (.int 1), (.ref b1)])) (fun _ k => XS.i2c X3.here hx rfl (hb hby at_23) rfl k) ?_
  obtain ⟨cl4, Ar4, q4, S4, Nx4, H4, G4⟩ := id V_b1_3
  have hin4 : ¬ ((1 : Int32) < 0 ∨ cl4.slots.size ≤ ((1 : Int32)).toNatClampNeg) := inb_of S4 ⟨by decide, by decide⟩
  obtain ⟨T5, h5, X5, e5, W5, st5⟩ := stC X3 hx hZ e3 Ar4 (j := (1 : Int32)) hin4 (g := (mkF m 24 #[iv p1, iv p2, iv p3, iv p4, iv p5, rv b1, .unset, .unset, .unset, .unset] [(.int ((p2 &&& (255 : Int32)).toUInt32.toUInt16.toUInt32.toInt32)), (.int 1), (.ref b1)])) rfl rfl (hb hby at_24)
  have V_b1_5 : Arv Z h5 b1 kc1 .char (2 : Int32) [(.int (nar .char ((p1 &&& (255 : Int32)).toUInt32.toUInt16.toUInt32.toInt32))), (.int (nar .char ((p2 &&& (255 : Int32)).toUInt32.toUInt16.toUInt32.toInt32)))] (.int (0 : Int32)) := Arv.set Ar4 q4 S4 Nx4 H4 G4 (fits_nar_char _) W5 1 rfl (Nat.le_of_ble_eq_true rfl)
  have N5 := Fr.snoc X5 N3 g_b1
  have O5 : Old Z n0 h5 := O3.wr W5 g_b1
  refine Go.st (f' := (mkF m 25 #[iv p1, iv p2, iv p3, iv p4, iv p5, rv b1, .unset, .unset, .unset, .unset] [])) (fun _ k => st5 _ k) ?_
  refine Go.st (f' := (mkF m 26 #[iv p1, iv p2, iv p3, iv p4, iv p5, rv b1, .unset, .unset, .unset, .unset] [(.int 2)])) (fun _ k => XS.iconst X5.here hx rfl (hb hby at_25) k) ?_
  obtain ⟨T6, h6, kc6, X6, e6, E6, A6, st6⟩ := newP X5 hx hZ (hw _ (List.mem_of_getElem? (i := 0) rfl)) e5 (g := (mkF m 26 #[iv p1, iv p2, iv p3, iv p4, iv p5, rv b1, .unset, .unset, .unset, .unset] [(.int 2)])) rfl (hb hby at_26) rfl (by decide) (cap := 2) (by decide) (by decide) (by decide) (by decide)
  obtain ⟨b6, g6⟩ : ∃ z, z = h5.size := ⟨_, rfl⟩
  rw [← g6] at A6 st6
  have ft7 := (Nat.lt_of_lt_of_eq (Nat.lt_of_lt_of_eq lt_b1 W3.size.symm) W5.size.symm)
  have ne_b1_b6 : b1 ≠ b6 := Nat.ne_of_lt (Nat.lt_of_lt_of_eq ft7 g6.symm)
  have ne_w_WARNING_b6 : w_WARNING ≠ b6 := Nat.ne_of_lt (Nat.lt_of_lt_of_le lt_w_WARNING (Nat.le_trans O5.2.1 (Nat.le_of_eq g6.symm)))
  have g_b6 : n0 ≤ b6 := Nat.le_trans (O5.1 ▸ O5.2.1) (Nat.le_of_eq g6.symm)
  have O6 : Old Z n0 h6 := O5.ext E6
  have V_b6 : Arv Z h6 b6 kc6 .char (2 : Int32) [(.int (0 : Int32)), (.int (0 : Int32))] (.int (0 : Int32)) := (Arv.new A6 (by decide)).pad (pad_rep [] (.int (0 : Int32)) 2)
  have lt_b6 := V_b6.lt
  refine Go.st (f' := (mkF m 28 #[iv p1, iv p2, iv p3, iv p4, iv p5, rv b1, .unset, .unset, .unset, .unset] [(.ref b6)])) (fun _ k => st6 _ k) ?_
  refine Go.st (f' := (mkF m 30 #[iv p1, iv p2, iv p3, iv p4, iv p5, rv b1, rv b6, .unset, .unset, .unset] [])) (fun _ k => XS.astore X6.here hx rfl (hb hby at_28) rfl rfl (l' := #[iv p1, iv p2, iv p3, iv p4, iv p5, rv b1, rv b6, .unset, .unset, .unset]) rfl k) ?_
  refine Go.st (f' := (mkF m 32 #[iv p1, iv p2, iv p3, iv p4, iv p5, rv b1, rv b6, .unset, .unset, .unset] [(.ref b6)])) (fun _ k => XS.aload X6.here hx rfl (hb hby at_30) rfl rfl k) ?_
  refine Go.st (f' := (mkF m 33 #[iv p1, iv p2, iv p3, iv p4, iv p5, rv b1, rv b6, .unset, .unset, .unset] [(.int 0), (.ref b6)])) (fun _ k => XS.iconst X6.here hx rfl (hb hby at_32) k) ?_
  refine Go.st (f' := (mkF m 34 #[iv p1, iv p2, iv p3, iv p4, iv p5, rv b1, rv b6, .unset, .unset, .unset] [(.int p3), (.int 0), (.ref b6)])) (fun _ k => XS.iloadN X6.here hx rfl (hb hby at_33) rfl k) ?_
  refine Go.st (f' := (mkF m 37 #[iv p1, iv p2, iv p3, iv p4, iv p5, rv b1, rv b6, .unset, .unset, .unset] [(.int 255), (.int p3), (.int 0), (.ref b6)])) (fun _ k => XS.sipush X6.here hx rfl (hb hby at_34) k) ?_
  refine Go.st (f' := (mkF m 38 #[iv p1, iv p2, iv p3, iv p4, iv p5, rv b1, rv b6, .unset, .unset, .unset] [(.int (p3 &&& (255 : Int32))), (.int 0), (.ref b6)])) (fun _ k => XS.iand X6.here hx rfl (hb hby at_37) rfl k) ?_
  refine Go.st (f' := (mkF m 39 #[iv p1, iv p2, iv p3, iv p4, iv p5, rv b1, rv b6, .unset, .unset, .unset] [(.int ((p3 &&& (255 : Int32)).toUInt32.toUInt16.toUInt32.toInt32)), (.int 0), (.ref b6)])) (fun _ k => XS.i2c X6.here hx rfl (hb hby at_38) rfl k) ?_
  obtain ⟨cl8, Ar8, q8, S8, Nx8, H8, G8⟩ := id V_b6
  have hin8 : ¬ ((0 : Int32) < 0 ∨ cl8.slots.size ≤ ((0 : Int32)).toNatClampNeg) := inb_of S8 ⟨by decide, by decide⟩
  obtain ⟨T9, h9, X9, e9, W9, st9⟩ := stC X6 hx hZ e6 Ar8 (j := (0 : Int32)) hin8 (g := (mkF m 39 #[iv p1, iv p2, iv p3, iv p4, iv p5, rv b1, rv b6, .unset, .unset, .unset] [(.int ((p3 &&& (255 : Int32)).toUInt32.toUInt16.toUInt32.toInt32)), (.int 0), (.ref b6)])) rfl rfl (hb hby at_39)
  have V_b6_9 : Arv Z h9 b6 kc6 .char (2 : Int32) [(.int (nar .char ((p3 &&& (255 : Int32)).toUInt32.toUInt16.toUInt32.toInt32))), (.int (0 : Int32))] (.int (0 : Int32)) := Arv.set Ar8 q8 S8 Nx8 H8 G8 (fits_nar_char _) W9 0 rfl (Nat.le_of_ble_eq_true rfl)
  have N9 := Fr.snoc X9 N5 g_b6
  have O9 : Old Z n0 h9 := O6.wr W9 g_b6
  refine Go.st (f' := (mkF m 40 #[iv p1, iv p2, iv p3, iv p4, iv p5, rv b1, rv b6, .unset, .unset, .unset] [])) (fun _ k => st9 _ k) ?_
  refine Go.st (f' := (mkF m 42 #[iv p1, iv p2, iv p3, iv p4, iv p5, rv b1, rv b6, .unset, .unset, .unset] [(.ref b6)])) (fun _ k => XS.aload X9.here hx rfl (hb hby at_40) rfl rfl k) ?_
  refine Go.st (f' := (mkF m 43 #[iv p1, iv p2, iv p3, iv p4, iv p5, rv b1, rv b6, .unset, .unset, .unset] [(.int 1), (.ref b6)])) (fun _ k => XS.iconst X9.here hx rfl (hb hby at_42) k) ?_
  refine Go.st (f' := (mkF m 44 #[iv p1, iv p2, iv p3, iv p4, iv p5, rv b1, rv b6, .unset, .unset, .unset] [(.int p4), (.int 1), (.ref b6)])) (fun _ k => XS.iloadN X9.here hx rfl (hb hby at_43) rfl k) ?_
  refine Go.st (f' := (mkF m 47 #[iv p1, iv p2, iv p3, iv p4, iv p5, rv b1, rv b6, .unset, .unset, .unset] [(.int 255), (.int p4), (.int 1), (.ref b6)])) (fun _ k => XS.sipush X9.here hx rfl (hb hby at_44) k) ?_
  refine Go.st (f' := (mkF m 48 #[iv p1, iv p2, iv p3, iv p4, iv p5, rv b1, rv b6, .unset, .unset, .unset] [(.int (p4 &&& (255 : Int32))), (.int 1), (.ref b6)])) (fun _ k => XS.iand X9.here hx rfl (hb hby at_47) rfl k) ?_
  refine Go.st (f' := (mkF m 49 #[iv p1, iv p2, iv p3, iv p4, iv p5, rv b1, rv b6, .unset, .unset, .unset] [(.int ((p4 &&& (255 : Int32)).toUInt32.toUInt16.toUInt32.toInt32)), (.int 1), (.ref b6)])) (fun _ k => XS.i2c X9.here hx rfl (hb hby at_48) rfl k) ?_
  obtain ⟨cl10, Ar10, q10, S10, Nx10, H10, G10⟩ := id V_b6_9
  have hin10 : ¬ ((1 : Int32) < 0 ∨ cl10.slots.size ≤ ((1 : Int32)).toNatClampNeg) := inb_of S10 ⟨by decide, by decide⟩
  obtain ⟨T11, h11, X11, e11, W11, st11⟩ := stC X9 hx hZ e9 Ar10 (j := (1 : Int32)) hin10 (g := (mkF m 49 #[iv p1, iv p2, iv p3, iv p4, iv p5, rv b1, rv b6, .unset, .unset, .unset] [(.int ((p4 &&& (255 : Int32)).toUInt32.toUInt16.toUInt32.toInt32)), (.int 1), (.ref b6)])) rfl rfl (hb hby at_49)
  have V_b6_11 : Arv Z h11 b6 kc6 .char (2 : Int32) [(.int (nar .char ((p3 &&& (255 : Int32)).toUInt32.toUInt16.toUInt32.toInt32))), (.int (nar .char ((p4 &&& (255 : Int32)).toUInt32.toUInt16.toUInt32.toInt32)))] (.int (0 : Int32)) := Arv.set Ar10 q10 S10 Nx10 H10 G10 (fits_nar_char _) W11 1 rfl (Nat.le_of_ble_eq_true rfl)
  have N11 := Fr.snoc X11 N9 g_b6
  have O11 : Old Z n0 h11 := O9.wr W11 g_b6
  refine Go.st (f' := (mkF m 50 #[iv p1, iv p2, iv p3, iv p4, iv p5, rv b1, rv b6, .unset, .unset, .unset] [])) (fun _ k => st11 _ k) ?_
  refine Go.st (f' := (mkF m 52 #[iv p1, iv p2, iv p3, iv p4, iv p5, rv b1, rv b6, .unset, .unset, .unset] [(.int p5)])) (fun _ k => XS.iload X11.here hx rfl (hb hby at_50) rfl k) ?_
  refine Go.st (f' := (mkF m 53 #[iv p1, iv p2, iv p3, iv p4, iv p5, rv b1, rv b6, .unset, .unset, .unset] [(.int 1), (.int p5)])) (fun _ k => XS.iconst X11.here hx rfl (hb hby at_52) k) ?_
  refine Go.st (f' := (mkF m 54 #[iv p1, iv p2, iv p3, iv p4, iv p5, rv b1, rv b6, .unset, .unset, .unset] [(.int (p5 &&& (1 : Int32)))])) (fun _ k => XS.iand X11.here hx rfl (hb hby at_53) rfl k) ?_
  by_cases cd12 : (p5 &&& (1 : Int32)) = (0 : Int32)
  · refine Go.st (f' := (mkF m 67 #[iv p1, iv p2, iv p3, iv p4, iv p5, rv b1, rv b6, .unset, .unset, .unset] [])) (fun _ k => XS.ifYes X11.here hx rfl (pc0 := 54) (pc' := 67) rfl (hb hby at_54) rfl ((if0 _ _).trans (teq cd12).1) (by decide) (by decide) k) ?_
    obtain ⟨T13, h13, X13, e13, E13, A13, D13, -, st13⟩ := newO X11 hx hZ hown (hw _ (List.mem_of_getElem? (i := 1) rfl)) (hw _ (List.mem_of_getElem? (i := 2) rfl)) (hw _ (List.mem_of_getElem? (i := 3) rfl)) e11 (g := (mkF m 67 #[iv p1, iv p2, iv p3, iv p4, iv p5, rv b1, rv b6, .unset, .unset, .unset] [])) rfl (hb hby at_67) (by decide) (by decide)
    obtain ⟨b13, g13⟩ : ∃ z, z = h11.size := ⟨_, rfl⟩
    rw [← g13] at A13 D13 st13
    have ft14 := (Nat.lt_of_lt_of_eq (Nat.lt_of_lt_of_eq (Nat.lt_of_lt_of_le ft7 E6.1) W9.size.symm) W11.size.symm)
    have ne_b1_b13 : b1 ≠ b13 := Nat.ne_of_lt (Nat.lt_of_lt_of_eq ft14 g13.symm)
    have ft15 := (Nat.lt_of_lt_of_eq (Nat.lt_of_lt_of_eq lt_b6 W9.size.symm) W11.size.symm)
    have ne_b6_b13 : b6 ≠ b13 := Nat.ne_of_lt (Nat.lt_of_lt_of_eq ft15 g13.symm)
    have ne_w_WARNING_b13 : w_WARNING ≠ b13 := Nat.ne_of_lt (Nat.lt_of_lt_of_le lt_w_WARNING (Nat.le_trans O11.2.1 (Nat.le_of_eq g13.symm)))
    have g_b13 : n0 ≤ b13 := Nat.le_trans (O11.1 ▸ O11.2.1) (Nat.le_of_eq g13.symm)
    have O13 : Old Z n0 h13 := O11.ext E13
    have lt_b13 := A13.lt
    have F_coder_b13 : Fld Z h13 b13 "java/lang/String" "coder" "B" (.int (0 : Int32)) := D13 (Or.inr (hw _ (List.mem_of_getElem? (i := 27) rfl))) (ty := .byte) (by decide)
    have F_value_b13 : Fld Z h13 b13 "java/lang/String" "value" "[B" .null := D13 (Or.inr (hw _ (List.mem_of_getElem? (i := 29) rfl))) (ty := (.array .byte)) (by decide)
    refine Go.st (f' := (mkF m 70 #[iv p1, iv p2, iv p3, iv p4, iv p5, rv b1, rv b6, .unset, .unset, .unset] [(.ref b13)])) (fun _ k => st13 _ k) ?_
    refine Go.st (f' := (mkF m 71 #[iv p1, iv p2, iv p3, iv p4, iv p5, rv b1, rv b6, .unset, .unset, .unset] [(.ref b13), (.ref b13)])) (fun _ k => XS.dup X13.here hx rfl (hb hby at_70) rfl rfl k) ?_
    refine Go.st (f' := (mkF m 73 #[iv p1, iv p2, iv p3, iv p4, iv p5, rv b1, rv b6, .unset, .unset, .unset] [(.ref b1), (.ref b13), (.ref b13)])) (fun _ k => XS.aload X13.here hx rfl (hb hby at_71) rfl rfl k) ?_
    have ft17 := ((((V_b1_5.ext E6).other W9 ne_b1_b6).other W11 ne_b1_b6).ext E13)
    obtain ⟨_, _, ⟨T16, L16, kk16, nn16⟩, -, X16, ⟨Lc16, hQ16, lq16, yq16, zz16⟩, st16⟩ := X13.specialBack hx (y := (⟨"java/lang/String", "<init>", "([C)V"⟩ : MethodName)) rfl hown (mvT hZ (hw _ (List.mem_of_getElem? (i := 4) rfl))) (mvT hZ (hw _ (List.mem_of_getElem? (i := 5) rfl))) (mvT hZ (hw _ (List.mem_of_getElem? (i := 6) rfl))) (by decide) (own_back (W := 1) (st1_2 l Z a0 hw [] b13 b1 kc1 (nar .char ((p1 &&& (255 : Int32)).toUInt32.toUInt16.toUInt32.toInt32)) (nar .char ((p2 &&& (255 : Int32)).toUInt32.toUInt16.toUInt32.toInt32)) w_WARNING i_COMPACT_STRINGS v_SIOOBE_FORMATTER h13 n0 O13 (own_ch p1) (own_ch p2) g_b13 (Ne.symm ne_b1_b13) A13 F_coder_b13 F_value_b13 ft17 WW) hZ (hw _ (List.mem_of_getElem? (i := 6) rfl)) (hw _ (List.mem_of_getElem? (i := 3) rfl)) (by decide) (by decide)) (g := (mkF m 73 #[iv p1, iv p2, iv p3, iv p4, iv p5, rv b1, rv b6, .unset, .unset, .unset] [(.ref b1), (.ref b13), (.ref b13)])) rfl (by rw [hml]; rfl) (Steps.refl _) (a := b13) (argsL := [(.ref b1)]) (rest := [(.ref b13)]) (lenOf pd___C_V rfl) rfl (by show 2 * 0 + _ ≤ _; exact Nat.le_of_eq rfl) (hb hby at_73) (fun _ _ => ⟨rfl, e13, (by decide : 3 + 1 ≤ _), (by decide : 8 + 2 ≤ _)⟩)
    dsimp only [Pt.U, Pt.locs, Pt.cells, Pt.slots] at X16 lq16 yq16 zz16 st16 hQ16
    subst lq16 yq16 zz16
    obtain ⟨rfl, Nq16, kq16, eq16, cq16, tt16, kt16, zq16, fq16, vq16⟩ := hQ16
    have N16 := Fr.app N11 Nq16
    have ft18 := (Nat.lt_of_lt_of_le ft14 E13.1)
    have ne_b1_tt16 : b1 ≠ tt16 := Nat.ne_of_lt (Nat.lt_of_lt_of_le ft18 zq16)
    have ft19 := (Nat.lt_of_lt_of_le ft15 E13.1)
    have ne_b6_tt16 : b6 ≠ tt16 := Nat.ne_of_lt (Nat.lt_of_lt_of_le ft19 zq16)
    have ne_b13_tt16 : b13 ≠ tt16 := Nat.ne_of_lt (Nat.lt_of_lt_of_le lt_b13 zq16)
    have ne_w_WARNING_tt16 : w_WARNING ≠ tt16 := Nat.ne_of_lt (Nat.lt_of_lt_of_le lt_w_WARNING (Nat.le_trans O13.2.1 zq16))
    have g_tt16 : n0 ≤ tt16 := Nat.le_trans (O13.1 ▸ O13.2.1) zq16
    have O16 : Old Z n0 T16.heap := O13.keep kq16 (allS g_b13 all0)
    have lt_tt16 := vq16.lt
    refine Go.tr (f' := (mkF m 76 #[iv p1, iv p2, iv p3, iv p4, iv p5, rv b1, rv b6, .unset, .unset, .unset] [(.ref b13)])) st16 ?_
    refine Go.st (f' := (mkF m 78 #[iv p1, iv p2, iv p3, iv p4, iv p5, rv b1, rv b6, rv b13, .unset, .unset] [])) (fun _ k => XS.astore X16.here hx rfl (hb hby at_76) rfl rfl (l' := #[iv p1, iv p2, iv p3, iv p4, iv p5, rv b1, rv b6, rv b13, .unset, .unset]) rfl k) ?_
    refine Go.st (f' := (mkF m 80 #[iv p1, iv p2, iv p3, iv p4, iv p5, rv b1, rv b6, rv b13, .unset, .unset] [(.int p5)])) (fun _ k => XS.iload X16.here hx rfl (hb hby at_78) rfl k) ?_
    refine Go.st (f' := (mkF m 81 #[iv p1, iv p2, iv p3, iv p4, iv p5, rv b1, rv b6, rv b13, .unset, .unset] [(.int 2), (.int p5)])) (fun _ k => XS.iconst X16.here hx rfl (hb hby at_80) k) ?_
    refine Go.st (f' := (mkF m 82 #[iv p1, iv p2, iv p3, iv p4, iv p5, rv b1, rv b6, rv b13, .unset, .unset] [(.int (p5 &&& (2 : Int32)))])) (fun _ k => XS.iand X16.here hx rfl (hb hby at_81) rfl k) ?_
    by_cases cd20 : (p5 &&& (2 : Int32)) = (0 : Int32)
    · refine Go.st (f' := (mkF m 95 #[iv p1, iv p2, iv p3, iv p4, iv p5, rv b1, rv b6, rv b13, .unset, .unset] [])) (fun _ k => XS.ifYes X16.here hx rfl (pc0 := 82) (pc' := 95) rfl (hb hby at_82) rfl ((if0 _ _).trans (teq cd20).1) (by decide) (by decide) k) ?_
      obtain ⟨T21, h21, X21, e21, E21, A21, D21, -, st21⟩ := newO X16 hx hZ hown (hw _ (List.mem_of_getElem? (i := 1) rfl)) (hw _ (List.mem_of_getElem? (i := 2) rfl)) (hw _ (List.mem_of_getElem? (i := 3) rfl)) rfl (g := (mkF m 95 #[iv p1, iv p2, iv p3, iv p4, iv p5, rv b1, rv b6, rv b13, .unset, .unset] [])) rfl (hb hby at_95) (by decide) (by decide)
      obtain ⟨b21, g21⟩ : ∃ z, z = T16.heap.size := ⟨_, rfl⟩
      rw [← g21] at A21 D21 st21
      have ft22 := (Nat.lt_of_lt_of_le ft18 kq16.1)
      have ne_b1_b21 : b1 ≠ b21 := Nat.ne_of_lt (Nat.lt_of_lt_of_eq ft22 g21.symm)
      have ft23 := (Nat.lt_of_lt_of_le ft19 kq16.1)
      have ne_b6_b21 : b6 ≠ b21 := Nat.ne_of_lt (Nat.lt_of_lt_of_eq ft23 g21.symm)
      have ft24 := (Nat.lt_of_lt_of_le lt_b13 kq16.1)
      have ne_b13_b21 : b13 ≠ b21 := Nat.ne_of_lt (Nat.lt_of_lt_of_eq ft24 g21.symm)
      have ne_tt16_b21 : tt16 ≠ b21 := Nat.ne_of_lt (Nat.lt_of_lt_of_eq lt_tt16 g21.symm)
      have ne_w_WARNING_b21 : w_WARNING ≠ b21 := Nat.ne_of_lt (Nat.lt_of_lt_of_le lt_w_WARNING (Nat.le_trans O16.2.1 (Nat.le_of_eq g21.symm)))
      have g_b21 : n0 ≤ b21 := Nat.le_trans (O16.1 ▸ O16.2.1) (Nat.le_of_eq g21.symm)
      have O21 : Old Z n0 h21 := O16.ext E21
      have lt_b21 := A21.lt
      have F_coder_b21 : Fld Z h21 b21 "java/lang/String" "coder" "B" (.int (0 : Int32)) := D21 (Or.inr (hw _ (List.mem_of_getElem? (i := 27) rfl))) (ty := .byte) (by decide)
      have F_value_b21 : Fld Z h21 b21 "java/lang/String" "value" "[B" .null := D21 (Or.inr (hw _ (List.mem_of_getElem? (i := 29) rfl))) (ty := (.array .byte)) (by decide)
      refine Go.st (f' := (mkF m 98 #[iv p1, iv p2, iv p3, iv p4, iv p5, rv b1, rv b6, rv b13, .unset, .unset] [(.ref b21)])) (fun _ k => st21 _ k) ?_
      refine Go.st (f' := (mkF m 99 #[iv p1, iv p2, iv p3, iv p4, iv p5, rv b1, rv b6, rv b13, .unset, .unset] [(.ref b21), (.ref b21)])) (fun _ k => XS.dup X21.here hx rfl (hb hby at_98) rfl rfl k) ?_
      refine Go.st (f' := (mkF m 101 #[iv p1, iv p2, iv p3, iv p4, iv p5, rv b1, rv b6, rv b13, .unset, .unset] [(.ref b6), (.ref b21), (.ref b21)])) (fun _ k => XS.aload X21.here hx rfl (hb hby at_99) rfl rfl k) ?_
      have ft26 := (((V_b6_11.ext E13).keep kq16 (ninS ne_b6_b13 nin0)).ext E21)
      obtain ⟨_, _, ⟨T25, L25, kk25, nn25⟩, -, X25, ⟨Lc25, hQ25, lq25, yq25, zz25⟩, st25⟩ := X21.specialBack hx (y := (⟨"java/lang/String", "<init>", "([C)V"⟩ : MethodName)) rfl hown (mvT hZ (hw _ (List.mem_of_getElem? (i := 4) rfl))) (mvT hZ (hw _ (List.mem_of_getElem? (i := 5) rfl))) (mvT hZ (hw _ (List.mem_of_getElem? (i := 6) rfl))) (by decide) (own_back (W := 1) (st1_2 l Z a0 hw [] b21 b6 kc6 (nar .char ((p3 &&& (255 : Int32)).toUInt32.toUInt16.toUInt32.toInt32)) (nar .char ((p4 &&& (255 : Int32)).toUInt32.toUInt16.toUInt32.toInt32)) w_WARNING i_COMPACT_STRINGS v_SIOOBE_FORMATTER h21 n0 O21 (own_ch p3) (own_ch p4) g_b21 (Ne.symm ne_b6_b21) A21 F_coder_b21 F_value_b21 ft26 WW) hZ (hw _ (List.mem_of_getElem? (i := 6) rfl)) (hw _ (List.mem_of_getElem? (i := 3) rfl)) (by decide) (by decide)) (g := (mkF m 101 #[iv p1, iv p2, iv p3, iv p4, iv p5, rv b1, rv b6, rv b13, .unset, .unset] [(.ref b6), (.ref b21), (.ref b21)])) rfl (by rw [hml]; rfl) (Steps.refl _) (a := b21) (argsL := [(.ref b6)]) (rest := [(.ref b21)]) (lenOf pd___C_V rfl) rfl (by show 2 * 0 + _ ≤ _; exact Nat.le_of_eq rfl) (hb hby at_101) (fun _ _ => ⟨rfl, e21, (by decide : 5 + 1 ≤ _), (by decide : 14 + 2 ≤ _)⟩)
      dsimp only [Pt.U, Pt.locs, Pt.cells, Pt.slots] at X25 lq25 yq25 zz25 st25 hQ25
      subst lq25 yq25 zz25
      obtain ⟨rfl, Nq25, kq25, eq25, cq25, tt25, kt25, zq25, fq25, vq25⟩ := hQ25
      have N25 := Fr.app N16 Nq25
      have ft27 := (Nat.lt_of_lt_of_le ft22 E21.1)
      have ne_b1_tt25 : b1 ≠ tt25 := Nat.ne_of_lt (Nat.lt_of_lt_of_le ft27 zq25)
      have ft28 := (Nat.lt_of_lt_of_le ft23 E21.1)
      have ne_b6_tt25 : b6 ≠ tt25 := Nat.ne_of_lt (Nat.lt_of_lt_of_le ft28 zq25)
      have ft29 := (Nat.lt_of_lt_of_le ft24 E21.1)
      have ne_b13_tt25 : b13 ≠ tt25 := Nat.ne_of_lt (Nat.lt_of_lt_of_le ft29 zq25)
      have ft30 := (Nat.lt_of_lt_of_le lt_tt16 E21.1)
      have ne_tt16_tt25 : tt16 ≠ tt25 := Nat.ne_of_lt (Nat.lt_of_lt_of_le ft30 zq25)
      have ne_b21_tt25 : b21 ≠ tt25 := Nat.ne_of_lt (Nat.lt_of_lt_of_le lt_b21 zq25)
      have ne_w_WARNING_tt25 : w_WARNING ≠ tt25 := Nat.ne_of_lt (Nat.lt_of_lt_of_le lt_w_WARNING (Nat.le_trans O21.2.1 zq25))
      have g_tt25 : n0 ≤ tt25 := Nat.le_trans (O21.1 ▸ O21.2.1) zq25
      have O25 : Old Z n0 T25.heap := O21.keep kq25 (allS g_b21 all0)
      have lt_tt25 := vq25.lt
      refine Go.tr (f' := (mkF m 104 #[iv p1, iv p2, iv p3, iv p4, iv p5, rv b1, rv b6, rv b13, .unset, .unset] [(.ref b21)])) st25 ?_
      refine Go.st (f' := (mkF m 106 #[iv p1, iv p2, iv p3, iv p4, iv p5, rv b1, rv b6, rv b13, rv b21, .unset] [])) (fun _ k => XS.astore X25.here hx rfl (hb hby at_104) rfl rfl (l' := #[iv p1, iv p2, iv p3, iv p4, iv p5, rv b1, rv b6, rv b13, rv b21, .unset]) rfl k) ?_
      refine Go.st (f' := (mkF m 108 #[iv p1, iv p2, iv p3, iv p4, iv p5, rv b1, rv b6, rv b13, rv b21, .unset] [(.ref b13)])) (fun _ k => XS.aload X25.here hx rfl (hb hby at_106) rfl rfl k) ?_
      refine Go.st (f' := (mkF m 110 #[iv p1, iv p2, iv p3, iv p4, iv p5, rv b1, rv b6, rv b13, rv b21, .unset] [(.ref b21), (.ref b13)])) (fun _ k => XS.aload X25.here hx rfl (hb hby at_108) rfl rfl k) ?_
      obtain ⟨_, _, ⟨T31, L31, kk31, nn31⟩, -, X31, ⟨Lc31, hQ31, lq31, yq31, zz31⟩, st31⟩ := Jvm.LawKit.callS X25 hx (y := (⟨"com/example/lapwing/lapwing/profile/RuleViolation", "warning", "(Ljava/lang/String;Ljava/lang/String;)Lcom/example/lapwing/lapwing/profile/RuleViolation;"⟩ : MethodName)) hown (mvT hZ (hw _ (List.mem_of_getElem? (i := 30) rfl))) (mvT hZ (hw _ (List.mem_of_getElem? (i := 31) rfl))) (mvT hZ (hw _ (List.mem_of_getElem? (i := 32) rfl))) (mvT hZ (hw _ (List.mem_of_getElem? (i := 33) rfl))) (by decide) (own_back (W := 0) (rmW l Z a0 hw [] b13 b21 w_WARNING i_COMPACT_STRINGS v_SIOOBE_FORMATTER T25.heap n0 O25 WW) hZ (hw _ (List.mem_of_getElem? (i := 33) rfl)) (hw _ (List.mem_of_getElem? (i := 32) rfl)) (by decide) (by decide)) (g := (mkF m 110 #[iv p1, iv p2, iv p3, iv p4, iv p5, rv b1, rv b6, rv b13, rv b21, .unset] [(.ref b21), (.ref b13)])) rfl (by rw [hml]; rfl) (argsL := [(.ref b13), (.ref b21)]) (rest := []) (lenOf pd__Ljava_lang_String_Ljava_lang_String__Lcom_example_lapwing_lapwing_profile_RuleViolation_ rfl) rfl (by show 2 * 0 + _ ≤ _; exact Nat.le_of_eq rfl) (hb hby at_110) (fun _ _ => ⟨rfl, rfl, (by decide : 6 + 1 ≤ _), (by decide : 16 + 3 ≤ _)⟩)
      dsimp only [Pt.U, Pt.locs, Pt.cells, Pt.slots] at X31 lq31 yq31 zz31 st31 hQ31
      subst lq31 yq31 zz31
      obtain ⟨b31, rfl, Nq31, zq31, kq31, eq31, fq31_0, fq31_1, fq31_2⟩ := hQ31
      have N31 := Fr.app N25 Nq31
      have ft32 := (Nat.lt_of_lt_of_le ft27 kq25.1)
      have ne_b1_b31 : b1 ≠ b31 := Nat.ne_of_lt (Nat.lt_of_lt_of_le ft32 zq31)
      have ft33 := (Nat.lt_of_lt_of_le ft28 kq25.1)
      have ne_b6_b31 : b6 ≠ b31 := Nat.ne_of_lt (Nat.lt_of_lt_of_le ft33 zq31)
      have ft34 := (Nat.lt_of_lt_of_le ft29 kq25.1)
      have ne_b13_b31 : b13 ≠ b31 := Nat.ne_of_lt (Nat.lt_of_lt_of_le ft34 zq31)
      have ft35 := (Nat.lt_of_lt_of_le ft30 kq25.1)
      have ne_tt16_b31 : tt16 ≠ b31 := Nat.ne_of_lt (Nat.lt_of_lt_of_le ft35 zq31)
      have ft36 := (Nat.lt_of_lt_of_le lt_b21 kq25.1)
      have ne_b21_b31 : b21 ≠ b31 := Nat.ne_of_lt (Nat.lt_of_lt_of_le ft36 zq31)
      have ne_tt25_b31 : tt25 ≠ b31 := Nat.ne_of_lt (Nat.lt_of_lt_of_le lt_tt25 zq31)
      have ne_w_WARNING_b31 : w_WARNING ≠ b31 := Nat.ne_of_lt (Nat.lt_of_lt_of_le lt_w_WARNING (Nat.le_trans O25.2.1 zq31))
      have g_b31 : n0 ≤ b31 := Nat.le_trans (O25.1 ▸ O25.2.1) zq31
      have O31 : Old Z n0 T31.heap := O25.keep kq31 all0
      have lt_b31 := eq31.lt
      refine Go.st (f' := (mkF m 113 #[iv p1, iv p2, iv p3, iv p4, iv p5, rv b1, rv b6, rv b13, rv b21, .unset] [(.ref b31)])) (fun _ k => st31 _ k) ?_
      refine Go.st (f' := (mkF m 115 #[iv p1, iv p2, iv p3, iv p4, iv p5, rv b1, rv b6, rv b13, rv b21, rv b31] [])) (fun _ k => XS.astore X31.here hx rfl (hb hby at_113) rfl rfl (l' := #[iv p1, iv p2, iv p3, iv p4, iv p5, rv b1, rv b6, rv b13, rv b21, rv b31]) rfl k) ?_
      refine Go.st (f' := (mkF m 117 #[iv p1, iv p2, iv p3, iv p4, iv p5, rv b1, rv b6, rv b13, rv b21, rv b31] [(.ref b31)])) (fun _ k => XS.aload X31.here hx rfl (hb hby at_115) rfl rfl k) ?_
      obtain ⟨cq37, kq37, q37a, q37b, q37c⟩ := isOf hZ rfl eq31
      obtain ⟨_, _, ⟨T37, L37, kk37, nn37⟩, -, X37, ⟨Lc37, hQ37, lq37, yq37, zz37⟩, st37⟩ := X31.virtualBack hx (y := (⟨"com/example/lapwing/lapwing/profile/RuleViolation", "severity", "()Lcom/example/lapwing/lapwing/profile/RuleViolation$Severity;"⟩ : MethodName)) (z := (⟨"com/example/lapwing/lapwing/profile/RuleViolation", "severity", "()Lcom/example/lapwing/lapwing/profile/RuleViolation$Severity;"⟩ : MethodName)) hown (mvT hZ (hw _ (List.mem_of_getElem? (i := 54) rfl))) (mvT hZ (hw _ (List.mem_of_getElem? (i := 55) rfl))) (notFace_of_selects (args := #[]) (mvT hZ (hw _ (List.mem_of_getElem? (i := 57) rfl)))) (mvT hZ (hw _ (List.mem_of_getElem? (i := 57) rfl))) (mvT hZ (hw _ (List.mem_of_getElem? (i := 56) rfl))) (by decide) (own_back (W := 0) (rmG_severity l Z a0 hw [] b31 w_WARNING T31.heap n0 O31 eq31 fq31_0) hZ (hw _ (List.mem_of_getElem? (i := 58) rfl)) (hw _ (List.mem_of_getElem? (i := 32) rfl)) (by decide) (by decide)) q37a q37c (g := (mkF m 117 #[iv p1, iv p2, iv p3, iv p4, iv p5, rv b1, rv b6, rv b13, rv b21, rv b31] [(.ref b31)])) rfl (by rw [hml]; rfl) (Steps.refl _) (argsL := []) (rest := []) (lenOf pd___Lcom_example_lapwing_lapwing_profile_RuleViolation_Severity_ rfl) rfl (by show 2 * 0 + _ ≤ _; exact Nat.le_of_eq rfl) (hb hby at_117) (fun _ _ => ⟨rfl, rfl, (by decide : 7 + 0 ≤ _), (by decide : 19 + 0 ≤ _)⟩)
      dsimp only [Pt.U, Pt.locs, Pt.cells, Pt.slots] at X37 lq37 yq37 zz37 st37 hQ37
      subst lq37 yq37 zz37
      obtain ⟨rfl, Nq37, kq37⟩ := hQ37
      have N37 := Fr.app N31 Nq37
      refine Go.tr (f' := (mkF m 120 #[iv p1, iv p2, iv p3, iv p4, iv p5, rv b1, rv b6, rv b13, rv b21, rv b31] [(.ref w_WARNING)])) st37 ?_
      obtain ⟨T38, X38, e38, st38⟩ := getS2 X37 hx hZ hown (host := "") (Or.inl (hw _ (List.mem_of_getElem? (i := 59) rfl))) Via.refl kq37 (S_w_WARNING.ext O31.2) (g := (mkF m 120 #[iv p1, iv p2, iv p3, iv p4, iv p5, rv b1, rv b6, rv b13, rv b21, rv b31] [(.ref w_WARNING)])) rfl (hb hby at_120)
      refine Go.st (f' := (mkF m 123 #[iv p1, iv p2, iv p3, iv p4, iv p5, rv b1, rv b6, rv b13, rv b21, rv b31] [(.ref w_WARNING), (.ref w_WARNING)])) (fun _ k => st38 _ k) ?_
      refine Go.st (f' := (mkF m 126 #[iv p1, iv p2, iv p3, iv p4, iv p5, rv b1, rv b6, rv b13, rv b21, rv b31] [])) (fun _ k => Jvm.RoadKit.acmp (g := (mkF m 123 #[iv p1, iv p2, iv p3, iv p4, iv p5, rv b1, rv b6, rv b13, rv b21, rv b31] [(.ref w_WARNING), (.ref w_WARNING)])) X38 hx rfl rfl rfl (pc0 := 123) (pc' := 126) (same := true) rfl (hb hby at_123) rfl (decide_eq_true rfl) (by decide) (by decide) k) ?_
      refine Go.st (f' := (mkF m 128 #[iv p1, iv p2, iv p3, iv p4, iv p5, rv b1, rv b6, rv b13, rv b21, rv b31] [(.ref b13)])) (fun _ k => XS.aload X38.here hx rfl (hb hby at_126) rfl rfl k) ?_
      refine Go.st (f' := (mkF m 130 #[iv p1, iv p2, iv p3, iv p4, iv p5, rv b1, rv b6, rv b13, rv b21, rv b31] [(.ref b31), (.ref b13)])) (fun _ k => XS.aload X38.here hx rfl (hb hby at_128) rfl rfl k) ?_
      obtain ⟨cq39, kq39, q39a, q39b, q39c⟩ := isOf hZ e38 eq31
      obtain ⟨_, _, ⟨T39, L39, kk39, nn39⟩, -, X39, ⟨Lc39, hQ39, lq39, yq39, zz39⟩, st39⟩ := X38.virtualBack hx (y := (⟨"com/example/lapwing/lapwing/profile/RuleViolation", "path", "()Ljava/lang/String;"⟩ : MethodName)) (z := (⟨"com/example/lapwing/lapwing/profile/RuleViolation", "path", "()Ljava/lang/String;"⟩ : MethodName)) hown (mvT hZ (hw _ (List.mem_of_getElem? (i := 60) rfl))) (mvT hZ (hw _ (List.mem_of_getElem? (i := 61) rfl))) (notFace_of_selects (args := #[]) (mvT hZ (hw _ (List.mem_of_getElem? (i := 63) rfl)))) (mvT hZ (hw _ (List.mem_of_getElem? (i := 63) rfl))) (mvT hZ (hw _ (List.mem_of_getElem? (i := 62) rfl))) (by decide) (own_back (W := 1) (rmG_path l Z a0 hw [] b31 b13 T31.heap n0 O31 eq31 fq31_1) hZ (hw _ (List.mem_of_getElem? (i := 64) rfl)) (hw _ (List.mem_of_getElem? (i := 32) rfl)) (by decide) (by decide)) q39a q39c (g := (mkF m 130 #[iv p1, iv p2, iv p3, iv p4, iv p5, rv b1, rv b6, rv b13, rv b21, rv b31] [(.ref b31), (.ref b13)])) rfl (by rw [hml]; rfl) (Steps.refl _) (argsL := []) (rest := [(.ref b13)]) (lenOf pd___Ljava_lang_String_ rfl) rfl (by show 2 * 0 + _ ≤ _; exact Nat.le_of_eq rfl) (hb hby at_130) (fun _ _ => ⟨rfl, e38, (by decide : 7 + 0 ≤ _), (by decide : 19 + 0 ≤ _)⟩)
      dsimp only [Pt.U, Pt.locs, Pt.cells, Pt.slots] at X39 lq39 yq39 zz39 st39 hQ39
      subst lq39 yq39 zz39
      obtain ⟨rfl, Nq39, kq39⟩ := hQ39
      have N39 := Fr.app N37 Nq39
      refine Go.tr (f' := (mkF m 133 #[iv p1, iv p2, iv p3, iv p4, iv p5, rv b1, rv b6, rv b13, rv b21, rv b31] [(.ref b13), (.ref b13)])) st39 ?_
      have ft41 := (((eq16.ext E21).keep kq25).keep kq31)
      obtain ⟨cq40, kq40, q40a, q40b, q40c⟩ := isOf hZ kq39 ft41
      obtain ⟨_, _, ⟨T40, L40, kk40, nn40⟩, -, X40, ⟨Lc40, hQ40, lq40, yq40, zz40⟩, st40⟩ := X39.virtualBack hx (y := (⟨"java/lang/String", "equals", "(Ljava/lang/Object;)Z"⟩ : MethodName)) (z := (⟨"java/lang/String", "equals", "(Ljava/lang/Object;)Z"⟩ : MethodName)) hown (mvT hZ (hw _ (List.mem_of_getElem? (i := 65) rfl))) (mvT hZ (hw _ (List.mem_of_getElem? (i := 66) rfl))) (notFace_of_selects (args := #[]) (mvT hZ (hw _ (List.mem_of_getElem? (i := 68) rfl)))) (mvT hZ (hw _ (List.mem_of_getElem? (i := 68) rfl))) (mvT hZ (hw _ (List.mem_of_getElem? (i := 67) rfl))) (by decide) (own_back (W := 0) (st_eqs l Z a0 hw [] b13 T31.heap n0 O31) hZ (hw _ (List.mem_of_getElem? (i := 69) rfl)) (hw _ (List.mem_of_getElem? (i := 3) rfl)) (by decide) (by decide)) q40a q40c (g := (mkF m 133 #[iv p1, iv p2, iv p3, iv p4, iv p5, rv b1, rv b6, rv b13, rv b21, rv b31] [(.ref b13), (.ref b13)])) rfl (by rw [hml]; rfl) (Steps.refl _) (argsL := [(.ref b13)]) (rest := []) (lenOf pd__Ljava_lang_Object__Z rfl) rfl (by show 2 * 0 + _ ≤ _; exact Nat.le_of_eq rfl) (hb hby at_133) (fun _ _ => ⟨rfl, kq39, (by decide : 7 + 0 ≤ _), (by decide : 19 + 0 ≤ _)⟩)
      dsimp only [Pt.U, Pt.locs, Pt.cells, Pt.slots] at X40 lq40 yq40 zz40 st40 hQ40
      subst lq40 yq40 zz40
      obtain ⟨rfl, Nq40, kq40⟩ := hQ40
      have N40 := Fr.app N39 Nq40
      refine Go.tr (f' := (mkF m 136 #[iv p1, iv p2, iv p3, iv p4, iv p5, rv b1, rv b6, rv b13, rv b21, rv b31] [(.int 1)])) st40 ?_
      refine Go.st (f' := (mkF m 139 #[iv p1, iv p2, iv p3, iv p4, iv p5, rv b1, rv b6, rv b13, rv b21, rv b31] [])) (fun _ k => XS.ifNo X40.here hx rfl (hb hby at_136) rfl (by decide) k) ?_
      refine Go.st (f' := (mkF m 141 #[iv p1, iv p2, iv p3, iv p4, iv p5, rv b1, rv b6, rv b13, rv b21, rv b31] [(.ref b21)])) (fun _ k => XS.aload X40.here hx rfl (hb hby at_139) rfl rfl k) ?_
      refine Go.st (f' := (mkF m 143 #[iv p1, iv p2, iv p3, iv p4, iv p5, rv b1, rv b6, rv b13, rv b21, rv b31] [(.ref b31), (.ref b21)])) (fun _ k => XS.aload X40.here hx rfl (hb hby at_141) rfl rfl k) ?_
      obtain ⟨cq42, kq42, q42a, q42b, q42c⟩ := isOf hZ kq40 eq31
      obtain ⟨_, _, ⟨T42, L42, kk42, nn42⟩, -, X42, ⟨Lc42, hQ42, lq42, yq42, zz42⟩, st42⟩ := X40.virtualBack hx (y := (⟨"com/example/lapwing/lapwing/profile/RuleViolation", "message", "()Ljava/lang/String;"⟩ : MethodName)) (z := (⟨"com/example/lapwing/lapwing/profile/RuleViolation", "message", "()Ljava/lang/String;"⟩ : MethodName)) hown (mvT hZ (hw _ (List.mem_of_getElem? (i := 70) rfl))) (mvT hZ (hw _ (List.mem_of_getElem? (i := 71) rfl))) (notFace_of_selects (args := #[]) (mvT hZ (hw _ (List.mem_of_getElem? (i := 73) rfl)))) (mvT hZ (hw _ (List.mem_of_getElem? (i := 73) rfl))) (mvT hZ (hw _ (List.mem_of_getElem? (i := 72) rfl))) (by decide) (own_back (W := 1) (rmG_message l Z a0 hw [] b31 b21 T31.heap n0 O31 eq31 fq31_2) hZ (hw _ (List.mem_of_getElem? (i := 74) rfl)) (hw _ (List.mem_of_getElem? (i := 32) rfl)) (by decide) (by decide)) q42a q42c (g := (mkF m 143 #[iv p1, iv p2, iv p3, iv p4, iv p5, rv b1, rv b6, rv b13, rv b21, rv b31] [(.ref b31), (.ref b21)])) rfl (by rw [hml]; rfl) (Steps.refl _) (argsL := []) (rest := [(.ref b21)]) (lenOf pd___Ljava_lang_String_ rfl) rfl (by show 2 * 0 + _ ≤ _; exact Nat.le_of_eq rfl) (hb hby at_143) (fun _ _ => ⟨rfl, kq40, (by decide : 7 + 0 ≤ _), (by decide : 19 + 0 ≤ _)⟩)
      dsimp only [Pt.U, Pt.locs, Pt.cells, Pt.slots] at X42 lq42 yq42 zz42 st42 hQ42
      subst lq42 yq42 zz42
      obtain ⟨rfl, Nq42, kq42⟩ := hQ42
      have N42 := Fr.app N40 Nq42
      refine Go.tr (f' := (mkF m 146 #[iv p1, iv p2, iv p3, iv p4, iv p5, rv b1, rv b6, rv b13, rv b21, rv b31] [(.ref b21), (.ref b21)])) st42 ?_
      have ft44 := (eq25.keep kq31)
      obtain ⟨cq43, kq43, q43a, q43b, q43c⟩ := isOf hZ kq42 ft44
      obtain ⟨_, _, ⟨T43, L43, kk43, nn43⟩, -, X43, ⟨Lc43, hQ43, lq43, yq43, zz43⟩, st43⟩ := X42.virtualBack hx (y := (⟨"java/lang/String", "equals", "(Ljava/lang/Object;)Z"⟩ : MethodName)) (z := (⟨"java/lang/String", "equals", "(Ljava/lang/Object;)Z"⟩ : MethodName)) hown (mvT hZ (hw _ (List.mem_of_getElem? (i := 65) rfl))) (mvT hZ (hw _ (List.mem_of_getElem? (i := 66) rfl))) (notFace_of_selects (args := #[]) (mvT hZ (hw _ (List.mem_of_getElem? (i := 68) rfl)))) (mvT hZ (hw _ (List.mem_of_getElem? (i := 68) rfl))) (mvT hZ (hw _ (List.mem_of_getElem? (i := 67) rfl))) (by decide) (own_back (W := 0) (st_eqs l Z a0 hw [] b21 T31.heap n0 O31) hZ (hw _ (List.mem_of_getElem? (i := 69) rfl)) (hw _ (List.mem_of_getElem? (i := 3) rfl)) (by decide) (by decide)) q43a q43c (g := (mkF m 146 #[iv p1, iv p2, iv p3, iv p4, iv p5, rv b1, rv b6, rv b13, rv b21, rv b31] [(.ref b21), (.ref b21)])) rfl (by rw [hml]; rfl) (Steps.refl _) (argsL := [(.ref b21)]) (rest := []) (lenOf pd__Ljava_lang_Object__Z rfl) rfl (by show 2 * 0 + _ ≤ _; exact Nat.le_of_eq rfl) (hb hby at_146) (fun _ _ => ⟨rfl, kq42, (by decide : 7 + 0 ≤ _), (by decide : 19 + 0 ≤ _)⟩)
      dsimp only [Pt.U, Pt.locs, Pt.cells, Pt.slots] at X43 lq43 yq43 zz43 st43 hQ43
      subst lq43 yq43 zz43
      obtain ⟨rfl, Nq43, kq43⟩ := hQ43
      have N43 := Fr.app N42 Nq43
      refine Go.tr (f' := (mkF m 149 #[iv p1, iv p2, iv p3, iv p4, iv p5, rv b1, rv b6, rv b13, rv b21, rv b31] [(.int 1)])) st43 ?_
      refine Go.st (f' := (mkF m 152 #[iv p1, iv p2, iv p3, iv p4, iv p5, rv b1, rv b6, rv b13, rv b21, rv b31] [])) (fun _ k => XS.ifNo X43.here hx rfl (hb hby at_149) rfl (by decide) k) ?_
      refine Go.st (f' := (mkF m 153 #[iv p1, iv p2, iv p3, iv p4, iv p5, rv b1, rv b6, rv b13, rv b21, rv b31] [(.int 1)])) (fun _ k => XS.iconst X43.here hx rfl (hb hby at_152) k) ?_
      refine Go.st (f' := (mkF m 157 #[iv p1, iv p2, iv p3, iv p4, iv p5, rv b1, rv b6, rv b13, rv b21, rv b31] [(.int 1)])) (fun _ k => XS.goto X43.here hx rfl (pc0 := 153) (pc' := 157) rfl (hb hby at_153) (by decide) (by decide) k) ?_
      refine Go.retB X43 hlk hx (t := .boolean) hret (by simp) (hb hby at_157) kq43 ?_ (by decide) (by decide)
      exact ⟨rfl, N43⟩
    · refine Go.st (f' := (mkF m 85 #[iv p1, iv p2, iv p3, iv p4, iv p5, rv b1, rv b6, rv b13, .unset, .unset] [])) (fun _ k => XS.ifNo X16.here hx rfl (hb hby at_82) rfl ((if0 _ _).trans (feq cd20).1) k) ?_
      refine Go.st (f' := (mkF m 87 #[iv p1, iv p2, iv p3, iv p4, iv p5, rv b1, rv b6, rv b13, .unset, .unset] [(.ref b6)])) (fun _ k => XS.aload X16.here hx rfl (hb hby at_85) rfl rfl k) ?_
      refine Go.st (f' := (mkF m 88 #[iv p1, iv p2, iv p3, iv p4, iv p5, rv b1, rv b6, rv b13, .unset, .unset] [(.int 0), (.ref b6)])) (fun _ k => XS.iconst X16.here hx rfl (hb hby at_87) k) ?_
      have ft46 := ((V_b6_11.ext E13).keep kq16 (ninS ne_b6_b13 nin0))
      obtain ⟨cl45, Ar45, -, S45, -, H45, -⟩ := id ft46
      have hin45 : ¬ ((0 : Int32) < 0 ∨ cl45.slots.size ≤ ((0 : Int32)).toNatClampNeg) := inb_of S45 ⟨by decide, by decide⟩
      have hat45 : cl45.slots[((0 : Int32)).toNatClampNeg]? = some (.int (nar .char ((p3 &&& (255 : Int32)).toUInt32.toUInt16.toUInt32.toInt32))) := H45.at hin45 rfl
      refine Go.st (f' := (mkF m 89 #[iv p1, iv p2, iv p3, iv p4, iv p5, rv b1, rv b6, rv b13, .unset, .unset] [(.int (nar .char ((p3 &&& (255 : Int32)).toUInt32.toUInt16.toUInt32.toInt32)))])) (fun _ k => X16.caload hx (j := (0 : Int32)) (v := (.int (nar .char ((p3 &&& (255 : Int32)).toUInt32.toUInt16.toUInt32.toInt32)))) Ar45.1 (State.isArrayOf_alike hZ.alike Ar45.2.1) Ar45.2.2 hin45 hat45 (g := (mkF m 88 #[iv p1, iv p2, iv p3, iv p4, iv p5, rv b1, rv b6, rv b13, .unset, .unset] [(.int 0), (.ref b6)])) rfl rfl (hb hby at_88) _ k) ?_
      obtain ⟨_, _, ⟨T47, L47, kk47, nn47⟩, -, X47, ⟨Lc47, hQ47, lq47, yq47, zz47⟩, st47⟩ := Jvm.LawKit.callS X16 hx (y := (⟨"java/lang/String", "valueOf", "(C)Ljava/lang/String;"⟩ : MethodName)) hown (mvT hZ (hw _ (List.mem_of_getElem? (i := 75) rfl))) (mvT hZ (hw _ (List.mem_of_getElem? (i := 76) rfl))) (mvT hZ (hw _ (List.mem_of_getElem? (i := 3) rfl))) (mvT hZ (hw _ (List.mem_of_getElem? (i := 77) rfl))) (by decide) (own_back (W := 0) (st_vof l Z a0 hw [] (nar .char ((p3 &&& (255 : Int32)).toUInt32.toUInt16.toUInt32.toInt32)) w_WARNING i_COMPACT_STRINGS v_SIOOBE_FORMATTER T16.heap n0 O16 (own_ch p3) WW) hZ (hw _ (List.mem_of_getElem? (i := 77) rfl)) (hw _ (List.mem_of_getElem? (i := 3) rfl)) (by decide) (by decide)) (g := (mkF m 89 #[iv p1, iv p2, iv p3, iv p4, iv p5, rv b1, rv b6, rv b13, .unset, .unset] [(.int (nar .char ((p3 &&& (255 : Int32)).toUInt32.toUInt16.toUInt32.toInt32)))])) rfl (by rw [hml]; rfl) (argsL := [(.int (nar .char ((p3 &&& (255 : Int32)).toUInt32.toUInt16.toUInt32.toInt32)))]) (rest := []) (lenOf pd__C_Ljava_lang_String_ rfl) rfl (by show 2 * 0 + _ ≤ _; exact Nat.le_of_eq rfl) (hb hby at_89) (fun _ _ => ⟨rfl, rfl, (by decide : 4 + 2 ≤ _), (by decide : 10 + 5 ≤ _)⟩)
      dsimp only [Pt.U, Pt.locs, Pt.cells, Pt.slots] at X47 lq47 yq47 zz47 st47 hQ47
      subst lq47 yq47 zz47
      obtain ⟨b47, rfl, Nq47, zb47, kq47, eq47, cq47, tt47, kt47, zq47, fq47, vq47⟩ := hQ47
      have N47 := Fr.app N16 Nq47
      have ft48 := (Nat.lt_of_lt_of_le ft18 kq16.1)
      have ne_b1_b47 : b1 ≠ b47 := Nat.ne_of_lt (Nat.lt_of_lt_of_le ft48 zb47)
      have ft49 := (Nat.lt_of_lt_of_le ft19 kq16.1)
      have ne_b6_b47 : b6 ≠ b47 := Nat.ne_of_lt (Nat.lt_of_lt_of_le ft49 zb47)
      have ft50 := (Nat.lt_of_lt_of_le lt_b13 kq16.1)
      have ne_b13_b47 : b13 ≠ b47 := Nat.ne_of_lt (Nat.lt_of_lt_of_le ft50 zb47)
      have ne_tt16_b47 : tt16 ≠ b47 := Nat.ne_of_lt (Nat.lt_of_lt_of_le lt_tt16 zb47)
      have ne_w_WARNING_b47 : w_WARNING ≠ b47 := Nat.ne_of_lt (Nat.lt_of_lt_of_le lt_w_WARNING (Nat.le_trans O16.2.1 zb47))
      have g_b47 : n0 ≤ b47 := Nat.le_trans (O16.1 ▸ O16.2.1) zb47
      have ne_b1_tt47 : b1 ≠ tt47 := Nat.ne_of_lt (Nat.lt_of_lt_of_le ft48 zq47)
      have ne_b6_tt47 : b6 ≠ tt47 := Nat.ne_of_lt (Nat.lt_of_lt_of_le ft49 zq47)
      have ne_b13_tt47 : b13 ≠ tt47 := Nat.ne_of_lt (Nat.lt_of_lt_of_le ft50 zq47)
      have ne_tt16_tt47 : tt16 ≠ tt47 := Nat.ne_of_lt (Nat.lt_of_lt_of_le lt_tt16 zq47)
      have ne_w_WARNING_tt47 : w_WARNING ≠ tt47 := Nat.ne_of_lt (Nat.lt_of_lt_of_le lt_w_WARNING (Nat.le_trans O16.2.1 zq47))
      have g_tt47 : n0 ≤ tt47 := Nat.le_trans (O16.1 ▸ O16.2.1) zq47
      have O47 : Old Z n0 T47.heap := O16.keep kq47 all0
      have lt_b47 := eq47.lt
      have lt_tt47 := vq47.lt
      refine Go.st (f' := (mkF m 92 #[iv p1, iv p2, iv p3, iv p4, iv p5, rv b1, rv b6, rv b13, .unset, .unset] [(.ref b47)])) (fun _ k => st47 _ k) ?_
      refine Go.st (f' := (mkF m 104 #[iv p1, iv p2, iv p3, iv p4, iv p5, rv b1, rv b6, rv b13, .unset, .unset] [(.ref b47)])) (fun _ k => XS.goto X47.here hx rfl (pc0 := 92) (pc' := 104) rfl (hb hby at_92) (by decide) (by decide) k) ?_
      refine Go.st (f' := (mkF m 106 #[iv p1, iv p2, iv p3, iv p4, iv p5, rv b1, rv b6, rv b13, rv b47, .unset] [])) (fun _ k => XS.astore X47.here hx rfl (hb hby at_104) rfl rfl (l' := #[iv p1, iv p2, iv p3, iv p4, iv p5, rv b1, rv b6, rv b13, rv b47, .unset]) rfl k) ?_
      refine Go.st (f' := (mkF m 108 #[iv p1, iv p2, iv p3, iv p4, iv p5, rv b1, rv b6, rv b13, rv b47, .unset] [(.ref b13)])) (fun _ k => XS.aload X47.here hx rfl (hb hby at_106) rfl rfl k) ?_
      refine Go.st (f' := (mkF m 110 #[iv p1, iv p2, iv p3, iv p4, iv p5, rv b1, rv b6, rv b13, rv b47, .unset] [(.ref b47), (.ref b13)])) (fun _ k => XS.aload X47.here hx rfl (hb hby at_108) rfl rfl k) ?_
      obtain ⟨_, _, ⟨T51, L51, kk51, nn51⟩, -, X51, ⟨Lc51, hQ51, lq51, yq51, zz51⟩, st51⟩ := Jvm.LawKit.callS X47 hx (y := (⟨"com/example/lapwing/lapwing/profile/RuleViolation", "warning", "(Ljava/lang/String;Ljava/lang/String;)Lcom/example/lapwing/lapwing/profile/RuleViolation;"⟩ : MethodName)) hown (mvT hZ (hw _ (List.mem_of_getElem? (i := 30) rfl))) (mvT hZ (hw _ (List.mem_of_getElem? (i := 31) rfl))) (mvT hZ (hw _ (List.mem_of_getElem? (i := 32) rfl))) (mvT hZ (hw _ (List.mem_of_getElem? (i := 33) rfl))) (by decide) (own_back (W := 0) (rmW l Z a0 hw [] b13 b47 w_WARNING i_COMPACT_STRINGS v_SIOOBE_FORMATTER T47.heap n0 O47 WW) hZ (hw _ (List.mem_of_getElem? (i := 33) rfl)) (hw _ (List.mem_of_getElem? (i := 32) rfl)) (by decide) (by decide)) (g := (mkF m 110 #[iv p1, iv p2, iv p3, iv p4, iv p5, rv b1, rv b6, rv b13, rv b47, .unset] [(.ref b47), (.ref b13)])) rfl (by rw [hml]; rfl) (argsL := [(.ref b13), (.ref b47)]) (rest := []) (lenOf pd__Ljava_lang_String_Ljava_lang_String__Lcom_example_lapwing_lapwing_profile_RuleViolation_ rfl) rfl (by show 2 * 0 + _ ≤ _; exact Nat.le_of_eq rfl) (hb hby at_110) (fun _ _ => ⟨rfl, rfl, (by decide : 6 + 1 ≤ _), (by decide : 15 + 3 ≤ _)⟩)
      dsimp only [Pt.U, Pt.locs, Pt.cells, Pt.slots] at X51 lq51 yq51 zz51 st51 hQ51
      subst lq51 yq51 zz51
      obtain ⟨b51, rfl, Nq51, zq51, kq51, eq51, fq51_0, fq51_1, fq51_2⟩ := hQ51
      have N51 := Fr.app N47 Nq51
      have ft52 := (Nat.lt_of_lt_of_le ft48 kq47.1)
      have ne_b1_b51 : b1 ≠ b51 := Nat.ne_of_lt (Nat.lt_of_lt_of_le ft52 zq51)
      have ft53 := (Nat.lt_of_lt_of_le ft49 kq47.1)
      have ne_b6_b51 : b6 ≠ b51 := Nat.ne_of_lt (Nat.lt_of_lt_of_le ft53 zq51)
      have ft54 := (Nat.lt_of_lt_of_le ft50 kq47.1)
      have ne_b13_b51 : b13 ≠ b51 := Nat.ne_of_lt (Nat.lt_of_lt_of_le ft54 zq51)
      have ft55 := (Nat.lt_of_lt_of_le lt_tt16 kq47.1)
      have ne_tt16_b51 : tt16 ≠ b51 := Nat.ne_of_lt (Nat.lt_of_lt_of_le ft55 zq51)
      have ne_b47_b51 : b47 ≠ b51 := Nat.ne_of_lt (Nat.lt_of_lt_of_le lt_b47 zq51)
      have ne_tt47_b51 : tt47 ≠ b51 := Nat.ne_of_lt (Nat.lt_of_lt_of_le lt_tt47 zq51)
      have ne_w_WARNING_b51 : w_WARNING ≠ b51 := Nat.ne_of_lt (Nat.lt_of_lt_of_le lt_w_WARNING (Nat.le_trans O47.2.1 zq51))
      have g_b51 : n0 ≤ b51 := Nat.le_trans (O47.1 ▸ O47.2.1) zq51
      have O51 : Old Z n0 T51.heap := O47.keep kq51 all0
      have lt_b51 := eq51.lt
      refine Go.st (f' := (mkF m 113 #[iv p1, iv p2, iv p3, iv p4, iv p5, rv b1, rv b6, rv b13, rv b47, .unset] [(.ref b51)])) (fun _ k => st51 _ k) ?_
      refine Go.st (f' := (mkF m 115 #[iv p1, iv p2, iv p3, iv p4, iv p5, rv b1, rv b6, rv b13, rv b47, rv b51] [])) (fun _ k => XS.astore X51.here hx rfl (hb hby at_113) rfl rfl (l' := #[iv p1, iv p2, iv p3, iv p4, iv p5, rv b1, rv b6, rv b13, rv b47, rv b51]) rfl k) ?_
      refine Go.st (f' := (mkF m 117 #[iv p1, iv p2, iv p3, iv p4, iv p5, rv b1, rv b6, rv b13, rv b47, rv b51] [(.ref b51)])) (fun _ k => XS.aload X51.here hx rfl (hb hby at_115) rfl rfl k) ?_
      obtain ⟨cq56, kq56, q56a, q56b, q56c⟩ := isOf hZ rfl eq51
      obtain ⟨_, _, ⟨T56, L56, kk56, nn56⟩, -, X56, ⟨Lc56, hQ56, lq56, yq56, zz56⟩, st56⟩ := X51.virtualBack hx (y := (⟨"com/example/lapwing/lapwing/profile/RuleViolation", "severity", "()Lcom/example/lapwing/lapwing/profile/RuleViolation$Severity;"⟩ : MethodName)) (z := (⟨"com/example/lapwing/lapwing/profile/RuleViolation", "severity", "()Lcom/example/lapwing/lapwing/profile/RuleViolation$Severity;"⟩ : MethodName)) hown (mvT hZ (hw _ (List.mem_of_getElem? (i := 54) rfl))) (mvT hZ (hw _ (List.mem_of_getElem? (i := 55) rfl))) (notFace_of_selects (args := #[]) (mvT hZ (hw _ (List.mem_of_getElem? (i := 57) rfl)))) (mvT hZ (hw _ (List.mem_of_getElem? (i := 57) rfl))) (mvT hZ (hw _ (List.mem_of_getElem? (i := 56) rfl))) (by decide) (own_back (W := 0) (rmG_severity l Z a0 hw [] b51 w_WARNING T51.heap n0 O51 eq51 fq51_0) hZ (hw _ (List.mem_of_getElem? (i := 58) rfl)) (hw _ (List.mem_of_getElem? (i := 32) rfl)) (by decide) (by decide)) q56a q56c (g := (mkF m 117 #[iv p1, iv p2, iv p3, iv p4, iv p5, rv b1, rv b6, rv b13, rv b47, rv b51] [(.ref b51)])) rfl (by rw [hml]; rfl) (Steps.refl _) (argsL := []) (rest := []) (lenOf pd___Lcom_example_lapwing_lapwing_profile_RuleViolation_Severity_ rfl) rfl (by show 2 * 0 + _ ≤ _; exact Nat.le_of_eq rfl) (hb hby at_117) (fun _ _ => ⟨rfl, rfl, (by decide : 7 + 0 ≤ _), (by decide : 18 + 0 ≤ _)⟩)
      dsimp only [Pt.U, Pt.locs, Pt.cells, Pt.slots] at X56 lq56 yq56 zz56 st56 hQ56
      subst lq56 yq56 zz56
      obtain ⟨rfl, Nq56, kq56⟩ := hQ56
      have N56 := Fr.app N51 Nq56
      refine Go.tr (f' := (mkF m 120 #[iv p1, iv p2, iv p3, iv p4, iv p5, rv b1, rv b6, rv b13, rv b47, rv b51] [(.ref w_WARNING)])) st56 ?_
      obtain ⟨T57, X57, e57, st57⟩ := getS2 X56 hx hZ hown (host := "") (Or.inl (hw _ (List.mem_of_getElem? (i := 59) rfl))) Via.refl kq56 (S_w_WARNING.ext O51.2) (g := (mkF m 120 #[iv p1, iv p2, iv p3, iv p4, iv p5, rv b1, rv b6, rv b13, rv b47, rv b51] [(.ref w_WARNING)])) rfl (hb hby at_120)
      refine Go.st (f' := (mkF m 123 #[iv p1, iv p2, iv p3, iv p4, iv p5, rv b1, rv b6, rv b13, rv b47, rv b51] [(.ref w_WARNING), (.ref w_WARNING)])) (fun _ k => st57 _ k) ?_
      refine Go.st (f' := (mkF m 126 #[iv p1, iv p2, iv p3, iv p4, iv p5, rv b1, rv b6, rv b13, rv b47, rv b51] [])) (fun _ k => Jvm.RoadKit.acmp (g := (mkF m 123 #[iv p1, iv p2, iv p3, iv p4, iv p5, rv b1, rv b6, rv b13, rv b47, rv b51] [(.ref w_WARNING), (.ref w_WARNING)])) X57 hx rfl rfl rfl (pc0 := 123) (pc' := 126) (same := true) rfl (hb hby at_123) rfl (decide_eq_true rfl) (by decide) (by decide) k) ?_
      refine Go.st (f' := (mkF m 128 #[iv p1, iv p2, iv p3, iv p4, iv p5, rv b1, rv b6, rv b13, rv b47, rv b51] [(.ref b13)])) (fun _ k => XS.aload X57.here hx rfl (hb hby at_126) rfl rfl k) ?_
      refine Go.st (f' := (mkF m 130 #[iv p1, iv p2, iv p3, iv p4, iv p5, rv b1, rv b6, rv b13, rv b47, rv b51] [(.ref b51), (.ref b13)])) (fun _ k => XS.aload X57.here hx rfl (hb hby at_128) rfl rfl k) ?_
      obtain ⟨cq58, kq58, q58a, q58b, q58c⟩ := isOf hZ e57 eq51
      obtain ⟨_, _, ⟨T58, L58, kk58, nn58⟩, -, X58, ⟨Lc58, hQ58, lq58, yq58, zz58⟩, st58⟩ := X57.virtualBack hx (y := (⟨"com/example/lapwing/lapwing/profile/RuleViolation", "path", "()Ljava/lang/String;"⟩ : MethodName)) (z := (⟨"com/example/lapwing/lapwing/profile/RuleViolation", "path", "()Ljava/lang/String;"⟩ : MethodName)) hown (mvT hZ (hw _ (List.mem_of_getElem? (i := 60) rfl))) (mvT hZ (hw _ (List.mem_of_getElem? (i := 61) rfl))) (notFace_of_selects (args := #[]) (mvT hZ (hw _ (List.mem_of_getElem? (i := 63) rfl)))) (mvT hZ (hw _ (List.mem_of_getElem? (i := 63) rfl))) (mvT hZ (hw _ (List.mem_of_getElem? (i := 62) rfl))) (by decide) (own_back (W := 1) (rmG_path l Z a0 hw [] b51 b13 T51.heap n0 O51 eq51 fq51_1) hZ (hw _ (List.mem_of_getElem? (i := 64) rfl)) (hw _ (List.mem_of_getElem? (i := 32) rfl)) (by decide) (by decide)) q58a q58c (g := (mkF m 130 #[iv p1, iv p2, iv p3, iv p4, iv p5, rv b1, rv b6, rv b13, rv b47, rv b51] [(.ref b51), (.ref b13)])) rfl (by rw [hml]; rfl) (Steps.refl _) (argsL := []) (rest := [(.ref b13)]) (lenOf pd___Ljava_lang_String_ rfl) rfl (by show 2 * 0 + _ ≤ _; exact Nat.le_of_eq rfl) (hb hby at_130) (fun _ _ => ⟨rfl, e57, (by decide : 7 + 0 ≤ _), (by decide : 18 + 0 ≤ _)⟩)
      dsimp only [Pt.U, Pt.locs, Pt.cells, Pt.slots] at X58 lq58 yq58 zz58 st58 hQ58
      subst lq58 yq58 zz58
      obtain ⟨rfl, Nq58, kq58⟩ := hQ58
      have N58 := Fr.app N56 Nq58
      refine Go.tr (f' := (mkF m 133 #[iv p1, iv p2, iv p3, iv p4, iv p5, rv b1, rv b6, rv b13, rv b47, rv b51] [(.ref b13), (.ref b13)])) st58 ?_
      have ft60 := ((eq16.keep kq47).keep kq51)
      obtain ⟨cq59, kq59, q59a, q59b, q59c⟩ := isOf hZ kq58 ft60
      obtain ⟨_, _, ⟨T59, L59, kk59, nn59⟩, -, X59, ⟨Lc59, hQ59, lq59, yq59, zz59⟩, st59⟩ := X58.virtualBack hx (y := (⟨"java/lang/String", "equals", "(Ljava/lang/Object;)Z"⟩ : MethodName)) (z := (⟨"java/lang/String", "equals", "(Ljava/lang/Object;)Z"⟩ : MethodName)) hown (mvT hZ (hw _ (List.mem_of_getElem? (i := 65) rfl))) (mvT hZ (hw _ (List.mem_of_getElem? (i := 66) rfl))) (notFace_of_selects (args := #[]) (mvT hZ (hw _ (List.mem_of_getElem? (i := 68) rfl)))) (mvT hZ (hw _ (List.mem_of_getElem? (i := 68) rfl))) (mvT hZ (hw _ (List.mem_of_getElem? (i := 67) rfl))) (by decide) (own_back (W := 0) (st_eqs l Z a0 hw [] b13 T51.heap n0 O51) hZ (hw _ (List.mem_of_getElem? (i := 69) rfl)) (hw _ (List.mem_of_getElem? (i := 3) rfl)) (by decide) (by decide)) q59a q59c (g := (mkF m 133 #[iv p1, iv p2, iv p3, iv p4, iv p5, rv b1, rv b6, rv b13, rv b47, rv b51] [(.ref b13), (.ref b13)])) rfl (by rw [hml]; rfl) (Steps.refl _) (argsL := [(.ref b13)]) (rest := []) (lenOf pd__Ljava_lang_Object__Z rfl) rfl (by show 2 * 0 + _ ≤ _; exact Nat.le_of_eq rfl) (hb hby at_133) (fun _ _ => ⟨rfl, kq58, (by decide : 7 + 0 ≤ _), (by decide : 18 + 0 ≤ _)⟩)
      dsimp only [Pt.U, Pt.locs, Pt.cells, Pt.slots] at X59 lq59 yq59 zz59 st59 hQ59
      subst lq59 yq59 zz59
      obtain ⟨rfl, Nq59, kq59⟩ := hQ59
      have N59 := Fr.app N58 Nq59
      refine Go.tr (f' := (mkF m 136 #[iv p1, iv p2, iv p3, iv p4, iv p5, rv b1, rv b6, rv b13, rv b47, rv b51] [(.int 1)])) st59 ?_
      refine Go.st (f' := (mkF m 139 #[iv p1, iv p2, iv p3, iv p4, iv p5, rv b1, rv b6, rv b13, rv b47, rv b51] [])) (fun _ k => XS.ifNo X59.here hx rfl (hb hby at_136) rfl (by decide) k) ?_
      refine Go.st (f' := (mkF m 141 #[iv p1, iv p2, iv p3, iv p4, iv p5, rv b1, rv b6, rv b13, rv b47, rv b51] [(.ref b47)])) (fun _ k => XS.aload X59.here hx rfl (hb hby at_139) rfl rfl k) ?_
      refine Go.st (f' := (mkF m 143 #[iv p1, iv p2, iv p3, iv p4, iv p5, rv b1, rv b6, rv b13, rv b47, rv b51] [(.ref b51), (.ref b47)])) (fun _ k => XS.aload X59.here hx rfl (hb hby at_141) rfl rfl k) ?_
      obtain ⟨cq61, kq61, q61a, q61b, q61c⟩ := isOf hZ kq59 eq51
      obtain ⟨_, _, ⟨T61, L61, kk61, nn61⟩, -, X61, ⟨Lc61, hQ61, lq61, yq61, zz61⟩, st61⟩ := X59.virtualBack hx (y := (⟨"com/example/lapwing/lapwing/profile/RuleViolation", "message", "()Ljava/lang/String;"⟩ : MethodName)) (z := (⟨"com/example/lapwing/lapwing/profile/RuleViolation", "message", "()Ljava/lang/String;"⟩ : MethodName)) hown (mvT hZ (hw _ (List.mem_of_getElem? (i := 70) rfl))) (mvT hZ (hw _ (List.mem_of_getElem? (i := 71) rfl))) (notFace_of_selects (args := #[]) (mvT hZ (hw _ (List.mem_of_getElem? (i := 73) rfl)))) (mvT hZ (hw _ (List.mem_of_getElem? (i := 73) rfl))) (mvT hZ (hw _ (List.mem_of_getElem? (i := 72) rfl))) (by decide) (own_back (W := 1) (rmG_message l Z a0 hw [] b51 b47 T51.heap n0 O51 eq51 fq51_2) hZ (hw _ (List.mem_of_getElem? (i := 74) rfl)) (hw _ (List.mem_of_getElem? (i := 32) rfl)) (by decide) (by decide)) q61a q61c (g := (mkF m 143 #[iv p1, iv p2, iv p3, iv p4, iv p5, rv b1, rv b6, rv b13, rv b47, rv b51] [(.ref b51), (.ref b47)])) rfl (by rw [hml]; rfl) (Steps.refl _) (argsL := []) (rest := [(.ref b47)]) (lenOf pd___Ljava_lang_String_ rfl) rfl (by show 2 * 0 + _ ≤ _; exact Nat.le_of_eq rfl) (hb hby at_143) (fun _ _ => ⟨rfl, kq59, (by decide : 7 + 0 ≤ _), (by decide : 18 + 0 ≤ _)⟩)
      dsimp only [Pt.U, Pt.locs, Pt.cells, Pt.slots] at X61 lq61 yq61 zz61 st61 hQ61
      subst lq61 yq61 zz61
      obtain ⟨rfl, Nq61, kq61⟩ := hQ61
      have N61 := Fr.app N59 Nq61
      refine Go.tr (f' := (mkF m 146 #[iv p1, iv p2, iv p3, iv p4, iv p5, rv b1, rv b6, rv b13, rv b47, rv b51] [(.ref b47), (.ref b47)])) st61 ?_
      have ft63 := (eq47.keep kq51)
      obtain ⟨cq62, kq62, q62a, q62b, q62c⟩ := isOf hZ kq61 ft63
      obtain ⟨_, _, ⟨T62, L62, kk62, nn62⟩, -, X62, ⟨Lc62, hQ62, lq62, yq62, zz62⟩, st62⟩ := X61.virtualBack hx (y := (⟨"java/lang/String", "equals", "(Ljava/lang/Object;)Z"⟩ : MethodName)) (z := (⟨"java/lang/String", "equals", "(Ljava/lang/Object;)Z"⟩ : MethodName)) hown (mvT hZ (hw _ (List.mem_of_getElem? (i := 65) rfl))) (mvT hZ (hw _ (List.mem_of_getElem? (i := 66) rfl))) (notFace_of_selects (args := #[]) (mvT hZ (hw _ (List.mem_of_getElem? (i := 68) rfl)))) (mvT hZ (hw _ (List.mem_of_getElem? (i := 68) rfl))) (mvT hZ (hw _ (List.mem_of_getElem? (i := 67) rfl))) (by decide) (own_back (W := 0) (st_eqs l Z a0 hw [] b47 T51.heap n0 O51) hZ (hw _ (List.mem_of_getElem? (i := 69) rfl)) (hw _ (List.mem_of_getElem? (i := 3) rfl)) (by decide) (by decide)) q62a q62c (g := (mkF m 146 #[iv p1, iv p2, iv p3, iv p4, iv p5, rv b1, rv b6, rv b13, rv b47, rv b51] [(.ref b47), (.ref b47)])) rfl (by rw [hml]; rfl) (Steps.refl _) (argsL := [(.ref b47)]) (rest := []) (lenOf pd__Ljava_lang_Object__Z rfl) rfl (by show 2 * 0 + _ ≤ _; exact Nat.le_of_eq rfl) (hb hby at_146) (fun _ _ => ⟨rfl, kq61, (by decide : 7 + 0 ≤ _), (by decide : 18 + 0 ≤ _)⟩)
      dsimp only [Pt.U, Pt.locs, Pt.cells, Pt.slots] at X62 lq62 yq62 zz62 st62 hQ62
      subst lq62 yq62 zz62
      obtain ⟨rfl, Nq62, kq62⟩ := hQ62
      have N62 := Fr.app N61 Nq62
      refine Go.tr (f' := (mkF m 149 #[iv p1, iv p2, iv p3, iv p4, iv p5, rv b1, rv b6, rv b13, rv b47, rv b51] [(.int 1)])) st62 ?_
      refine Go.st (f' := (mkF m 152 #[iv p1, iv p2, iv p3, iv p4, iv p5, rv b1, rv b6, rv b13, rv b47, rv b51] [])) (fun _ k => XS.ifNo X62.here hx rfl (hb hby at_149) rfl (by decide) k) ?_
      refine Go.st (f' := (mkF m 153 #[iv p1, iv p2, iv p3, iv p4, iv p5, rv b1, rv b6, rv b13, rv b47, rv b51] [(.int 1)])) (fun _ k => XS.iconst X62.here hx rfl (hb hby at_152) k) ?_
      refine Go.st (f' := (mkF m 157 #[iv p1, iv p2, iv p3, iv p4, iv p5, rv b1, rv b6, rv b13, rv b47, rv b51] [(.int 1)])) (fun _ k => XS.goto X62.here hx rfl (pc0 := 153) (pc' := 157) rfl (hb hby at_153) (by decide) (by decide) k) ?_
      refine Go.retB X62 hlk hx (t := .boolean) hret (by simp) (hb hby at_157) kq62 ?_ (by decide) (by decide)
      exact ⟨rfl, N62⟩
  · refine Go.st (f' := (mkF m 57 #[iv p1, iv p2, iv p3, iv p4, iv p5, rv b1, rv b6, .unset, .unset, .unset] [])) (fun _ k => XS.ifNo X11.here hx rfl (hb hby at_54) rfl ((if0 _ _).trans (feq cd12).1) k) ?_
    refine Go.st (f' := (mkF m 59 #[iv p1, iv p2, iv p3, iv p4, iv p5, rv b1, rv b6, .unset, .unset, .unset] [(.ref b1)])) (fun _ k => XS.aload X11.here hx rfl (hb hby at_57) rfl rfl k) ?_
    refine Go.st (f' := (mkF m 60 #[iv p1, iv p2, iv p3, iv p4, iv p5, rv b1, rv b6, .unset, .unset, .unset] [(.int 0), (.ref b1)])) (fun _ k => XS.iconst X11.here hx rfl (hb hby at_59) k) ?_
    have ft65 := (((V_b1_5.ext E6).other W9 ne_b1_b6).other W11 ne_b1_b6)
    obtain ⟨cl64, Ar64, -, S64, -, H64, -⟩ := id ft65
    have hin64 : ¬ ((0 : Int32) < 0 ∨ cl64.slots.size ≤ ((0 : Int32)).toNatClampNeg) := inb_of S64 ⟨by decide, by decide⟩
    have hat64 : cl64.slots[((0 : Int32)).toNatClampNeg]? = some (.int (nar .char ((p1 &&& (255 : Int32)).toUInt32.toUInt16.toUInt32.toInt32))) := H64.at hin64 rfl
    refine Go.st (f' := (mkF m 61 #[iv p1, iv p2, iv p3, iv p4, iv p5, rv b1, rv b6, .unset, .unset, .unset] [(.int (nar .char ((p1 &&& (255 : Int32)).toUInt32.toUInt16.toUInt32.toInt32)))])) (fun _ k => X11.caload hx (j := (0 : Int32)) (v := (.int (nar .char ((p1 &&& (255 : Int32)).toUInt32.toUInt16.toUInt32.toInt32)))) (by rw [e11]; exact Ar64.1) (State.isArrayOf_alike hZ.alike Ar64.2.1) Ar64.2.2 hin64 hat64 (g := (mkF m 60 #[iv p1, iv p2, iv p3, iv p4, iv p5, rv b1, rv b6, .unset, .unset, .unset] [(.int 0), (.ref b1)])) rfl rfl (hb hby at_60) _ k) ?_
    obtain ⟨_, _, ⟨T66, L66, kk66, nn66⟩, -, X66, ⟨Lc66, hQ66, lq66, yq66, zz66⟩, st66⟩ := Jvm.LawKit.callS X11 hx (y := (⟨"java/lang/String", "valueOf", "(C)Ljava/lang/String;"⟩ : MethodName)) hown (mvT hZ (hw _ (List.mem_of_getElem? (i := 75) rfl))) (mvT hZ (hw _ (List.mem_of_getElem? (i := 76) rfl))) (mvT hZ (hw _ (List.mem_of_getElem? (i := 3) rfl))) (mvT hZ (hw _ (List.mem_of_getElem? (i := 77) rfl))) (by decide) (own_back (W := 0) (st_vof l Z a0 hw [] (nar .char ((p1 &&& (255 : Int32)).toUInt32.toUInt16.toUInt32.toInt32)) w_WARNING i_COMPACT_STRINGS v_SIOOBE_FORMATTER h11 n0 O11 (own_ch p1) WW) hZ (hw _ (List.mem_of_getElem? (i := 77) rfl)) (hw _ (List.mem_of_getElem? (i := 3) rfl)) (by decide) (by decide)) (g := (mkF m 61 #[iv p1, iv p2, iv p3, iv p4, iv p5, rv b1, rv b6, .unset, .unset, .unset] [(.int (nar .char ((p1 &&& (255 : Int32)).toUInt32.toUInt16.toUInt32.toInt32)))])) rfl (by rw [hml]; rfl) (argsL := [(.int (nar .char ((p1 &&& (255 : Int32)).toUInt32.toUInt16.toUInt32.toInt32)))]) (rest := []) (lenOf pd__C_Ljava_lang_String_ rfl) rfl (by show 2 * 0 + _ ≤ _; exact Nat.le_of_eq rfl) (hb hby at_61) (fun _ _ => ⟨rfl, e11, (by decide : 2 + 2 ≤ _), (by decide : 4 + 5 ≤ _)⟩)
    dsimp only [Pt.U, Pt.locs, Pt.cells, Pt.slots] at X66 lq66 yq66 zz66 st66 hQ66
    subst lq66 yq66 zz66
    obtain ⟨b66, rfl, Nq66, zb66, kq66, eq66, cq66, tt66, kt66, zq66, fq66, vq66⟩ := hQ66
    have N66 := Fr.app N11 Nq66
    have ft67 := (Nat.lt_of_lt_of_eq (Nat.lt_of_lt_of_eq (Nat.lt_of_lt_of_le ft7 E6.1) W9.size.symm) W11.size.symm)
    have ne_b1_b66 : b1 ≠ b66 := Nat.ne_of_lt (Nat.lt_of_lt_of_le ft67 zb66)
    have ft68 := (Nat.lt_of_lt_of_eq (Nat.lt_of_lt_of_eq lt_b6 W9.size.symm) W11.size.symm)
    have ne_b6_b66 : b6 ≠ b66 := Nat.ne_of_lt (Nat.lt_of_lt_of_le ft68 zb66)
    have ne_w_WARNING_b66 : w_WARNING ≠ b66 := Nat.ne_of_lt (Nat.lt_of_lt_of_le lt_w_WARNING (Nat.le_trans O11.2.1 zb66))
    have g_b66 : n0 ≤ b66 := Nat.le_trans (O11.1 ▸ O11.2.1) zb66
    have ne_b1_tt66 : b1 ≠ tt66 := Nat.ne_of_lt (Nat.lt_of_lt_of_le ft67 zq66)
    have ne_b6_tt66 : b6 ≠ tt66 := Nat.ne_of_lt (Nat.lt_of_lt_of_le ft68 zq66)
    have ne_w_WARNING_tt66 : w_WARNING ≠ tt66 := Nat.ne_of_lt (Nat.lt_of_lt_of_le lt_w_WARNING (Nat.le_trans O11.2.1 zq66))
    have g_tt66 : n0 ≤ tt66 := Nat.le_trans (O11.1 ▸ O11.2.1) zq66
    have O66 : Old Z n0 T66.heap := O11.keep kq66 all0
    have lt_b66 := eq66.lt
    have lt_tt66 := vq66.lt
    refine Go.st (f' := (mkF m 64 #[iv p1, iv p2, iv p3, iv p4, iv p5, rv b1, rv b6, .unset, .unset, .unset] [(.ref b66)])) (fun _ k => st66 _ k) ?_
    refine Go.st (f' := (mkF m 76 #[iv p1, iv p2, iv p3, iv p4, iv p5, rv b1, rv b6, .unset, .unset, .unset] [(.ref b66)])) (fun _ k => XS.goto X66.here hx rfl (pc0 := 64) (pc' := 76) rfl (hb hby at_64) (by decide) (by decide) k) ?_
    refine Go.st (f' := (mkF m 78 #[iv p1, iv p2, iv p3, iv p4, iv p5, rv b1, rv b6, rv b66, .unset, .unset] [])) (fun _ k => XS.astore X66.here hx rfl (hb hby at_76) rfl rfl (l' := #[iv p1, iv p2, iv p3, iv p4, iv p5, rv b1, rv b6, rv b66, .unset, .unset]) rfl k) ?_
    refine Go.st (f' := (mkF m 80 #[iv p1, iv p2, iv p3, iv p4, iv p5, rv b1, rv b6, rv b66, .unset, .unset] [(.int p5)])) (fun _ k => XS.iload X66.here hx rfl (hb hby at_78) rfl k) ?_
    refine Go.st (f' := (mkF m 81 #[iv p1, iv p2, iv p3, iv p4, iv p5, rv b1, rv b6, rv b66, .unset, .unset] [(.int 2), (.int p5)])) (fun _ k => XS.iconst X66.here hx rfl (hb hby at_80) k) ?_
    refine Go.st (f' := (mkF m 82 #[iv p1, iv p2, iv p3, iv p4, iv p5, rv b1, rv b6, rv b66, .unset, .unset] [(.int (p5 &&& (2 : Int32)))])) (fun _ k => XS.iand X66.here hx rfl (hb hby at_81) rfl k) ?_
    by_cases cd69 : (p5 &&& (2 : Int32)) = (0 : Int32)
    · refine Go.st (f' := (mkF m 95 #[iv p1, iv p2, iv p3, iv p4, iv p5, rv b1, rv b6, rv b66, .unset, .unset] [])) (fun _ k => XS.ifYes X66.here hx rfl (pc0 := 82) (pc' := 95) rfl (hb hby at_82) rfl ((if0 _ _).trans (teq cd69).1) (by decide) (by decide) k) ?_
      obtain ⟨T70, h70, X70, e70, E70, A70, D70, -, st70⟩ := newO X66 hx hZ hown (hw _ (List.mem_of_getElem? (i := 1) rfl)) (hw _ (List.mem_of_getElem? (i := 2) rfl)) (hw _ (List.mem_of_getElem? (i := 3) rfl)) rfl (g := (mkF m 95 #[iv p1, iv p2, iv p3, iv p4, iv p5, rv b1, rv b6, rv b66, .unset, .unset] [])) rfl (hb hby at_95) (by decide) (by decide)
      obtain ⟨b70, g70⟩ : ∃ z, z = T66.heap.size := ⟨_, rfl⟩
      rw [← g70] at A70 D70 st70
      have ft71 := (Nat.lt_of_lt_of_le ft67 kq66.1)
      have ne_b1_b70 : b1 ≠ b70 := Nat.ne_of_lt (Nat.lt_of_lt_of_eq ft71 g70.symm)
      have ft72 := (Nat.lt_of_lt_of_le ft68 kq66.1)
      have ne_b6_b70 : b6 ≠ b70 := Nat.ne_of_lt (Nat.lt_of_lt_of_eq ft72 g70.symm)
      have ne_b66_b70 : b66 ≠ b70 := Nat.ne_of_lt (Nat.lt_of_lt_of_eq lt_b66 g70.symm)
      have ne_tt66_b70 : tt66 ≠ b70 := Nat.ne_of_lt (Nat.lt_of_lt_of_eq lt_tt66 g70.symm)
      have ne_w_WARNING_b70 : w_WARNING ≠ b70 := Nat.ne_of_lt (Nat.lt_of_lt_of_le lt_w_WARNING (Nat.le_trans O66.2.1 (Nat.le_of_eq g70.symm)))
      have g_b70 : n0 ≤ b70 := Nat.le_trans (O66.1 ▸ O66.2.1) (Nat.le_of_eq g70.symm)
      have O70 : Old Z n0 h70 := O66.ext E70
      have lt_b70 := A70.lt
      have F_coder_b70 : Fld Z h70 b70 "java/lang/String" "coder" "B" (.int (0 : Int32)) := D70 (Or.inr (hw _ (List.mem_of_getElem? (i := 27) rfl))) (ty := .byte) (by decide)
      have F_value_b70 : Fld Z h70 b70 "java/lang/String" "value" "[B" .null := D70 (Or.inr (hw _ (List.mem_of_getElem? (i := 29) rfl))) (ty := (.array .byte)) (by decide)
      refine Go.st (f' := (mkF m 98 #[iv p1, iv p2, iv p3, iv p4, iv p5, rv b1, rv b6, rv b66, .unset, .unset] [(.ref b70)])) (fun _ k => st70 _ k) ?_
      refine Go.st (f' := (mkF m 99 #[iv p1, iv p2, iv p3, iv p4, iv p5, rv b1, rv b6, rv b66, .unset, .unset] [(.ref b70), (.ref b70)])) (fun _ k => XS.dup X70.here hx rfl (hb hby at_98) rfl rfl k) ?_
      refine Go.st (f' := (mkF m 101 #[iv p1, iv p2, iv p3, iv p4, iv p5, rv b1, rv b6, rv b66, .unset, .unset] [(.ref b6), (.ref b70), (.ref b70)])) (fun _ k => XS.aload X70.here hx rfl (hb hby at_99) rfl rfl k) ?_
      have ft74 := ((V_b6_11.keep kq66 nin0).ext E70)
      obtain ⟨_, _, ⟨T73, L73, kk73, nn73⟩, -, X73, ⟨Lc73, hQ73, lq73, yq73, zz73⟩, st73⟩ := X70.specialBack hx (y := (⟨"java/lang/String", "<init>", "([C)V"⟩ : MethodName)) rfl hown (mvT hZ (hw _ (List.mem_of_getElem? (i := 4) rfl))) (mvT hZ (hw _ (List.mem_of_getElem? (i := 5) rfl))) (mvT hZ (hw _ (List.mem_of_getElem? (i := 6) rfl))) (by decide) (own_back (W := 1) (st1_2 l Z a0 hw [] b70 b6 kc6 (nar .char ((p3 &&& (255 : Int32)).toUInt32.toUInt16.toUInt32.toInt32)) (nar .char ((p4 &&& (255 : Int32)).toUInt32.toUInt16.toUInt32.toInt32)) w_WARNING i_COMPACT_STRINGS v_SIOOBE_FORMATTER h70 n0 O70 (own_ch p3) (own_ch p4) g_b70 (Ne.symm ne_b6_b70) A70 F_coder_b70 F_value_b70 ft74 WW) hZ (hw _ (List.mem_of_getElem? (i := 6) rfl)) (hw _ (List.mem_of_getElem? (i := 3) rfl)) (by decide) (by decide)) (g := (mkF m 101 #[iv p1, iv p2, iv p3, iv p4, iv p5, rv b1, rv b6, rv b66, .unset, .unset] [(.ref b6), (.ref b70), (.ref b70)])) rfl (by rw [hml]; rfl) (Steps.refl _) (a := b70) (argsL := [(.ref b6)]) (rest := [(.ref b70)]) (lenOf pd___C_V rfl) rfl (by show 2 * 0 + _ ≤ _; exact Nat.le_of_eq rfl) (hb hby at_101) (fun _ _ => ⟨rfl, e70, (by decide : 5 + 1 ≤ _), (by decide : 13 + 2 ≤ _)⟩)
      dsimp only [Pt.U, Pt.locs, Pt.cells, Pt.slots] at X73 lq73 yq73 zz73 st73 hQ73
      subst lq73 yq73 zz73
      obtain ⟨rfl, Nq73, kq73, eq73, cq73, tt73, kt73, zq73, fq73, vq73⟩ := hQ73
      have N73 := Fr.app N66 Nq73
      have ft75 := (Nat.lt_of_lt_of_le ft71 E70.1)
      have ne_b1_tt73 : b1 ≠ tt73 := Nat.ne_of_lt (Nat.lt_of_lt_of_le ft75 zq73)
      have ft76 := (Nat.lt_of_lt_of_le ft72 E70.1)
      have ne_b6_tt73 : b6 ≠ tt73 := Nat.ne_of_lt (Nat.lt_of_lt_of_le ft76 zq73)
      have ft77 := (Nat.lt_of_lt_of_le lt_b66 E70.1)
      have ne_b66_tt73 : b66 ≠ tt73 := Nat.ne_of_lt (Nat.lt_of_lt_of_le ft77 zq73)
      have ft78 := (Nat.lt_of_lt_of_le lt_tt66 E70.1)
      have ne_tt66_tt73 : tt66 ≠ tt73 := Nat.ne_of_lt (Nat.lt_of_lt_of_le ft78 zq73)
      have ne_b70_tt73 : b70 ≠ tt73 := Nat.ne_of_lt (Nat.lt_of_lt_of_le lt_b70 zq73)
      have ne_w_WARNING_tt73 : w_WARNING ≠ tt73 := Nat.ne_of_lt (Nat.lt_of_lt_of_le lt_w_WARNING (Nat.le_trans O70.2.1 zq73))
      have g_tt73 : n0 ≤ tt73 := Nat.le_trans (O70.1 ▸ O70.2.1) zq73
      have O73 : Old Z n0 T73.heap := O70.keep kq73 (allS g_b70 all0)
      have lt_tt73 := vq73.lt
      refine Go.tr (f' := (mkF m 104 #[iv p1, iv p2, iv p3, iv p4, iv p5, rv b1, rv b6, rv b66, .unset, .unset] [(.ref b70)])) st73 ?_
      refine Go.st (f' := (mkF m 106 #[iv p1, iv p2, iv p3, iv p4, iv p5, rv b1, rv b6, rv b66, rv b70, .unset] [])) (fun _ k => XS.astore X73.here hx rfl (hb hby at_104) rfl rfl (l' := #[iv p1, iv p2, iv p3, iv p4, iv p5, rv b1, rv b6, rv b66, rv b70, .unset]) rfl k) ?_
      refine Go.st (f' := (mkF m 108 #[iv p1, iv p2, iv p3, iv p4, iv p5, rv b1, rv b6, rv b66, rv b70, .unset] [(.ref b66)])) (fun _ k => XS.aload X73.here hx rfl (hb hby at_106) rfl rfl k) ?_
      refine Go.st (f' := (mkF m 110 #[iv p1, iv p2, iv p3, iv p4, iv p5, rv b1, rv b6, rv b66, rv b70, .unset] [(.ref b70), (.ref b66)])) (fun _ k => XS.aload X73.here hx rfl (hb hby at_108) rfl rfl k) ?_
      obtain ⟨_, _, ⟨T79, L79, kk79, nn79⟩, -, X79, ⟨Lc79, hQ79, lq79, yq79, zz79⟩, st79⟩ := Jvm.LawKit.callS X73 hx (y := (⟨"com/example/lapwing/lapwing/profile/RuleViolation", "warning", "(Ljava/lang/String;Ljava/lang/String;)Lcom/example/lapwing/lapwing/profile/RuleViolation;"⟩ : MethodName)) hown (mvT hZ (hw _ (List.mem_of_getElem? (i := 30) rfl))) (mvT hZ (hw _ (List.mem_of_getElem? (i := 31) rfl))) (mvT hZ (hw _ (List.mem_of_getElem? (i := 32) rfl))) (mvT hZ (hw _ (List.mem_of_getElem? (i := 33) rfl))) (by decide) (own_back (W := 0) (rmW l Z a0 hw [] b66 b70 w_WARNING i_COMPACT_STRINGS v_SIOOBE_FORMATTER T73.heap n0 O73 WW) hZ (hw _ (List.mem_of_getElem? (i := 33) rfl)) (hw _ (List.mem_of_getElem? (i := 32) rfl)) (by decide) (by decide)) (g := (mkF m 110 #[iv p1, iv p2, iv p3, iv p4, iv p5, rv b1, rv b6, rv b66, rv b70, .unset] [(.ref b70), (.ref b66)])) rfl (by rw [hml]; rfl) (argsL := [(.ref b66), (.ref b70)]) (rest := []) (lenOf pd__Ljava_lang_String_Ljava_lang_String__Lcom_example_lapwing_lapwing_profile_RuleViolation_ rfl) rfl (by show 2 * 0 + _ ≤ _; exact Nat.le_of_eq rfl) (hb hby at_110) (fun _ _ => ⟨rfl, rfl, (by decide : 6 + 1 ≤ _), (by decide : 15 + 3 ≤ _)⟩)
      dsimp only [Pt.U, Pt.locs, Pt.cells, Pt.slots] at X79 lq79 yq79 zz79 st79 hQ79
      subst lq79 yq79 zz79
      obtain ⟨b79, rfl, Nq79, zq79, kq79, eq79, fq79_0, fq79_1, fq79_2⟩ := hQ79
      have N79 := Fr.app N73 Nq79
      have ft80 := (Nat.lt_of_lt_of_le ft75 kq73.1)
      have ne_b1_b79 : b1 ≠ b79 := Nat.ne_of_lt (Nat.lt_of_lt_of_le ft80 zq79)
      have ft81 := (Nat.lt_of_lt_of_le ft76 kq73.1)
      have ne_b6_b79 : b6 ≠ b79 := Nat.ne_of_lt (Nat.lt_of_lt_of_le ft81 zq79)
      have ft82 := (Nat.lt_of_lt_of_le ft77 kq73.1)
      have ne_b66_b79 : b66 ≠ b79 := Nat.ne_of_lt (Nat.lt_of_lt_of_le ft82 zq79)
      have ft83 := (Nat.lt_of_lt_of_le ft78 kq73.1)
      have ne_tt66_b79 : tt66 ≠ b79 := Nat.ne_of_lt (Nat.lt_of_lt_of_le ft83 zq79)
      have ft84 := (Nat.lt_of_lt_of_le lt_b70 kq73.1)
      have ne_b70_b79 : b70 ≠ b79 := Nat.ne_of_lt (Nat.lt_of_lt_of_le ft84 zq79)
      have ne_tt73_b79 : tt73 ≠ b79 := Nat.ne_of_lt (Nat.lt_of_lt_of_le lt_tt73 zq79)
      have ne_w_WARNING_b79 : w_WARNING ≠ b79 := Nat.ne_of_lt (Nat.lt_of_lt_of_le lt_w_WARNING (Nat.le_trans O73.2.1 zq79))
      have g_b79 : n0 ≤ b79 := Nat.le_trans (O73.1 ▸ O73.2.1) zq79
      have O79 : Old Z n0 T79.heap := O73.keep kq79 all0
      have lt_b79 := eq79.lt
      refine Go.st (f' := (mkF m 113 #[iv p1, iv p2, iv p3, iv p4, iv p5, rv b1, rv b6, rv b66, rv b70, .unset] [(.ref b79)])) (fun _ k => st79 _ k) ?_
      refine Go.st (f' := (mkF m 115 #[iv p1, iv p2, iv p3, iv p4, iv p5, rv b1, rv b6, rv b66, rv b70, rv b79] [])) (fun _ k => XS.astore X79.here hx rfl (hb hby at_113) rfl rfl (l' := #[iv p1, iv p2, iv p3, iv p4, iv p5, rv b1, rv b6, rv b66, rv b70, rv b79]) rfl k) ?_
      refine Go.st (f' := (mkF m 117 #[iv p1, iv p2, iv p3, iv p4, iv p5, rv b1, rv b6, rv b66, rv b70, rv b79] [(.ref b79)])) (fun _ k => XS.aload X79.here hx rfl (hb hby at_115) rfl rfl k) ?_
      obtain ⟨cq85, kq85, q85a, q85b, q85c⟩ := isOf hZ rfl eq79
      obtain ⟨_, _, ⟨T85, L85, kk85, nn85⟩, -, X85, ⟨Lc85, hQ85, lq85, yq85, zz85⟩, st85⟩ := X79.virtualBack hx (y := (⟨"com/example/lapwing/lapwing/profile/RuleViolation", "severity", "()Lcom/example/lapwing/lapwing/profile/RuleViolation$Severity;"⟩ : MethodName)) (z := (⟨"com/example/lapwing/lapwing/profile/RuleViolation", "severity", "()Lcom/example/lapwing/lapwing/profile/RuleViolation$Severity;"⟩ : MethodName)) hown (mvT hZ (hw _ (List.mem_of_getElem? (i := 54) rfl))) (mvT hZ (hw _ (List.mem_of_getElem? (i := 55) rfl))) (notFace_of_selects (args := #[]) (mvT hZ (hw _ (List.mem_of_getElem? (i := 57) rfl)))) (mvT hZ (hw _ (List.mem_of_getElem? (i := 57) rfl))) (mvT hZ (hw _ (List.mem_of_getElem? (i := 56) rfl))) (by decide) (own_back (W := 0) (rmG_severity l Z a0 hw [] b79 w_WARNING T79.heap n0 O79 eq79 fq79_0) hZ (hw _ (List.mem_of_getElem? (i := 58) rfl)) (hw _ (List.mem_of_getElem? (i := 32) rfl)) (by decide) (by decide)) q85a q85c (g := (mkF m 117 #[iv p1, iv p2, iv p3, iv p4, iv p5, rv b1, rv b6, rv b66, rv b70, rv b79] [(.ref b79)])) rfl (by rw [hml]; rfl) (Steps.refl _) (argsL := []) (rest := []) (lenOf pd___Lcom_example_lapwing_lapwing_profile_RuleViolation_Severity_ rfl) rfl (by show 2 * 0 + _ ≤ _; exact Nat.le_of_eq rfl) (hb hby at_117) (fun _ _ => ⟨rfl, rfl, (by decide : 7 + 0 ≤ _), (by decide : 18 + 0 ≤ _)⟩)
      dsimp only [Pt.U, Pt.locs, Pt.cells, Pt.slots] at X85 lq85 yq85 zz85 st85 hQ85
      subst lq85 yq85 zz85
      obtain ⟨rfl, Nq85, kq85⟩ := hQ85
      have N85 := Fr.app N79 Nq85
      refine Go.tr (f' := (mkF m 120 #[iv p1, iv p2, iv p3, iv p4, iv p5, rv b1, rv b6, rv b66, rv b70, rv b79] [(.ref w_WARNING)])) st85 ?_
      obtain ⟨T86, X86, e86, st86⟩ := getS2 X85 hx hZ hown (host := "") (Or.inl (hw _ (List.mem_of_getElem? (i := 59) rfl))) Via.refl kq85 (S_w_WARNING.ext O79.2) (g := (mkF m 120 #[iv p1, iv p2, iv p3, iv p4, iv p5, rv b1, rv b6, rv b66, rv b70, rv b79] [(.ref w_WARNING)])) rfl (hb hby at_120)
      refine Go.st (f' := (mkF m 123 #[iv p1, iv p2, iv p3, iv p4, iv p5, rv b1, rv b6, rv b66, rv b70, rv b79] [(.ref w_WARNING), (.ref w_WARNING)])) (fun _ k => st86 _ k) ?_
      refine Go.st (f' := (mkF m 126 #[iv p1, iv p2, iv p3, iv p4, iv p5, rv b1, rv b6, rv b66, rv b70, rv b79] [])) (fun _ k => Jvm.RoadKit.acmp (g := (mkF m 123 #[iv p1, iv p2, iv p3, iv p4, iv p5, rv b1, rv b6, rv b66, rv b70, rv b79] [(.ref w_WARNING), (.ref w_WARNING)])) X86 hx rfl rfl rfl (pc0 := 123) (pc' := 126) (same := true) rfl (hb hby at_123) rfl (decide_eq_true rfl) (by decide) (by decide) k) ?_
      refine Go.st (f' := (mkF m 128 #[iv p1, iv p2, iv p3, iv p4, iv p5, rv b1, rv b6, rv b66, rv b70, rv b79] [(.ref b66)])) (fun _ k => XS.aload X86.here hx rfl (hb hby at_126) rfl rfl k) ?_
      refine Go.st (f' := (mkF m 130 #[iv p1, iv p2, iv p3, iv p4, iv p5, rv b1, rv b6, rv b66, rv b70, rv b79] [(.ref b79), (.ref b66)])) (fun _ k => XS.aload X86.here hx rfl (hb hby at_128) rfl rfl k) ?_
      obtain ⟨cq87, kq87, q87a, q87b, q87c⟩ := isOf hZ e86 eq79
      obtain ⟨_, _, ⟨T87, L87, kk87, nn87⟩, -, X87, ⟨Lc87, hQ87, lq87, yq87, zz87⟩, st87⟩ := X86.virtualBack hx (y := (⟨"com/example/lapwing/lapwing/profile/RuleViolation", "path", "()Ljava/lang/String;"⟩ : MethodName)) (z := (⟨"com/example/lapwing/lapwing/profile/RuleViolation", "path", "()Ljava/lang/String;"⟩ : MethodName)) hown (mvT hZ (hw _ (List.mem_of_getElem? (i := 60) rfl))) (mvT hZ (hw _ (List.mem_of_getElem? (i := 61) rfl))) (notFace_of_selects (args := #[]) (mvT hZ (hw _ (List.mem_of_getElem? (i := 63) rfl)))) (mvT hZ (hw _ (List.mem_of_getElem? (i := 63) rfl))) (mvT hZ (hw _ (List.mem_of_getElem? (i := 62) rfl))) (by decide) (own_back (W := 1) (rmG_path l Z a0 hw [] b79 b66 T79.heap n0 O79 eq79 fq79_1) hZ (hw _ (List.mem_of_getElem? (i := 64) rfl)) (hw _ (List.mem_of_getElem? (i := 32) rfl)) (by decide) (by decide)) q87a q87c (g := (mkF m 130 #[iv p1, iv p2, iv p3, iv p4, iv p5, rv b1, rv b6, rv b66, rv b70, rv b79] [(.ref b79), (.ref b66)])) rfl (by rw [hml]; rfl) (Steps.refl _) (argsL := []) (rest := [(.ref b66)]) (lenOf pd___Ljava_lang_String_ rfl) rfl (by show 2 * 0 + _ ≤ _; exact Nat.le_of_eq rfl) (hb hby at_130) (fun _ _ => ⟨rfl, e86, (by decide : 7 + 0 ≤ _), (by decide : 18 + 0 ≤ _)⟩)
      dsimp only [Pt.U, Pt.locs, Pt.cells, Pt.slots] at X87 lq87 yq87 zz87 st87 hQ87
      subst lq87 yq87 zz87
      obtain ⟨rfl, Nq87, kq87⟩ := hQ87
      have N87 := Fr.app N85 Nq87
      refine Go.tr (f' := (mkF m 133 #[iv p1, iv p2, iv p3, iv p4, iv p5, rv b1, rv b6, rv b66, rv b70, rv b79] [(.ref b66), (.ref b66)])) st87 ?_
      have ft89 := (((eq66.ext E70).keep kq73).keep kq79)
      obtain ⟨cq88, kq88, q88a, q88b, q88c⟩ := isOf hZ kq87 ft89
      obtain ⟨_, _, ⟨T88, L88, kk88, nn88⟩, -, X88, ⟨Lc88, hQ88, lq88, yq88, zz88⟩, st88⟩ := X87.virtualBack hx (y := (⟨"java/lang/String", "equals", "(Ljava/lang/Object;)Z"⟩ : MethodName)) (z := (⟨"java/lang/String", "equals", "(Ljava/lang/Object;)Z"⟩ : MethodName)) hown (mvT hZ (hw _ (List.mem_of_getElem? (i := 65) rfl))) (mvT hZ (hw _ (List.mem_of_getElem? (i := 66) rfl))) (notFace_of_selects (args := #[]) (mvT hZ (hw _ (List.mem_of_getElem? (i := 68) rfl)))) (mvT hZ (hw _ (List.mem_of_getElem? (i := 68) rfl))) (mvT hZ (hw _ (List.mem_of_getElem? (i := 67) rfl))) (by decide) (own_back (W := 0) (st_eqs l Z a0 hw [] b66 T79.heap n0 O79) hZ (hw _ (List.mem_of_getElem? (i := 69) rfl)) (hw _ (List.mem_of_getElem? (i := 3) rfl)) (by decide) (by decide)) q88a q88c (g := (mkF m 133 #[iv p1, iv p2, iv p3, iv p4, iv p5, rv b1, rv b6, rv b66, rv b70, rv b79] [(.ref b66), (.ref b66)])) rfl (by rw [hml]; rfl) (Steps.refl _) (argsL := [(.ref b66)]) (rest := []) (lenOf pd__Ljava_lang_Object__Z rfl) rfl (by show 2 * 0 + _ ≤ _; exact Nat.le_of_eq rfl) (hb hby at_133) (fun _ _ => ⟨rfl, kq87, (by decide : 7 + 0 ≤ _), (by decide : 18 + 0 ≤ _)⟩)
      dsimp only [Pt.U, Pt.locs, Pt.cells, Pt.slots] at X88 lq88 yq88 zz88 st88 hQ88
      subst lq88 yq88 zz88
      obtain ⟨rfl, Nq88, kq88⟩ := hQ88
      have N88 := Fr.app N87 Nq88
      refine Go.tr (f' := (mkF m 136 #[iv p1, iv p2, iv p3, iv p4, iv p5, rv b1, rv b6, rv b66, rv b70, rv b79] [(.int 1)])) st88 ?_
      refine Go.st (f' := (mkF m 139 #[iv p1, iv p2, iv p3, iv p4, iv p5, rv b1, rv b6, rv b66, rv b70, rv b79] [])) (fun _ k => XS.ifNo X88.here hx rfl (hb hby at_136) rfl (by decide) k) ?_
      refine Go.st (f' := (mkF m 141 #[iv p1, iv p2, iv p3, iv p4, iv p5, rv b1, rv b6, rv b66, rv b70, rv b79] [(.ref b70)])) (fun _ k => XS.aload X88.here hx rfl (hb hby at_139) rfl rfl k) ?_
      refine Go.st (f' := (mkF m 143 #[iv p1, iv p2, iv p3, iv p4, iv p5, rv b1, rv b6, rv b66, rv b70, rv b79] [(.ref b79), (.ref b70)])) (fun _ k => XS.aload X88.here hx rfl (hb hby at_141) rfl rfl k) ?_
      obtain ⟨cq90, kq90, q90a, q90b, q90c⟩ := isOf hZ kq88 eq79
      obtain ⟨_, _, ⟨T90, L90, kk90, nn90⟩, -, X90, ⟨Lc90, hQ90, lq90, yq90, zz90⟩, st90⟩ := X88.virtualBack hx (y := (⟨"com/example/lapwing/lapwing/profile/RuleViolation", "message", "()Ljava/lang/String;"⟩ : MethodName)) (z := (⟨"com/example/lapwing/lapwing/profile/RuleViolation", "message", "()Ljava/lang/String;"⟩ : MethodName)) hown (mvT hZ (hw _ (List.mem_of_getElem? (i := 70) rfl))) (mvT hZ (hw _ (List.mem_of_getElem? (i := 71) rfl))) (notFace_of_selects (args := #[]) (mvT hZ (hw _ (List.mem_of_getElem? (i := 73) rfl)))) (mvT hZ (hw _ (List.mem_of_getElem? (i := 73) rfl))) (mvT hZ (hw _ (List.mem_of_getElem? (i := 72) rfl))) (by decide) (own_back (W := 1) (rmG_message l Z a0 hw [] b79 b70 T79.heap n0 O79 eq79 fq79_2) hZ (hw _ (List.mem_of_getElem? (i := 74) rfl)) (hw _ (List.mem_of_getElem? (i := 32) rfl)) (by decide) (by decide)) q90a q90c (g := (mkF m 143 #[iv p1, iv p2, iv p3, iv p4, iv p5, rv b1, rv b6, rv b66, rv b70, rv b79] [(.ref b79), (.ref b70)])) rfl (by rw [hml]; rfl) (Steps.refl _) (argsL := []) (rest := [(.ref b70)]) (lenOf pd___Ljava_lang_String_ rfl) rfl (by show 2 * 0 + _ ≤ _; exact Nat.le_of_eq rfl) (hb hby at_143) (fun _ _ => ⟨rfl, kq88, (by decide : 7 + 0 ≤ _), (by decide : 18 + 0 ≤ _)⟩)
      dsimp only [Pt.U, Pt.locs, Pt.cells, Pt.slots] at X90 lq90 yq90 zz90 st90 hQ90
      subst lq90 yq90 zz90
      obtain ⟨rfl, Nq90, kq90⟩ := hQ90
      have N90 := Fr.app N88 Nq90
      refine Go.tr (f' := (mkF m 146 #[iv p1, iv p2, iv p3, iv p4, iv p5, rv b1, rv b6, rv b66, rv b70, rv b79] [(.ref b70), (.ref b70)])) st90 ?_
      have ft92 := (eq73.keep kq79)
      obtain ⟨cq91, kq91, q91a, q91b, q91c⟩ := isOf hZ kq90 ft92
      obtain ⟨_, _, ⟨T91, L91, kk91, nn91⟩, -, X91, ⟨Lc91, hQ91, lq91, yq91, zz91⟩, st91⟩ := X90.virtualBack hx (y := (⟨"java/lang/String", "equals", "(Ljava/lang/Object;)Z"⟩ : MethodName)) (z := (⟨"java/lang/String", "equals", "(Ljava/lang/Object;)Z"⟩ : MethodName)) hown (mvT hZ (hw _ (List.mem_of_getElem? (i := 65) rfl))) (mvT hZ (hw _ (List.mem_of_getElem? (i := 66) rfl))) (notFace_of_selects (args := #[]) (mvT hZ (hw _ (List.mem_of_getElem? (i := 68) rfl)))) (mvT hZ (hw _ (List.mem_of_getElem? (i := 68) rfl))) (mvT hZ (hw _ (List.mem_of_getElem? (i := 67) rfl))) (by decide) (own_back (W := 0) (st_eqs l Z a0 hw [] b70 T79.heap n0 O79) hZ (hw _ (List.mem_of_getElem? (i := 69) rfl)) (hw _ (List.mem_of_getElem? (i := 3) rfl)) (by decide) (by decide)) q91a q91c (g := (mkF m 146 #[iv p1, iv p2, iv p3, iv p4, iv p5, rv b1, rv b6, rv b66, rv b70, rv b79] [(.ref b70), (.ref b70)])) rfl (by rw [hml]; rfl) (Steps.refl _) (argsL := [(.ref b70)]) (rest := []) (lenOf pd__Ljava_lang_Object__Z rfl) rfl (by show 2 * 0 + _ ≤ _; exact Nat.le_of_eq rfl) (hb hby at_146) (fun _ _ => ⟨rfl, kq90, (by decide : 7 + 0 ≤ _), (by decide : 18 + 0 ≤ _)⟩)
      dsimp only [Pt.U, Pt.locs, Pt.cells, Pt.slots] at X91 lq91 yq91 zz91 st91 hQ91
      subst lq91 yq91 zz91
      obtain ⟨rfl, Nq91, kq91⟩ := hQ91
      have N91 := Fr.app N90 Nq91
      refine Go.tr (f' := (mkF m 149 #[iv p1, iv p2, iv p3, iv p4, iv p5, rv b1, rv b6, rv b66, rv b70, rv b79] [(.int 1)])) st91 ?_
      refine Go.st (f' := (mkF m 152 #[iv p1, iv p2, iv p3, iv p4, iv p5, rv b1, rv b6, rv b66, rv b70, rv b79] [])) (fun _ k => XS.ifNo X91.here hx rfl (hb hby at_149) rfl (by decide) k) ?_
      refine Go.st (f' := (mkF m 153 #[iv p1, iv p2, iv p3, iv p4, iv p5, rv b1, rv b6, rv b66, rv b70, rv b79] [(.int 1)])) (fun _ k => XS.iconst X91.here hx rfl (hb hby at_152) k) ?_
      refine Go.st (f' := (mkF m 157 #[iv p1, iv p2, iv p3, iv p4, iv p5, rv b1, rv b6, rv b66, rv b70, rv b79] [(.int 1)])) (fun _ k => XS.goto X91.here hx rfl (pc0 := 153) (pc' := 157) rfl (hb hby at_153) (by decide) (by decide) k) ?_
      refine Go.retB X91 hlk hx (t := .boolean) hret (by simp) (hb hby at_157) kq91 ?_ (by decide) (by decide)
      exact ⟨rfl, N91⟩
    · refine Go.st (f' := (mkF m 85 #[iv p1, iv p2, iv p3, iv p4, iv p5, rv b1, rv b6, rv b66, .unset, .unset] [])) (fun _ k => XS.ifNo X66.here hx rfl (hb hby at_82) rfl ((if0 _ _).trans (feq cd69).1) k) ?_
      refine Go.st (f' := (mkF m 87 #[iv p1, iv p2, iv p3, iv p4, iv p5, rv b1, rv b6, rv b66, .unset, .unset] [(.ref b6)])) (fun _ k => XS.aload X66.here hx rfl (hb hby at_85) rfl rfl k) ?_
      refine Go.st (f' := (mkF m 88 #[iv p1, iv p2, iv p3, iv p4, iv p5, rv b1, rv b6, rv b66, .unset, .unset] [(.int 0), (.ref b6)])) (fun _ k => XS.iconst X66.here hx rfl (hb hby at_87) k) ?_
      have ft94 := (V_b6_11.keep kq66 nin0)
      obtain ⟨cl93, Ar93, -, S93, -, H93, -⟩ := id ft94
      have hin93 : ¬ ((0 : Int32) < 0 ∨ cl93.slots.size ≤ ((0 : Int32)).toNatClampNeg) := inb_of S93 ⟨by decide, by decide⟩
      have hat93 : cl93.slots[((0 : Int32)).toNatClampNeg]? = some (.int (nar .char ((p3 &&& (255 : Int32)).toUInt32.toUInt16.toUInt32.toInt32))) := H93.at hin93 rfl
      refine Go.st (f' := (mkF m 89 #[iv p1, iv p2, iv p3, iv p4, iv p5, rv b1, rv b6, rv b66, .unset, .unset] [(.int (nar .char ((p3 &&& (255 : Int32)).toUInt32.toUInt16.toUInt32.toInt32)))])) (fun _ k => X66.caload hx (j := (0 : Int32)) (v := (.int (nar .char ((p3 &&& (255 : Int32)).toUInt32.toUInt16.toUInt32.toInt32)))) Ar93.1 (State.isArrayOf_alike hZ.alike Ar93.2.1) Ar93.2.2 hin93 hat93 (g := (mkF m 88 #[iv p1, iv p2, iv p3, iv p4, iv p5, rv b1, rv b6, rv b66, .unset, .unset] [(.int 0), (.ref b6)])) rfl rfl (hb hby at_88) _ k) ?_
      obtain ⟨_, _, ⟨T95, L95, kk95, nn95⟩, -, X95, ⟨Lc95, hQ95, lq95, yq95, zz95⟩, st95⟩ := Jvm.LawKit.callS X66 hx (y := (⟨"java/lang/String", "valueOf", "(C)Ljava/lang/String;"⟩ : MethodName)) hown (mvT hZ (hw _ (List.mem_of_getElem? (i := 75) rfl))) (mvT hZ (hw _ (List.mem_of_getElem? (i := 76) rfl))) (mvT hZ (hw _ (List.mem_of_getElem? (i := 3) rfl))) (mvT hZ (hw _ (List.mem_of_getElem? (i := 77) rfl))) (by decide) (own_back (W := 0) (st_vof l Z a0 hw [] (nar .char ((p3 &&& (255 : Int32)).toUInt32.toUInt16.toUInt32.toInt32)) w_WARNING i_COMPACT_STRINGS v_SIOOBE_FORMATTER T66.heap n0 O66 (own_ch p3) WW) hZ (hw _ (List.mem_of_getElem? (i := 77) rfl)) (hw _ (List.mem_of_getElem? (i := 3) rfl)) (by decide) (by decide)) (g := (mkF m 89 #[iv p1, iv p2, iv p3, iv p4, iv p5, rv b1, rv b6, rv b66, .unset, .unset] [(.int (nar .char ((p3 &&& (255 : Int32)).toUInt32.toUInt16.toUInt32.toInt32)))])) rfl (by rw [hml]; rfl) (argsL := [(.int (nar .char ((p3 &&& (255 : Int32)).toUInt32.toUInt16.toUInt32.toInt32)))]) (rest := []) (lenOf pd__C_Ljava_lang_String_ rfl) rfl (by show 2 * 0 + _ ≤ _; exact Nat.le_of_eq rfl) (hb hby at_89) (fun _ _ => ⟨rfl, rfl, (by decide : 4 + 2 ≤ _), (by decide : 9 + 5 ≤ _)⟩)
      dsimp only [Pt.U, Pt.locs, Pt.cells, Pt.slots] at X95 lq95 yq95 zz95 st95 hQ95
      subst lq95 yq95 zz95
      obtain ⟨b95, rfl, Nq95, zb95, kq95, eq95, cq95, tt95, kt95, zq95, fq95, vq95⟩ := hQ95
      have N95 := Fr.app N66 Nq95
      have ft96 := (Nat.lt_of_lt_of_le ft67 kq66.1)
      have ne_b1_b95 : b1 ≠ b95 := Nat.ne_of_lt (Nat.lt_of_lt_of_le ft96 zb95)
      have ft97 := (Nat.lt_of_lt_of_le ft68 kq66.1)
      have ne_b6_b95 : b6 ≠ b95 := Nat.ne_of_lt (Nat.lt_of_lt_of_le ft97 zb95)
      have ne_b66_b95 : b66 ≠ b95 := Nat.ne_of_lt (Nat.lt_of_lt_of_le lt_b66 zb95)
      have ne_tt66_b95 : tt66 ≠ b95 := Nat.ne_of_lt (Nat.lt_of_lt_of_le lt_tt66 zb95)
      have ne_w_WARNING_b95 : w_WARNING ≠ b95 := Nat.ne_of_lt (Nat.lt_of_lt_of_le lt_w_WARNING (Nat.le_trans O66.2.1 zb95))
      have g_b95 : n0 ≤ b95 := Nat.le_trans (O66.1 ▸ O66.2.1) zb95
      have ne_b1_tt95 : b1 ≠ tt95 := Nat.ne_of_lt (Nat.lt_of_lt_of_le ft96 zq95)
      have ne_b6_tt95 : b6 ≠ tt95 := Nat.ne_of_lt (Nat.lt_of_lt_of_le ft97 zq95)
      have ne_b66_tt95 : b66 ≠ tt95 := Nat.ne_of_lt (Nat.lt_of_lt_of_le lt_b66 zq95)
      have ne_tt66_tt95 : tt66 ≠ tt95 := Nat.ne_of_lt (Nat.lt_of_lt_of_le lt_tt66 zq95)
      have ne_w_WARNING_tt95 : w_WARNING ≠ tt95 := Nat.ne_of_lt (Nat.lt_of_lt_of_le lt_w_WARNING (Nat.le_trans O66.2.1 zq95))
      have g_tt95 : n0 ≤ tt95 := Nat.le_trans (O66.1 ▸ O66.2.1) zq95
      have O95 : Old Z n0 T95.heap := O66.keep kq95 all0
      have lt_b95 := eq95.lt
      have lt_tt95 := vq95.lt
      refine Go.st (f' := (mkF m 92 #[iv p1, iv p2, iv p3, iv p4, iv p5, rv b1, rv b6, rv b66, .unset, .unset] [(.ref b95)])) (fun _ k => st95 _ k) ?_
      refine Go.st (f' := (mkF m 104 #[iv p1, iv p2, iv p3, iv p4, iv p5, rv b1, rv b6, rv b66, .unset, .unset] [(.ref b95)])) (fun _ k => XS.goto X95.here hx rfl (pc0 := 92) (pc' := 104) rfl (hb hby at_92) (by decide) (by decide) k) ?_
      refine Go.st (f' := (mkF m 106 #[iv p1, iv p2, iv p3, iv p4, iv p5, rv b1, rv b6, rv b66, rv b95, .unset] [])) (fun _ k => XS.astore X95.here hx rfl (hb hby at_104) rfl rfl (l' := #[iv p1, iv p2, iv p3, iv p4, iv p5, rv b1, rv b6, rv b66, rv b95, .unset]) rfl k) ?_
      refine Go.st (f' := (mkF m 108 #[iv p1, iv p2, iv p3, iv p4, iv p5, rv b1, rv b6, rv b66, rv b95, .unset] [(.ref b66)])) (fun _ k => XS.aload X95.here hx rfl (hb hby at_106) rfl rfl k) ?_
      refine Go.st (f' := (mkF m 110 #[iv p1, iv p2, iv p3, iv p4, iv p5, rv b1, rv b6, rv b66, rv b95, .unset] [(.ref b95), (.ref b66)])) (fun _ k => XS.aload X95.here hx rfl (hb hby at_108) rfl rfl k) ?_
      obtain ⟨_, _, ⟨T98, L98, kk98, nn98⟩, -, X98, ⟨Lc98, hQ98, lq98, yq98, zz98⟩, st98⟩ := Jvm.LawKit.callS X95 hx (y := (⟨"com/example/lapwing/lapwing/profile/RuleViolation", "warning", "(Ljava/lang/String;Ljava/lang/String;)Lcom/example/lapwing/lapwing/profile/RuleViolation;"⟩ : MethodName)) hown (mvT hZ (hw _ (List.mem_of_getElem? (i := 30) rfl))) (mvT hZ (hw _ (List.mem_of_getElem? (i := 31) rfl))) (mvT hZ (hw _ (List.mem_of_getElem? (i := 32) rfl))) (mvT hZ (hw _ (List.mem_of_getElem? (i := 33) rfl))) (by decide) (own_back (W := 0) (rmW l Z a0 hw [] b66 b95 w_WARNING i_COMPACT_STRINGS v_SIOOBE_FORMATTER T95.heap n0 O95 WW) hZ (hw _ (List.mem_of_getElem? (i := 33) rfl)) (hw _ (List.mem_of_getElem? (i := 32) rfl)) (by decide) (by decide)) (g := (mkF m 110 #[iv p1, iv p2, iv p3, iv p4, iv p5, rv b1, rv b6, rv b66, rv b95, .unset] [(.ref b95), (.ref b66)])) rfl (by rw [hml]; rfl) (argsL := [(.ref b66), (.ref b95)]) (rest := []) (lenOf pd__Ljava_lang_String_Ljava_lang_String__Lcom_example_lapwing_lapwing_profile_RuleViolation_ rfl) rfl (by show 2 * 0 + _ ≤ _; exact Nat.le_of_eq rfl) (hb hby at_110) (fun _ _ => ⟨rfl, rfl, (by decide : 6 + 1 ≤ _), (by decide : 14 + 3 ≤ _)⟩)
      dsimp only [Pt.U, Pt.locs, Pt.cells, Pt.slots] at X98 lq98 yq98 zz98 st98 hQ98
      subst lq98 yq98 zz98
      obtain ⟨b98, rfl, Nq98, zq98, kq98, eq98, fq98_0, fq98_1, fq98_2⟩ := hQ98
      have N98 := Fr.app N95 Nq98
      have ft99 := (Nat.lt_of_lt_of_le ft96 kq95.1)
      have ne_b1_b98 : b1 ≠ b98 := Nat.ne_of_lt (Nat.lt_of_lt_of_le ft99 zq98)
      have ft100 := (Nat.lt_of_lt_of_le ft97 kq95.1)
      have ne_b6_b98 : b6 ≠ b98 := Nat.ne_of_lt (Nat.lt_of_lt_of_le ft100 zq98)
      have ft101 := (Nat.lt_of_lt_of_le lt_b66 kq95.1)
      have ne_b66_b98 : b66 ≠ b98 := Nat.ne_of_lt (Nat.lt_of_lt_of_le ft101 zq98)
      have ft102 := (Nat.lt_of_lt_of_le lt_tt66 kq95.1)
      have ne_tt66_b98 : tt66 ≠ b98 := Nat.ne_of_lt (Nat.lt_of_lt_of_le ft102 zq98)
      have ne_b95_b98 : b95 ≠ b98 := Nat.ne_of_lt (Nat.lt_of_lt_of_le lt_b95 zq98)
      have ne_tt95_b98 : tt95 ≠ b98 := Nat.ne_of_lt (Nat.lt_of_lt_of_le lt_tt95 zq98)
      have ne_w_WARNING_b98 : w_WARNING ≠ b98 := Nat.ne_of_lt (Nat.lt_of_lt_of_le lt_w_WARNING (Nat.le_trans O95.2.1 zq98))
      have g_b98 : n0 ≤ b98 := Nat.le_trans (O95.1 ▸ O95.2.1) zq98
      have O98 : Old Z n0 T98.heap := O95.keep kq98 all0
      have lt_b98 := eq98.lt
      refine Go.st (f' := (mkF m 113 #[iv p1, iv p2, iv p3, iv p4, iv p5, rv b1, rv b6, rv b66, rv b95, .unset] [(.ref b98)])) (fun _ k => st98 _ k) ?_
      refine Go.st (f' := (mkF m 115 #[iv p1, iv p2, iv p3, iv p4, iv p5, rv b1, rv b6, rv b66, rv b95, rv b98] [])) (fun _ k => XS.astore X98.here hx rfl (hb hby at_113) rfl rfl (l' := #[iv p1, iv p2, iv p3, iv p4, iv p5, rv b1, rv b6, rv b66, rv b95, rv b98]) rfl k) ?_
      refine Go.st (f' := (mkF m 117 #[iv p1, iv p2, iv p3, iv p4, iv p5, rv b1, rv b6, rv b66, rv b95, rv b98] [(.ref b98)])) (fun _ k => XS.aload X98.here hx rfl (hb hby at_115) rfl rfl k) ?_
      obtain ⟨cq103, kq103, q103a, q103b, q103c⟩ := isOf hZ rfl eq98
      obtain ⟨_, _, ⟨T103, L103, kk103, nn103⟩, -, X103, ⟨Lc103, hQ103, lq103, yq103, zz103⟩, st103⟩ := X98.virtualBack hx (y := (⟨"com/example/lapwing/lapwing/profile/RuleViolation", "severity", "()Lcom/example/lapwing/lapwing/profile/RuleViolation$Severity;"⟩ : MethodName)) (z := (⟨"com/example/lapwing/lapwing/profile/RuleViolation", "severity", "()Lcom/example/lapwing/lapwing/profile/RuleViolation$Severity;"⟩ : MethodName)) hown (mvT hZ (hw _ (List.mem_of_getElem? (i := 54) rfl))) (mvT hZ (hw _ (List.mem_of_getElem? (i := 55) rfl))) (notFace_of_selects (args := #[]) (mvT hZ (hw _ (List.mem_of_getElem? (i := 57) rfl)))) (mvT hZ (hw _ (List.mem_of_getElem? (i := 57) rfl))) (mvT hZ (hw _ (List.mem_of_getElem? (i := 56) rfl))) (by decide) (own_back (W := 0) (rmG_severity l Z a0 hw [] b98 w_WARNING T98.heap n0 O98 eq98 fq98_0) hZ (hw _ (List.mem_of_getElem? (i := 58) rfl)) (hw _ (List.mem_of_getElem? (i := 32) rfl)) (by decide) (by decide)) q103a q103c (g := (mkF m 117 #[iv p1, iv p2, iv p3, iv p4, iv p5, rv b1, rv b6, rv b66, rv b95, rv b98] [(.ref b98)])) rfl (by rw [hml]; rfl) (Steps.refl _) (argsL := []) (rest := []) (lenOf pd___Lcom_example_lapwing_lapwing_profile_RuleViolation_Severity_ rfl) rfl (by show 2 * 0 + _ ≤ _; exact Nat.le_of_eq rfl) (hb hby at_117) (fun _ _ => ⟨rfl, rfl, (by decide : 7 + 0 ≤ _), (by decide : 17 + 0 ≤ _)⟩)
      dsimp only [Pt.U, Pt.locs, Pt.cells, Pt.slots] at X103 lq103 yq103 zz103 st103 hQ103
      subst lq103 yq103 zz103
      obtain ⟨rfl, Nq103, kq103⟩ := hQ103
      have N103 := Fr.app N98 Nq103
      refine Go.tr (f' := (mkF m 120 #[iv p1, iv p2, iv p3, iv p4, iv p5, rv b1, rv b6, rv b66, rv b95, rv b98] [(.ref w_WARNING)])) st103 ?_
      obtain ⟨T104, X104, e104, st104⟩ := getS2 X103 hx hZ hown (host := "") (Or.inl (hw _ (List.mem_of_getElem? (i := 59) rfl))) Via.refl kq103 (S_w_WARNING.ext O98.2) (g := (mkF m 120 #[iv p1, iv p2, iv p3, iv p4, iv p5, rv b1, rv b6, rv b66, rv b95, rv b98] [(.ref w_WARNING)])) rfl (hb hby at_120)
      refine Go.st (f' := (mkF m 123 #[iv p1, iv p2, iv p3, iv p4, iv p5, rv b1, rv b6, rv b66, rv b95, rv b98] [(.ref w_WARNING), (.ref w_WARNING)])) (fun _ k => st104 _ k) ?_
      refine Go.st (f' := (mkF m 126 #[iv p1, iv p2, iv p3, iv p4, iv p5, rv b1, rv b6, rv b66, rv b95, rv b98] [])) (fun _ k => Jvm.RoadKit.acmp (g := (mkF m 123 #[iv p1, iv p2, iv p3, iv p4, iv p5, rv b1, rv b6, rv b66, rv b95, rv b98] [(.ref w_WARNING), (.ref w_WARNING)])) X104 hx rfl rfl rfl (pc0 := 123) (pc' := 126) (same := true) rfl (hb hby at_123) rfl (decide_eq_true rfl) (by decide) (by decide) k) ?_
      refine Go.st (f' := (mkF m 128 #[iv p1, iv p2, iv p3, iv p4, iv p5, rv b1, rv b6, rv b66, rv b95, rv b98] [(.ref b66)])) (fun _ k => XS.aload X104.here hx rfl (hb hby at_126) rfl rfl k) ?_
      refine Go.st (f' := (mkF m 130 #[iv p1, iv p2, iv p3, iv p4, iv p5, rv b1, rv b6, rv b66, rv b95, rv b98] [(.ref b98), (.ref b66)])) (fun _ k => XS.aload X104.here hx rfl (hb hby at_128) rfl rfl k) ?_
      obtain ⟨cq105, kq105, q105a, q105b, q105c⟩ := isOf hZ e104 eq98
      obtain ⟨_, _, ⟨T105, L105, kk105, nn105⟩, -, X105, ⟨Lc105, hQ105, lq105, yq105, zz105⟩, st105⟩ := X104.virtualBack hx (y := (⟨"com/example/lapwing/lapwing/profile/RuleViolation", "path", "()Ljava/lang/String;"⟩ : MethodName)) (z := (⟨"com/example/lapwing/lapwing/profile/RuleViolation", "path", "()Ljava/lang/String;"⟩ : MethodName)) hown (mvT hZ (hw _ (List.mem_of_getElem? (i := 60) rfl))) (mvT hZ (hw _ (List.mem_of_getElem? (i := 61) rfl))) (notFace_of_selects (args := #[]) (mvT hZ (hw _ (List.mem_of_getElem? (i := 63) rfl)))) (mvT hZ (hw _ (List.mem_of_getElem? (i := 63) rfl))) (mvT hZ (hw _ (List.mem_of_getElem? (i := 62) rfl))) (by decide) (own_back (W := 1) (rmG_path l Z a0 hw [] b98 b66 T98.heap n0 O98 eq98 fq98_1) hZ (hw _ (List.mem_of_getElem? (i := 64) rfl)) (hw _ (List.mem_of_getElem? (i := 32) rfl)) (by decide) (by decide)) q105a q105c (g := (mkF m 130 #[iv p1, iv p2, iv p3, iv p4, iv p5, rv b1, rv b6, rv b66, rv b95, rv b98] [(.ref b98), (.ref b66)])) rfl (by rw [hml]; rfl) (Steps.refl _) (argsL := []) (rest := [(.ref b66)]) (lenOf pd___Ljava_lang_String_ rfl) rfl (by show 2 * 0 + _ ≤ _; exact Nat.le_of_eq rfl) (hb hby at_130) (fun _ _ => ⟨rfl, e104, (by decide : 7 + 0 ≤ _), (by decide : 17 + 0 ≤ _)⟩)
      dsimp only [Pt.U, Pt.locs, Pt.cells, Pt.slots] at X105 lq105 yq105 zz105 st105 hQ105
      subst lq105 yq105 zz105
      obtain ⟨rfl, Nq105, kq105⟩ := hQ105
      have N105 := Fr.app N103 Nq105
      refine Go.tr (f' := (mkF m 133 #[iv p1, iv p2, iv p3, iv p4, iv p5, rv b1, rv b6, rv b66, rv b95, rv b98] [(.ref b66), (.ref b66)])) st105 ?_
      have ft107 := ((eq66.keep kq95).keep kq98)
      obtain ⟨cq106, kq106, q106a, q106b, q106c⟩ := isOf hZ kq105 ft107
      obtain ⟨_, _, ⟨T106, L106, kk106, nn106⟩, -, X106, ⟨Lc106, hQ106, lq106, yq106, zz106⟩, st106⟩ := X105.virtualBack hx (y := (⟨"java/lang/String", "equals", "(Ljava/lang/Object;)Z"⟩ : MethodName)) (z := (⟨"java/lang/String", "equals", "(Ljava/lang/Object;)Z"⟩ : MethodName)) hown (mvT hZ (hw _ (List.mem_of_getElem? (i := 65) rfl))) (mvT hZ (hw _ (List.mem_of_getElem? (i := 66) rfl))) (notFace_of_selects (args := #[]) (mvT hZ (hw _ (List.mem_of_getElem? (i := 68) rfl)))) (mvT hZ (hw _ (List.mem_of_getElem? (i := 68) rfl))) (mvT hZ (hw _ (List.mem_of_getElem? (i := 67) rfl))) (by decide) (own_back (W := 0) (st_eqs l Z a0 hw [] b66 T98.heap n0 O98) hZ (hw _ (List.mem_of_getElem? (i := 69) rfl)) (hw _ (List.mem_of_getElem? (i := 3) rfl)) (by decide) (by decide)) q106a q106c (g := (mkF m 133 #[iv p1, iv p2, iv p3, iv p4, iv p5, rv b1, rv b6, rv b66, rv b95, rv b98] [(.ref b66), (.ref b66)])) rfl (by rw [hml]; rfl) (Steps.refl _) (argsL := [(.ref b66)]) (rest := []) (lenOf pd__Ljava_lang_Object__Z rfl) rfl (by show 2 * 0 + _ ≤ _; exact Nat.le_of_eq rfl) (hb hby at_133) (fun _ _ => ⟨rfl, kq105, (by decide : 7 + 0 ≤ _), (by decide : 17 + 0 ≤ _)⟩)
      dsimp only [Pt.U, Pt.locs, Pt.cells, Pt.slots] at X106 lq106 yq106 zz106 st106 hQ106
      subst lq106 yq106 zz106
      obtain ⟨rfl, Nq106, kq106⟩ := hQ106
      have N106 := Fr.app N105 Nq106
      refine Go.tr (f' := (mkF m 136 #[iv p1, iv p2, iv p3, iv p4, iv p5, rv b1, rv b6, rv b66, rv b95, rv b98] [(.int 1)])) st106 ?_
      refine Go.st (f' := (mkF m 139 #[iv p1, iv p2, iv p3, iv p4, iv p5, rv b1, rv b6, rv b66, rv b95, rv b98] [])) (fun _ k => XS.ifNo X106.here hx rfl (hb hby at_136) rfl (by decide) k) ?_
      refine Go.st (f' := (mkF m 141 #[iv p1, iv p2, iv p3, iv p4, iv p5, rv b1, rv b6, rv b66, rv b95, rv b98] [(.ref b95)])) (fun _ k => XS.aload X106.here hx rfl (hb hby at_139) rfl rfl k) ?_
      refine Go.st (f' := (mkF m 143 #[iv p1, iv p2, iv p3, iv p4, iv p5, rv b1, rv b6, rv b66, rv b95, rv b98] [(.ref b98), (.ref b95)])) (fun _ k => XS.aload X106.here hx rfl (hb hby at_141) rfl rfl k) ?_
      obtain ⟨cq108, kq108, q108a, q108b, q108c⟩ := isOf hZ kq106 eq98
      obtain ⟨_, _, ⟨T108, L108, kk108, nn108⟩, -, X108, ⟨Lc108, hQ108, lq108, yq108, zz108⟩, st108⟩ := X106.virtualBack hx (y := (⟨"com/example/lapwing/lapwing/profile/RuleViolation", "message", "()Ljava/lang/String;"⟩ : MethodName)) (z := (⟨"com/example/lapwing/lapwing/profile/RuleViolation", "message", "()Ljava/lang/String;"⟩ : MethodName)) hown (mvT hZ (hw _ (List.mem_of_getElem? (i := 70) rfl))) (mvT hZ (hw _ (List.mem_of_getElem? (i := 71) rfl))) (notFace_of_selects (args := #[]) (mvT hZ (hw _ (List.mem_of_getElem? (i := 73) rfl)))) (mvT hZ (hw _ (List.mem_of_getElem? (i := 73) rfl))) (mvT hZ (hw _ (List.mem_of_getElem? (i := 72) rfl))) (by decide) (own_back (W := 1) (rmG_message l Z a0 hw [] b98 b95 T98.heap n0 O98 eq98 fq98_2) hZ (hw _ (List.mem_of_getElem? (i := 74) rfl)) (hw _ (List.mem_of_getElem? (i := 32) rfl)) (by decide) (by decide)) q108a q108c (g := (mkF m 143 #[iv p1, iv p2, iv p3, iv p4, iv p5, rv b1, rv b6, rv b66, rv b95, rv b98] [(.ref b98), (.ref b95)])) rfl (by rw [hml]; rfl) (Steps.refl _) (argsL := []) (rest := [(.ref b95)]) (lenOf pd___Ljava_lang_String_ rfl) rfl (by show 2 * 0 + _ ≤ _; exact Nat.le_of_eq rfl) (hb hby at_143) (fun _ _ => ⟨rfl, kq106, (by decide : 7 + 0 ≤ _), (by decide : 17 + 0 ≤ _)⟩)
      dsimp only [Pt.U, Pt.locs, Pt.cells, Pt.slots] at X108 lq108 yq108 zz108 st108 hQ108
      subst lq108 yq108 zz108
      obtain ⟨rfl, Nq108, kq108⟩ := hQ108
      have N108 := Fr.app N106 Nq108
      refine Go.tr (f' := (mkF m 146 #[iv p1, iv p2, iv p3, iv p4, iv p5, rv b1, rv b6, rv b66, rv b95, rv b98] [(.ref b95), (.ref b95)])) st108 ?_
      have ft110 := (eq95.keep kq98)
      obtain ⟨cq109, kq109, q109a, q109b, q109c⟩ := isOf hZ kq108 ft110
      obtain ⟨_, _, ⟨T109, L109, kk109, nn109⟩, -, X109, ⟨Lc109, hQ109, lq109, yq109, zz109⟩, st109⟩ := X108.virtualBack hx (y := (⟨"java/lang/String", "equals", "(Ljava/lang/Object;)Z"⟩ : MethodName)) (z := (⟨"java/lang/String", "equals", "(Ljava/lang/Object;)Z"⟩ : MethodName)) hown (mvT hZ (hw _ (List.mem_of_getElem? (i := 65) rfl))) (mvT hZ (hw _ (List.mem_of_getElem? (i := 66) rfl))) (notFace_of_selects (args := #[]) (mvT hZ (hw _ (List.mem_of_getElem? (i := 68) rfl)))) (mvT hZ (hw _ (List.mem_of_getElem? (i := 68) rfl))) (mvT hZ (hw _ (List.mem_of_getElem? (i := 67) rfl))) (by decide) (own_back (W := 0) (st_eqs l Z a0 hw [] b95 T98.heap n0 O98) hZ (hw _ (List.mem_of_getElem? (i := 69) rfl)) (hw _ (List.mem_of_getElem? (i := 3) rfl)) (by decide) (by decide)) q109a q109c (g := (mkF m 146 #[iv p1, iv p2, iv p3, iv p4, iv p5, rv b1, rv b6, rv b66, rv b95, rv b98] [(.ref b95), (.ref b95)])) rfl (by rw [hml]; rfl) (Steps.refl _) (argsL := [(.ref b95)]) (rest := []) (lenOf pd__Ljava_lang_Object__Z rfl) rfl (by show 2 * 0 + _ ≤ _; exact Nat.le_of_eq rfl) (hb hby at_146) (fun _ _ => ⟨rfl, kq108, (by decide : 7 + 0 ≤ _), (by decide : 17 + 0 ≤ _)⟩)
      dsimp only [Pt.U, Pt.locs, Pt.cells, Pt.slots] at X109 lq109 yq109 zz109 st109 hQ109
      subst lq109 yq109 zz109
      obtain ⟨rfl, Nq109, kq109⟩ := hQ109
      have N109 := Fr.app N108 Nq109
      refine Go.tr (f' := (mkF m 149 #[iv p1, iv p2, iv p3, iv p4, iv p5, rv b1, rv b6, rv b66, rv b95, rv b98] [(.int 1)])) st109 ?_
      refine Go.st (f' := (mkF m 152 #[iv p1, iv p2, iv p3, iv p4, iv p5, rv b1, rv b6, rv b66, rv b95, rv b98] [])) (fun _ k => XS.ifNo X109.here hx rfl (hb hby at_149) rfl (by decide) k) ?_
      refine Go.st (f' := (mkF m 153 #[iv p1, iv p2, iv p3, iv p4, iv p5, rv b1, rv b6, rv b66, rv b95, rv b98] [(.int 1)])) (fun _ k => XS.iconst X109.here hx rfl (hb hby at_152) k) ?_
      refine Go.st (f' := (mkF m 157 #[iv p1, iv p2, iv p3, iv p4, iv p5, rv b1, rv b6, rv b66, rv b95, rv b98] [(.int 1)])) (fun _ k => XS.goto X109.here hx rfl (pc0 := 153) (pc' := 157) rfl (hb hby at_153) (by decide) (by decide) k) ?_
      refine Go.retB X109 hlk hx (t := .boolean) hret (by simp) (hb hby at_157) kq109 ?_ (by decide) (by decide)
      exact ⟨rfl, N109⟩
set_option maxRecDepth 65536 in
set_option maxHeartbeats 40000000 in
theorem comes_1 {Post : Tables → Env → Array Value → State → Outcome → State → Prop} (hpost : ∀ tb e args s v u, (limb_1_1.after args s (.returned v) u = true ∧ limb_1_2.after args s (.returned v) u = true ∧ True) → FrameEnd s (.returned v) u (Jvm.fieldLocs frame_1_writes args s ++ Jvm.arrayLocs frame_1_arrays args s ++ Jvm.staticLocs frame_1_statics s) 24 128 → Post tb e args s (.returned v) u) :
    ArmFor flags0 classFile x code maxLocals ret World_1 tables_1 room_1 Calls_1 rest_1 Pre_1 Post := by
  intro l hfl _ _ p e ha hc hk s m args below hf hA hF happ hP
  obtain ⟨hcalls, hrest, hpre⟩ := hP
  obtain ⟨-, -, -, hnamed, -, -, -, hat⟩ := (Spec.applies_iff hf).mp happ
  obtain ⟨hg, hn⟩ := and_e (Cond.before_iff.mp (show (Jvm.Cond.and given_1 narrow_1).before args s = true from hpre))
  obtain ⟨g1, g2⟩ := and_e hg
  obtain ⟨g3, g4⟩ := and_e g2
  obtain ⟨g5, g6⟩ := and_e g4
  obtain ⟨g7, g8⟩ := and_e g6
  obtain ⟨g9, g10⟩ := and_e g8
  obtain ⟨v0, v1, v2, v3, v4, rfl⟩ : ∃ v0 v1 v2 v3 v4 : Value, args = #[v0, v1, v2, v3, v4] := by
    have hs : args.size = 5 := by simpa [Cond.value, given_1] using g1
    obtain ⟨L⟩ := args
    match L, hs with
    | [v0, v1, v2, v3, v4], _ => exact ⟨v0, v1, v2, v3, v4, rfl⟩
  have hw := fun d (hd : d ∈ tables_1) => atoms_spec (ws := Jvm.Cond.code x code maxLocals ret :: tables_1) hat d (List.mem_cons_of_mem _ hd)
  have hfit : Fit s := fun {y c} hc i hi => by
    obtain ⟨ha, rfl⟩ := Array.getElem?_eq_some_iff.mp hc
    have q := List.all_eq_true.mp ((Array.all_eq_true_iff_forall_mem.mp hF) _ (Array.getElem_mem ha)) i (List.mem_range.mpr hi)
    simpa [Array.getElem?_eq_getElem hi] using q
  obtain ⟨hsets, hown0⟩ := atoms_of _ (rest_1_c_eq ▸ (show rest_1_c.before _ s = true from hrest))
  have hr0 := Cond.before_iff.mp hown0
  obtain ⟨i0, ei0⟩ := is_v g3
  obtain rfl : v0 = (.int i0) := Option.some.inj ei0
  obtain ⟨i1, ei1⟩ := is_v g5
  obtain rfl : v1 = (.int i1) := Option.some.inj ei1
  obtain ⟨i2, ei2⟩ := is_v g7
  obtain rfl : v2 = (.int i2) := Option.some.inj ei2
  obtain ⟨i3, ei3⟩ := is_v g9
  obtain rfl : v3 = (.int i3) := Option.some.inj ei3
  obtain ⟨i4, ei4⟩ := is_v g10
  obtain rfl : v4 = (.int i4) := Option.some.inj ei4
  obtain ⟨w_WARNING, ev_w_WARNING⟩ := exa_v hn
  have S_w_WARNING := Sta.start ev_w_WARNING (Or.inr ⟨hw _ (List.mem_of_getElem? (i := 37) rfl), hw _ (List.mem_of_getElem? (i := 38) rfl)⟩)
  have E_w_WARNING := Exa.start ev_w_WARNING hn
  obtain ⟨i_COMPACT_STRINGS, ev_i_COMPACT_STRINGS⟩ := is_v (Cond.before_iff.mp (hsets _ (List.mem_of_getElem? (i := 1) rfl)))
  have S_i_COMPACT_STRINGS := Sta.start ev_i_COMPACT_STRINGS (Or.inl (hsets _ (List.mem_of_getElem? (i := 0) rfl)))
  have nz_i_COMPACT_STRINGS : ¬ i_COMPACT_STRINGS = (0 : Int32) := own_ne_int (Cond.before_iff.mp (hsets _ (List.mem_of_getElem? (i := 2) rfl))) ev_i_COMPACT_STRINGS
  obtain ⟨v_SIOOBE_FORMATTER, ev_v_SIOOBE_FORMATTER, r_v_SIOOBE_FORMATTER⟩ := isR_v (Cond.before_iff.mp (hsets _ (List.mem_of_getElem? (i := 8) rfl)))
  have S_v_SIOOBE_FORMATTER := Sta.start ev_v_SIOOBE_FORMATTER (Or.inl (hsets _ (List.mem_of_getElem? (i := 7) rfl)))
  have WW : World1 s w_WARNING  i_COMPACT_STRINGS v_SIOOBE_FORMATTER := ⟨S_i_COMPACT_STRINGS, nz_i_COMPACT_STRINGS, S_v_SIOOBE_FORMATTER, r_v_SIOOBE_FORMATTER, S_w_WARNING, E_w_WARNING⟩
  obtain ⟨n, o, h1, h2, h3, _, L, rfl, ⟨rfl, N⟩, hq⟩ := rm0 l s _ hw tables_1 i0 i1 i2 i3 i4 w_WARNING  i_COMPACT_STRINGS v_SIOOBE_FORMATTER s.heap s.heap.size (Old.start s) WW  p e ha hc hk s m _ below hf ((Spec.applies_iff_loose hf).mp happ).1 ⟨rfl, State.Warmed39.refl s, rfl⟩ trivial
  refine ⟨n, _, h1, h2, h3, hpost _ _ _ _ _ _ ⟨Cond.after_iff.mpr rfl, Cond.after_iff.mpr (eq_i res_at (Term.int_eval (1)) rfl), trivial⟩ ⟨hq.1, hq.2.1, (hq.2.2.sift fun y hy => Or.inr (N y hy)).mono (by decide) (by decide)⟩⟩
theorem main_1_1 : Claimed_1_1 := comes_1 fun _ _ _ _ _ _ h hF => ⟨h.1, hF⟩
theorem main_1_2 : Claimed_1_2 := comes_1 fun _ _ _ _ _ _ h hF => ⟨h.2.1, hF⟩
end Jvm.Pilot.@@N@@
namespace Jvm.Pilot.@@N@@
open Jvm Jvm.ClassFile Sem Op Lib Jvm.Free Jvm.Stand Jvm.Pilot.@@N@@.Jvm.D
/-! MADE BY PROGRAM (witnessworld.py) out of the Statement's table words and the real class files: 23 classes; the members and pool entries that the words name. The judged class is class 1, her method 1. -/
namespace start1
open Jvm.ClassFile
def u (s : String) : CpInfo := .utf8 (stringToUtf16 s)
/-- a pool by its gaps: so many unusable entries, then the entry; so many at the end -/
def gap : Nat → List CpInfo → List CpInfo
  | 0, r => r
  | n + 1, r => .unusable :: gap n r
def poolList (es : List (Nat × CpInfo)) (last : Nat) : List CpInfo := es.foldr (fun e r => gap e.1 (e.2 :: r)) (gap last [])
def pool (es : List (Nat × CpInfo)) (last : Nat) : Array CpInfo := ⟨poolList es last⟩
def fileOf (pool : Array CpInfo) (this : Nat) (attrs : Array Attribute := #[]) (ms : Array MethodInfo := #[]) (fl : Nat := 33) (sup : Nat := 0) (ifs : Array Nat := #[]) (fds : Array FieldInfo := #[]) : ClassFile where
  minorVersion := 0
  majorVersion := 65
  constantPool := pool
  accessFlags := fl
  thisClass := this
  superClass := sup
  interfaces := ifs
  fields := fds
  methods := ms
  attributes := attrs
def plain (name : String) (sup : Option ClassId) : Class where
  name := name
  kind := .ordinary
  loader := none
  accessFlags := 33
  super := sup
  interfaces := #[]
  cf := none
  fields := #[]
  methods := #[]
  instanceTypes := #[]
  staticTypes := #[]
  resolved := #[]
  callSites := []
  init := .initialized
  statics := none
  mirror := none

def pool0 : Array CpInfo := pool [(5, u "<init>"), (0, u "()V"), (1, .class_ 10), (1, u "java/lang/Object")] 113

def k0c0 : Code := { maxStack := 0, maxLocals := 1, code := object_method_1_code, exceptionTable := #[], attributes := #[] }
def k0m0 : Method := { name := "<init>", desc := "()V", sig := { parameters := [], returnType := none }, accessFlags := 1, code := some k0c0 }
/-- java/lang/Object -/
def k0 : Class := { plain "java/lang/Object" none with
  accessFlags := 33
  interfaces := #[]
  cf := some (fileOf pool0 8 #[] #[{ accessFlags := 1, nameIndex := 5, descriptorIndex := 6, attributes := #[] }] 33 0 #[] #[])
  fields := #[]
  methods := #[k0m0]
  instanceTypes := #[]
  staticTypes := #[]
  resolved := Array.replicate 124 none
  statics := none }

def pool1 : Array CpInfo := pool [(2, .class_ 4), (1, u "java/lang/Object"), (0, u "<init>"), (0, u "()V"), (0, .methodref 8 9), (0, .class_ 10), (0, .nameAndType 11 12), (0, u "java/lang/String"), (0, u "valueOf"), (0, u "(C)Ljava/lang/String;"), (0, .methodref 8 14), (0, .nameAndType 5 15), (0, u "([C)V"), (0, .methodref 17 18), (0, .class_ 19), (0, .nameAndType 20 21), (0, u "com/example/lapwing/lapwing/profile/RuleViolation"), (0, u "warning"), (0, u "(Ljava/lang/String;Ljava/lang/String;)Lcom/example/lapwing/lapwing/profile/RuleViolation;"), (0, .methodref 17 23), (0, .nameAndType 24 25), (0, u "severity"), (0, u "()Lcom/example/lapwing/lapwing/profile/RuleViolation$Severity;"), (0, .fieldref 27 28), (0, .class_ 29), (0, .nameAndType 30 31), (0, u "com/example/lapwing/lapwing/profile/RuleViolation$Severity"), (0, u "WARNING"), (0, u "Lcom/example/lapwing/lapwing/profile/RuleViolation$Severity;"), (0, .methodref 17 33), (0, .nameAndType 34 35), (0, u "path"), (0, u "()Ljava/lang/String;"), (0, .methodref 8 37), (0, .nameAndType 38 39), (0, u "equals"), (0, u "(Ljava/lang/Object;)Z"), (0, .methodref 17 41), (0, .nameAndType 42 35), (0, u "message"), (0, .class_ 44), (0, u "com/example/lapwing/lapwing/profile/RuleViolationWarningPinLaw"), (2, u "law"), (0, u "(IIIII)Z")] 7

def k1m0 : Method := { name := "<init>", desc := "()V", sig := { parameters := [], returnType := none }, accessFlags := 1, code := none }
def k1c1 : Code := { maxStack := 4, maxLocals := 10, code := code, exceptionTable := #[], attributes := #[] }
def k1m1 : Method := { name := "law", desc := "(IIIII)Z", sig := { parameters := [.int, .int, .int, .int, .int], returnType := some .boolean }, accessFlags := 9, code := some k1c1 }
/-- com/example/lapwing/lapwing/profile/RuleViolationWarningPinLaw -/
def k1 : Class := { plain "com/example/lapwing/lapwing/profile/RuleViolationWarningPinLaw" (some 0) with
  accessFlags := 49
  interfaces := #[]
  cf := some (fileOf pool1 43 #[] #[{ accessFlags := 1, nameIndex := 5, descriptorIndex := 6, attributes := #[] }, { accessFlags := 9, nameIndex := 47, descriptorIndex := 48, attributes := #[] }] 49 2 #[] #[])
  fields := #[]
  methods := #[k1m0, k1m1]
  instanceTypes := #[]
  staticTypes := #[]
  resolved := Array.replicate 56 none
  statics := none }

def pool2 : Array CpInfo := pool [(1, .class_ 2), (0, u "java/io/Serializable"), (0, .class_ 4), (0, u "java/lang/Object")] 2

/-- java/io/Serializable -/
def k2 : Class := { plain "java/io/Serializable" (some 0) with
  accessFlags := 1537
  interfaces := #[]
  cf := some (fileOf pool2 1 #[] #[] 1537 3 #[] #[])
  fields := #[]
  methods := #[]
  instanceTypes := #[]
  staticTypes := #[]
  resolved := Array.replicate 7 none
  statics := none }

def pool3 : Array CpInfo := pool [(1, .class_ 2), (0, u "java/lang/Comparable"), (0, .class_ 4), (0, u "java/lang/Object")] 7

/-- java/lang/Comparable -/
def k3 : Class := { plain "java/lang/Comparable" (some 0) with
  accessFlags := 1537
  interfaces := #[]
  cf := some (fileOf pool3 1 #[] #[] 1537 3 #[] #[])
  fields := #[]
  methods := #[]
  instanceTypes := #[]
  staticTypes := #[]
  resolved := Array.replicate 12 none
  statics := none }

def pool4 : Array CpInfo := pool [(2, .class_ 4), (1, u "java/lang/CharSequence"), (42, .class_ 48), (0, u "java/lang/CharSequence$1CodePointIterator"), (10, .class_ 60), (0, u "java/lang/CharSequence$1CharIterator"), (5, .class_ 67), (0, u "java/lang/Object")] 63

/-- java/lang/CharSequence -/
def k4 : Class := { plain "java/lang/CharSequence" (some 0) with
  accessFlags := 1537
  interfaces := #[]
  cf := some (fileOf pool4 2 #[.nestMembers #[47, 59]] #[] 1537 66 #[] #[])
  fields := #[]
  methods := #[]
  instanceTypes := #[]
  staticTypes := #[]
  resolved := Array.replicate 131 none
  statics := none }

def pool5 : Array CpInfo := pool [(1, .class_ 2), (0, u "java/lang/constant/Constable"), (0, .class_ 4), (0, u "java/lang/Object")] 6

/-- java/lang/constant/Constable -/
def k5 : Class := { plain "java/lang/constant/Constable" (some 0) with
  accessFlags := 1537
  interfaces := #[]
  cf := some (fileOf pool5 1 #[] #[] 1537 3 #[] #[])
  fields := #[]
  methods := #[]
  instanceTypes := #[]
  staticTypes := #[]
  resolved := Array.replicate 11 none
  statics := none }

def pool6 : Array CpInfo := pool [(1, .class_ 2), (0, u "java/lang/constant/ConstantDesc"), (0, .class_ 4), (0, u "java/lang/Object")] 32

/-- java/lang/constant/ConstantDesc -/
def k6 : Class := { plain "java/lang/constant/ConstantDesc" (some 0) with
  accessFlags := 1537
  interfaces := #[]
  cf := some (fileOf pool6 1 #[] #[] 1537 3 #[] #[])
  fields := #[]
  methods := #[]
  instanceTypes := #[]
  staticTypes := #[]
  resolved := Array.replicate 37 none
  statics := none }

def pool7 : Array CpInfo := pool [(1, .methodref 2 3), (0, .class_ 4), (0, .nameAndType 5 6), (0, u "java/lang/Object"), (0, u "<init>"), (0, u "()V"), (2, .fieldref 10 11), (0, .class_ 12), (0, .nameAndType 13 14), (0, u "java/lang/String"), (0, u "value"), (0, u "[B"), (0, .fieldref 10 16), (0, .nameAndType 17 18), (0, u "coder"), (0, u "B"), (2, u "hash"), (0, u "I"), (2, u "hashIsZero"), (0, u "Z"), (0, .methodref 10 28), (0, .nameAndType 5 29), (0, u "([CIILjava/lang/Void;)V"), (8, .fieldref 10 39), (0, .nameAndType 40 26), (0, u "COMPACT_STRINGS"), (1, .class_ 44), (1, u "java/lang/StringUTF16"), (0, u "compress"), (1, .methodref 42 48), (0, .nameAndType 49 50), (0, u "coderFromArrayLen"), (0, u "([BI)B"), (2, u "toBytes"), (53, .class_ 109), (1, u "java/lang/StringLatin1"), (67, .methodref 42 178), (0, .nameAndType 45 179), (0, u "([CII)[B"), (29, .methodref 10 210), (0, .nameAndType 5 211), (0, u "([BB)V"), (157, u "(C)Z"), (173, u "equals"), (29, u "(Ljava/lang/Object;)Z"), (1, .class_ 576), (0, u "java/lang/CharSequence"), (22, u "CASE_INSENSITIVE_ORDER"), (0, u "Ljava/util/Comparator;"), (181, u "valueOf"), (0, u "(C)Ljava/lang/String;"), (226, u "([C)V"), (4, .methodref 107 1016), (0, .nameAndType 1017 369), (0, u "canEncode"), (0, .methodref 107 1019), (0, .nameAndType 53 1020), (0, u "(C)[B"), (80, u "serialPersistentFields"), (0, u "[Ljava/io/ObjectStreamField;"), (0, .class_ 1104), (0, u "java/lang/String$CaseInsensitiveComparator"), (1, .class_ 1107), (0, u "java/io/Serializable"), (0, .class_ 1109), (0, u "java/lang/Comparable"), (0, .class_ 1111), (0, u "java/lang/constant/Constable"), (0, .class_ 1113), (0, u "java/lang/constant/ConstantDesc"), (2, u "serialVersionUID"), (0, u "J"), (3, u "REPL"), (0, u "C"), (2, u "LATIN1"), (1, u "UTF16")] 323

def k7m0 : Method := { name := "<init>", desc := "()V", sig := { parameters := [], returnType := none }, accessFlags := 1, code := none }
def k7c1 : Code := { maxStack := 5, maxLocals := 2, code := jdk_42_method_3_code, exceptionTable := #[], attributes := #[] }
def k7m1 : Method := { name := "<init>", desc := "([C)V", sig := { parameters := [(.array .char)], returnType := none }, accessFlags := 1, code := some k7c1 }
def k7c2 : Code := { maxStack := 2, maxLocals := 3, code := jdk_42_method_66_code, exceptionTable := #[], attributes := #[] }
def k7m2 : Method := { name := "equals", desc := "(Ljava/lang/Object;)Z", sig := { parameters := [(.object "java/lang/Object")], returnType := some .boolean }, accessFlags := 1, code := some k7c2 }
def k7c3 : Code := { maxStack := 4, maxLocals := 1, code := jdk_42_method_139_code, exceptionTable := #[], attributes := #[] }
def k7m3 : Method := { name := "valueOf", desc := "(C)Ljava/lang/String;", sig := { parameters := [.char], returnType := some (.object "java/lang/String") }, accessFlags := 9, code := some k7c3 }
def k7c4 : Code := { maxStack := 4, maxLocals := 6, code := jdk_42_method_149_code, exceptionTable := #[], attributes := #[] }
def k7m4 : Method := { name := "<init>", desc := "([CIILjava/lang/Void;)V", sig := { parameters := [(.array .char), .int, .int, (.object "java/lang/Void")], returnType := none }, accessFlags := 2, code := some k7c4 }
def k7c5 : Code := { maxStack := 2, maxLocals := 3, code := jdk_42_method_151_code, exceptionTable := #[], attributes := #[] }
def k7m5 : Method := { name := "<init>", desc := "([BB)V", sig := { parameters := [(.array .byte), .byte], returnType := none }, accessFlags := 0, code := some k7c5 }
/-- java/lang/String -/
def k7 : Class := { plain "java/lang/String" (some 0) with
  accessFlags := 49
  interfaces := #[2, 3, 4, 5, 6]
  cf := some (fileOf pool7 10 #[.nestMembers #[1103]] #[{ accessFlags := 1, nameIndex := 5, descriptorIndex := 6, attributes := #[] }, { accessFlags := 1, nameIndex := 5, descriptorIndex := 1010, attributes := #[] }, { accessFlags := 1, nameIndex := 543, descriptorIndex := 573, attributes := #[] }, { accessFlags := 9, nameIndex := 782, descriptorIndex := 783, attributes := #[] }, { accessFlags := 2, nameIndex := 5, descriptorIndex := 29, attributes := #[] }, { accessFlags := 0, nameIndex := 5, descriptorIndex := 211, attributes := #[] }] 49 2 #[1106, 1108, 575, 1110, 1112] #[{ accessFlags := 18, nameIndex := 13, descriptorIndex := 14, attributes := #[] }, { accessFlags := 18, nameIndex := 17, descriptorIndex := 18, attributes := #[] }, { accessFlags := 2, nameIndex := 21, descriptorIndex := 22, attributes := #[] }, { accessFlags := 2, nameIndex := 25, descriptorIndex := 26, attributes := #[] }, { accessFlags := 26, nameIndex := 1116, descriptorIndex := 1117, attributes := #[] }, { accessFlags := 24, nameIndex := 40, descriptorIndex := 26, attributes := #[] }, { accessFlags := 26, nameIndex := 1101, descriptorIndex := 1102, attributes := #[] }, { accessFlags := 26, nameIndex := 1121, descriptorIndex := 1122, attributes := #[] }, { accessFlags := 25, nameIndex := 599, descriptorIndex := 600, attributes := #[] }, { accessFlags := 24, nameIndex := 1125, descriptorIndex := 18, attributes := #[] }, { accessFlags := 24, nameIndex := 1127, descriptorIndex := 18, attributes := #[] }])
  fields := #[{ name := "value", type := (.array .byte), accessFlags := 18, slot := 0, constantValue := 0 }, { name := "coder", type := .byte, accessFlags := 18, slot := 1, constantValue := 0 }, { name := "hash", type := .int, accessFlags := 2, slot := 2, constantValue := 0 }, { name := "hashIsZero", type := .boolean, accessFlags := 2, slot := 3, constantValue := 0 }, { name := "serialVersionUID", type := .long, accessFlags := 26, slot := 0, constantValue := 0 }, { name := "COMPACT_STRINGS", type := .boolean, accessFlags := 24, slot := 1, constantValue := 0 }, { name := "serialPersistentFields", type := (.array (.object "java/io/ObjectStreamField")), accessFlags := 26, slot := 2, constantValue := 0 }, { name := "REPL", type := .char, accessFlags := 26, slot := 3, constantValue := 0 }, { name := "CASE_INSENSITIVE_ORDER", type := (.object "java/util/Comparator"), accessFlags := 25, slot := 4, constantValue := 0 }, { name := "LATIN1", type := .byte, accessFlags := 24, slot := 5, constantValue := 0 }, { name := "UTF16", type := .byte, accessFlags := 24, slot := 6, constantValue := 0 }]
  methods := #[k7m0, k7m1, k7m2, k7m3, k7m4, k7m5]
  instanceTypes := #[(.array .byte), .byte, .int, .boolean]
  staticTypes := #[.long, .boolean, (.array (.object "java/io/ObjectStreamField")), .char, (.object "java/util/Comparator"), .byte, .byte]
  resolved := Array.replicate 1451 none
  statics := some 0 }

def pool8 : Array CpInfo := pool [(6, .class_ 8), (1, u "java/lang/Object"), (0, u "<init>"), (0, u "()V"), (1, .class_ 14), (1, u "java/lang/StringUTF16"), (31, u "$assertionsDisabled"), (0, u "Z"), (13, u "HI_BYTE_SHIFT"), (0, u "I"), (2, u "LO_BYTE_SHIFT"), (49, .methodref 12 116), (0, .nameAndType 117 118), (0, u "compress"), (0, u "([CI[BII)I"), (3, u "([CII)[B"), (138, u "coderFromArrayLen"), (0, u "([BI)B"), (106, .class_ 371), (1, u "java/lang/StringUTF16$LinesSpliterator"), (58, u "MAX_LENGTH"), (196, .class_ 628), (0, u "java/lang/StringUTF16$CodePointsSpliterator"), (0, .class_ 630), (0, u "java/lang/StringUTF16$CharsSpliterator")] 4

def k8m0 : Method := { name := "<init>", desc := "()V", sig := { parameters := [], returnType := none }, accessFlags := 0, code := none }
def k8c1 : Code := { maxStack := 2, maxLocals := 2, code := jdk_52_method_15_code, exceptionTable := #[], attributes := #[] }
def k8m1 : Method := { name := "coderFromArrayLen", desc := "([BI)B", sig := { parameters := [(.array .byte), .int], returnType := some .byte }, accessFlags := 8, code := some k8c1 }
def k8c2 : Code := { maxStack := 5, maxLocals := 6, code := jdk_52_method_16_code, exceptionTable := #[], attributes := #[] }
def k8m2 : Method := { name := "compress", desc := "([CII)[B", sig := { parameters := [(.array .char), .int, .int], returnType := some (.array .byte) }, accessFlags := 9, code := some k8c2 }
def k8c3 : Code := { maxStack := 3, maxLocals := 7, code := jdk_52_method_21_code, exceptionTable := #[], attributes := #[] }
def k8m3 : Method := { name := "compress", desc := "([CI[BII)I", sig := { parameters := [(.array .char), .int, (.array .byte), .int, .int], returnType := some .int }, accessFlags := 9, code := some k8c3 }
/-- java/lang/StringUTF16 -/
def k8 : Class := { plain "java/lang/StringUTF16" (some 0) with
  accessFlags := 48
  interfaces := #[]
  cf := some (fileOf pool8 12 #[.nestMembers #[627, 629, 369]] #[{ accessFlags := 0, nameIndex := 9, descriptorIndex := 10, attributes := #[] }, { accessFlags := 8, nameIndex := 261, descriptorIndex := 262, attributes := #[] }, { accessFlags := 9, nameIndex := 117, descriptorIndex := 122, attributes := #[] }, { accessFlags := 9, nameIndex := 117, descriptorIndex := 118, attributes := #[] }] 48 6 #[] #[{ accessFlags := 26, nameIndex := 61, descriptorIndex := 62, attributes := #[] }, { accessFlags := 26, nameIndex := 65, descriptorIndex := 62, attributes := #[] }, { accessFlags := 24, nameIndex := 430, descriptorIndex := 62, attributes := #[] }, { accessFlags := 4120, nameIndex := 46, descriptorIndex := 47, attributes := #[] }])
  fields := #[{ name := "HI_BYTE_SHIFT", type := .int, accessFlags := 26, slot := 0, constantValue := 0 }, { name := "LO_BYTE_SHIFT", type := .int, accessFlags := 26, slot := 1, constantValue := 0 }, { name := "MAX_LENGTH", type := .int, accessFlags := 24, slot := 2, constantValue := 0 }, { name := "$assertionsDisabled", type := .boolean, accessFlags := 4120, slot := 3, constantValue := 0 }]
  methods := #[k8m0, k8m1, k8m2, k8m3]
  instanceTypes := #[]
  staticTypes := #[.int, .int, .int, .boolean]
  resolved := Array.replicate 635 none
  statics := none }

def pool9 : Array CpInfo := pool [(1, .methodref 2 3), (0, .class_ 4), (0, .nameAndType 5 6), (0, u "java/lang/Object"), (0, u "<init>"), (0, u "()V"), (0, .class_ 8), (0, u "java/lang/Record")] 13

def k9c0 : Code := { maxStack := 1, maxLocals := 1, code := jdk_30_method_1_code, exceptionTable := #[], attributes := #[] }
def k9m0 : Method := { name := "<init>", desc := "()V", sig := { parameters := [], returnType := none }, accessFlags := 4, code := some k9c0 }
/-- java/lang/Record -/
def k9 : Class := { plain "java/lang/Record" (some 0) with
  accessFlags := 1057
  interfaces := #[]
  cf := some (fileOf pool9 7 #[] #[{ accessFlags := 4, nameIndex := 5, descriptorIndex := 6, attributes := #[] }] 1057 2 #[] #[])
  fields := #[]
  methods := #[k9m0]
  instanceTypes := #[]
  staticTypes := #[]
  resolved := Array.replicate 22 none
  statics := none }

def pool10 : Array CpInfo := pool [(1, .methodref 2 3), (0, .class_ 4), (0, .nameAndType 5 6), (0, u "java/lang/Record"), (0, u "<init>"), (0, u "()V"), (0, .fieldref 8 9), (0, .class_ 10), (0, .nameAndType 11 12), (0, u "com/example/lapwing/lapwing/profile/RuleViolation"), (0, u "severity"), (0, u "Lcom/example/lapwing/lapwing/profile/RuleViolation$Severity;"), (0, .fieldref 8 14), (0, .nameAndType 15 16), (0, u "path"), (0, u "Ljava/lang/String;"), (0, .fieldref 8 18), (0, .nameAndType 19 16), (0, u "message"), (1, .class_ 23), (1, u "com/example/lapwing/lapwing/profile/RuleViolation$Severity"), (1, .methodref 8 26), (0, .nameAndType 5 27), (0, u "(Lcom/example/lapwing/lapwing/profile/RuleViolation$Severity;Ljava/lang/String;Ljava/lang/String;)V"), (0, .fieldref 21 29), (0, .nameAndType 30 12), (0, u "WARNING"), (16, u "(Ljava/lang/String;Ljava/lang/String;)Lcom/example/lapwing/lapwing/profile/RuleViolation;"), (0, u "warning"), (0, u "()Ljava/lang/String;"), (2, u "()Lcom/example/lapwing/lapwing/profile/RuleViolation$Severity;")] 24

def k10c0 : Code := { maxStack := 2, maxLocals := 4, code := prog_38_method_1_code, exceptionTable := #[], attributes := #[] }
def k10m0 : Method := { name := "<init>", desc := "(Lcom/example/lapwing/lapwing/profile/RuleViolation$Severity;Ljava/lang/String;Ljava/lang/String;)V", sig := { parameters := [(.object "com/example/lapwing/lapwing/profile/RuleViolation$Severity"), (.object "java/lang/String"), (.object "java/lang/String")], returnType := none }, accessFlags := 1, code := some k10c0 }
def k10c1 : Code := { maxStack := 5, maxLocals := 2, code := prog_38_method_3_code, exceptionTable := #[], attributes := #[] }
def k10m1 : Method := { name := "warning", desc := "(Ljava/lang/String;Ljava/lang/String;)Lcom/example/lapwing/lapwing/profile/RuleViolation;", sig := { parameters := [(.object "java/lang/String"), (.object "java/lang/String")], returnType := some (.object "com/example/lapwing/lapwing/profile/RuleViolation") }, accessFlags := 9, code := some k10c1 }
def k10c2 : Code := { maxStack := 1, maxLocals := 1, code := prog_38_method_7_code, exceptionTable := #[], attributes := #[] }
def k10m2 : Method := { name := "severity", desc := "()Lcom/example/lapwing/lapwing/profile/RuleViolation$Severity;", sig := { parameters := [], returnType := some (.object "com/example/lapwing/lapwing/profile/RuleViolation$Severity") }, accessFlags := 1, code := some k10c2 }
def k10c3 : Code := { maxStack := 1, maxLocals := 1, code := prog_38_method_8_code, exceptionTable := #[], attributes := #[] }
def k10m3 : Method := { name := "path", desc := "()Ljava/lang/String;", sig := { parameters := [], returnType := some (.object "java/lang/String") }, accessFlags := 1, code := some k10c3 }
def k10c4 : Code := { maxStack := 1, maxLocals := 1, code := prog_38_method_9_code, exceptionTable := #[], attributes := #[] }
def k10m4 : Method := { name := "message", desc := "()Ljava/lang/String;", sig := { parameters := [], returnType := some (.object "java/lang/String") }, accessFlags := 1, code := some k10c4 }
/-- com/example/lapwing/lapwing/profile/RuleViolation -/
def k10 : Class := { plain "com/example/lapwing/lapwing/profile/RuleViolation" (some 9) with
  accessFlags := 49
  interfaces := #[]
  cf := some (fileOf pool10 8 #[.nestMembers #[21]] #[{ accessFlags := 1, nameIndex := 5, descriptorIndex := 27, attributes := #[] }, { accessFlags := 9, nameIndex := 48, descriptorIndex := 47, attributes := #[] }, { accessFlags := 1, nameIndex := 11, descriptorIndex := 52, attributes := #[] }, { accessFlags := 1, nameIndex := 15, descriptorIndex := 49, attributes := #[] }, { accessFlags := 1, nameIndex := 19, descriptorIndex := 49, attributes := #[] }] 49 2 #[] #[{ accessFlags := 18, nameIndex := 11, descriptorIndex := 12, attributes := #[] }, { accessFlags := 18, nameIndex := 15, descriptorIndex := 16, attributes := #[] }, { accessFlags := 18, nameIndex := 19, descriptorIndex := 16, attributes := #[] }])
  fields := #[{ name := "severity", type := (.object "com/example/lapwing/lapwing/profile/RuleViolation$Severity"), accessFlags := 18, slot := 0, constantValue := 0 }, { name := "path", type := (.object "java/lang/String"), accessFlags := 18, slot := 1, constantValue := 0 }, { name := "message", type := (.object "java/lang/String"), accessFlags := 18, slot := 2, constantValue := 0 }]
  methods := #[k10m0, k10m1, k10m2, k10m3, k10m4]
  instanceTypes := #[(.object "com/example/lapwing/lapwing/profile/RuleViolation$Severity"), (.object "java/lang/String"), (.object "java/lang/String")]
  staticTypes := #[]
  resolved := Array.replicate 77 none
  statics := none }

def pool11 : Array CpInfo := pool [(2, .class_ 4), (1, u "java/lang/Enum"), (0, u "name"), (0, u "Ljava/lang/String;"), (2, u "ordinal"), (0, u "I"), (1, .class_ 14), (1, u "java/lang/Object"), (4, u "hash"), (86, .class_ 108), (1, u "java/lang/Enum$EnumDesc"), (2, .class_ 112), (0, u "java/lang/constant/Constable"), (0, .class_ 114), (0, u "java/lang/Comparable"), (0, .class_ 116), (0, u "java/io/Serializable")] 87

/-- java/lang/Enum -/
def k11 : Class := { plain "java/lang/Enum" (some 0) with
  accessFlags := 1057
  interfaces := #[5, 3, 2]
  cf := some (fileOf pool11 2 #[.nestMembers #[106]] #[] 1057 12 #[111, 113, 115] #[{ accessFlags := 18, nameIndex := 5, descriptorIndex := 6, attributes := #[] }, { accessFlags := 18, nameIndex := 9, descriptorIndex := 10, attributes := #[] }, { accessFlags := 2, nameIndex := 19, descriptorIndex := 10, attributes := #[] }])
  fields := #[{ name := "name", type := (.object "java/lang/String"), accessFlags := 18, slot := 0, constantValue := 0 }, { name := "ordinal", type := .int, accessFlags := 18, slot := 1, constantValue := 0 }, { name := "hash", type := .int, accessFlags := 2, slot := 2, constantValue := 0 }]
  methods := #[]
  instanceTypes := #[(.object "java/lang/String"), .int, .int]
  staticTypes := #[]
  resolved := Array.replicate 204 none
  statics := none }

def pool12 : Array CpInfo := pool [(1, .class_ 2), (0, u "com/example/lapwing/lapwing/profile/RuleViolation$Severity"), (2, u "ERROR"), (0, u "Lcom/example/lapwing/lapwing/profile/RuleViolation$Severity;"), (2, u "WARNING"), (2, u "$VALUES"), (0, u "[Lcom/example/lapwing/lapwing/profile/RuleViolation$Severity;"), (6, .class_ 22), (1, u "java/lang/Enum"), (25, .class_ 49), (0, u "com/example/lapwing/lapwing/profile/RuleViolation")] 2

/-- com/example/lapwing/lapwing/profile/RuleViolation$Severity -/
def k12 : Class := { plain "com/example/lapwing/lapwing/profile/RuleViolation$Severity" (some 11) with
  accessFlags := 16433
  interfaces := #[]
  cf := some (fileOf pool12 1 #[.nestHost 48] #[] 16433 20 #[] #[{ accessFlags := 16409, nameIndex := 5, descriptorIndex := 6, attributes := #[] }, { accessFlags := 16409, nameIndex := 9, descriptorIndex := 6, attributes := #[] }, { accessFlags := 4122, nameIndex := 12, descriptorIndex := 13, attributes := #[] }])
  fields := #[{ name := "ERROR", type := (.object "com/example/lapwing/lapwing/profile/RuleViolation$Severity"), accessFlags := 16409, slot := 0, constantValue := 0 }, { name := "WARNING", type := (.object "com/example/lapwing/lapwing/profile/RuleViolation$Severity"), accessFlags := 16409, slot := 1, constantValue := 0 }, { name := "$VALUES", type := (.array (.object "com/example/lapwing/lapwing/profile/RuleViolation$Severity")), accessFlags := 4122, slot := 2, constantValue := 0 }]
  methods := #[]
  instanceTypes := #[(.object "java/lang/String"), .int, .int]
  staticTypes := #[(.object "com/example/lapwing/lapwing/profile/RuleViolation$Severity"), (.object "com/example/lapwing/lapwing/profile/RuleViolation$Severity"), (.array (.object "com/example/lapwing/lapwing/profile/RuleViolation$Severity"))]
  resolved := Array.replicate 52 none
  statics := some 1 }

def pool13 : Array CpInfo := pool [(4, .class_ 6), (1, u "java/lang/Object"), (0, u "<init>"), (0, u "()V"), (5, .class_ 16), (1, u "java/lang/StringLatin1"), (73, u "canEncode"), (14, u "(C)Z"), (15, u "$assertionsDisabled"), (0, u "Z"), (98, .class_ 223), (1, u "java/lang/StringLatin1$LinesSpliterator"), (156, u "toBytes"), (1, u "(C)[B"), (7, .class_ 391), (0, u "java/lang/StringLatin1$CharsSpliterator")] 3

def k13m0 : Method := { name := "<init>", desc := "()V", sig := { parameters := [], returnType := none }, accessFlags := 0, code := none }
def k13c1 : Code := { maxStack := 2, maxLocals := 1, code := jdk_43_method_3_code, exceptionTable := #[], attributes := #[] }
def k13m1 : Method := { name := "canEncode", desc := "(C)Z", sig := { parameters := [.char], returnType := some .boolean }, accessFlags := 9, code := some k13c1 }
def k13c2 : Code := { maxStack := 4, maxLocals := 1, code := jdk_43_method_46_code, exceptionTable := #[], attributes := #[] }
def k13m2 : Method := { name := "toBytes", desc := "(C)[B", sig := { parameters := [.char], returnType := some (.array .byte) }, accessFlags := 9, code := some k13c2 }
/-- java/lang/StringLatin1 -/
def k13 : Class := { plain "java/lang/StringLatin1" (some 0) with
  accessFlags := 48
  interfaces := #[]
  cf := some (fileOf pool13 14 #[.nestMembers #[390, 221]] #[{ accessFlags := 0, nameIndex := 7, descriptorIndex := 8, attributes := #[] }, { accessFlags := 9, nameIndex := 90, descriptorIndex := 105, attributes := #[] }, { accessFlags := 9, nameIndex := 380, descriptorIndex := 382, attributes := #[] }] 48 4 #[] #[{ accessFlags := 4120, nameIndex := 121, descriptorIndex := 122, attributes := #[] }])
  fields := #[{ name := "$assertionsDisabled", type := .boolean, accessFlags := 4120, slot := 0, constantValue := 0 }]
  methods := #[k13m0, k13m1, k13m2]
  instanceTypes := #[]
  staticTypes := #[.boolean]
  resolved := Array.replicate 395 none
  statics := none }

def pool14 : Array CpInfo := pool [(2, .class_ 4), (1, u "java/lang/Object"), (0, u "<init>"), (0, u "()V"), (17, .class_ 26), (1, u "jdk/internal/util/Preconditions"), (28, .class_ 56), (0, u "jdk/internal/util/Preconditions$4"), (57, .class_ 115), (0, u "jdk/internal/util/Preconditions$1"), (7, u "SIOOBE_FORMATTER"), (0, u "Ljava/util/function/BiFunction;"), (0, .class_ 126), (0, u "jdk/internal/util/Preconditions$2"), (3, u "AIOOBE_FORMATTER"), (0, .class_ 132), (0, u "jdk/internal/util/Preconditions$3"), (3, u "IOOBE_FORMATTER")] 57

def k14m0 : Method := { name := "<init>", desc := "()V", sig := { parameters := [], returnType := none }, accessFlags := 1, code := none }
/-- jdk/internal/util/Preconditions -/
def k14 : Class := { plain "jdk/internal/util/Preconditions" (some 0) with
  accessFlags := 33
  interfaces := #[]
  cf := some (fileOf pool14 24 #[.nestMembers #[55, 131, 125, 114]] #[{ accessFlags := 1, nameIndex := 5, descriptorIndex := 6, attributes := #[] }] 33 2 #[] #[{ accessFlags := 25, nameIndex := 123, descriptorIndex := 124, attributes := #[] }, { accessFlags := 25, nameIndex := 130, descriptorIndex := 124, attributes := #[] }, { accessFlags := 25, nameIndex := 136, descriptorIndex := 124, attributes := #[] }])
  fields := #[{ name := "SIOOBE_FORMATTER", type := (.object "java/util/function/BiFunction"), accessFlags := 25, slot := 0, constantValue := 0 }, { name := "AIOOBE_FORMATTER", type := (.object "java/util/function/BiFunction"), accessFlags := 25, slot := 1, constantValue := 0 }, { name := "IOOBE_FORMATTER", type := (.object "java/util/function/BiFunction"), accessFlags := 25, slot := 2, constantValue := 0 }]
  methods := #[k14m0]
  instanceTypes := #[]
  staticTypes := #[(.object "java/util/function/BiFunction"), (.object "java/util/function/BiFunction"), (.object "java/util/function/BiFunction")]
  resolved := Array.replicate 194 none
  statics := some 2 }

def pool15 : Array CpInfo := pool [(9, u "<init>"), (6, .class_ 18), (1, u "java/lang/Object"), (0, u "()V"), (1, .class_ 23), (1, u "jdk/internal/util/ArraysSupport"), (0, u "LOG2_ARRAY_LONG_INDEX_SCALE"), (0, u "I"), (2, u "U"), (0, u "Ljdk/internal/misc/Unsafe;"), (8, u "BIG_ENDIAN"), (0, u "Z"), (8, u "LOG2_BYTE_BIT_SIZE"), (4, u "LOG2_ARRAY_INT_INDEX_SCALE"), (54, u "JLA"), (0, u "Ljdk/internal/access/JavaLangAccess;"), (11, u "LOG2_ARRAY_BOOLEAN_INDEX_SCALE"), (9, u "LOG2_ARRAY_BYTE_INDEX_SCALE"), (5, u "LOG2_ARRAY_CHAR_INDEX_SCALE"), (5, u "LOG2_ARRAY_SHORT_INDEX_SCALE"), (18, u "LOG2_ARRAY_FLOAT_INDEX_SCALE"), (24, u "LOG2_ARRAY_DOUBLE_INDEX_SCALE"), (89, u "T_BOOLEAN"), (2, u "T_CHAR"), (1, u "T_FLOAT"), (1, u "T_DOUBLE"), (1, u "T_BYTE"), (1, u "T_SHORT"), (1, u "T_INT"), (1, u "T_LONG"), (1, u "SOFT_MAX_ARRAY_LENGTH")] 83

def k15m0 : Method := { name := "<init>", desc := "()V", sig := { parameters := [], returnType := none }, accessFlags := 2, code := none }
/-- jdk/internal/util/ArraysSupport -/
def k15 : Class := { plain "jdk/internal/util/ArraysSupport" (some 0) with
  accessFlags := 33
  interfaces := #[]
  cf := some (fileOf pool15 21 #[] #[{ accessFlags := 2, nameIndex := 9, descriptorIndex := 19, attributes := #[] }] 33 16 #[] #[{ accessFlags := 24, nameIndex := 28, descriptorIndex := 29, attributes := #[] }, { accessFlags := 26, nameIndex := 38, descriptorIndex := 39, attributes := #[] }, { accessFlags := 25, nameIndex := 121, descriptorIndex := 25, attributes := #[] }, { accessFlags := 25, nameIndex := 131, descriptorIndex := 25, attributes := #[] }, { accessFlags := 25, nameIndex := 137, descriptorIndex := 25, attributes := #[] }, { accessFlags := 25, nameIndex := 143, descriptorIndex := 25, attributes := #[] }, { accessFlags := 25, nameIndex := 53, descriptorIndex := 25, attributes := #[] }, { accessFlags := 25, nameIndex := 24, descriptorIndex := 25, attributes := #[] }, { accessFlags := 25, nameIndex := 162, descriptorIndex := 25, attributes := #[] }, { accessFlags := 25, nameIndex := 187, descriptorIndex := 25, attributes := #[] }, { accessFlags := 26, nameIndex := 48, descriptorIndex := 25, attributes := #[] }, { accessFlags := 25, nameIndex := 277, descriptorIndex := 25, attributes := #[] }, { accessFlags := 25, nameIndex := 280, descriptorIndex := 25, attributes := #[] }, { accessFlags := 25, nameIndex := 282, descriptorIndex := 25, attributes := #[] }, { accessFlags := 25, nameIndex := 284, descriptorIndex := 25, attributes := #[] }, { accessFlags := 25, nameIndex := 286, descriptorIndex := 25, attributes := #[] }, { accessFlags := 25, nameIndex := 288, descriptorIndex := 25, attributes := #[] }, { accessFlags := 25, nameIndex := 290, descriptorIndex := 25, attributes := #[] }, { accessFlags := 25, nameIndex := 292, descriptorIndex := 25, attributes := #[] }, { accessFlags := 26, nameIndex := 108, descriptorIndex := 109, attributes := #[] }, { accessFlags := 25, nameIndex := 294, descriptorIndex := 25, attributes := #[] }])
  fields := #[{ name := "U", type := (.object "jdk/internal/misc/Unsafe"), accessFlags := 24, slot := 0, constantValue := 0 }, { name := "BIG_ENDIAN", type := .boolean, accessFlags := 26, slot := 1, constantValue := 0 }, { name := "LOG2_ARRAY_BOOLEAN_INDEX_SCALE", type := .int, accessFlags := 25, slot := 2, constantValue := 0 }, { name := "LOG2_ARRAY_BYTE_INDEX_SCALE", type := .int, accessFlags := 25, slot := 3, constantValue := 0 }, { name := "LOG2_ARRAY_CHAR_INDEX_SCALE", type := .int, accessFlags := 25, slot := 4, constantValue := 0 }, { name := "LOG2_ARRAY_SHORT_INDEX_SCALE", type := .int, accessFlags := 25, slot := 5, constantValue := 0 }, { name := "LOG2_ARRAY_INT_INDEX_SCALE", type := .int, accessFlags := 25, slot := 6, constantValue := 0 }, { name := "LOG2_ARRAY_LONG_INDEX_SCALE", type := .int, accessFlags := 25, slot := 7, constantValue := 0 }, { name := "LOG2_ARRAY_FLOAT_INDEX_SCALE", type := .int, accessFlags := 25, slot := 8, constantValue := 0 }, { name := "LOG2_ARRAY_DOUBLE_INDEX_SCALE", type := .int, accessFlags := 25, slot := 9, constantValue := 0 }, { name := "LOG2_BYTE_BIT_SIZE", type := .int, accessFlags := 26, slot := 10, constantValue := 0 }, { name := "T_BOOLEAN", type := .int, accessFlags := 25, slot := 11, constantValue := 0 }, { name := "T_CHAR", type := .int, accessFlags := 25, slot := 12, constantValue := 0 }, { name := "T_FLOAT", type := .int, accessFlags := 25, slot := 13, constantValue := 0 }, { name := "T_DOUBLE", type := .int, accessFlags := 25, slot := 14, constantValue := 0 }, { name := "T_BYTE", type := .int, accessFlags := 25, slot := 15, constantValue := 0 }, { name := "T_SHORT", type := .int, accessFlags := 25, slot := 16, constantValue := 0 }, { name := "T_INT", type := .int, accessFlags := 25, slot := 17, constantValue := 0 }, { name := "T_LONG", type := .int, accessFlags := 25, slot := 18, constantValue := 0 }, { name := "JLA", type := (.object "jdk/internal/access/JavaLangAccess"), accessFlags := 26, slot := 19, constantValue := 0 }, { name := "SOFT_MAX_ARRAY_LENGTH", type := .int, accessFlags := 25, slot := 20, constantValue := 0 }]
  methods := #[k15m0]
  instanceTypes := #[]
  staticTypes := #[(.object "jdk/internal/misc/Unsafe"), .boolean, .int, .int, .int, .int, .int, .int, .int, .int, .int, .int, .int, .int, .int, .int, .int, .int, .int, (.object "jdk/internal/access/JavaLangAccess"), .int]
  resolved := Array.replicate 378 none
  statics := none }

def pool16 : Array CpInfo := pool [(1, u "java/lang/Cloneable"), (0, .class_ 1), (0, u "java/lang/Object"), (0, .class_ 3)] 3

/-- java/lang/Cloneable -/
def k16 : Class := { plain "java/lang/Cloneable" (some 0) with
  accessFlags := 1537
  interfaces := #[]
  cf := some (fileOf pool16 2 #[] #[] 1537 4 #[] #[])
  fields := #[]
  methods := #[]
  instanceTypes := #[]
  staticTypes := #[]
  resolved := Array.replicate 8 none
  statics := none }

/-- the primitive byte -/
def k17 : Class := { plain "byte" none with kind := .primitive 'B', accessFlags := 0x411 }
/-- [B -/
def k18 : Class := { plain "[B" (some 0) with kind := .array 17 .byte, interfaces := #[16, 2], accessFlags := 1041 }

/-- the primitive char -/
def k19 : Class := { plain "char" none with kind := .primitive 'C', accessFlags := 0x411 }
/-- [C -/
def k20 : Class := { plain "[C" (some 0) with kind := .array 19 .char, interfaces := #[16, 2], accessFlags := 1041 }

/-- the primitive int -/
def k21 : Class := { plain "int" none with kind := .primitive 'I', accessFlags := 0x411 }
/-- [I -/
def k22 : Class := { plain "[I" (some 0) with kind := .array 21 .int, interfaces := #[16, 2], accessFlags := 1041 }

def heap : Heap := #[{ cls := 7, slots := #[.long 0, .int 1, .null, .int 0, .null, .int 0, .int 0], vm := .statics 7 },
  { cls := 12, slots := #[.null, .ref 3, .null], vm := .statics 12 },
  { cls := 14, slots := #[.null, .null, .null], vm := .statics 14 },
  { cls := 12, slots := #[.null, .int 0, .int 0], vm := .none }]
def classes : Array Class := #[k0, k1, k2, k3, k4, k5, k6, k7, k8, k9, k10, k11, k12, k13, k14, k15, k16, k17, k18, k19, k20, k21, k22]
def interned : List (Array UInt16 × Addr) := []
def slotsUsed : Nat := 16
def theMethod : MethodId := ⟨1, 1⟩
def args0 : Array Value := #[.int 1, .int 2, .int 3, .int 4, .int 5]
def aboutOver (below : List Frame) : State where
  vm := { classes := classes, interned := interned.toArray }
  heap := heap
  slotsUsed := slotsUsed
  threads := #[{ frames := .invoking theMethod args0 :: below }]
def below0 : List Frame := [.native { method := ⟨0, 0⟩, args := #[] }]
def about1 : State := aboutOver below0
def p0 : Program := .bare "" "" ""
def e0 : Env := launch0.env 0 0 0
theorem w_frames : about1.frames = Frame.invoking theMethod args0 :: below0 := rfl
set_option maxRecDepth 65536 in
theorem w_args : argsFit about1.vm theMethod args0 = true := by decide +kernel
set_option maxRecDepth 65536 in
theorem w_heap : heapFits about1 = true := by decide +kernel
set_option maxRecDepth 65536 in
theorem w_runnable : about1.curStatus? = some .runnable := by decide +kernel
set_option maxRecDepth 65536 in
theorem w_alone : about1.alone = true := by decide +kernel
set_option maxRecDepth 65536 in
theorem w_named : about1.methodNamed? x = some theMethod := by decide +kernel
set_option maxRecDepth 65536 in
theorem w_hears : about1.hears theMethod below0 = true := by decide +kernel
set_option maxRecDepth 65536 in
theorem w_ripe : about1.ripe theMethod args0 below0 = true := by decide +kernel
theorem w_running : about1.status = .running := rfl
set_option maxRecDepth 65536 in
theorem w_room : about1.hasRoom e0.platform room_1 = true :=
  launch0.hasRoom_least _ room_1 (by decide +kernel) (by decide +kernel) (by decide +kernel) (by decide +kernel) (by decide +kernel) (by decide +kernel)
theorem allAtoms_all (ts : List Jvm.Cond) (a : Array Jvm.Value) (st : Jvm.State) : (allAtoms ts).before a st = ts.all (fun c => c.before a st) := by
  induction ts with
  | nil => rfl
  | cons c t ih =>
    show (Jvm.Cond.and c (allAtoms t)).before a st = _
    rw [Jvm.Cond.before_and, ih, List.all_cons]
def words1 : List Jvm.Cond := Jvm.Cond.code x code maxLocals ret :: tables_1
/-- a 'code' word, met by the world's own term for the bytes: nothing is compared byte by byte -/
theorem code_word {y : MethodName} {bytes : ByteArray} {mx : Nat} {rt : Option FieldType} {a : Array Value} {s : State} {m : MethodId} {meth : Method} {c : Code} (h1 : s.methodNamed? y = some m) (h2 : s.vm.method? m = some meth) (h3 : meth.code = some c) (h4 : c.code = bytes)
    (h5 : (c.maxLocals == mx && c.exceptionTable.isEmpty && decide (c.maxStack ≤ mostOperands) && decide (meth.sig.returnType = rt) && !meth.locks && decide (parseMethodDescriptor y.desc = some meth.sig)) = true) : (Jvm.Cond.code y bytes mx rt).before a s = true := by
  simp only [Bool.and_eq_true, beq_iff_eq, Bool.not_eq_true', decide_eq_true_eq] at h5
  obtain ⟨⟨⟨⟨⟨g1, g2⟩, g3⟩, g4⟩, g5⟩, g6⟩ := h5
  simp [Cond.before, Cond.holds, Cond.value, h1, h2, h3, h4, g1, g2, g3, g4, g5, g6]
def isCode : Jvm.Cond → Bool
  | .code _ _ _ _ => true
  | _ => false
theorem all_split {L : List Jvm.Cond} {P : Jvm.Cond → Bool} (h1 : L.all (fun c => isCode c || P c) = true) (h2 : ∀ c ∈ L.filter isCode, P c = true) : L.all P = true := by
  refine List.all_eq_true.mpr fun c hc => ?_
  have h := List.all_eq_true.mp h1 c hc
  rcases Bool.eq_false_or_eq_true (isCode c) with hi | hi
  · exact h2 c (List.mem_filter.mpr ⟨hc, hi⟩)
  · simpa [hi] using h
set_option maxRecDepth 65536 in
theorem w_c0 : (Jvm.Cond.code x code maxLocals ret).before args0 about1 = true := code_word (m := ⟨1, 1⟩) (meth := k1m1) (c := k1c1) (by decide +kernel) rfl rfl rfl (by decide +kernel)
set_option maxRecDepth 65536 in
theorem w_c1 : (Jvm.Cond.code ({ cls := "java/lang/String", name := "<init>", desc := "([C)V" } : Jvm.MethodName) jdk_42_method_3_code (2 : Nat) (Option.none : Option Jvm.ClassFile.FieldType)).before args0 about1 = true := code_word (m := ⟨7, 1⟩) (meth := k7m1) (c := k7c1) (by decide +kernel) rfl rfl rfl (by decide +kernel)
set_option maxRecDepth 65536 in
theorem w_c2 : (Jvm.Cond.code ({ cls := "java/lang/String", name := "<init>", desc := "([CIILjava/lang/Void;)V" } : Jvm.MethodName) jdk_42_method_149_code (6 : Nat) (Option.none : Option Jvm.ClassFile.FieldType)).before args0 about1 = true := code_word (m := ⟨7, 4⟩) (meth := k7m4) (c := k7c4) (by decide +kernel) rfl rfl rfl (by decide +kernel)
set_option maxRecDepth 65536 in
theorem w_c3 : (Jvm.Cond.code ({ cls := "java/lang/Object", name := "<init>", desc := "()V" } : Jvm.MethodName) object_method_1_code (1 : Nat) (Option.none : Option Jvm.ClassFile.FieldType)).before args0 about1 = true := code_word (m := ⟨0, 0⟩) (meth := k0m0) (c := k0c0) (by decide +kernel) rfl rfl rfl (by decide +kernel)
set_option maxRecDepth 65536 in
theorem w_c4 : (Jvm.Cond.code ({ cls := "java/lang/StringUTF16", name := "compress", desc := "([CII)[B" } : Jvm.MethodName) jdk_52_method_16_code (6 : Nat) (Option.some (Jvm.ClassFile.FieldType.array Jvm.ClassFile.FieldType.byte))).before args0 about1 = true := code_word (m := ⟨8, 2⟩) (meth := k8m2) (c := k8c2) (by decide +kernel) rfl rfl rfl (by decide +kernel)
set_option maxRecDepth 65536 in
theorem w_c5 : (Jvm.Cond.code ({ cls := "java/lang/StringUTF16", name := "compress", desc := "([CI[BII)I" } : Jvm.MethodName) jdk_52_method_21_code (7 : Nat) (Option.some Jvm.ClassFile.FieldType.int)).before args0 about1 = true := code_word (m := ⟨8, 3⟩) (meth := k8m3) (c := k8c3) (by decide +kernel) rfl rfl rfl (by decide +kernel)
set_option maxRecDepth 65536 in
theorem w_c6 : (Jvm.Cond.code ({ cls := "java/lang/StringUTF16", name := "coderFromArrayLen", desc := "([BI)B" } : Jvm.MethodName) jdk_52_method_15_code (2 : Nat) (Option.some Jvm.ClassFile.FieldType.byte)).before args0 about1 = true := code_word (m := ⟨8, 1⟩) (meth := k8m1) (c := k8c1) (by decide +kernel) rfl rfl rfl (by decide +kernel)
set_option maxRecDepth 65536 in
theorem w_c7 : (Jvm.Cond.code ({ cls := "com/example/lapwing/lapwing/profile/RuleViolation", name := "warning", desc := "(Ljava/lang/String;Ljava/lang/String;)Lcom/example/lapwing/lapwing/profile/RuleViolation;" } : Jvm.MethodName) prog_38_method_3_code (2 : Nat) (Option.some (Jvm.ClassFile.FieldType.object "com/example/lapwing/lapwing/profile/RuleViolation"))).before args0 about1 = true := code_word (m := ⟨10, 1⟩) (meth := k10m1) (c := k10c1) (by decide +kernel) rfl rfl rfl (by decide +kernel)
set_option maxRecDepth 65536 in
theorem w_c8 : (Jvm.Cond.code ({ cls := "com/example/lapwing/lapwing/profile/RuleViolation", name := "<init>", desc := "(Lcom/example/lapwing/lapwing/profile/RuleViolation$Severity;Ljava/lang/String;Ljava/lang/String;)V" } : Jvm.MethodName) prog_38_method_1_code (4 : Nat) (Option.none : Option Jvm.ClassFile.FieldType)).before args0 about1 = true := code_word (m := ⟨10, 0⟩) (meth := k10m0) (c := k10c0) (by decide +kernel) rfl rfl rfl (by decide +kernel)
set_option maxRecDepth 65536 in
theorem w_c9 : (Jvm.Cond.code ({ cls := "java/lang/Record", name := "<init>", desc := "()V" } : Jvm.MethodName) jdk_30_method_1_code (1 : Nat) (Option.none : Option Jvm.ClassFile.FieldType)).before args0 about1 = true := code_word (m := ⟨9, 0⟩) (meth := k9m0) (c := k9c0) (by decide +kernel) rfl rfl rfl (by decide +kernel)
set_option maxRecDepth 65536 in
theorem w_c10 : (Jvm.Cond.code ({ cls := "com/example/lapwing/lapwing/profile/RuleViolation", name := "severity", desc := "()Lcom/example/lapwing/lapwing/profile/RuleViolation$Severity;" } : Jvm.MethodName) prog_38_method_7_code (1 : Nat) (Option.some (Jvm.ClassFile.FieldType.object "com/example/lapwing/lapwing/profile/RuleViolation$Severity"))).before args0 about1 = true := code_word (m := ⟨10, 2⟩) (meth := k10m2) (c := k10c2) (by decide +kernel) rfl rfl rfl (by decide +kernel)
set_option maxRecDepth 65536 in
theorem w_c11 : (Jvm.Cond.code ({ cls := "com/example/lapwing/lapwing/profile/RuleViolation", name := "path", desc := "()Ljava/lang/String;" } : Jvm.MethodName) prog_38_method_8_code (1 : Nat) (Option.some (Jvm.ClassFile.FieldType.object "java/lang/String"))).before args0 about1 = true := code_word (m := ⟨10, 3⟩) (meth := k10m3) (c := k10c3) (by decide +kernel) rfl rfl rfl (by decide +kernel)
set_option maxRecDepth 65536 in
theorem w_c12 : (Jvm.Cond.code ({ cls := "java/lang/String", name := "equals", desc := "(Ljava/lang/Object;)Z" } : Jvm.MethodName) jdk_42_method_66_code (3 : Nat) (Option.some Jvm.ClassFile.FieldType.boolean)).before args0 about1 = true := code_word (m := ⟨7, 2⟩) (meth := k7m2) (c := k7c2) (by decide +kernel) rfl rfl rfl (by decide +kernel)
set_option maxRecDepth 65536 in
theorem w_c13 : (Jvm.Cond.code ({ cls := "com/example/lapwing/lapwing/profile/RuleViolation", name := "message", desc := "()Ljava/lang/String;" } : Jvm.MethodName) prog_38_method_9_code (1 : Nat) (Option.some (Jvm.ClassFile.FieldType.object "java/lang/String"))).before args0 about1 = true := code_word (m := ⟨10, 4⟩) (meth := k10m4) (c := k10c4) (by decide +kernel) rfl rfl rfl (by decide +kernel)
set_option maxRecDepth 65536 in
theorem w_c14 : (Jvm.Cond.code ({ cls := "java/lang/String", name := "valueOf", desc := "(C)Ljava/lang/String;" } : Jvm.MethodName) jdk_42_method_139_code (1 : Nat) (Option.some (Jvm.ClassFile.FieldType.object "java/lang/String"))).before args0 about1 = true := code_word (m := ⟨7, 3⟩) (meth := k7m3) (c := k7c3) (by decide +kernel) rfl rfl rfl (by decide +kernel)
set_option maxRecDepth 65536 in
theorem w_c15 : (Jvm.Cond.code ({ cls := "java/lang/StringLatin1", name := "canEncode", desc := "(C)Z" } : Jvm.MethodName) jdk_43_method_3_code (1 : Nat) (Option.some Jvm.ClassFile.FieldType.boolean)).before args0 about1 = true := code_word (m := ⟨13, 1⟩) (meth := k13m1) (c := k13c1) (by decide +kernel) rfl rfl rfl (by decide +kernel)
set_option maxRecDepth 65536 in
theorem w_c16 : (Jvm.Cond.code ({ cls := "java/lang/StringLatin1", name := "toBytes", desc := "(C)[B" } : Jvm.MethodName) jdk_43_method_46_code (1 : Nat) (Option.some (Jvm.ClassFile.FieldType.array Jvm.ClassFile.FieldType.byte))).before args0 about1 = true := code_word (m := ⟨13, 2⟩) (meth := k13m2) (c := k13c2) (by decide +kernel) rfl rfl rfl (by decide +kernel)
set_option maxRecDepth 65536 in
theorem w_c17 : (Jvm.Cond.code ({ cls := "java/lang/String", name := "<init>", desc := "([BB)V" } : Jvm.MethodName) jdk_42_method_151_code (3 : Nat) (Option.none : Option Jvm.ClassFile.FieldType)).before args0 about1 = true := code_word (m := ⟨7, 5⟩) (meth := k7m5) (c := k7c5) (by decide +kernel) rfl rfl rfl (by decide +kernel)
def codes1 : List Jvm.Cond := [Jvm.Cond.code x code maxLocals ret, Jvm.Cond.code ({ cls := "java/lang/String", name := "<init>", desc := "([C)V" } : Jvm.MethodName) jdk_42_method_3_code (2 : Nat) (Option.none : Option Jvm.ClassFile.FieldType), Jvm.Cond.code ({ cls := "java/lang/String", name := "<init>", desc := "([CIILjava/lang/Void;)V" } : Jvm.MethodName) jdk_42_method_149_code (6 : Nat) (Option.none : Option Jvm.ClassFile.FieldType), Jvm.Cond.code ({ cls := "java/lang/Object", name := "<init>", desc := "()V" } : Jvm.MethodName) object_method_1_code (1 : Nat) (Option.none : Option Jvm.ClassFile.FieldType), Jvm.Cond.code ({ cls := "java/lang/StringUTF16", name := "compress", desc := "([CII)[B" } : Jvm.MethodName) jdk_52_method_16_code (6 : Nat) (Option.some (Jvm.ClassFile.FieldType.array Jvm.ClassFile.FieldType.byte)), Jvm.Cond.code ({ cls := "java/lang/StringUTF16", name := "compress", desc := "([CI[BII)I" } : Jvm.MethodName) jdk_52_method_21_code (7 : Nat) (Option.some Jvm.ClassFile.FieldType.int), Jvm.Cond.code ({ cls := "java/lang/StringUTF16", name := "coderFromArrayLen", desc := "([BI)B" } : Jvm.MethodName) jdk_52_method_15_code (2 : Nat) (Option.some Jvm.ClassFile.FieldType.byte), Jvm.Cond.code ({ cls := "com/example/lapwing/lapwing/profile/RuleViolation", name := "warning", desc := "(Ljava/lang/String;Ljava/lang/String;)Lcom/example/lapwing/lapwing/profile/RuleViolation;" } : Jvm.MethodName) prog_38_method_3_code (2 : Nat) (Option.some (Jvm.ClassFile.FieldType.object "com/example/lapwing/lapwing/profile/RuleViolation")), Jvm.Cond.code ({ cls := "com/example/lapwing/lapwing/profile/RuleViolation", name := "<init>", desc := "(Lcom/example/lapwing/lapwing/profile/RuleViolation$Severity;Ljava/lang/String;Ljava/lang/String;)V" } : Jvm.MethodName) prog_38_method_1_code (4 : Nat) (Option.none : Option Jvm.ClassFile.FieldType), Jvm.Cond.code ({ cls := "java/lang/Record", name := "<init>", desc := "()V" } : Jvm.MethodName) jdk_30_method_1_code (1 : Nat) (Option.none : Option Jvm.ClassFile.FieldType), Jvm.Cond.code ({ cls := "com/example/lapwing/lapwing/profile/RuleViolation", name := "severity", desc := "()Lcom/example/lapwing/lapwing/profile/RuleViolation$Severity;" } : Jvm.MethodName) prog_38_method_7_code (1 : Nat) (Option.some (Jvm.ClassFile.FieldType.object "com/example/lapwing/lapwing/profile/RuleViolation$Severity")), Jvm.Cond.code ({ cls := "com/example/lapwing/lapwing/profile/RuleViolation", name := "path", desc := "()Ljava/lang/String;" } : Jvm.MethodName) prog_38_method_8_code (1 : Nat) (Option.some (Jvm.ClassFile.FieldType.object "java/lang/String")), Jvm.Cond.code ({ cls := "java/lang/String", name := "equals", desc := "(Ljava/lang/Object;)Z" } : Jvm.MethodName) jdk_42_method_66_code (3 : Nat) (Option.some Jvm.ClassFile.FieldType.boolean), Jvm.Cond.code ({ cls := "com/example/lapwing/lapwing/profile/RuleViolation", name := "message", desc := "()Ljava/lang/String;" } : Jvm.MethodName) prog_38_method_9_code (1 : Nat) (Option.some (Jvm.ClassFile.FieldType.object "java/lang/String")), Jvm.Cond.code ({ cls := "java/lang/String", name := "valueOf", desc := "(C)Ljava/lang/String;" } : Jvm.MethodName) jdk_42_method_139_code (1 : Nat) (Option.some (Jvm.ClassFile.FieldType.object "java/lang/String")), Jvm.Cond.code ({ cls := "java/lang/StringLatin1", name := "canEncode", desc := "(C)Z" } : Jvm.MethodName) jdk_43_method_3_code (1 : Nat) (Option.some Jvm.ClassFile.FieldType.boolean), Jvm.Cond.code ({ cls := "java/lang/StringLatin1", name := "toBytes", desc := "(C)[B" } : Jvm.MethodName) jdk_43_method_46_code (1 : Nat) (Option.some (Jvm.ClassFile.FieldType.array Jvm.ClassFile.FieldType.byte)), Jvm.Cond.code ({ cls := "java/lang/String", name := "<init>", desc := "([BB)V" } : Jvm.MethodName) jdk_42_method_151_code (3 : Nat) (Option.none : Option Jvm.ClassFile.FieldType)]
set_option maxRecDepth 65536 in
theorem codes_eq : words1.filter isCode = codes1 := rfl
theorem w_codes : ∀ c ∈ words1.filter isCode, c.before args0 about1 = true := by
  rw [codes_eq]
  intro c hc
  simp only [codes1, List.mem_cons, List.not_mem_nil, or_false] at hc
  rcases hc with rfl | rfl | rfl | rfl | rfl | rfl | rfl | rfl | rfl | rfl | rfl | rfl | rfl | rfl | rfl | rfl | rfl | rfl
  · exact w_c0
  · exact w_c1
  · exact w_c2
  · exact w_c3
  · exact w_c4
  · exact w_c5
  · exact w_c6
  · exact w_c7
  · exact w_c8
  · exact w_c9
  · exact w_c10
  · exact w_c11
  · exact w_c12
  · exact w_c13
  · exact w_c14
  · exact w_c15
  · exact w_c16
  · exact w_c17
set_option maxRecDepth 65536 in
theorem w_t1 : (words1.take 24).all (fun c => isCode c || c.before args0 about1) = true := by decide +kernel
set_option maxRecDepth 65536 in
theorem w_t2 : ((words1.drop 24).take 24).all (fun c => isCode c || c.before args0 about1) = true := by decide +kernel
set_option maxRecDepth 65536 in
theorem w_t3 : (((words1.drop 24).drop 24).take 24).all (fun c => isCode c || c.before args0 about1) = true := by decide +kernel
set_option maxRecDepth 65536 in
theorem w_t4 : (((words1.drop 24).drop 24).drop 24).all (fun c => isCode c || c.before args0 about1) = true := by decide +kernel
theorem w_tables : (allAtoms (Jvm.Cond.code x code maxLocals ret :: tables_1)).before args0 about1 = true := by
  rw [allAtoms_all]
  show words1.all (fun c => c.before args0 about1) = true
  refine all_split ?_ w_codes
  rw [← List.take_append_drop 24 words1, List.all_append, w_t1, ← List.take_append_drop 24 (words1.drop 24), List.all_append, w_t2, ← List.take_append_drop 24 ((words1.drop 24).drop 24), List.all_append, w_t3, w_t4]
  rfl
set_option maxRecDepth 65536 in
theorem w_rest : rest_1_c.before args0 about1 = true := by decide +kernel
set_option maxRecDepth 65536 in
theorem w_case : (Jvm.Cond.and given_1 narrow_1).before args0 about1 = true := by decide +kernel
theorem w_applies : (headSpec (Jvm.Cond.code x code maxLocals ret :: tables_1) room_1).applies x e0.platform about1 = true :=
  (Spec.applies_iff w_frames).mpr ⟨w_running, w_runnable, w_alone, w_named, w_hears, w_ripe, w_room, w_tables⟩
theorem atStart : AtStart classFile x code maxLocals ret World_1 tables_1 room_1 Calls_1 rest_1 Pre_1 launch0 p0 e0 about1 theMethod args0 below0 :=
  ⟨lists_1, trivial, launch0.admits_env _ _ _, launch0.least_env, fairChoices_fair.cas, fairChoices_fair.clock, w_frames, w_args, w_heap, w_applies, trivial, w_rest, w_case⟩
end start1
theorem witness_1 : WitnessClaimed_1 := ⟨start1.p0, start1.e0, start1.about1, start1.theMethod, start1.args0, start1.below0, start1.atStart⟩
end Jvm.Pilot.@@N@@
