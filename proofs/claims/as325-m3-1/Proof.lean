import JvmDerived
import JvmDerived.Pilot.@@N@@Statement
import JvmDerived.Pilot.@@N@@Code
set_option linter.unusedVariables false
set_option linter.unusedSimpArgs false
namespace Jvm.Pilot.@@N@@
open Jvm Jvm.ClassFile Sem Op Lib Jvm.Free Jvm.Stand Jvm.LawKit Jvm.RoadKit Bundle Jvm.Pilot.@@N@@.Jvm.D
/-! ### the form of my walks: what is left to do from a state -/
def Go (p : Program) (e : Env) (below : List Frame) (P : Outcome → State → Prop) (S : State) : Prop :=
  ∃ s₂ o, Steps p.tables e below S s₂ ∧ s₂.status = .running ∧ Ended s₂ below o ∧ P o s₂
def PQ (s : State) (Q : Option Value → Heap → List Loc → Prop) (C S : Nat) : Outcome → State → Prop :=
  fun o U' => ∃ v L, o = .returned v ∧ Q v U'.heap L ∧ FrameEnd s o U' L C S
theorem Go.by {p : Program} {e : Env} {below : List Frame} {P : Outcome → State → Prop} {S S' : State} (k : ∀ t, Steps p.tables e below S' t → Steps p.tables e below S t) (h : Go p e below P S') : Go p e below P S := by
  obtain ⟨t, o, h1, h2⟩ := h
  exact ⟨t, o, k t h1, h2⟩
theorem Go.fin {p : Program} {l : Launch} {e : Env} {R : Room} {s : State} {m : MethodId} {args : Array Value} {below : List Frame} {meth : Method} {c : Code} {T : State} {locs : List Loc} {k n C S : Nat} {v : Option Value} {Q : Option Value → Heap → List Loc → Prop} {S0 : State}
    (X : Stand p l e R s m args below meth c T locs k n) (hlk : meth.locks = false) (hv : meth.sig.returnType = none → v = none) (hk : k ≤ C) (hn : n ≤ S) (hQ : Q v T.heap locs)
    (hst : ∀ fs, (∀ (f : JFrame) (acts : List Action), f.method = m → f.locked = none → f.entered = [] → (doReturn e (T.setTop f) acts v).1 = T.setFrames fs) → Steps p.tables e below S0 (T.setFrames fs)) : Go p e below (PQ s Q C S) S0 := by
  obtain ⟨fs, hr, hrun, hended, hW, hsame⟩ := X.leave (v := v) hv hlk
  exact ⟨_, _, hst fs hr, hrun, hended, v, locs, rfl, hQ, ⟨_, rfl⟩, hW, hsame.mono hk hn⟩
/-! ### from a case's words to facts -/
section OwnWords
variable {args : Array Value} {s : State} {t : Term} {C n d : String} {a : Addr} {z : Int32}
theorem own_fint (hx : t.eval args s none [] s = some (.ref a)) (h : (Cond.eq (.field t C n d) (.int z)).value args s none s [] = some true) : Fld s s.heap a C n d (.int z) := by
  refine Fld.start ?_
  have e1 : (Term.field t C n d).eval args s none [] s = s.fieldOf? a C n d := fld_at hx
  cases hf : s.fieldOf? a C n d with
  | none => simp [Cond.value, e1, hf] at h
  | some v =>
    cases v <;> simp [Cond.value, e1, hf, Term.int_eval] at h
    subst h; rfl
theorem own_lenE {cl : Cell} {ty : FieldType} (ev : t.eval args s none [] s = some (.ref a)) (A : Arr s s.heap a cl ty) (h : (Cond.eq (.length t) (.int z)).value args s none s [] = some true) : cl.slots.size < 2 ^ 31 ∧ cl.slots.size.toInt32 = z := by
  have ha : s.arrayAt? a = some cl := Arr.fin (Vm.Alike.refl _) A
  by_cases hl : cl.slots.size < 2 ^ 31
  · have q := len_f (o := none) (idx := []) (first := s) ev ha hl
    simp [Cond.value, q, Term.int_eval] at h
    exact ⟨hl, h⟩
  · simp [Cond.value, Term.eval, ev, ha, hl] at h
theorem own_len {cl : Cell} {ty : FieldType} {N : Nat} (ev : t.eval args s none [] s = some (.ref a)) (A : Arr s s.heap a cl ty) (hz : z.toInt = N) (h : (Cond.eq (.length t) (.int z)).value args s none s [] = some true) : cl.slots.size = N := by
  obtain ⟨h1, h2⟩ := own_lenE ev A h
  have h3 := len_toInt h1
  rw [h2, hz] at h3
  omega
theorem own_elem {cl : Cell} {j : Int32} (ev : t.eval args s none [] s = some (.ref a)) (hc : s.heap[a]? = some cl) (h : (Cond.eq (.elem t (.int j)) (.int z)).value args s none s [] = some true) : cl.slots[j.toNatClampNeg]? = some (.int z) := by
  obtain ⟨x, y, e1, e2, -, -⟩ := cmp_v (Or.inl h)
  have q := (elem_in e1 ev rfl hc).2
  cases e2
  cases x <;> simp [Cond.value, e1, Term.int_eval] at h
  subst h; exact q
end OwnWords
/-! ### the end of a walk that may intern -/
def PQW (s Z : State) (EL : List (String × Nat)) (Q : Option Value → Heap → List Loc → Prop) (C S : Nat) : Outcome → State → Prop :=
  fun o U' => ∃ v L, o = .returned v ∧ Q v U'.heap L ∧ CHr Z EL s.vm s.heap U'.vm U'.heap ∧ ReturnedEndW s o U' L C S
theorem Go.finW {p : Program} {l : Launch} {e : Env} {R : Room} {s Z : State} {a0 : Array Value} {EL : List (String × Nat)} {vm0 : Vm} {k0 : Nat} {m : MethodId} {args : Array Value} {below : List Frame} {meth : Method} {c : Code} {T : State} {locs : List Loc} {k n C S : Nat} {v : Option Value} {Q : Option Value → Heap → List Loc → Prop} {S0 : State} {h0 H : Heap}
    (X : Stand p l e R (s.setVm vm0) m args below meth c T locs k n) (hlk : meth.locks = false) (hEL : EW Z a0 EL) (hv : meth.sig.returnType = none → v = none) (hk : k ≤ C) (hn : n ≤ S) (hh : s.heap = h0) (eT : T.heap = H) (hS : s.Since vm0 k0) (hk0 : k0 ≤ H.size) (hZ : Z.Warmed39 vm0) (hC : CHr Z EL s.vm h0 vm0 H) (hQ : Q v H locs)
    (hst : ∀ fs, (∀ (f : JFrame) (acts : List Action), f.method = m → f.locked = none → f.entered = [] → (doReturn e (T.setTop f) acts v).1 = T.setFrames fs) → Steps p.tables e below S0 (T.setFrames fs)) : Go p e below (PQW s Z EL Q C S) S0 := by
  subst eT hh
  obtain ⟨fs, hr, hrun, hended, hW1, hW2, hW3, hsame⟩ := X.leaveW hS hk0 (v := v) hv hlk
  have hc := CHr.trans hC (CHv.at X hZ hEL hC.1)
  exact ⟨_, _, hst fs hr, hrun, hended, v, locs, rfl, hQ, hc, hW1, hW2, hW3, hsame.mono hk hn⟩
/-! ### getfield where the entry stands resolved (the word fieldRef) -/
section OwnRef
variable {p : Program} {l : Launch} {e : Env} {R : Room} {s : State} {m : MethodId} {args : Array Value} {below : List Frame} {meth : Method} {c : Code} {T : State} {locs : List Loc} {cells slots : Nat} {Z : State} {a0 : Array Value} {h : Heap}
theorem own_getR (X : Stand p l e R s m args below meth c T locs cells slots) (hx : p.tables.exec = Jvm.exec) (hZ : Z.Warmed39 s.vm) {own R0 O n d : String} {index : Nat} (hown : s.vm.findClass own = some m.cls) (w : (Cond.fieldRef own index R0 n d).before a0 Z = true) (via : Via Z R0 O n d)
    (eT : T.heap = h) {a : Addr} {v : Value} (F : Fld Z h a O n d v) {g : JFrame} (hg : g.method = m) {rest : List Value} (hs : g.stack = .ref a :: rest) (hd : decode c.code g.pc = .ok (.getfield index, 3)) : ∃ T', Stand p l e R s m args below meth c T' locs cells slots ∧ T'.heap = h ∧ ∀ target, Steps p.tables e below (T'.setTop { g with pc := g.pc + 3, stack := v :: rest }) target → Steps p.tables e below (T.setTop g) target := by
  obtain ⟨cell, cf, k, i, f, h1, h2, h3, h4, -, -, h7⟩ := F
  have hU : Z.Warmed39 T.vm := wtrans hZ X.warmed
  have w' : (Cond.fieldRef own index R0 n d).before a0 (Z.setVm T.vm) = true := Cond.fieldRef_warmed39 hU w
  have hown' : (Z.setVm T.vm).vm.findClass own = some m.cls := by
    rw [State.vm_setVm, X.warmed.alike.findClass]; exact hown
  obtain ⟨c2, k2, i2, f2, hi2, hready⟩ := Cond.fieldRef_spec (s := Z.setVm T.vm) hown' w'
  obtain ⟨k', hi', -⟩ := State.fieldFound?_setVm (s := Z) hU.alike (via _ h2)
  cases hi2.symm.trans hi'
  refine ⟨T, X, eT, fun target hrest => ?_⟩
  subst hg
  have hc : T.heap[a]? = some cell := by rw [eT]; exact h1
  jvm_step X.here [hx, hd, getfield.wp_ready (e := e) (s := T) (f := g) X.here.top hready h3 hs hc h4 h7]
  exact hrest
end OwnRef
theorem pn_com_example_rotaflow_rotaflow_rotation_Rule : plainName "com/example/rotaflow/rotaflow/rotation/Rule" = true := by first | (simp [plainName, overriddenIn]; done) | decide +kernel
theorem d_prog_70_method_4_code_0 : decode prog_70_method_4_code 0 = .ok (.aload_n 0, 1) := by decide +kernel
theorem d_prog_70_method_4_code_1 : decode prog_70_method_4_code 1 = .ok (.getfield 32, 3) := by decide +kernel
theorem d_prog_70_method_4_code_4 : decode prog_70_method_4_code 4 = .ok (.iload_n 1, 1) := by decide +kernel
theorem d_prog_70_method_4_code_5 : decode prog_70_method_4_code 5 = .ok (.imul, 1) := by decide +kernel
theorem d_prog_70_method_4_code_6 : decode prog_70_method_4_code 6 = .ok (.aload_n 0, 1) := by decide +kernel
theorem d_prog_70_method_4_code_7 : decode prog_70_method_4_code 7 = .ok (.getfield 32, 3) := by decide +kernel
theorem d_prog_70_method_4_code_10 : decode prog_70_method_4_code 10 = .ok (.iload_n 2, 1) := by decide +kernel
theorem d_prog_70_method_4_code_11 : decode prog_70_method_4_code 11 = .ok (.imul, 1) := by decide +kernel
theorem d_prog_70_method_4_code_12 : decode prog_70_method_4_code 12 = .ok (.if_icmp .le 7, 3) := by decide +kernel
theorem d_prog_70_method_4_code_15 : decode prog_70_method_4_code 15 = .ok (.iconst 1, 1) := by decide +kernel
theorem d_prog_70_method_4_code_16 : decode prog_70_method_4_code 16 = .ok (.goto 4, 3) := by decide +kernel
theorem d_prog_70_method_4_code_20 : decode prog_70_method_4_code 20 = .ok (.ireturn, 1) := by decide +kernel
theorem d_prog_70_method_4_code_19 : decode prog_70_method_4_code 19 = .ok (.iconst 0, 1) := by decide +kernel
theorem pn_com_example_rotaflow_rotaflow_rotation_RulePrefersPinLaw : plainName "com/example/rotaflow/rotaflow/rotation/RulePrefersPinLaw" = true := by first | (simp [plainName, overriddenIn]; done) | decide +kernel
theorem pd__II_Z : parseMethodDescriptor "(II)Z" = some ⟨[.int, .int], some .boolean⟩ := by decide +kernel
theorem tw_0 {Z : State} {a0 : Array Value} (hw : ∀ d ∈ tables_1, d.before a0 Z = true) : (Jvm.Cond.constant "com/example/rotaflow/rotaflow/rotation/RulePrefersPinLaw" (7 : Nat) (2147483647 : Int32) : Jvm.Cond).before a0 Z = true := hw _ (List.mem_of_getElem? (i := 0) rfl)
theorem tw_1 {Z : State} {a0 : Array Value} (hw : ∀ d ∈ tables_1, d.before a0 Z = true) : (Jvm.Cond.fieldLink "com/example/rotaflow/rotaflow/rotation/RulePrefersPinLaw" (8 : Nat) "com/example/rotaflow/rotaflow/rotation/Rule" "BALANCE" "Lcom/example/rotaflow/rotaflow/rotation/Rule;" : Jvm.Cond).before a0 Z = true := hw _ (List.mem_of_getElem? (i := 1) rfl)
theorem tw_2 {Z : State} {a0 : Array Value} (hw : ∀ d ∈ tables_1, d.before a0 Z = true) : (Jvm.Cond.initialized "com/example/rotaflow/rotaflow/rotation/Rule" : Jvm.Cond).before a0 Z = true := hw _ (List.mem_of_getElem? (i := 2) rfl)
theorem tw_3 {Z : State} {a0 : Array Value} (hw : ∀ d ∈ tables_1, d.before a0 Z = true) : (Jvm.Cond.laysStatic "com/example/rotaflow/rotaflow/rotation/Rule" "BALANCE" "Lcom/example/rotaflow/rotaflow/rotation/Rule;" : Jvm.Cond).before a0 Z = true := hw _ (List.mem_of_getElem? (i := 3) rfl)
theorem tw_4 {Z : State} {a0 : Array Value} (hw : ∀ d ∈ tables_1, d.before a0 Z = true) : (Jvm.Cond.methodLink "com/example/rotaflow/rotaflow/rotation/RulePrefersPinLaw" (20 : Nat) ({ cls := "com/example/rotaflow/rotaflow/rotation/Rule", name := "prefers", desc := "(II)Z" } : Jvm.MethodName) : Jvm.Cond).before a0 Z = true := hw _ (List.mem_of_getElem? (i := 4) rfl)
theorem tw_5 {Z : State} {a0 : Array Value} (hw : ∀ d ∈ tables_1, d.before a0 Z = true) : (Jvm.Cond.declares ({ cls := "com/example/rotaflow/rotaflow/rotation/Rule", name := "prefers", desc := "(II)Z" } : Jvm.MethodName) : Jvm.Cond).before a0 Z = true := hw _ (List.mem_of_getElem? (i := 5) rfl)
theorem tw_6 {Z : State} {a0 : Array Value} (hw : ∀ d ∈ tables_1, d.before a0 Z = true) : (Jvm.Cond.instanceMethod ({ cls := "com/example/rotaflow/rotaflow/rotation/Rule", name := "prefers", desc := "(II)Z" } : Jvm.MethodName) : Jvm.Cond).before a0 Z = true := hw _ (List.mem_of_getElem? (i := 6) rfl)
theorem tw_7 {Z : State} {a0 : Array Value} (hw : ∀ d ∈ tables_1, d.before a0 Z = true) : (Jvm.Cond.selects "com/example/rotaflow/rotaflow/rotation/Rule" ({ cls := "com/example/rotaflow/rotaflow/rotation/Rule", name := "prefers", desc := "(II)Z" } : Jvm.MethodName) ({ cls := "com/example/rotaflow/rotaflow/rotation/Rule", name := "prefers", desc := "(II)Z" } : Jvm.MethodName) : Jvm.Cond).before a0 Z = true := hw _ (List.mem_of_getElem? (i := 7) rfl)
theorem tw_8 {Z : State} {a0 : Array Value} (hw : ∀ d ∈ tables_1, d.before a0 Z = true) : (Jvm.Cond.code ({ cls := "com/example/rotaflow/rotaflow/rotation/Rule", name := "prefers", desc := "(II)Z" } : Jvm.MethodName) prog_70_method_4_code (3 : Nat) (Option.some Jvm.ClassFile.FieldType.boolean) : Jvm.Cond).before a0 Z = true := hw _ (List.mem_of_getElem? (i := 8) rfl)
theorem tw_9 {Z : State} {a0 : Array Value} (hw : ∀ d ∈ tables_1, d.before a0 Z = true) : (Jvm.Cond.fieldLink "com/example/rotaflow/rotaflow/rotation/Rule" (32 : Nat) "com/example/rotaflow/rotaflow/rotation/Rule" "sizeSign" "I" : Jvm.Cond).before a0 Z = true := hw _ (List.mem_of_getElem? (i := 9) rfl)
theorem tw_11 {Z : State} {a0 : Array Value} (hw : ∀ d ∈ tables_1, d.before a0 Z = true) : (Jvm.Cond.fieldLink "com/example/rotaflow/rotaflow/rotation/RulePrefersPinLaw" (14 : Nat) "com/example/rotaflow/rotaflow/rotation/Rule" "SIMPLE" "Lcom/example/rotaflow/rotaflow/rotation/Rule;" : Jvm.Cond).before a0 Z = true := hw _ (List.mem_of_getElem? (i := 11) rfl)
theorem tw_12 {Z : State} {a0 : Array Value} (hw : ∀ d ∈ tables_1, d.before a0 Z = true) : (Jvm.Cond.laysStatic "com/example/rotaflow/rotaflow/rotation/Rule" "SIMPLE" "Lcom/example/rotaflow/rotaflow/rotation/Rule;" : Jvm.Cond).before a0 Z = true := hw _ (List.mem_of_getElem? (i := 12) rfl)
theorem tw_13 {Z : State} {a0 : Array Value} (hw : ∀ d ∈ tables_1, d.before a0 Z = true) : (Jvm.Cond.fieldLink "com/example/rotaflow/rotaflow/rotation/RulePrefersPinLaw" (17 : Nat) "com/example/rotaflow/rotaflow/rotation/Rule" "SPLIT_FIRST" "Lcom/example/rotaflow/rotaflow/rotation/Rule;" : Jvm.Cond).before a0 Z = true := hw _ (List.mem_of_getElem? (i := 13) rfl)
theorem tw_14 {Z : State} {a0 : Array Value} (hw : ∀ d ∈ tables_1, d.before a0 Z = true) : (Jvm.Cond.laysStatic "com/example/rotaflow/rotaflow/rotation/Rule" "SPLIT_FIRST" "Lcom/example/rotaflow/rotaflow/rotation/Rule;" : Jvm.Cond).before a0 Z = true := hw _ (List.mem_of_getElem? (i := 14) rfl)
theorem own_bal {a b : Int32} : (-1 : Int32) * (b &&& (2147483647 : Int32)) < (-1 : Int32) * (a &&& (2147483647 : Int32)) ↔ a &&& (2147483647 : Int32) < b &&& (2147483647 : Int32) := by
  have ha := c_mask a 2147483647 31 (by decide) (by decide)
  have hb := c_mask b 2147483647 31 (by decide) (by decide)
  have m1 := c_imul (-1) (a &&& 2147483647)
  have m2 := c_imul (-1) (b &&& 2147483647)
  have r1 := rng32 ((-1) * (a &&& 2147483647))
  have r2 := rng32 ((-1) * (b &&& 2147483647))
  have k : (-1 : Int32).toInt = -1 := rfl
  rw [k] at m1 m2
  rw [Int32.lt_iff_toInt_lt, Int32.lt_iff_toInt_lt]
  omega
theorem own_sim {a b : Int32} : ¬ (0 : Int32) * b < (0 : Int32) * a := by
  rw [Int32.zero_mul, Int32.zero_mul]; decide
theorem own_spl {a b : Int32} : (1 : Int32) * b < (1 : Int32) * a ↔ b < a := by
  rw [Int32.one_mul, Int32.one_mul]
def Q_prefers (Z : State) (a1 : Addr) (p2 : Int32) (p3 : Int32) (w4 : Int32) (h0 : Heap) (n0 : Nat) (v : Option Value) (h : Heap) (L : List Loc) : Prop := v = some (.int (if w4 * p3 < w4 * p2 then (1 : Int32) else 0)) ∧ Fr n0 L ∧ h = h0
theorem ef_prefers (m : MethodId) (a1 : Addr) (p2 : Int32) (p3 : Int32) (w4 : Int32) : entryFrame m #[(.ref a1), (.int p2), (.int p3)] 3 = mkF m 0 #[.val (.ref a1), .val (.int p2), .val (.int p3)] [] := by first | (simp [entryFrame, mkF, argsToLocals, Value.category]; done) | rfl
set_option maxRecDepth 65536 in
set_option maxHeartbeats 40000000 in
theorem rm_prefers (l : Launch) (Z : State) (a0 : Array Value) (hw : ∀ d ∈ tables_1, d.before a0 Z = true) (ws : List Jvm.Cond) (a1 : Addr) (p2 : Int32) (p3 : Int32) (w4 : Int32) (h0 : Heap) (n0 : Nat) (Z0 : n0 ≤ h0.size) (F4 : Fld Z h0 a1 "com/example/rotaflow/rotaflow/rotation/Rule" "sizeSign" "I" (.int w4)) :
    MetFree l (⟨"com/example/rotaflow/rotaflow/rotation/Rule", "prefers", "(II)Z"⟩ : MethodName) (head1 (Jvm.Cond.code (⟨"com/example/rotaflow/rotaflow/rotation/Rule", "prefers", "(II)Z"⟩ : MethodName) prog_70_method_4_code 3 (some .boolean) :: ws) ({ frames := 0, cells := 0, slots := 0, locals := 0 } : Room)) (fun a U => a = #[(.ref a1), (.int p2), (.int p3)] ∧ Z.Warmed39 U.vm ∧ U.heap = h0) (fun _ _ _ _ _ => True) (fun _ U o U' => ∃ v L, o = .returned v ∧ Q_prefers Z a1 p2 p3 w4 h0 n0 v U'.heap L ∧ FrameEnd U o U' L ({ frames := 0, cells := 0, slots := 0, locals := 0 } : Room).cells ({ frames := 0, cells := 0, slots := 0, locals := 0 } : Room).slots) := by
  refine MetFree.of_bodySF (plainFor_of_name pn_com_example_rotaflow_rotaflow_rotation_Rule) hisR ?_
  intro p e s m args below meth c s₁ Bd hml0 hP hK
  obtain ⟨rfl, hZ, hh⟩ := hP
  have hx := Bd.exec
  have hby := Bd.bytes
  have hml : c.maxLocals = 3 := hml0
  have hown : s.vm.findClass "com/example/rotaflow/rotaflow/rotation/Rule" = some m.cls := findClass_of_methodNamed Bd.named
  have hnm := (name_of_methodNamed Bd.named Bd.method).1
  have X0 : Stand p l e ({ frames := 0, cells := 0, slots := 0, locals := 0 } : Room) s m #[(.ref a1), (.int p2), (.int p3)] below meth c s₁ [] 0 0 := Stand.of_body Bd
  have e0 : s₁.heap = h0 := by rw [← hh, Bd.state]; rfl
  have N0 := Fr.nil n0
  have hlk : meth.locks = false := Bd.notSynchronized
  obtain ⟨P, hP⟩ : ∃ P : Outcome → State → Prop, P = PQ s (Q_prefers Z a1 p2 p3 w4 h0 n0) ({ frames := 0, cells := 0, slots := 0, locals := 0 } : Room).cells ({ frames := 0, cells := 0, slots := 0, locals := 0 } : Room).slots := ⟨_, rfl⟩
  have fin : ∀ {T : State} {locs : List Loc} {k n : Nat} {v : Option Value} {S0 : State}, Stand p l e ({ frames := 0, cells := 0, slots := 0, locals := 0 } : Room) s m #[(.ref a1), (.int p2), (.int p3)] below meth c T locs k n → (meth.sig.returnType = none → v = none) → k ≤ ({ frames := 0, cells := 0, slots := 0, locals := 0 } : Room).cells → n ≤ ({ frames := 0, cells := 0, slots := 0, locals := 0 } : Room).slots → Q_prefers Z a1 p2 p3 w4 h0 n0 v T.heap locs → (∀ fs, (∀ (f : JFrame) (acts : List Action), f.method = m → f.locked = none → f.entered = [] → (doReturn e (T.setTop f) acts v).1 = T.setFrames fs) → Steps p.tables e below S0 (T.setFrames fs)) → Go p e below P S0 := fun X hv hk hn hQ hst => hP ▸ Go.fin X hlk hv hk hn hQ hst
  suffices hgo : Go p e below P (s₁.setTop (mkF m 0 #[.val (.ref a1), .val (.int p2), .val (.int p3)] [])) by
    rw [hP] at hgo
    exact Go.by (fun t k => castTop (ef_prefers m a1 p2 p3 w4) k) hgo
  show Go p e below P (s₁.setTop (mkF m 0 #[.val (.ref a1), .val (.int p2), .val (.int p3)] []))
  refine Go.by (fun _ => XS.aloadN X0.here hx rfl (hb hby d_prog_70_method_4_code_0) rfl rfl) ?_
  show Go p e below P (s₁.setTop (mkF m 1 #[.val (.ref a1), .val (.int p2), .val (.int p3)] [(.ref a1)]))
  obtain ⟨T1, X1, e1, st1⟩ := getF X0 hx hZ hown (host := "") (Or.inl (tw_9 hw)) Via.refl e0 F4 (g := (mkF m 1 #[.val (.ref a1), .val (.int p2), .val (.int p3)] [(.ref a1)])) rfl rfl (hb hby d_prog_70_method_4_code_1)
  refine Go.by st1 ?_
  show Go p e below P (T1.setTop (mkF m 4 #[.val (.ref a1), .val (.int p2), .val (.int p3)] [(.int w4)]))
  refine Go.by (fun _ => XS.iloadN X1.here hx rfl (hb hby d_prog_70_method_4_code_4) rfl) ?_
  show Go p e below P (T1.setTop (mkF m 5 #[.val (.ref a1), .val (.int p2), .val (.int p3)] [(.int p2), (.int w4)]))
  refine Go.by (fun _ => XS.imul X1.here hx rfl (hb hby d_prog_70_method_4_code_5) rfl) ?_
  show Go p e below P (T1.setTop (mkF m 6 #[.val (.ref a1), .val (.int p2), .val (.int p3)] [(.int (w4 * p2))]))
  refine Go.by (fun _ => XS.aloadN X1.here hx rfl (hb hby d_prog_70_method_4_code_6) rfl rfl) ?_
  show Go p e below P (T1.setTop (mkF m 7 #[.val (.ref a1), .val (.int p2), .val (.int p3)] [(.ref a1), (.int (w4 * p2))]))
  obtain ⟨T2, X2, e2, st2⟩ := getF X1 hx hZ hown (host := "") (Or.inl (tw_9 hw)) Via.refl e1 F4 (g := (mkF m 7 #[.val (.ref a1), .val (.int p2), .val (.int p3)] [(.ref a1), (.int (w4 * p2))])) rfl rfl (hb hby d_prog_70_method_4_code_7)
  refine Go.by st2 ?_
  show Go p e below P (T2.setTop (mkF m 10 #[.val (.ref a1), .val (.int p2), .val (.int p3)] [(.int w4), (.int (w4 * p2))]))
  refine Go.by (fun _ => XS.iloadN X2.here hx rfl (hb hby d_prog_70_method_4_code_10) rfl) ?_
  show Go p e below P (T2.setTop (mkF m 11 #[.val (.ref a1), .val (.int p2), .val (.int p3)] [(.int p3), (.int w4), (.int (w4 * p2))]))
  refine Go.by (fun _ => XS.imul X2.here hx rfl (hb hby d_prog_70_method_4_code_11) rfl) ?_
  show Go p e below P (T2.setTop (mkF m 12 #[.val (.ref a1), .val (.int p2), .val (.int p3)] [(.int (w4 * p3)), (.int (w4 * p2))]))
  by_cases hc12_3 : (w4 * p3) < (w4 * p2)
  · refine Go.by (fun _ => XS.icmpNo X2.here hx rfl (hb hby d_prog_70_method_4_code_12) rfl (XT.ii_le_f hc12_3)) ?_
    show Go p e below P (T2.setTop (mkF m 15 #[.val (.ref a1), .val (.int p2), .val (.int p3)] []))
    refine Go.by (fun _ => XS.iconst X2.here hx rfl (hb hby d_prog_70_method_4_code_15)) ?_
    show Go p e below P (T2.setTop (mkF m 16 #[.val (.ref a1), .val (.int p2), .val (.int p3)] [(.int (1 : Int32))]))
    refine Go.by (fun _ => XS.goto X2.here hx rfl (pc0 := 16) (pc' := 20) rfl (hb hby d_prog_70_method_4_code_16) (by decide) (by decide)) ?_
    show Go p e below P (T2.setTop (mkF m 20 #[.val (.ref a1), .val (.int p2), .val (.int p3)] [(.int (1 : Int32))]))
    refine fin X2 (v := some (.int (1 : Int32))) (fun h => by rw [Bd.returns] at h; cases h) (by decide) (by decide) ?_ (fun fs hr => retOut X2 hx Bd.returns rfl (Or.inl ⟨rfl, Or.inr (Or.inl rfl), _, rfl⟩) (hb hby d_prog_70_method_4_code_20) hr)
    show Q_prefers Z a1 p2 p3 w4 h0 n0 _ T2.heap _
    rw [e2]
    exact ⟨by rw [if_pos hc12_3], N0, rfl⟩
  · refine Go.by (fun _ => XS.icmpYes X2.here hx rfl (pc0 := 12) (pc' := 19) rfl (hb hby d_prog_70_method_4_code_12) rfl (XT.ii_le_t hc12_3) (by decide) (by decide)) ?_
    show Go p e below P (T2.setTop (mkF m 19 #[.val (.ref a1), .val (.int p2), .val (.int p3)] []))
    refine Go.by (fun _ => XS.iconst X2.here hx rfl (hb hby d_prog_70_method_4_code_19)) ?_
    show Go p e below P (T2.setTop (mkF m 20 #[.val (.ref a1), .val (.int p2), .val (.int p3)] [(.int (0 : Int32))]))
    refine fin X2 (v := some (.int (0 : Int32))) (fun h => by rw [Bd.returns] at h; cases h) (by decide) (by decide) ?_ (fun fs hr => retOut X2 hx Bd.returns rfl (Or.inl ⟨rfl, Or.inr (Or.inl rfl), _, rfl⟩) (hb hby d_prog_70_method_4_code_20) hr)
    show Q_prefers Z a1 p2 p3 w4 h0 n0 _ T2.heap _
    rw [e2]
    exact ⟨by rw [if_neg hc12_3], N0, rfl⟩
def Q_law (Z : State) (p0 : Int32) (p1 : Int32) (p2 : Int32) (aB : Addr) (aS : Addr) (aP : Addr) (h0 : Heap) (n0 : Nat) (v : Option Value) (h : Heap) (L : List Loc) : Prop := v = some (.int (1 : Int32)) ∧ Fr n0 L
theorem ef_law (m : MethodId) (p0 : Int32) (p1 : Int32) (p2 : Int32) (aB : Addr) (aS : Addr) (aP : Addr) : entryFrame m #[(.int p0), (.int p1), (.int p2)] maxLocals = mkF m 0 #[.val (.int p0), .val (.int p1), .val (.int p2), .unset, .unset, .unset, .unset, .unset] [] := by first | (simp [entryFrame, mkF, argsToLocals, Value.category, maxLocals]; done) | rfl
set_option maxRecDepth 65536 in
set_option maxHeartbeats 40000000 in
theorem rm_law (l : Launch) (Z : State) (a0 : Array Value) (hw : ∀ d ∈ tables_1, d.before a0 Z = true) (ws : List Jvm.Cond) (p0 : Int32) (p1 : Int32) (p2 : Int32) (aB : Addr) (aS : Addr) (aP : Addr) (h0 : Heap) (n0 : Nat) (Z0 : n0 ≤ h0.size) (O0 : Old Z n0 h0) (SaB : Sta Z Z.heap "com/example/rotaflow/rotaflow/rotation/Rule" "BALANCE" "Lcom/example/rotaflow/rotaflow/rotation/Rule;" (.ref aB)) (EaB : Exa Z Z.heap aB "com/example/rotaflow/rotaflow/rotation/Rule") (FaB : Fld Z Z.heap aB "com/example/rotaflow/rotaflow/rotation/Rule" "sizeSign" "I" (.int ((-1) : Int32))) (SaS : Sta Z Z.heap "com/example/rotaflow/rotaflow/rotation/Rule" "SIMPLE" "Lcom/example/rotaflow/rotaflow/rotation/Rule;" (.ref aS)) (EaS : Exa Z Z.heap aS "com/example/rotaflow/rotaflow/rotation/Rule") (FaS : Fld Z Z.heap aS "com/example/rotaflow/rotaflow/rotation/Rule" "sizeSign" "I" (.int (0 : Int32))) (SaP : Sta Z Z.heap "com/example/rotaflow/rotaflow/rotation/Rule" "SPLIT_FIRST" "Lcom/example/rotaflow/rotaflow/rotation/Rule;" (.ref aP)) (EaP : Exa Z Z.heap aP "com/example/rotaflow/rotaflow/rotation/Rule") (FaP : Fld Z Z.heap aP "com/example/rotaflow/rotaflow/rotation/Rule" "sizeSign" "I" (.int (1 : Int32))) :
    MetFree l x (head1 (Jvm.Cond.code x code maxLocals ret :: ws) room_1) (fun a U => a = #[(.int p0), (.int p1), (.int p2)] ∧ Z.Warmed39 U.vm ∧ U.heap = h0) (fun _ _ _ _ _ => True) (fun _ U o U' => ∃ v L, o = .returned v ∧ Q_law Z p0 p1 p2 aB aS aP h0 n0 v U'.heap L ∧ FrameEnd U o U' L room_1.cells room_1.slots) := by
  refine MetFree.of_bodySF (plainFor_of_name pn_com_example_rotaflow_rotaflow_rotation_RulePrefersPinLaw) hisR ?_
  intro p e s m args below meth c s₁ Bd hml0 hP hK
  obtain ⟨rfl, hZ, hh⟩ := hP
  have hx := Bd.exec
  have hby := Bd.bytes
  have hml : c.maxLocals = 8 := hml0
  have hown : s.vm.findClass "com/example/rotaflow/rotaflow/rotation/RulePrefersPinLaw" = some m.cls := findClass_of_methodNamed Bd.named
  have hnm := (name_of_methodNamed Bd.named Bd.method).1
  have X0 : Stand p l e room_1 s m #[(.int p0), (.int p1), (.int p2)] below meth c s₁ [] 0 0 := Stand.of_body Bd
  have e0 : s₁.heap = h0 := by rw [← hh, Bd.state]; rfl
  have N0 := Fr.nil n0
  have hlk : meth.locks = false := Bd.notSynchronized
  obtain ⟨P, hP⟩ : ∃ P : Outcome → State → Prop, P = PQ s (Q_law Z p0 p1 p2 aB aS aP h0 n0) room_1.cells room_1.slots := ⟨_, rfl⟩
  have fin : ∀ {T : State} {locs : List Loc} {k n : Nat} {v : Option Value} {S0 : State}, Stand p l e room_1 s m #[(.int p0), (.int p1), (.int p2)] below meth c T locs k n → (meth.sig.returnType = none → v = none) → k ≤ room_1.cells → n ≤ room_1.slots → Q_law Z p0 p1 p2 aB aS aP h0 n0 v T.heap locs → (∀ fs, (∀ (f : JFrame) (acts : List Action), f.method = m → f.locked = none → f.entered = [] → (doReturn e (T.setTop f) acts v).1 = T.setFrames fs) → Steps p.tables e below S0 (T.setFrames fs)) → Go p e below P S0 := fun X hv hk hn hQ hst => hP ▸ Go.fin X hlk hv hk hn hQ hst
  suffices hgo : Go p e below P (s₁.setTop (mkF m 0 #[.val (.int p0), .val (.int p1), .val (.int p2), .unset, .unset, .unset, .unset, .unset] [])) by
    rw [hP] at hgo
    exact Go.by (fun t k => castTop (ef_law m p0 p1 p2 aB aS aP) k) hgo
  show Go p e below P (s₁.setTop (mkF m 0 #[.val (.int p0), .val (.int p1), .val (.int p2), .unset, .unset, .unset, .unset, .unset] []))
  refine Go.by (fun _ => XS.iloadN X0.here hx rfl (hb hby at_0) rfl) ?_
  show Go p e below P (s₁.setTop (mkF m 1 #[.val (.int p0), .val (.int p1), .val (.int p2), .unset, .unset, .unset, .unset, .unset] [(.int p1)]))
  refine Go.by (fun _ => Jvm.Stand.ldcI X0 hx hown (mvT hZ (tw_0 hw)) rfl (hb hby at_1)) ?_
  show Go p e below P (s₁.setTop (mkF m 3 #[.val (.int p0), .val (.int p1), .val (.int p2), .unset, .unset, .unset, .unset, .unset] [(.int (2147483647 : Int32)), (.int p1)]))
  refine Go.by (fun _ => XS.iand X0.here hx rfl (hb hby at_3) rfl) ?_
  show Go p e below P (s₁.setTop (mkF m 4 #[.val (.int p0), .val (.int p1), .val (.int p2), .unset, .unset, .unset, .unset, .unset] [(.int (p1 &&& (2147483647 : Int32)))]))
  refine Go.by (fun _ => XS.istoreN X0.here hx rfl (hb hby at_4) rfl (l' := #[.val (.int p0), .val (.int p1), .val (.int p2), .val (.int (p1 &&& (2147483647 : Int32))), .unset, .unset, .unset, .unset]) rfl) ?_
  show Go p e below P (s₁.setTop (mkF m 5 #[.val (.int p0), .val (.int p1), .val (.int p2), .val (.int (p1 &&& (2147483647 : Int32))), .unset, .unset, .unset, .unset] []))
  refine Go.by (fun _ => XS.iloadN X0.here hx rfl (hb hby at_5) rfl) ?_
  show Go p e below P (s₁.setTop (mkF m 6 #[.val (.int p0), .val (.int p1), .val (.int p2), .val (.int (p1 &&& (2147483647 : Int32))), .unset, .unset, .unset, .unset] [(.int p2)]))
  refine Go.by (fun _ => Jvm.Stand.ldcI X0 hx hown (mvT hZ (tw_0 hw)) rfl (hb hby at_6)) ?_
  show Go p e below P (s₁.setTop (mkF m 8 #[.val (.int p0), .val (.int p1), .val (.int p2), .val (.int (p1 &&& (2147483647 : Int32))), .unset, .unset, .unset, .unset] [(.int (2147483647 : Int32)), (.int p2)]))
  refine Go.by (fun _ => XS.iand X0.here hx rfl (hb hby at_8) rfl) ?_
  show Go p e below P (s₁.setTop (mkF m 9 #[.val (.int p0), .val (.int p1), .val (.int p2), .val (.int (p1 &&& (2147483647 : Int32))), .unset, .unset, .unset, .unset] [(.int (p2 &&& (2147483647 : Int32)))]))
  refine Go.by (fun _ => XS.istore X0.here hx rfl (hb hby at_9) rfl (l' := #[.val (.int p0), .val (.int p1), .val (.int p2), .val (.int (p1 &&& (2147483647 : Int32))), .val (.int (p2 &&& (2147483647 : Int32))), .unset, .unset, .unset]) rfl) ?_
  show Go p e below P (s₁.setTop (mkF m 11 #[.val (.int p0), .val (.int p1), .val (.int p2), .val (.int (p1 &&& (2147483647 : Int32))), .val (.int (p2 &&& (2147483647 : Int32))), .unset, .unset, .unset] []))
  refine Go.by (fun _ => XS.iloadN X0.here hx rfl (hb hby at_11) rfl) ?_
  show Go p e below P (s₁.setTop (mkF m 12 #[.val (.int p0), .val (.int p1), .val (.int p2), .val (.int (p1 &&& (2147483647 : Int32))), .val (.int (p2 &&& (2147483647 : Int32))), .unset, .unset, .unset] [(.int p0)]))
  refine Go.by (fun _ => Jvm.Stand.ldcI X0 hx hown (mvT hZ (tw_0 hw)) rfl (hb hby at_12)) ?_
  show Go p e below P (s₁.setTop (mkF m 14 #[.val (.int p0), .val (.int p1), .val (.int p2), .val (.int (p1 &&& (2147483647 : Int32))), .val (.int (p2 &&& (2147483647 : Int32))), .unset, .unset, .unset] [(.int (2147483647 : Int32)), (.int p0)]))
  refine Go.by (fun _ => XS.iand X0.here hx rfl (hb hby at_14) rfl) ?_
  show Go p e below P (s₁.setTop (mkF m 15 #[.val (.int p0), .val (.int p1), .val (.int p2), .val (.int (p1 &&& (2147483647 : Int32))), .val (.int (p2 &&& (2147483647 : Int32))), .unset, .unset, .unset] [(.int (p0 &&& (2147483647 : Int32)))]))
  refine Go.by (fun _ => XS.iconst X0.here hx rfl (hb hby at_15)) ?_
  show Go p e below P (s₁.setTop (mkF m 16 #[.val (.int p0), .val (.int p1), .val (.int p2), .val (.int (p1 &&& (2147483647 : Int32))), .val (.int (p2 &&& (2147483647 : Int32))), .unset, .unset, .unset] [(.int (3 : Int32)), (.int (p0 &&& (2147483647 : Int32)))]))
  refine Go.by (fun _ => iremM X0 hx rfl (hb hby at_16) rfl (by decide)) ?_
  show Go p e below P (s₁.setTop (mkF m 17 #[.val (.int p0), .val (.int p1), .val (.int p2), .val (.int (p1 &&& (2147483647 : Int32))), .val (.int (p2 &&& (2147483647 : Int32))), .unset, .unset, .unset] [(.int ((p0 &&& (2147483647 : Int32)) % (3 : Int32)))]))
  refine Go.by (fun _ => XS.istore X0.here hx rfl (hb hby at_17) rfl (l' := #[.val (.int p0), .val (.int p1), .val (.int p2), .val (.int (p1 &&& (2147483647 : Int32))), .val (.int (p2 &&& (2147483647 : Int32))), .val (.int ((p0 &&& (2147483647 : Int32)) % (3 : Int32))), .unset, .unset]) rfl) ?_
  show Go p e below P (s₁.setTop (mkF m 19 #[.val (.int p0), .val (.int p1), .val (.int p2), .val (.int (p1 &&& (2147483647 : Int32))), .val (.int (p2 &&& (2147483647 : Int32))), .val (.int ((p0 &&& (2147483647 : Int32)) % (3 : Int32))), .unset, .unset] []))
  refine Go.by (fun _ => XS.iload X0.here hx rfl (hb hby at_19) rfl) ?_
  show Go p e below P (s₁.setTop (mkF m 21 #[.val (.int p0), .val (.int p1), .val (.int p2), .val (.int (p1 &&& (2147483647 : Int32))), .val (.int (p2 &&& (2147483647 : Int32))), .val (.int ((p0 &&& (2147483647 : Int32)) % (3 : Int32))), .unset, .unset] [(.int ((p0 &&& (2147483647 : Int32)) % (3 : Int32)))]))
  by_cases hc21_1 : ((p0 &&& (2147483647 : Int32)) % (3 : Int32)) = (0 : Int32)
  · refine Go.by (fun _ => XS.ifNo X0.here hx rfl (hb hby at_21) rfl (XT.i0_ne_f hc21_1)) ?_
    show Go p e below P (s₁.setTop (mkF m 24 #[.val (.int p0), .val (.int p1), .val (.int p2), .val (.int (p1 &&& (2147483647 : Int32))), .val (.int (p2 &&& (2147483647 : Int32))), .val (.int ((p0 &&& (2147483647 : Int32)) % (3 : Int32))), .unset, .unset] []))
    obtain ⟨T2, X2, e2, st2⟩ := getS2 X0 hx hZ hown (host := "") (Or.inl (tw_1 hw)) Via.refl e0 (SaB.ext O0.2) (g := (mkF m 24 #[.val (.int p0), .val (.int p1), .val (.int p2), .val (.int (p1 &&& (2147483647 : Int32))), .val (.int (p2 &&& (2147483647 : Int32))), .val (.int ((p0 &&& (2147483647 : Int32)) % (3 : Int32))), .unset, .unset] [])) rfl (hb hby at_24)
    refine Go.by st2 ?_
    show Go p e below P (T2.setTop (mkF m 27 #[.val (.int p0), .val (.int p1), .val (.int p2), .val (.int (p1 &&& (2147483647 : Int32))), .val (.int (p2 &&& (2147483647 : Int32))), .val (.int ((p0 &&& (2147483647 : Int32)) % (3 : Int32))), .unset, .unset] [(.ref aB)]))
    refine Go.by (fun _ => XS.astore X2.here hx rfl (hb hby at_27) rfl rfl (l' := #[.val (.int p0), .val (.int p1), .val (.int p2), .val (.int (p1 &&& (2147483647 : Int32))), .val (.int (p2 &&& (2147483647 : Int32))), .val (.int ((p0 &&& (2147483647 : Int32)) % (3 : Int32))), .val (.ref aB), .unset]) rfl) ?_
    show Go p e below P (T2.setTop (mkF m 29 #[.val (.int p0), .val (.int p1), .val (.int p2), .val (.int (p1 &&& (2147483647 : Int32))), .val (.int (p2 &&& (2147483647 : Int32))), .val (.int ((p0 &&& (2147483647 : Int32)) % (3 : Int32))), .val (.ref aB), .unset] []))
    refine Go.by (fun _ => XS.iloadN X2.here hx rfl (hb hby at_29) rfl) ?_
    show Go p e below P (T2.setTop (mkF m 30 #[.val (.int p0), .val (.int p1), .val (.int p2), .val (.int (p1 &&& (2147483647 : Int32))), .val (.int (p2 &&& (2147483647 : Int32))), .val (.int ((p0 &&& (2147483647 : Int32)) % (3 : Int32))), .val (.ref aB), .unset] [(.int (p1 &&& (2147483647 : Int32)))]))
    refine Go.by (fun _ => XS.iload X2.here hx rfl (hb hby at_30) rfl) ?_
    show Go p e below P (T2.setTop (mkF m 32 #[.val (.int p0), .val (.int p1), .val (.int p2), .val (.int (p1 &&& (2147483647 : Int32))), .val (.int (p2 &&& (2147483647 : Int32))), .val (.int ((p0 &&& (2147483647 : Int32)) % (3 : Int32))), .val (.ref aB), .unset] [(.int (p2 &&& (2147483647 : Int32))), (.int (p1 &&& (2147483647 : Int32)))]))
    by_cases hc32_3 : (p1 &&& (2147483647 : Int32)) < (p2 &&& (2147483647 : Int32))
    · refine Go.by (fun _ => XS.icmpNo X2.here hx rfl (hb hby at_32) rfl (XT.ii_ge_f hc32_3)) ?_
      show Go p e below P (T2.setTop (mkF m 35 #[.val (.int p0), .val (.int p1), .val (.int p2), .val (.int (p1 &&& (2147483647 : Int32))), .val (.int (p2 &&& (2147483647 : Int32))), .val (.int ((p0 &&& (2147483647 : Int32)) % (3 : Int32))), .val (.ref aB), .unset] []))
      refine Go.by (fun _ => XS.iconst X2.here hx rfl (hb hby at_35)) ?_
      show Go p e below P (T2.setTop (mkF m 36 #[.val (.int p0), .val (.int p1), .val (.int p2), .val (.int (p1 &&& (2147483647 : Int32))), .val (.int (p2 &&& (2147483647 : Int32))), .val (.int ((p0 &&& (2147483647 : Int32)) % (3 : Int32))), .val (.ref aB), .unset] [(.int (1 : Int32))]))
      refine Go.by (fun _ => XS.goto X2.here hx rfl (pc0 := 36) (pc' := 40) rfl (hb hby at_36) (by decide) (by decide)) ?_
      show Go p e below P (T2.setTop (mkF m 40 #[.val (.int p0), .val (.int p1), .val (.int p2), .val (.int (p1 &&& (2147483647 : Int32))), .val (.int (p2 &&& (2147483647 : Int32))), .val (.int ((p0 &&& (2147483647 : Int32)) % (3 : Int32))), .val (.ref aB), .unset] [(.int (1 : Int32))]))
      refine Go.by (fun _ => XS.istore X2.here hx rfl (hb hby at_40) rfl (l' := #[.val (.int p0), .val (.int p1), .val (.int p2), .val (.int (p1 &&& (2147483647 : Int32))), .val (.int (p2 &&& (2147483647 : Int32))), .val (.int ((p0 &&& (2147483647 : Int32)) % (3 : Int32))), .val (.ref aB), .val (.int (1 : Int32))]) rfl) ?_
      show Go p e below P (T2.setTop (mkF m 42 #[.val (.int p0), .val (.int p1), .val (.int p2), .val (.int (p1 &&& (2147483647 : Int32))), .val (.int (p2 &&& (2147483647 : Int32))), .val (.int ((p0 &&& (2147483647 : Int32)) % (3 : Int32))), .val (.ref aB), .val (.int (1 : Int32))] []))
      refine Go.by (fun _ => XS.goto X2.here hx rfl (pc0 := 42) (pc' := 80) rfl (hb hby at_42) (by decide) (by decide)) ?_
      show Go p e below P (T2.setTop (mkF m 80 #[.val (.int p0), .val (.int p1), .val (.int p2), .val (.int (p1 &&& (2147483647 : Int32))), .val (.int (p2 &&& (2147483647 : Int32))), .val (.int ((p0 &&& (2147483647 : Int32)) % (3 : Int32))), .val (.ref aB), .val (.int (1 : Int32))] []))
      refine Go.by (fun _ => XS.aload X2.here hx rfl (hb hby at_80) rfl rfl) ?_
      show Go p e below P (T2.setTop (mkF m 82 #[.val (.int p0), .val (.int p1), .val (.int p2), .val (.int (p1 &&& (2147483647 : Int32))), .val (.int (p2 &&& (2147483647 : Int32))), .val (.int ((p0 &&& (2147483647 : Int32)) % (3 : Int32))), .val (.ref aB), .val (.int (1 : Int32))] [(.ref aB)]))
      refine Go.by (fun _ => XS.iloadN X2.here hx rfl (hb hby at_82) rfl) ?_
      show Go p e below P (T2.setTop (mkF m 83 #[.val (.int p0), .val (.int p1), .val (.int p2), .val (.int (p1 &&& (2147483647 : Int32))), .val (.int (p2 &&& (2147483647 : Int32))), .val (.int ((p0 &&& (2147483647 : Int32)) % (3 : Int32))), .val (.ref aB), .val (.int (1 : Int32))] [(.int (p1 &&& (2147483647 : Int32))), (.ref aB)]))
      refine Go.by (fun _ => XS.iload X2.here hx rfl (hb hby at_83) rfl) ?_
      show Go p e below P (T2.setTop (mkF m 85 #[.val (.int p0), .val (.int p1), .val (.int p2), .val (.int (p1 &&& (2147483647 : Int32))), .val (.int (p2 &&& (2147483647 : Int32))), .val (.int ((p0 &&& (2147483647 : Int32)) % (3 : Int32))), .val (.ref aB), .val (.int (1 : Int32))] [(.int (p2 &&& (2147483647 : Int32))), (.int (p1 &&& (2147483647 : Int32))), (.ref aB)]))
      obtain ⟨cq4, kq4, q4a, q4b, q4c⟩ := isOf hZ e2 (Exa.ext O0.2 EaB)
      obtain ⟨_, _, ⟨T4, L4, k4, n4⟩, -, X4, ⟨Lc4, hQ4, l4, y4, z4⟩, st4⟩ := X2.virtualBack hx (y := (⟨"com/example/rotaflow/rotaflow/rotation/Rule", "prefers", "(II)Z"⟩ : MethodName)) (z := (⟨"com/example/rotaflow/rotaflow/rotation/Rule", "prefers", "(II)Z"⟩ : MethodName)) hown (mvT hZ (tw_4 hw)) (mvT hZ (tw_5 hw)) (notFace_of_selects (args := #[]) (mvT hZ (tw_7 hw))) (mvT hZ (tw_7 hw)) (mvT hZ (tw_6 hw)) (by decide) (backOf (W := 0) (rm_prefers l Z a0 hw [] aB (p1 &&& (2147483647 : Int32)) (p2 &&& (2147483647 : Int32)) (-1 : Int32) h0 n0 Z0 (Fld.ext O0.2 FaB)) hZ (tw_8 hw) (tw_2 hw) (by decide) (by decide)) q4a q4c (g := (mkF m 85 #[.val (.int p0), .val (.int p1), .val (.int p2), .val (.int (p1 &&& (2147483647 : Int32))), .val (.int (p2 &&& (2147483647 : Int32))), .val (.int ((p0 &&& (2147483647 : Int32)) % (3 : Int32))), .val (.ref aB), .val (.int (1 : Int32))] [(.int (p2 &&& (2147483647 : Int32))), (.int (p1 &&& (2147483647 : Int32))), (.ref aB)])) rfl (by rw [hml]; rfl) (Steps.refl _) (argsL := [(.int (p1 &&& (2147483647 : Int32))), (.int (p2 &&& (2147483647 : Int32)))]) (rest := []) (lenOf pd__II_Z rfl) rfl (by show 2 * 0 + _ ≤ _; exact Nat.le_of_eq rfl) (hb hby at_85) (fun _ _ => ⟨rfl, e2, (by decide : 0 + 0 ≤ _), (by decide : 0 + 0 ≤ _)⟩)
      dsimp only [Pt.U, Pt.locs, Pt.cells, Pt.slots] at X4 l4 y4 z4 st4 hQ4
      subst l4 y4 z4
      obtain ⟨rfl, N4q, e4⟩ := hQ4
      have N4 := Fr.app N0 N4q
      refine Go.by (fun t k => st4.trans k) ?_
      show Go p e below P (T4.setTop (mkF m 88 #[.val (.int p0), .val (.int p1), .val (.int p2), .val (.int (p1 &&& (2147483647 : Int32))), .val (.int (p2 &&& (2147483647 : Int32))), .val (.int ((p0 &&& (2147483647 : Int32)) % (3 : Int32))), .val (.ref aB), .val (.int (1 : Int32))] [(.int (if (-1 : Int32) * (p2 &&& (2147483647 : Int32)) < (-1 : Int32) * (p1 &&& (2147483647 : Int32)) then (1 : Int32) else 0))]))
      refine Go.by (fun _ => XS.iload X4.here hx rfl (hb hby at_88) rfl) ?_
      show Go p e below P (T4.setTop (mkF m 90 #[.val (.int p0), .val (.int p1), .val (.int p2), .val (.int (p1 &&& (2147483647 : Int32))), .val (.int (p2 &&& (2147483647 : Int32))), .val (.int ((p0 &&& (2147483647 : Int32)) % (3 : Int32))), .val (.ref aB), .val (.int (1 : Int32))] [(.int (1 : Int32)), (.int (if (-1 : Int32) * (p2 &&& (2147483647 : Int32)) < (-1 : Int32) * (p1 &&& (2147483647 : Int32)) then (1 : Int32) else 0))]))
      refine Go.by (fun _ => XS.icmpNo X4.here hx rfl (hb hby at_90) rfl (XT.ii_ne_f (if_pos (own_bal.mpr hc32_3)))) ?_
      show Go p e below P (T4.setTop (mkF m 93 #[.val (.int p0), .val (.int p1), .val (.int p2), .val (.int (p1 &&& (2147483647 : Int32))), .val (.int (p2 &&& (2147483647 : Int32))), .val (.int ((p0 &&& (2147483647 : Int32)) % (3 : Int32))), .val (.ref aB), .val (.int (1 : Int32))] []))
      refine Go.by (fun _ => XS.iconst X4.here hx rfl (hb hby at_93)) ?_
      show Go p e below P (T4.setTop (mkF m 94 #[.val (.int p0), .val (.int p1), .val (.int p2), .val (.int (p1 &&& (2147483647 : Int32))), .val (.int (p2 &&& (2147483647 : Int32))), .val (.int ((p0 &&& (2147483647 : Int32)) % (3 : Int32))), .val (.ref aB), .val (.int (1 : Int32))] [(.int (1 : Int32))]))
      refine Go.by (fun _ => XS.goto X4.here hx rfl (pc0 := 94) (pc' := 98) rfl (hb hby at_94) (by decide) (by decide)) ?_
      show Go p e below P (T4.setTop (mkF m 98 #[.val (.int p0), .val (.int p1), .val (.int p2), .val (.int (p1 &&& (2147483647 : Int32))), .val (.int (p2 &&& (2147483647 : Int32))), .val (.int ((p0 &&& (2147483647 : Int32)) % (3 : Int32))), .val (.ref aB), .val (.int (1 : Int32))] [(.int (1 : Int32))]))
      refine fin X4 (v := some (.int (1 : Int32))) (fun h => by rw [Bd.returns] at h; cases h) (by decide) (by decide) ?_ (fun fs hr => retOut X4 hx Bd.returns rfl (Or.inl ⟨rfl, Or.inr (Or.inl rfl), _, rfl⟩) (hb hby at_98) hr)
      show Q_law Z p0 p1 p2 aB aS aP h0 n0 _ T4.heap _
      rw [e4]
      exact ⟨rfl, N4⟩
    · refine Go.by (fun _ => XS.icmpYes X2.here hx rfl (pc0 := 32) (pc' := 39) rfl (hb hby at_32) rfl (XT.ii_ge_t hc32_3) (by decide) (by decide)) ?_
      show Go p e below P (T2.setTop (mkF m 39 #[.val (.int p0), .val (.int p1), .val (.int p2), .val (.int (p1 &&& (2147483647 : Int32))), .val (.int (p2 &&& (2147483647 : Int32))), .val (.int ((p0 &&& (2147483647 : Int32)) % (3 : Int32))), .val (.ref aB), .unset] []))
      refine Go.by (fun _ => XS.iconst X2.here hx rfl (hb hby at_39)) ?_
      show Go p e below P (T2.setTop (mkF m 40 #[.val (.int p0), .val (.int p1), .val (.int p2), .val (.int (p1 &&& (2147483647 : Int32))), .val (.int (p2 &&& (2147483647 : Int32))), .val (.int ((p0 &&& (2147483647 : Int32)) % (3 : Int32))), .val (.ref aB), .unset] [(.int (0 : Int32))]))
      refine Go.by (fun _ => XS.istore X2.here hx rfl (hb hby at_40) rfl (l' := #[.val (.int p0), .val (.int p1), .val (.int p2), .val (.int (p1 &&& (2147483647 : Int32))), .val (.int (p2 &&& (2147483647 : Int32))), .val (.int ((p0 &&& (2147483647 : Int32)) % (3 : Int32))), .val (.ref aB), .val (.int (0 : Int32))]) rfl) ?_
      show Go p e below P (T2.setTop (mkF m 42 #[.val (.int p0), .val (.int p1), .val (.int p2), .val (.int (p1 &&& (2147483647 : Int32))), .val (.int (p2 &&& (2147483647 : Int32))), .val (.int ((p0 &&& (2147483647 : Int32)) % (3 : Int32))), .val (.ref aB), .val (.int (0 : Int32))] []))
      refine Go.by (fun _ => XS.goto X2.here hx rfl (pc0 := 42) (pc' := 80) rfl (hb hby at_42) (by decide) (by decide)) ?_
      show Go p e below P (T2.setTop (mkF m 80 #[.val (.int p0), .val (.int p1), .val (.int p2), .val (.int (p1 &&& (2147483647 : Int32))), .val (.int (p2 &&& (2147483647 : Int32))), .val (.int ((p0 &&& (2147483647 : Int32)) % (3 : Int32))), .val (.ref aB), .val (.int (0 : Int32))] []))
      refine Go.by (fun _ => XS.aload X2.here hx rfl (hb hby at_80) rfl rfl) ?_
      show Go p e below P (T2.setTop (mkF m 82 #[.val (.int p0), .val (.int p1), .val (.int p2), .val (.int (p1 &&& (2147483647 : Int32))), .val (.int (p2 &&& (2147483647 : Int32))), .val (.int ((p0 &&& (2147483647 : Int32)) % (3 : Int32))), .val (.ref aB), .val (.int (0 : Int32))] [(.ref aB)]))
      refine Go.by (fun _ => XS.iloadN X2.here hx rfl (hb hby at_82) rfl) ?_
      show Go p e below P (T2.setTop (mkF m 83 #[.val (.int p0), .val (.int p1), .val (.int p2), .val (.int (p1 &&& (2147483647 : Int32))), .val (.int (p2 &&& (2147483647 : Int32))), .val (.int ((p0 &&& (2147483647 : Int32)) % (3 : Int32))), .val (.ref aB), .val (.int (0 : Int32))] [(.int (p1 &&& (2147483647 : Int32))), (.ref aB)]))
      refine Go.by (fun _ => XS.iload X2.here hx rfl (hb hby at_83) rfl) ?_
      show Go p e below P (T2.setTop (mkF m 85 #[.val (.int p0), .val (.int p1), .val (.int p2), .val (.int (p1 &&& (2147483647 : Int32))), .val (.int (p2 &&& (2147483647 : Int32))), .val (.int ((p0 &&& (2147483647 : Int32)) % (3 : Int32))), .val (.ref aB), .val (.int (0 : Int32))] [(.int (p2 &&& (2147483647 : Int32))), (.int (p1 &&& (2147483647 : Int32))), (.ref aB)]))
      obtain ⟨cq5, kq5, q5a, q5b, q5c⟩ := isOf hZ e2 (Exa.ext O0.2 EaB)
      obtain ⟨_, _, ⟨T5, L5, k5, n5⟩, -, X5, ⟨Lc5, hQ5, l5, y5, z5⟩, st5⟩ := X2.virtualBack hx (y := (⟨"com/example/rotaflow/rotaflow/rotation/Rule", "prefers", "(II)Z"⟩ : MethodName)) (z := (⟨"com/example/rotaflow/rotaflow/rotation/Rule", "prefers", "(II)Z"⟩ : MethodName)) hown (mvT hZ (tw_4 hw)) (mvT hZ (tw_5 hw)) (notFace_of_selects (args := #[]) (mvT hZ (tw_7 hw))) (mvT hZ (tw_7 hw)) (mvT hZ (tw_6 hw)) (by decide) (backOf (W := 0) (rm_prefers l Z a0 hw [] aB (p1 &&& (2147483647 : Int32)) (p2 &&& (2147483647 : Int32)) (-1 : Int32) h0 n0 Z0 (Fld.ext O0.2 FaB)) hZ (tw_8 hw) (tw_2 hw) (by decide) (by decide)) q5a q5c (g := (mkF m 85 #[.val (.int p0), .val (.int p1), .val (.int p2), .val (.int (p1 &&& (2147483647 : Int32))), .val (.int (p2 &&& (2147483647 : Int32))), .val (.int ((p0 &&& (2147483647 : Int32)) % (3 : Int32))), .val (.ref aB), .val (.int (0 : Int32))] [(.int (p2 &&& (2147483647 : Int32))), (.int (p1 &&& (2147483647 : Int32))), (.ref aB)])) rfl (by rw [hml]; rfl) (Steps.refl _) (argsL := [(.int (p1 &&& (2147483647 : Int32))), (.int (p2 &&& (2147483647 : Int32)))]) (rest := []) (lenOf pd__II_Z rfl) rfl (by show 2 * 0 + _ ≤ _; exact Nat.le_of_eq rfl) (hb hby at_85) (fun _ _ => ⟨rfl, e2, (by decide : 0 + 0 ≤ _), (by decide : 0 + 0 ≤ _)⟩)
      dsimp only [Pt.U, Pt.locs, Pt.cells, Pt.slots] at X5 l5 y5 z5 st5 hQ5
      subst l5 y5 z5
      obtain ⟨rfl, N5q, e5⟩ := hQ5
      have N5 := Fr.app N0 N5q
      refine Go.by (fun t k => st5.trans k) ?_
      show Go p e below P (T5.setTop (mkF m 88 #[.val (.int p0), .val (.int p1), .val (.int p2), .val (.int (p1 &&& (2147483647 : Int32))), .val (.int (p2 &&& (2147483647 : Int32))), .val (.int ((p0 &&& (2147483647 : Int32)) % (3 : Int32))), .val (.ref aB), .val (.int (0 : Int32))] [(.int (if (-1 : Int32) * (p2 &&& (2147483647 : Int32)) < (-1 : Int32) * (p1 &&& (2147483647 : Int32)) then (1 : Int32) else 0))]))
      refine Go.by (fun _ => XS.iload X5.here hx rfl (hb hby at_88) rfl) ?_
      show Go p e below P (T5.setTop (mkF m 90 #[.val (.int p0), .val (.int p1), .val (.int p2), .val (.int (p1 &&& (2147483647 : Int32))), .val (.int (p2 &&& (2147483647 : Int32))), .val (.int ((p0 &&& (2147483647 : Int32)) % (3 : Int32))), .val (.ref aB), .val (.int (0 : Int32))] [(.int (0 : Int32)), (.int (if (-1 : Int32) * (p2 &&& (2147483647 : Int32)) < (-1 : Int32) * (p1 &&& (2147483647 : Int32)) then (1 : Int32) else 0))]))
      refine Go.by (fun _ => XS.icmpNo X5.here hx rfl (hb hby at_90) rfl (XT.ii_ne_f (if_neg (fun q => hc32_3 (own_bal.mp q))))) ?_
      show Go p e below P (T5.setTop (mkF m 93 #[.val (.int p0), .val (.int p1), .val (.int p2), .val (.int (p1 &&& (2147483647 : Int32))), .val (.int (p2 &&& (2147483647 : Int32))), .val (.int ((p0 &&& (2147483647 : Int32)) % (3 : Int32))), .val (.ref aB), .val (.int (0 : Int32))] []))
      refine Go.by (fun _ => XS.iconst X5.here hx rfl (hb hby at_93)) ?_
      show Go p e below P (T5.setTop (mkF m 94 #[.val (.int p0), .val (.int p1), .val (.int p2), .val (.int (p1 &&& (2147483647 : Int32))), .val (.int (p2 &&& (2147483647 : Int32))), .val (.int ((p0 &&& (2147483647 : Int32)) % (3 : Int32))), .val (.ref aB), .val (.int (0 : Int32))] [(.int (1 : Int32))]))
      refine Go.by (fun _ => XS.goto X5.here hx rfl (pc0 := 94) (pc' := 98) rfl (hb hby at_94) (by decide) (by decide)) ?_
      show Go p e below P (T5.setTop (mkF m 98 #[.val (.int p0), .val (.int p1), .val (.int p2), .val (.int (p1 &&& (2147483647 : Int32))), .val (.int (p2 &&& (2147483647 : Int32))), .val (.int ((p0 &&& (2147483647 : Int32)) % (3 : Int32))), .val (.ref aB), .val (.int (0 : Int32))] [(.int (1 : Int32))]))
      refine fin X5 (v := some (.int (1 : Int32))) (fun h => by rw [Bd.returns] at h; cases h) (by decide) (by decide) ?_ (fun fs hr => retOut X5 hx Bd.returns rfl (Or.inl ⟨rfl, Or.inr (Or.inl rfl), _, rfl⟩) (hb hby at_98) hr)
      show Q_law Z p0 p1 p2 aB aS aP h0 n0 _ T5.heap _
      rw [e5]
      exact ⟨rfl, N5⟩
  · refine Go.by (fun _ => XS.ifYes X0.here hx rfl (pc0 := 21) (pc' := 45) rfl (hb hby at_21) rfl (XT.i0_ne_t hc21_1) (by decide) (by decide)) ?_
    show Go p e below P (s₁.setTop (mkF m 45 #[.val (.int p0), .val (.int p1), .val (.int p2), .val (.int (p1 &&& (2147483647 : Int32))), .val (.int (p2 &&& (2147483647 : Int32))), .val (.int ((p0 &&& (2147483647 : Int32)) % (3 : Int32))), .unset, .unset] []))
    refine Go.by (fun _ => XS.iload X0.here hx rfl (hb hby at_45) rfl) ?_
    show Go p e below P (s₁.setTop (mkF m 47 #[.val (.int p0), .val (.int p1), .val (.int p2), .val (.int (p1 &&& (2147483647 : Int32))), .val (.int (p2 &&& (2147483647 : Int32))), .val (.int ((p0 &&& (2147483647 : Int32)) % (3 : Int32))), .unset, .unset] [(.int ((p0 &&& (2147483647 : Int32)) % (3 : Int32)))]))
    refine Go.by (fun _ => XS.iconst X0.here hx rfl (hb hby at_47)) ?_
    show Go p e below P (s₁.setTop (mkF m 48 #[.val (.int p0), .val (.int p1), .val (.int p2), .val (.int (p1 &&& (2147483647 : Int32))), .val (.int (p2 &&& (2147483647 : Int32))), .val (.int ((p0 &&& (2147483647 : Int32)) % (3 : Int32))), .unset, .unset] [(.int (1 : Int32)), (.int ((p0 &&& (2147483647 : Int32)) % (3 : Int32)))]))
    by_cases hc48_6 : ((p0 &&& (2147483647 : Int32)) % (3 : Int32)) = (1 : Int32)
    · refine Go.by (fun _ => XS.icmpNo X0.here hx rfl (hb hby at_48) rfl (XT.ii_ne_f hc48_6)) ?_
      show Go p e below P (s₁.setTop (mkF m 51 #[.val (.int p0), .val (.int p1), .val (.int p2), .val (.int (p1 &&& (2147483647 : Int32))), .val (.int (p2 &&& (2147483647 : Int32))), .val (.int ((p0 &&& (2147483647 : Int32)) % (3 : Int32))), .unset, .unset] []))
      obtain ⟨T7, X7, e7, st7⟩ := getS2 X0 hx hZ hown (host := "") (Or.inl (tw_11 hw)) Via.refl e0 (SaS.ext O0.2) (g := (mkF m 51 #[.val (.int p0), .val (.int p1), .val (.int p2), .val (.int (p1 &&& (2147483647 : Int32))), .val (.int (p2 &&& (2147483647 : Int32))), .val (.int ((p0 &&& (2147483647 : Int32)) % (3 : Int32))), .unset, .unset] [])) rfl (hb hby at_51)
      refine Go.by st7 ?_
      show Go p e below P (T7.setTop (mkF m 54 #[.val (.int p0), .val (.int p1), .val (.int p2), .val (.int (p1 &&& (2147483647 : Int32))), .val (.int (p2 &&& (2147483647 : Int32))), .val (.int ((p0 &&& (2147483647 : Int32)) % (3 : Int32))), .unset, .unset] [(.ref aS)]))
      refine Go.by (fun _ => XS.astore X7.here hx rfl (hb hby at_54) rfl rfl (l' := #[.val (.int p0), .val (.int p1), .val (.int p2), .val (.int (p1 &&& (2147483647 : Int32))), .val (.int (p2 &&& (2147483647 : Int32))), .val (.int ((p0 &&& (2147483647 : Int32)) % (3 : Int32))), .val (.ref aS), .unset]) rfl) ?_
      show Go p e below P (T7.setTop (mkF m 56 #[.val (.int p0), .val (.int p1), .val (.int p2), .val (.int (p1 &&& (2147483647 : Int32))), .val (.int (p2 &&& (2147483647 : Int32))), .val (.int ((p0 &&& (2147483647 : Int32)) % (3 : Int32))), .val (.ref aS), .unset] []))
      refine Go.by (fun _ => XS.iconst X7.here hx rfl (hb hby at_56)) ?_
      show Go p e below P (T7.setTop (mkF m 57 #[.val (.int p0), .val (.int p1), .val (.int p2), .val (.int (p1 &&& (2147483647 : Int32))), .val (.int (p2 &&& (2147483647 : Int32))), .val (.int ((p0 &&& (2147483647 : Int32)) % (3 : Int32))), .val (.ref aS), .unset] [(.int (0 : Int32))]))
      refine Go.by (fun _ => XS.istore X7.here hx rfl (hb hby at_57) rfl (l' := #[.val (.int p0), .val (.int p1), .val (.int p2), .val (.int (p1 &&& (2147483647 : Int32))), .val (.int (p2 &&& (2147483647 : Int32))), .val (.int ((p0 &&& (2147483647 : Int32)) % (3 : Int32))), .val (.ref aS), .val (.int (0 : Int32))]) rfl) ?_
      show Go p e below P (T7.setTop (mkF m 59 #[.val (.int p0), .val (.int p1), .val (.int p2), .val (.int (p1 &&& (2147483647 : Int32))), .val (.int (p2 &&& (2147483647 : Int32))), .val (.int ((p0 &&& (2147483647 : Int32)) % (3 : Int32))), .val (.ref aS), .val (.int (0 : Int32))] []))
      refine Go.by (fun _ => XS.goto X7.here hx rfl (pc0 := 59) (pc' := 80) rfl (hb hby at_59) (by decide) (by decide)) ?_
      show Go p e below P (T7.setTop (mkF m 80 #[.val (.int p0), .val (.int p1), .val (.int p2), .val (.int (p1 &&& (2147483647 : Int32))), .val (.int (p2 &&& (2147483647 : Int32))), .val (.int ((p0 &&& (2147483647 : Int32)) % (3 : Int32))), .val (.ref aS), .val (.int (0 : Int32))] []))
      refine Go.by (fun _ => XS.aload X7.here hx rfl (hb hby at_80) rfl rfl) ?_
      show Go p e below P (T7.setTop (mkF m 82 #[.val (.int p0), .val (.int p1), .val (.int p2), .val (.int (p1 &&& (2147483647 : Int32))), .val (.int (p2 &&& (2147483647 : Int32))), .val (.int ((p0 &&& (2147483647 : Int32)) % (3 : Int32))), .val (.ref aS), .val (.int (0 : Int32))] [(.ref aS)]))
      refine Go.by (fun _ => XS.iloadN X7.here hx rfl (hb hby at_82) rfl) ?_
      show Go p e below P (T7.setTop (mkF m 83 #[.val (.int p0), .val (.int p1), .val (.int p2), .val (.int (p1 &&& (2147483647 : Int32))), .val (.int (p2 &&& (2147483647 : Int32))), .val (.int ((p0 &&& (2147483647 : Int32)) % (3 : Int32))), .val (.ref aS), .val (.int (0 : Int32))] [(.int (p1 &&& (2147483647 : Int32))), (.ref aS)]))
      refine Go.by (fun _ => XS.iload X7.here hx rfl (hb hby at_83) rfl) ?_
      show Go p e below P (T7.setTop (mkF m 85 #[.val (.int p0), .val (.int p1), .val (.int p2), .val (.int (p1 &&& (2147483647 : Int32))), .val (.int (p2 &&& (2147483647 : Int32))), .val (.int ((p0 &&& (2147483647 : Int32)) % (3 : Int32))), .val (.ref aS), .val (.int (0 : Int32))] [(.int (p2 &&& (2147483647 : Int32))), (.int (p1 &&& (2147483647 : Int32))), (.ref aS)]))
      obtain ⟨cq8, kq8, q8a, q8b, q8c⟩ := isOf hZ e7 (Exa.ext O0.2 EaS)
      obtain ⟨_, _, ⟨T8, L8, k8, n8⟩, -, X8, ⟨Lc8, hQ8, l8, y8, z8⟩, st8⟩ := X7.virtualBack hx (y := (⟨"com/example/rotaflow/rotaflow/rotation/Rule", "prefers", "(II)Z"⟩ : MethodName)) (z := (⟨"com/example/rotaflow/rotaflow/rotation/Rule", "prefers", "(II)Z"⟩ : MethodName)) hown (mvT hZ (tw_4 hw)) (mvT hZ (tw_5 hw)) (notFace_of_selects (args := #[]) (mvT hZ (tw_7 hw))) (mvT hZ (tw_7 hw)) (mvT hZ (tw_6 hw)) (by decide) (backOf (W := 0) (rm_prefers l Z a0 hw [] aS (p1 &&& (2147483647 : Int32)) (p2 &&& (2147483647 : Int32)) (0 : Int32) h0 n0 Z0 (Fld.ext O0.2 FaS)) hZ (tw_8 hw) (tw_2 hw) (by decide) (by decide)) q8a q8c (g := (mkF m 85 #[.val (.int p0), .val (.int p1), .val (.int p2), .val (.int (p1 &&& (2147483647 : Int32))), .val (.int (p2 &&& (2147483647 : Int32))), .val (.int ((p0 &&& (2147483647 : Int32)) % (3 : Int32))), .val (.ref aS), .val (.int (0 : Int32))] [(.int (p2 &&& (2147483647 : Int32))), (.int (p1 &&& (2147483647 : Int32))), (.ref aS)])) rfl (by rw [hml]; rfl) (Steps.refl _) (argsL := [(.int (p1 &&& (2147483647 : Int32))), (.int (p2 &&& (2147483647 : Int32)))]) (rest := []) (lenOf pd__II_Z rfl) rfl (by show 2 * 0 + _ ≤ _; exact Nat.le_of_eq rfl) (hb hby at_85) (fun _ _ => ⟨rfl, e7, (by decide : 0 + 0 ≤ _), (by decide : 0 + 0 ≤ _)⟩)
      dsimp only [Pt.U, Pt.locs, Pt.cells, Pt.slots] at X8 l8 y8 z8 st8 hQ8
      subst l8 y8 z8
      obtain ⟨rfl, N8q, e8⟩ := hQ8
      have N8 := Fr.app N0 N8q
      refine Go.by (fun t k => st8.trans k) ?_
      show Go p e below P (T8.setTop (mkF m 88 #[.val (.int p0), .val (.int p1), .val (.int p2), .val (.int (p1 &&& (2147483647 : Int32))), .val (.int (p2 &&& (2147483647 : Int32))), .val (.int ((p0 &&& (2147483647 : Int32)) % (3 : Int32))), .val (.ref aS), .val (.int (0 : Int32))] [(.int (if (0 : Int32) * (p2 &&& (2147483647 : Int32)) < (0 : Int32) * (p1 &&& (2147483647 : Int32)) then (1 : Int32) else 0))]))
      refine Go.by (fun _ => XS.iload X8.here hx rfl (hb hby at_88) rfl) ?_
      show Go p e below P (T8.setTop (mkF m 90 #[.val (.int p0), .val (.int p1), .val (.int p2), .val (.int (p1 &&& (2147483647 : Int32))), .val (.int (p2 &&& (2147483647 : Int32))), .val (.int ((p0 &&& (2147483647 : Int32)) % (3 : Int32))), .val (.ref aS), .val (.int (0 : Int32))] [(.int (0 : Int32)), (.int (if (0 : Int32) * (p2 &&& (2147483647 : Int32)) < (0 : Int32) * (p1 &&& (2147483647 : Int32)) then (1 : Int32) else 0))]))
      refine Go.by (fun _ => XS.icmpNo X8.here hx rfl (hb hby at_90) rfl (XT.ii_ne_f (if_neg own_sim))) ?_
      show Go p e below P (T8.setTop (mkF m 93 #[.val (.int p0), .val (.int p1), .val (.int p2), .val (.int (p1 &&& (2147483647 : Int32))), .val (.int (p2 &&& (2147483647 : Int32))), .val (.int ((p0 &&& (2147483647 : Int32)) % (3 : Int32))), .val (.ref aS), .val (.int (0 : Int32))] []))
      refine Go.by (fun _ => XS.iconst X8.here hx rfl (hb hby at_93)) ?_
      show Go p e below P (T8.setTop (mkF m 94 #[.val (.int p0), .val (.int p1), .val (.int p2), .val (.int (p1 &&& (2147483647 : Int32))), .val (.int (p2 &&& (2147483647 : Int32))), .val (.int ((p0 &&& (2147483647 : Int32)) % (3 : Int32))), .val (.ref aS), .val (.int (0 : Int32))] [(.int (1 : Int32))]))
      refine Go.by (fun _ => XS.goto X8.here hx rfl (pc0 := 94) (pc' := 98) rfl (hb hby at_94) (by decide) (by decide)) ?_
      show Go p e below P (T8.setTop (mkF m 98 #[.val (.int p0), .val (.int p1), .val (.int p2), .val (.int (p1 &&& (2147483647 : Int32))), .val (.int (p2 &&& (2147483647 : Int32))), .val (.int ((p0 &&& (2147483647 : Int32)) % (3 : Int32))), .val (.ref aS), .val (.int (0 : Int32))] [(.int (1 : Int32))]))
      refine fin X8 (v := some (.int (1 : Int32))) (fun h => by rw [Bd.returns] at h; cases h) (by decide) (by decide) ?_ (fun fs hr => retOut X8 hx Bd.returns rfl (Or.inl ⟨rfl, Or.inr (Or.inl rfl), _, rfl⟩) (hb hby at_98) hr)
      show Q_law Z p0 p1 p2 aB aS aP h0 n0 _ T8.heap _
      rw [e8]
      exact ⟨rfl, N8⟩
    · refine Go.by (fun _ => XS.icmpYes X0.here hx rfl (pc0 := 48) (pc' := 62) rfl (hb hby at_48) rfl (XT.ii_ne_t hc48_6) (by decide) (by decide)) ?_
      show Go p e below P (s₁.setTop (mkF m 62 #[.val (.int p0), .val (.int p1), .val (.int p2), .val (.int (p1 &&& (2147483647 : Int32))), .val (.int (p2 &&& (2147483647 : Int32))), .val (.int ((p0 &&& (2147483647 : Int32)) % (3 : Int32))), .unset, .unset] []))
      obtain ⟨T9, X9, e9, st9⟩ := getS2 X0 hx hZ hown (host := "") (Or.inl (tw_13 hw)) Via.refl e0 (SaP.ext O0.2) (g := (mkF m 62 #[.val (.int p0), .val (.int p1), .val (.int p2), .val (.int (p1 &&& (2147483647 : Int32))), .val (.int (p2 &&& (2147483647 : Int32))), .val (.int ((p0 &&& (2147483647 : Int32)) % (3 : Int32))), .unset, .unset] [])) rfl (hb hby at_62)
      refine Go.by st9 ?_
      show Go p e below P (T9.setTop (mkF m 65 #[.val (.int p0), .val (.int p1), .val (.int p2), .val (.int (p1 &&& (2147483647 : Int32))), .val (.int (p2 &&& (2147483647 : Int32))), .val (.int ((p0 &&& (2147483647 : Int32)) % (3 : Int32))), .unset, .unset] [(.ref aP)]))
      refine Go.by (fun _ => XS.astore X9.here hx rfl (hb hby at_65) rfl rfl (l' := #[.val (.int p0), .val (.int p1), .val (.int p2), .val (.int (p1 &&& (2147483647 : Int32))), .val (.int (p2 &&& (2147483647 : Int32))), .val (.int ((p0 &&& (2147483647 : Int32)) % (3 : Int32))), .val (.ref aP), .unset]) rfl) ?_
      show Go p e below P (T9.setTop (mkF m 67 #[.val (.int p0), .val (.int p1), .val (.int p2), .val (.int (p1 &&& (2147483647 : Int32))), .val (.int (p2 &&& (2147483647 : Int32))), .val (.int ((p0 &&& (2147483647 : Int32)) % (3 : Int32))), .val (.ref aP), .unset] []))
      refine Go.by (fun _ => XS.iloadN X9.here hx rfl (hb hby at_67) rfl) ?_
      show Go p e below P (T9.setTop (mkF m 68 #[.val (.int p0), .val (.int p1), .val (.int p2), .val (.int (p1 &&& (2147483647 : Int32))), .val (.int (p2 &&& (2147483647 : Int32))), .val (.int ((p0 &&& (2147483647 : Int32)) % (3 : Int32))), .val (.ref aP), .unset] [(.int (p1 &&& (2147483647 : Int32)))]))
      refine Go.by (fun _ => XS.iload X9.here hx rfl (hb hby at_68) rfl) ?_
      show Go p e below P (T9.setTop (mkF m 70 #[.val (.int p0), .val (.int p1), .val (.int p2), .val (.int (p1 &&& (2147483647 : Int32))), .val (.int (p2 &&& (2147483647 : Int32))), .val (.int ((p0 &&& (2147483647 : Int32)) % (3 : Int32))), .val (.ref aP), .unset] [(.int (p2 &&& (2147483647 : Int32))), (.int (p1 &&& (2147483647 : Int32)))]))
      by_cases hc70_10 : (p2 &&& (2147483647 : Int32)) < (p1 &&& (2147483647 : Int32))
      · refine Go.by (fun _ => XS.icmpNo X9.here hx rfl (hb hby at_70) rfl (XT.ii_le_f hc70_10)) ?_
        show Go p e below P (T9.setTop (mkF m 73 #[.val (.int p0), .val (.int p1), .val (.int p2), .val (.int (p1 &&& (2147483647 : Int32))), .val (.int (p2 &&& (2147483647 : Int32))), .val (.int ((p0 &&& (2147483647 : Int32)) % (3 : Int32))), .val (.ref aP), .unset] []))
        refine Go.by (fun _ => XS.iconst X9.here hx rfl (hb hby at_73)) ?_
        show Go p e below P (T9.setTop (mkF m 74 #[.val (.int p0), .val (.int p1), .val (.int p2), .val (.int (p1 &&& (2147483647 : Int32))), .val (.int (p2 &&& (2147483647 : Int32))), .val (.int ((p0 &&& (2147483647 : Int32)) % (3 : Int32))), .val (.ref aP), .unset] [(.int (1 : Int32))]))
        refine Go.by (fun _ => XS.goto X9.here hx rfl (pc0 := 74) (pc' := 78) rfl (hb hby at_74) (by decide) (by decide)) ?_
        show Go p e below P (T9.setTop (mkF m 78 #[.val (.int p0), .val (.int p1), .val (.int p2), .val (.int (p1 &&& (2147483647 : Int32))), .val (.int (p2 &&& (2147483647 : Int32))), .val (.int ((p0 &&& (2147483647 : Int32)) % (3 : Int32))), .val (.ref aP), .unset] [(.int (1 : Int32))]))
        refine Go.by (fun _ => XS.istore X9.here hx rfl (hb hby at_78) rfl (l' := #[.val (.int p0), .val (.int p1), .val (.int p2), .val (.int (p1 &&& (2147483647 : Int32))), .val (.int (p2 &&& (2147483647 : Int32))), .val (.int ((p0 &&& (2147483647 : Int32)) % (3 : Int32))), .val (.ref aP), .val (.int (1 : Int32))]) rfl) ?_
        show Go p e below P (T9.setTop (mkF m 80 #[.val (.int p0), .val (.int p1), .val (.int p2), .val (.int (p1 &&& (2147483647 : Int32))), .val (.int (p2 &&& (2147483647 : Int32))), .val (.int ((p0 &&& (2147483647 : Int32)) % (3 : Int32))), .val (.ref aP), .val (.int (1 : Int32))] []))
        refine Go.by (fun _ => XS.aload X9.here hx rfl (hb hby at_80) rfl rfl) ?_
        show Go p e below P (T9.setTop (mkF m 82 #[.val (.int p0), .val (.int p1), .val (.int p2), .val (.int (p1 &&& (2147483647 : Int32))), .val (.int (p2 &&& (2147483647 : Int32))), .val (.int ((p0 &&& (2147483647 : Int32)) % (3 : Int32))), .val (.ref aP), .val (.int (1 : Int32))] [(.ref aP)]))
        refine Go.by (fun _ => XS.iloadN X9.here hx rfl (hb hby at_82) rfl) ?_
        show Go p e below P (T9.setTop (mkF m 83 #[.val (.int p0), .val (.int p1), .val (.int p2), .val (.int (p1 &&& (2147483647 : Int32))), .val (.int (p2 &&& (2147483647 : Int32))), .val (.int ((p0 &&& (2147483647 : Int32)) % (3 : Int32))), .val (.ref aP), .val (.int (1 : Int32))] [(.int (p1 &&& (2147483647 : Int32))), (.ref aP)]))
        refine Go.by (fun _ => XS.iload X9.here hx rfl (hb hby at_83) rfl) ?_
        show Go p e below P (T9.setTop (mkF m 85 #[.val (.int p0), .val (.int p1), .val (.int p2), .val (.int (p1 &&& (2147483647 : Int32))), .val (.int (p2 &&& (2147483647 : Int32))), .val (.int ((p0 &&& (2147483647 : Int32)) % (3 : Int32))), .val (.ref aP), .val (.int (1 : Int32))] [(.int (p2 &&& (2147483647 : Int32))), (.int (p1 &&& (2147483647 : Int32))), (.ref aP)]))
        obtain ⟨cq11, kq11, q11a, q11b, q11c⟩ := isOf hZ e9 (Exa.ext O0.2 EaP)
        obtain ⟨_, _, ⟨T11, L11, k11, n11⟩, -, X11, ⟨Lc11, hQ11, l11, y11, z11⟩, st11⟩ := X9.virtualBack hx (y := (⟨"com/example/rotaflow/rotaflow/rotation/Rule", "prefers", "(II)Z"⟩ : MethodName)) (z := (⟨"com/example/rotaflow/rotaflow/rotation/Rule", "prefers", "(II)Z"⟩ : MethodName)) hown (mvT hZ (tw_4 hw)) (mvT hZ (tw_5 hw)) (notFace_of_selects (args := #[]) (mvT hZ (tw_7 hw))) (mvT hZ (tw_7 hw)) (mvT hZ (tw_6 hw)) (by decide) (backOf (W := 0) (rm_prefers l Z a0 hw [] aP (p1 &&& (2147483647 : Int32)) (p2 &&& (2147483647 : Int32)) (1 : Int32) h0 n0 Z0 (Fld.ext O0.2 FaP)) hZ (tw_8 hw) (tw_2 hw) (by decide) (by decide)) q11a q11c (g := (mkF m 85 #[.val (.int p0), .val (.int p1), .val (.int p2), .val (.int (p1 &&& (2147483647 : Int32))), .val (.int (p2 &&& (2147483647 : Int32))), .val (.int ((p0 &&& (2147483647 : Int32)) % (3 : Int32))), .val (.ref aP), .val (.int (1 : Int32))] [(.int (p2 &&& (2147483647 : Int32))), (.int (p1 &&& (2147483647 : Int32))), (.ref aP)])) rfl (by rw [hml]; rfl) (Steps.refl _) (argsL := [(.int (p1 &&& (2147483647 : Int32))), (.int (p2 &&& (2147483647 : Int32)))]) (rest := []) (lenOf pd__II_Z rfl) rfl (by show 2 * 0 + _ ≤ _; exact Nat.le_of_eq rfl) (hb hby at_85) (fun _ _ => ⟨rfl, e9, (by decide : 0 + 0 ≤ _), (by decide : 0 + 0 ≤ _)⟩)
        dsimp only [Pt.U, Pt.locs, Pt.cells, Pt.slots] at X11 l11 y11 z11 st11 hQ11
        subst l11 y11 z11
        obtain ⟨rfl, N11q, e11⟩ := hQ11
        have N11 := Fr.app N0 N11q
        refine Go.by (fun t k => st11.trans k) ?_
        show Go p e below P (T11.setTop (mkF m 88 #[.val (.int p0), .val (.int p1), .val (.int p2), .val (.int (p1 &&& (2147483647 : Int32))), .val (.int (p2 &&& (2147483647 : Int32))), .val (.int ((p0 &&& (2147483647 : Int32)) % (3 : Int32))), .val (.ref aP), .val (.int (1 : Int32))] [(.int (if (1 : Int32) * (p2 &&& (2147483647 : Int32)) < (1 : Int32) * (p1 &&& (2147483647 : Int32)) then (1 : Int32) else 0))]))
        refine Go.by (fun _ => XS.iload X11.here hx rfl (hb hby at_88) rfl) ?_
        show Go p e below P (T11.setTop (mkF m 90 #[.val (.int p0), .val (.int p1), .val (.int p2), .val (.int (p1 &&& (2147483647 : Int32))), .val (.int (p2 &&& (2147483647 : Int32))), .val (.int ((p0 &&& (2147483647 : Int32)) % (3 : Int32))), .val (.ref aP), .val (.int (1 : Int32))] [(.int (1 : Int32)), (.int (if (1 : Int32) * (p2 &&& (2147483647 : Int32)) < (1 : Int32) * (p1 &&& (2147483647 : Int32)) then (1 : Int32) else 0))]))
        refine Go.by (fun _ => XS.icmpNo X11.here hx rfl (hb hby at_90) rfl (XT.ii_ne_f (if_pos (own_spl.mpr hc70_10)))) ?_
        show Go p e below P (T11.setTop (mkF m 93 #[.val (.int p0), .val (.int p1), .val (.int p2), .val (.int (p1 &&& (2147483647 : Int32))), .val (.int (p2 &&& (2147483647 : Int32))), .val (.int ((p0 &&& (2147483647 : Int32)) % (3 : Int32))), .val (.ref aP), .val (.int (1 : Int32))] []))
        refine Go.by (fun _ => XS.iconst X11.here hx rfl (hb hby at_93)) ?_
        show Go p e below P (T11.setTop (mkF m 94 #[.val (.int p0), .val (.int p1), .val (.int p2), .val (.int (p1 &&& (2147483647 : Int32))), .val (.int (p2 &&& (2147483647 : Int32))), .val (.int ((p0 &&& (2147483647 : Int32)) % (3 : Int32))), .val (.ref aP), .val (.int (1 : Int32))] [(.int (1 : Int32))]))
        refine Go.by (fun _ => XS.goto X11.here hx rfl (pc0 := 94) (pc' := 98) rfl (hb hby at_94) (by decide) (by decide)) ?_
        show Go p e below P (T11.setTop (mkF m 98 #[.val (.int p0), .val (.int p1), .val (.int p2), .val (.int (p1 &&& (2147483647 : Int32))), .val (.int (p2 &&& (2147483647 : Int32))), .val (.int ((p0 &&& (2147483647 : Int32)) % (3 : Int32))), .val (.ref aP), .val (.int (1 : Int32))] [(.int (1 : Int32))]))
        refine fin X11 (v := some (.int (1 : Int32))) (fun h => by rw [Bd.returns] at h; cases h) (by decide) (by decide) ?_ (fun fs hr => retOut X11 hx Bd.returns rfl (Or.inl ⟨rfl, Or.inr (Or.inl rfl), _, rfl⟩) (hb hby at_98) hr)
        show Q_law Z p0 p1 p2 aB aS aP h0 n0 _ T11.heap _
        rw [e11]
        exact ⟨rfl, N11⟩
      · refine Go.by (fun _ => XS.icmpYes X9.here hx rfl (pc0 := 70) (pc' := 77) rfl (hb hby at_70) rfl (XT.ii_le_t hc70_10) (by decide) (by decide)) ?_
        show Go p e below P (T9.setTop (mkF m 77 #[.val (.int p0), .val (.int p1), .val (.int p2), .val (.int (p1 &&& (2147483647 : Int32))), .val (.int (p2 &&& (2147483647 : Int32))), .val (.int ((p0 &&& (2147483647 : Int32)) % (3 : Int32))), .val (.ref aP), .unset] []))
        refine Go.by (fun _ => XS.iconst X9.here hx rfl (hb hby at_77)) ?_
        show Go p e below P (T9.setTop (mkF m 78 #[.val (.int p0), .val (.int p1), .val (.int p2), .val (.int (p1 &&& (2147483647 : Int32))), .val (.int (p2 &&& (2147483647 : Int32))), .val (.int ((p0 &&& (2147483647 : Int32)) % (3 : Int32))), .val (.ref aP), .unset] [(.int (0 : Int32))]))
        refine Go.by (fun _ => XS.istore X9.here hx rfl (hb hby at_78) rfl (l' := #[.val (.int p0), .val (.int p1), .val (.int p2), .val (.int (p1 &&& (2147483647 : Int32))), .val (.int (p2 &&& (2147483647 : Int32))), .val (.int ((p0 &&& (2147483647 : Int32)) % (3 : Int32))), .val (.ref aP), .val (.int (0 : Int32))]) rfl) ?_
        show Go p e below P (T9.setTop (mkF m 80 #[.val (.int p0), .val (.int p1), .val (.int p2), .val (.int (p1 &&& (2147483647 : Int32))), .val (.int (p2 &&& (2147483647 : Int32))), .val (.int ((p0 &&& (2147483647 : Int32)) % (3 : Int32))), .val (.ref aP), .val (.int (0 : Int32))] []))
        refine Go.by (fun _ => XS.aload X9.here hx rfl (hb hby at_80) rfl rfl) ?_
        show Go p e below P (T9.setTop (mkF m 82 #[.val (.int p0), .val (.int p1), .val (.int p2), .val (.int (p1 &&& (2147483647 : Int32))), .val (.int (p2 &&& (2147483647 : Int32))), .val (.int ((p0 &&& (2147483647 : Int32)) % (3 : Int32))), .val (.ref aP), .val (.int (0 : Int32))] [(.ref aP)]))
        refine Go.by (fun _ => XS.iloadN X9.here hx rfl (hb hby at_82) rfl) ?_
        show Go p e below P (T9.setTop (mkF m 83 #[.val (.int p0), .val (.int p1), .val (.int p2), .val (.int (p1 &&& (2147483647 : Int32))), .val (.int (p2 &&& (2147483647 : Int32))), .val (.int ((p0 &&& (2147483647 : Int32)) % (3 : Int32))), .val (.ref aP), .val (.int (0 : Int32))] [(.int (p1 &&& (2147483647 : Int32))), (.ref aP)]))
        refine Go.by (fun _ => XS.iload X9.here hx rfl (hb hby at_83) rfl) ?_
        show Go p e below P (T9.setTop (mkF m 85 #[.val (.int p0), .val (.int p1), .val (.int p2), .val (.int (p1 &&& (2147483647 : Int32))), .val (.int (p2 &&& (2147483647 : Int32))), .val (.int ((p0 &&& (2147483647 : Int32)) % (3 : Int32))), .val (.ref aP), .val (.int (0 : Int32))] [(.int (p2 &&& (2147483647 : Int32))), (.int (p1 &&& (2147483647 : Int32))), (.ref aP)]))
        obtain ⟨cq12, kq12, q12a, q12b, q12c⟩ := isOf hZ e9 (Exa.ext O0.2 EaP)
        obtain ⟨_, _, ⟨T12, L12, k12, n12⟩, -, X12, ⟨Lc12, hQ12, l12, y12, z12⟩, st12⟩ := X9.virtualBack hx (y := (⟨"com/example/rotaflow/rotaflow/rotation/Rule", "prefers", "(II)Z"⟩ : MethodName)) (z := (⟨"com/example/rotaflow/rotaflow/rotation/Rule", "prefers", "(II)Z"⟩ : MethodName)) hown (mvT hZ (tw_4 hw)) (mvT hZ (tw_5 hw)) (notFace_of_selects (args := #[]) (mvT hZ (tw_7 hw))) (mvT hZ (tw_7 hw)) (mvT hZ (tw_6 hw)) (by decide) (backOf (W := 0) (rm_prefers l Z a0 hw [] aP (p1 &&& (2147483647 : Int32)) (p2 &&& (2147483647 : Int32)) (1 : Int32) h0 n0 Z0 (Fld.ext O0.2 FaP)) hZ (tw_8 hw) (tw_2 hw) (by decide) (by decide)) q12a q12c (g := (mkF m 85 #[.val (.int p0), .val (.int p1), .val (.int p2), .val (.int (p1 &&& (2147483647 : Int32))), .val (.int (p2 &&& (2147483647 : Int32))), .val (.int ((p0 &&& (2147483647 : Int32)) % (3 : Int32))), .val (.ref aP), .val (.int (0 : Int32))] [(.int (p2 &&& (2147483647 : Int32))), (.int (p1 &&& (2147483647 : Int32))), (.ref aP)])) rfl (by rw [hml]; rfl) (Steps.refl _) (argsL := [(.int (p1 &&& (2147483647 : Int32))), (.int (p2 &&& (2147483647 : Int32)))]) (rest := []) (lenOf pd__II_Z rfl) rfl (by show 2 * 0 + _ ≤ _; exact Nat.le_of_eq rfl) (hb hby at_85) (fun _ _ => ⟨rfl, e9, (by decide : 0 + 0 ≤ _), (by decide : 0 + 0 ≤ _)⟩)
        dsimp only [Pt.U, Pt.locs, Pt.cells, Pt.slots] at X12 l12 y12 z12 st12 hQ12
        subst l12 y12 z12
        obtain ⟨rfl, N12q, e12⟩ := hQ12
        have N12 := Fr.app N0 N12q
        refine Go.by (fun t k => st12.trans k) ?_
        show Go p e below P (T12.setTop (mkF m 88 #[.val (.int p0), .val (.int p1), .val (.int p2), .val (.int (p1 &&& (2147483647 : Int32))), .val (.int (p2 &&& (2147483647 : Int32))), .val (.int ((p0 &&& (2147483647 : Int32)) % (3 : Int32))), .val (.ref aP), .val (.int (0 : Int32))] [(.int (if (1 : Int32) * (p2 &&& (2147483647 : Int32)) < (1 : Int32) * (p1 &&& (2147483647 : Int32)) then (1 : Int32) else 0))]))
        refine Go.by (fun _ => XS.iload X12.here hx rfl (hb hby at_88) rfl) ?_
        show Go p e below P (T12.setTop (mkF m 90 #[.val (.int p0), .val (.int p1), .val (.int p2), .val (.int (p1 &&& (2147483647 : Int32))), .val (.int (p2 &&& (2147483647 : Int32))), .val (.int ((p0 &&& (2147483647 : Int32)) % (3 : Int32))), .val (.ref aP), .val (.int (0 : Int32))] [(.int (0 : Int32)), (.int (if (1 : Int32) * (p2 &&& (2147483647 : Int32)) < (1 : Int32) * (p1 &&& (2147483647 : Int32)) then (1 : Int32) else 0))]))
        refine Go.by (fun _ => XS.icmpNo X12.here hx rfl (hb hby at_90) rfl (XT.ii_ne_f (if_neg (fun q => hc70_10 (own_spl.mp q))))) ?_
        show Go p e below P (T12.setTop (mkF m 93 #[.val (.int p0), .val (.int p1), .val (.int p2), .val (.int (p1 &&& (2147483647 : Int32))), .val (.int (p2 &&& (2147483647 : Int32))), .val (.int ((p0 &&& (2147483647 : Int32)) % (3 : Int32))), .val (.ref aP), .val (.int (0 : Int32))] []))
        refine Go.by (fun _ => XS.iconst X12.here hx rfl (hb hby at_93)) ?_
        show Go p e below P (T12.setTop (mkF m 94 #[.val (.int p0), .val (.int p1), .val (.int p2), .val (.int (p1 &&& (2147483647 : Int32))), .val (.int (p2 &&& (2147483647 : Int32))), .val (.int ((p0 &&& (2147483647 : Int32)) % (3 : Int32))), .val (.ref aP), .val (.int (0 : Int32))] [(.int (1 : Int32))]))
        refine Go.by (fun _ => XS.goto X12.here hx rfl (pc0 := 94) (pc' := 98) rfl (hb hby at_94) (by decide) (by decide)) ?_
        show Go p e below P (T12.setTop (mkF m 98 #[.val (.int p0), .val (.int p1), .val (.int p2), .val (.int (p1 &&& (2147483647 : Int32))), .val (.int (p2 &&& (2147483647 : Int32))), .val (.int ((p0 &&& (2147483647 : Int32)) % (3 : Int32))), .val (.ref aP), .val (.int (0 : Int32))] [(.int (1 : Int32))]))
        refine fin X12 (v := some (.int (1 : Int32))) (fun h => by rw [Bd.returns] at h; cases h) (by decide) (by decide) ?_ (fun fs hr => retOut X12 hx Bd.returns rfl (Or.inl ⟨rfl, Or.inr (Or.inl rfl), _, rfl⟩) (hb hby at_98) hr)
        show Q_law Z p0 p1 p2 aB aS aP h0 n0 _ T12.heap _
        rw [e12]
        exact ⟨rfl, N12⟩
set_option maxRecDepth 65536 in
set_option maxHeartbeats 40000000 in
theorem comes_1 {Post : Tables → Env → Array Value → State → Outcome → State → Prop} (hpost : ∀ tb e args s v u, (limb_1_1.after args s (.returned v) u = true ∧ limb_1_2.after args s (.returned v) u = true ∧ True) → FrameEnd s (.returned v) u (Jvm.fieldLocs frame_1_writes args s ++ Jvm.arrayLocs frame_1_arrays args s ++ Jvm.staticLocs frame_1_statics s) 0 0 → Post tb e args s (.returned v) u) :
    ArmFor flags0 classFile x code maxLocals ret World_1 tables_1 room_1 Calls_1 rest_1 Pre_1 Post := by
  intro l hfl _ _ p e ha hc hk s m args below hf hA hF happ hP
  obtain ⟨hcalls, hrest, hpre⟩ := hP
  obtain ⟨-, -, -, hnamed, -, -, -, hat⟩ := (Spec.applies_iff hf).mp happ
  obtain ⟨hg, hn⟩ := and_e (Cond.before_iff.mp (show (Jvm.Cond.and given_1 narrow_1).before args s = true from hpre))
  obtain ⟨hg_0, hg_1⟩ := and_e hg
  obtain ⟨hg_2, hg_3⟩ := and_e hg_1
  obtain ⟨hg_4, hg_5⟩ := and_e hg_3
  obtain ⟨w0, w1, w2, rfl⟩ : ∃ w0 w1 w2 : Value, args = #[w0, w1, w2] := by
    have hs : args.size = 3 := by simpa [Cond.value, given_1] using hg_0
    obtain ⟨L⟩ := args
    match L, hs with
    | [w0, w1, w2], _ => exact ⟨w0, w1, w2, rfl⟩
  have hw := fun d (hd : d ∈ tables_1) => atoms_spec (ws := Jvm.Cond.code x code maxLocals ret :: tables_1) hat d (List.mem_cons_of_mem _ hd)
  have hfit : Fit s := fun {y c} hc i hi => by
    obtain ⟨ha, rfl⟩ := Array.getElem?_eq_some_iff.mp hc
    have q := List.all_eq_true.mp ((Array.all_eq_true_iff_forall_mem.mp hF) _ (Array.getElem_mem ha)) i (List.mem_range.mpr hi)
    simpa [Array.getElem?_eq_getElem hi] using q
  obtain ⟨i0, ei0⟩ := is_v hg_2
  obtain rfl : w0 = (.int i0) := Option.some.inj ei0
  obtain ⟨i1, ei1⟩ := is_v hg_4
  obtain rfl : w1 = (.int i1) := Option.some.inj ei1
  obtain ⟨i2, ei2⟩ := is_v hg_5
  obtain rfl : w2 = (.int i2) := Option.some.inj ei2
  obtain ⟨hn_0, hn_1⟩ := and_e hn
  obtain ⟨hn_2, hn_3⟩ := and_e hn_1
  obtain ⟨hn_4, hn_5⟩ := and_e hn_3
  obtain ⟨hn_6, hn_7⟩ := and_e hn_5
  obtain ⟨hn_8, hn_9⟩ := and_e hn_7
  obtain ⟨aB, evaB⟩ := exa_v hn_0
  have EaB := Exa.start evaB hn_0
  have FaB := own_fint evaB hn_2
  have SaB := Sta.start evaB (Or.inr ⟨(tw_2 hw), (tw_3 hw)⟩)
  obtain ⟨aS, evaS⟩ := exa_v hn_4
  have EaS := Exa.start evaS hn_4
  have FaS := own_fint evaS hn_6
  have SaS := Sta.start evaS (Or.inr ⟨(tw_2 hw), (tw_12 hw)⟩)
  obtain ⟨aP, evaP⟩ := exa_v hn_8
  have EaP := Exa.start evaP hn_8
  have FaP := own_fint evaP hn_9
  have SaP := Sta.start evaP (Or.inr ⟨(tw_2 hw), (tw_14 hw)⟩)
  obtain ⟨n, o, h1, h2, h3, _, L, rfl, ⟨rfl, N⟩, hq⟩ := rm_law l s _ hw tables_1 i0 i1 i2 aB aS aP s.heap s.heap.size (Nat.le_refl _) (Old.start s) SaB EaB FaB SaS EaS FaS SaP EaP FaP p e ha hc hk s m _ below hf ((Spec.applies_iff_loose hf).mp happ).1 ⟨rfl, State.Warmed39.refl s, rfl⟩ trivial
  refine ⟨n, _, h1, h2, h3, hpost _ _ _ _ _ _ ⟨Cond.after_iff.mpr rfl, Cond.after_iff.mpr (eq_i res_at (Term.int_eval (1)) rfl), trivial⟩ ⟨hq.1, hq.2.1, (hq.2.2.sift fun y hy => Or.inr (N y hy)).mono (by decide) (by decide)⟩⟩
theorem main_1_1 : Claimed_1_1 := comes_1 fun _ _ _ _ _ _ h hF => ⟨h.1, hF⟩
theorem main_1_2 : Claimed_1_2 := comes_1 fun _ _ _ _ _ _ h hF => ⟨h.2.1, hF⟩
end Jvm.Pilot.@@N@@
namespace Jvm.Pilot.@@N@@
open Jvm Jvm.ClassFile Sem Op Lib Jvm.Free Jvm.Stand Jvm.Pilot.@@N@@.Jvm.D
/-! MADE BY PROGRAM (witnessworld.py) out of the Statement's table words and the real class files: 13 classes; the members and pool entries that the words name. The judged class is class 1, her method 1. -/
namespace start1
open Jvm.ClassFile
def u (s : String) : CpInfo := .utf8 (stringToUtf16 s)
/-- a pool by its gaps: so many unusable entries, then the entry; so many at the end -/
def gap : Nat → List CpInfo → List CpInfo
  | 0, r => r
  | n + 1, r => .unusable :: gap n r
def poolList (es : List (Nat × CpInfo)) (last : Nat) : List CpInfo := es.foldr (fun e r => gap e.1 (e.2 :: r)) (gap last [])
def pool (es : List (Nat × CpInfo)) (last : Nat) : Array CpInfo := ⟨poolList es last⟩
def fileOf (pool : Array CpInfo) (this : Nat) (attrs : Array Attribute := #[]) (ms : Array MethodInfo := #[]) (fl : Nat := 33) (sup : Nat := 0) (ifs : Array Nat := #[]) (fds : Array FieldInfo := #[]) : ClassFile where
  minorVersion := 0
  majorVersion := 65
  constantPool := pool
  accessFlags := fl
  thisClass := this
  superClass := sup
  interfaces := ifs
  fields := fds
  methods := ms
  attributes := attrs
def plain (name : String) (sup : Option ClassId) : Class where
  name := name
  kind := .ordinary
  loader := none
  accessFlags := 33
  super := sup
  interfaces := #[]
  cf := none
  fields := #[]
  methods := #[]
  instanceTypes := #[]
  staticTypes := #[]
  resolved := #[]
  callSites := []
  init := .initialized
  statics := none
  mirror := none

def pool0 : Array CpInfo := pool [(5, u "<init>"), (0, u "()V"), (1, .class_ 10), (1, u "java/lang/Object")] 113

def k0m0 : Method := { name := "<init>", desc := "()V", sig := { parameters := [], returnType := none }, accessFlags := 1, code := none }
/-- java/lang/Object -/
def k0 : Class := { plain "java/lang/Object" none with
  accessFlags := 33
  interfaces := #[]
  cf := some (fileOf pool0 8 #[] #[{ accessFlags := 1, nameIndex := 5, descriptorIndex := 6, attributes := #[] }] 33 0 #[] #[])
  fields := #[]
  methods := #[k0m0]
  instanceTypes := #[]
  staticTypes := #[]
  resolved := Array.replicate 124 none
  statics := none }

def pool1 : Array CpInfo := pool [(2, .class_ 4), (1, u "java/lang/Object"), (0, u "<init>"), (0, u "()V"), (0, .integer 2147483647), (0, .fieldref 9 10), (0, .class_ 11), (0, .nameAndType 12 13), (0, u "com/example/rotaflow/rotaflow/rotation/Rule"), (0, u "BALANCE"), (0, u "Lcom/example/rotaflow/rotaflow/rotation/Rule;"), (0, .fieldref 9 15), (0, .nameAndType 16 13), (0, u "SIMPLE"), (0, .fieldref 9 18), (0, .nameAndType 19 13), (0, u "SPLIT_FIRST"), (0, .methodref 9 21), (0, .nameAndType 22 23), (0, u "prefers"), (0, u "(II)Z"), (0, .class_ 25), (0, u "com/example/rotaflow/rotaflow/rotation/RulePrefersPinLaw"), (2, u "law"), (0, u "(III)Z")] 3

def k1m0 : Method := { name := "<init>", desc := "()V", sig := { parameters := [], returnType := none }, accessFlags := 2, code := none }
def k1c1 : Code := { maxStack := 3, maxLocals := 8, code := code, exceptionTable := #[], attributes := #[] }
def k1m1 : Method := { name := "law", desc := "(III)Z", sig := { parameters := [.int, .int, .int], returnType := some .boolean }, accessFlags := 9, code := some k1c1 }
/-- com/example/rotaflow/rotaflow/rotation/RulePrefersPinLaw -/
def k1 : Class := { plain "com/example/rotaflow/rotaflow/rotation/RulePrefersPinLaw" (some 0) with
  accessFlags := 49
  interfaces := #[]
  cf := some (fileOf pool1 24 #[] #[{ accessFlags := 2, nameIndex := 5, descriptorIndex := 6, attributes := #[] }, { accessFlags := 9, nameIndex := 28, descriptorIndex := 29, attributes := #[] }] 49 2 #[] #[])
  fields := #[]
  methods := #[k1m0, k1m1]
  instanceTypes := #[]
  staticTypes := #[]
  resolved := Array.replicate 33 none
  statics := none }

def pool2 : Array CpInfo := pool [(1, .class_ 2), (0, u "java/lang/constant/Constable"), (0, .class_ 4), (0, u "java/lang/Object")] 6

/-- java/lang/constant/Constable -/
def k2 : Class := { plain "java/lang/constant/Constable" (some 0) with
  accessFlags := 1537
  interfaces := #[]
  cf := some (fileOf pool2 1 #[] #[] 1537 3 #[] #[])
  fields := #[]
  methods := #[]
  instanceTypes := #[]
  staticTypes := #[]
  resolved := Array.replicate 11 none
  statics := none }

def pool3 : Array CpInfo := pool [(1, .class_ 2), (0, u "java/lang/Comparable"), (0, .class_ 4), (0, u "java/lang/Object")] 7

/-- java/lang/Comparable -/
def k3 : Class := { plain "java/lang/Comparable" (some 0) with
  accessFlags := 1537
  interfaces := #[]
  cf := some (fileOf pool3 1 #[] #[] 1537 3 #[] #[])
  fields := #[]
  methods := #[]
  instanceTypes := #[]
  staticTypes := #[]
  resolved := Array.replicate 12 none
  statics := none }

def pool4 : Array CpInfo := pool [(1, .class_ 2), (0, u "java/io/Serializable"), (0, .class_ 4), (0, u "java/lang/Object")] 2

/-- java/io/Serializable -/
def k4 : Class := { plain "java/io/Serializable" (some 0) with
  accessFlags := 1537
  interfaces := #[]
  cf := some (fileOf pool4 1 #[] #[] 1537 3 #[] #[])
  fields := #[]
  methods := #[]
  instanceTypes := #[]
  staticTypes := #[]
  resolved := Array.replicate 7 none
  statics := none }

def pool5 : Array CpInfo := pool [(2, .class_ 4), (1, u "java/lang/Enum"), (0, u "name"), (0, u "Ljava/lang/String;"), (2, u "ordinal"), (0, u "I"), (1, .class_ 14), (1, u "java/lang/Object"), (4, u "hash"), (86, .class_ 108), (1, u "java/lang/Enum$EnumDesc"), (2, .class_ 112), (0, u "java/lang/constant/Constable"), (0, .class_ 114), (0, u "java/lang/Comparable"), (0, .class_ 116), (0, u "java/io/Serializable")] 87

/-- java/lang/Enum -/
def k5 : Class := { plain "java/lang/Enum" (some 0) with
  accessFlags := 1057
  interfaces := #[2, 3, 4]
  cf := some (fileOf pool5 2 #[.nestMembers #[106]] #[] 1057 12 #[111, 113, 115] #[{ accessFlags := 18, nameIndex := 5, descriptorIndex := 6, attributes := #[] }, { accessFlags := 18, nameIndex := 9, descriptorIndex := 10, attributes := #[] }, { accessFlags := 2, nameIndex := 19, descriptorIndex := 10, attributes := #[] }])
  fields := #[{ name := "name", type := (.object "java/lang/String"), accessFlags := 18, slot := 0, constantValue := 0 }, { name := "ordinal", type := .int, accessFlags := 18, slot := 1, constantValue := 0 }, { name := "hash", type := .int, accessFlags := 2, slot := 2, constantValue := 0 }]
  methods := #[]
  instanceTypes := #[(.object "java/lang/String"), .int, .int]
  staticTypes := #[]
  resolved := Array.replicate 204 none
  statics := none }

def pool6 : Array CpInfo := pool [(2, .class_ 4), (1, u "com/example/rotaflow/rotaflow/Labelled"), (73, .class_ 79), (0, u "java/lang/Object")] 41

/-- com/example/rotaflow/rotaflow/Labelled -/
def k6 : Class := { plain "com/example/rotaflow/rotaflow/Labelled" (some 0) with
  accessFlags := 1537
  interfaces := #[]
  cf := some (fileOf pool6 2 #[] #[] 1537 78 #[] #[])
  fields := #[]
  methods := #[]
  instanceTypes := #[]
  staticTypes := #[]
  resolved := Array.replicate 121 none
  statics := none }

def pool7 : Array CpInfo := pool [(1, .class_ 2), (0, u "com/example/rotaflow/rotaflow/rotation/Rule"), (2, u "BALANCE"), (0, u "Lcom/example/rotaflow/rotaflow/rotation/Rule;"), (2, u "SIMPLE"), (2, u "SPLIT_FIRST"), (2, u "$VALUES"), (0, u "[Lcom/example/rotaflow/rotaflow/rotation/Rule;"), (6, .class_ 25), (1, u "java/lang/Enum"), (6, .fieldref 1 33), (0, .nameAndType 34 35), (0, u "sizeSign"), (0, u "I"), (5, .class_ 43), (1, u "com/example/rotaflow/rotaflow/Labelled"), (19, u "prefers"), (0, u "(II)Z")] 6

def k7c0 : Code := { maxStack := 3, maxLocals := 3, code := prog_70_method_4_code, exceptionTable := #[], attributes := #[] }
def k7m0 : Method := { name := "prefers", desc := "(II)Z", sig := { parameters := [.int, .int], returnType := some .boolean }, accessFlags := 0, code := some k7c0 }
/-- com/example/rotaflow/rotaflow/rotation/Rule -/
def k7 : Class := { plain "com/example/rotaflow/rotaflow/rotation/Rule" (some 5) with
  accessFlags := 16433
  interfaces := #[6]
  cf := some (fileOf pool7 1 #[] #[{ accessFlags := 0, nameIndex := 63, descriptorIndex := 64, attributes := #[] }] 16433 23 #[41] #[{ accessFlags := 16409, nameIndex := 5, descriptorIndex := 6, attributes := #[] }, { accessFlags := 16409, nameIndex := 9, descriptorIndex := 6, attributes := #[] }, { accessFlags := 16409, nameIndex := 12, descriptorIndex := 6, attributes := #[] }, { accessFlags := 18, nameIndex := 34, descriptorIndex := 35, attributes := #[] }, { accessFlags := 4122, nameIndex := 15, descriptorIndex := 16, attributes := #[] }])
  fields := #[{ name := "BALANCE", type := (.object "com/example/rotaflow/rotaflow/rotation/Rule"), accessFlags := 16409, slot := 0, constantValue := 0 }, { name := "SIMPLE", type := (.object "com/example/rotaflow/rotaflow/rotation/Rule"), accessFlags := 16409, slot := 1, constantValue := 0 }, { name := "SPLIT_FIRST", type := (.object "com/example/rotaflow/rotaflow/rotation/Rule"), accessFlags := 16409, slot := 2, constantValue := 0 }, { name := "sizeSign", type := .int, accessFlags := 18, slot := 3, constantValue := 0 }, { name := "$VALUES", type := (.array (.object "com/example/rotaflow/rotaflow/rotation/Rule")), accessFlags := 4122, slot := 3, constantValue := 0 }]
  methods := #[k7m0]
  instanceTypes := #[(.object "java/lang/String"), .int, .int, .int]
  staticTypes := #[(.object "com/example/rotaflow/rotaflow/rotation/Rule"), (.object "com/example/rotaflow/rotaflow/rotation/Rule"), (.object "com/example/rotaflow/rotaflow/rotation/Rule"), (.array (.object "com/example/rotaflow/rotaflow/rotation/Rule"))]
  resolved := Array.replicate 71 none
  statics := some 0 }

def pool8 : Array CpInfo := pool [(1, u "java/lang/Cloneable"), (0, .class_ 1), (0, u "java/lang/Object"), (0, .class_ 3)] 3

/-- java/lang/Cloneable -/
def k8 : Class := { plain "java/lang/Cloneable" (some 0) with
  accessFlags := 1537
  interfaces := #[]
  cf := some (fileOf pool8 2 #[] #[] 1537 4 #[] #[])
  fields := #[]
  methods := #[]
  instanceTypes := #[]
  staticTypes := #[]
  resolved := Array.replicate 8 none
  statics := none }

/-- the primitive byte -/
def k9 : Class := { plain "byte" none with kind := .primitive 'B', accessFlags := 0x411 }
/-- [B -/
def k10 : Class := { plain "[B" (some 0) with kind := .array 9 .byte, interfaces := #[8, 4], accessFlags := 1041 }

/-- the primitive int -/
def k11 : Class := { plain "int" none with kind := .primitive 'I', accessFlags := 0x411 }
/-- [I -/
def k12 : Class := { plain "[I" (some 0) with kind := .array 11 .int, interfaces := #[8, 4], accessFlags := 1041 }

def heap : Heap := #[{ cls := 7, slots := #[.ref 1, .ref 2, .ref 3, .null], vm := .statics 7 },
  { cls := 7, slots := #[.null, .int 0, .int 0, .int (-1)], vm := .none },
  { cls := 7, slots := #[.null, .int 1, .int 0, .int 0], vm := .none },
  { cls := 7, slots := #[.null, .int 2, .int 0, .int 1], vm := .none }]
def classes : Array Class := #[k0, k1, k2, k3, k4, k5, k6, k7, k8, k9, k10, k11, k12]
def interned : List (Array UInt16 × Addr) := []
def slotsUsed : Nat := 16
def theMethod : MethodId := ⟨1, 1⟩
def args0 : Array Value := #[.int 5, .int 3, .int 4]
def aboutOver (below : List Frame) : State where
  vm := { classes := classes, interned := interned.toArray }
  heap := heap
  slotsUsed := slotsUsed
  threads := #[{ frames := .invoking theMethod args0 :: below }]
def below0 : List Frame := [.native { method := ⟨0, 0⟩, args := #[] }]
def about1 : State := aboutOver below0
def p0 : Program := .bare "" "" ""
def e0 : Env := launch0.env 0 0 0
theorem w_frames : about1.frames = Frame.invoking theMethod args0 :: below0 := rfl
set_option maxRecDepth 65536 in
theorem w_args : argsFit about1.vm theMethod args0 = true := by decide +kernel
set_option maxRecDepth 65536 in
theorem w_heap : heapFits about1 = true := by decide +kernel
set_option maxRecDepth 65536 in
theorem w_runnable : about1.curStatus? = some .runnable := by decide +kernel
set_option maxRecDepth 65536 in
theorem w_alone : about1.alone = true := by decide +kernel
set_option maxRecDepth 65536 in
theorem w_named : about1.methodNamed? x = some theMethod := by decide +kernel
set_option maxRecDepth 65536 in
theorem w_hears : about1.hears theMethod below0 = true := by decide +kernel
set_option maxRecDepth 65536 in
theorem w_ripe : about1.ripe theMethod args0 below0 = true := by decide +kernel
theorem w_running : about1.status = .running := rfl
set_option maxRecDepth 65536 in
theorem w_room : about1.hasRoom e0.platform room_1 = true :=
  launch0.hasRoom_least _ room_1 (by decide +kernel) (by decide +kernel) (by decide +kernel) (by decide +kernel) (by decide +kernel) (by decide +kernel)
theorem allAtoms_all (ts : List Jvm.Cond) (a : Array Jvm.Value) (st : Jvm.State) : (allAtoms ts).before a st = ts.all (fun c => c.before a st) := by
  induction ts with
  | nil => rfl
  | cons c t ih =>
    show (Jvm.Cond.and c (allAtoms t)).before a st = _
    rw [Jvm.Cond.before_and, ih, List.all_cons]
def words1 : List Jvm.Cond := Jvm.Cond.code x code maxLocals ret :: tables_1
/-- a 'code' word, met by the world's own term for the bytes: nothing is compared byte by byte -/
theorem code_word {y : MethodName} {bytes : ByteArray} {mx : Nat} {rt : Option FieldType} {a : Array Value} {s : State} {m : MethodId} {meth : Method} {c : Code} (h1 : s.methodNamed? y = some m) (h2 : s.vm.method? m = some meth) (h3 : meth.code = some c) (h4 : c.code = bytes)
    (h5 : (c.maxLocals == mx && c.exceptionTable.isEmpty && decide (c.maxStack ≤ mostOperands) && decide (meth.sig.returnType = rt) && !meth.locks && decide (parseMethodDescriptor y.desc = some meth.sig)) = true) : (Jvm.Cond.code y bytes mx rt).before a s = true := by
  simp only [Bool.and_eq_true, beq_iff_eq, Bool.not_eq_true', decide_eq_true_eq] at h5
  obtain ⟨⟨⟨⟨⟨g1, g2⟩, g3⟩, g4⟩, g5⟩, g6⟩ := h5
  simp [Cond.before, Cond.holds, Cond.value, h1, h2, h3, h4, g1, g2, g3, g4, g5, g6]
def isCode : Jvm.Cond → Bool
  | .code _ _ _ _ => true
  | _ => false
theorem all_split {L : List Jvm.Cond} {P : Jvm.Cond → Bool} (h1 : L.all (fun c => isCode c || P c) = true) (h2 : ∀ c ∈ L.filter isCode, P c = true) : L.all P = true := by
  refine List.all_eq_true.mpr fun c hc => ?_
  have h := List.all_eq_true.mp h1 c hc
  rcases Bool.eq_false_or_eq_true (isCode c) with hi | hi
  · exact h2 c (List.mem_filter.mpr ⟨hc, hi⟩)
  · simpa [hi] using h
set_option maxRecDepth 65536 in
theorem w_c0 : (Jvm.Cond.code x code maxLocals ret).before args0 about1 = true := code_word (m := ⟨1, 1⟩) (meth := k1m1) (c := k1c1) (by decide +kernel) rfl rfl rfl (by decide +kernel)
set_option maxRecDepth 65536 in
theorem w_c1 : (Jvm.Cond.code ({ cls := "com/example/rotaflow/rotaflow/rotation/Rule", name := "prefers", desc := "(II)Z" } : Jvm.MethodName) prog_70_method_4_code (3 : Nat) (Option.some Jvm.ClassFile.FieldType.boolean)).before args0 about1 = true := code_word (m := ⟨7, 0⟩) (meth := k7m0) (c := k7c0) (by decide +kernel) rfl rfl rfl (by decide +kernel)
def codes1 : List Jvm.Cond := [Jvm.Cond.code x code maxLocals ret, Jvm.Cond.code ({ cls := "com/example/rotaflow/rotaflow/rotation/Rule", name := "prefers", desc := "(II)Z" } : Jvm.MethodName) prog_70_method_4_code (3 : Nat) (Option.some Jvm.ClassFile.FieldType.boolean)]
set_option maxRecDepth 65536 in
theorem codes_eq : words1.filter isCode = codes1 := rfl
theorem w_codes : ∀ c ∈ words1.filter isCode, c.before args0 about1 = true := by
  rw [codes_eq]
  intro c hc
  simp only [codes1, List.mem_cons, List.not_mem_nil, or_false] at hc
  rcases hc with rfl | rfl
  · exact w_c0
  · exact w_c1
set_option maxRecDepth 65536 in
theorem w_t1 : words1.all (fun c => isCode c || c.before args0 about1) = true := by decide +kernel
theorem w_tables : (allAtoms (Jvm.Cond.code x code maxLocals ret :: tables_1)).before args0 about1 = true := by
  rw [allAtoms_all]
  show words1.all (fun c => c.before args0 about1) = true
  refine all_split ?_ w_codes
  rw [w_t1]
set_option maxRecDepth 65536 in
theorem w_case : (Jvm.Cond.and given_1 narrow_1).before args0 about1 = true := by decide +kernel
theorem w_applies : (headSpec (Jvm.Cond.code x code maxLocals ret :: tables_1) room_1).applies x e0.platform about1 = true :=
  (Spec.applies_iff w_frames).mpr ⟨w_running, w_runnable, w_alone, w_named, w_hears, w_ripe, w_room, w_tables⟩
theorem atStart : AtStart classFile x code maxLocals ret World_1 tables_1 room_1 Calls_1 rest_1 Pre_1 launch0 p0 e0 about1 theMethod args0 below0 :=
  ⟨lists_1, trivial, launch0.admits_env _ _ _, launch0.least_env, fairChoices_fair.cas, fairChoices_fair.clock, w_frames, w_args, w_heap, w_applies, trivial, trivial, w_case⟩
end start1
theorem witness_1 : WitnessClaimed_1 := ⟨start1.p0, start1.e0, start1.about1, start1.theMethod, start1.args0, start1.below0, start1.atStart⟩
end Jvm.Pilot.@@N@@
