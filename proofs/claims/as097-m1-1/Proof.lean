import JvmDerived
import JvmDerived.Pilot.@@N@@Statement
import JvmDerived.Pilot.@@N@@Code
set_option linter.unusedVariables false
set_option linter.unusedSimpArgs false
@@BLOCK:TracedD.lean.txt@@
namespace Jvm.Pilot.@@N@@
open Jvm Jvm.ClassFile Sem Op Lib Jvm.Free Jvm.Stand Jvm.LawKit Jvm.RoadKit Bundle Jvm.Pilot.@@N@@.Jvm.D
/-! ### the form of my walks: what is left to do from a state -/
def Go (p : Program) (e : Env) (below : List Frame) (P : Outcome → State → Prop) (S : State) : Prop :=
  ∃ s₂ o, Steps p.tables e below S s₂ ∧ s₂.status = .running ∧ Ended s₂ below o ∧ P o s₂
def PQ (s : State) (Q : Option Value → Heap → List Loc → Prop) (C S : Nat) : Outcome → State → Prop :=
  fun o U' => ∃ v L, o = .returned v ∧ Q v U'.heap L ∧ FrameEnd s o U' L C S
theorem Go.by {p : Program} {e : Env} {below : List Frame} {P : Outcome → State → Prop} {S S' : State} (k : ∀ t, Steps p.tables e below S' t → Steps p.tables e below S t) (h : Go p e below P S') : Go p e below P S := by
  obtain ⟨t, o, h1, h2⟩ := h
  exact ⟨t, o, k t h1, h2⟩
theorem Go.fin {p : Program} {l : Launch} {e : Env} {R : Room} {s : State} {m : MethodId} {args : Array Value} {below : List Frame} {meth : Method} {c : Code} {T : State} {locs : List Loc} {k n C S : Nat} {v : Option Value} {Q : Option Value → Heap → List Loc → Prop} {S0 : State}
    (X : Stand p l e R s m args below meth c T locs k n) (hlk : meth.locks = false) (hv : meth.sig.returnType = none → v = none) (hk : k ≤ C) (hn : n ≤ S) (hQ : Q v T.heap locs)
    (hst : ∀ fs, (∀ (f : JFrame) (acts : List Action), f.method = m → f.locked = none → f.entered = [] → (doReturn e (T.setTop f) acts v).1 = T.setFrames fs) → Steps p.tables e below S0 (T.setFrames fs)) : Go p e below (PQ s Q C S) S0 := by
  obtain ⟨fs, hr, hrun, hended, hW, hsame⟩ := X.leave (v := v) hv hlk
  exact ⟨_, _, hst fs hr, hrun, hended, v, locs, rfl, hQ, ⟨_, rfl⟩, hW, hsame.mono hk hn⟩
/-! ### from a case's words to facts -/
section OwnWords
variable {args : Array Value} {s : State} {t : Term} {C n d : String} {a : Addr} {z : Int32}
theorem own_fint (hx : t.eval args s none [] s = some (.ref a)) (h : (Cond.eq (.field t C n d) (.int z)).value args s none s [] = some true) : Fld s s.heap a C n d (.int z) := by
  refine Fld.start ?_
  have e1 : (Term.field t C n d).eval args s none [] s = s.fieldOf? a C n d := fld_at hx
  cases hf : s.fieldOf? a C n d with
  | none => simp [Cond.value, e1, hf] at h
  | some v =>
    cases v <;> simp [Cond.value, e1, hf, Term.int_eval] at h
    subst h; rfl
theorem own_lenE {cl : Cell} {ty : FieldType} (ev : t.eval args s none [] s = some (.ref a)) (A : Arr s s.heap a cl ty) (h : (Cond.eq (.length t) (.int z)).value args s none s [] = some true) : cl.slots.size < 2 ^ 31 ∧ cl.slots.size.toInt32 = z := by
  have ha : s.arrayAt? a = some cl := Arr.fin (Vm.Alike.refl _) A
  by_cases hl : cl.slots.size < 2 ^ 31
  · have q := len_f (o := none) (idx := []) (first := s) ev ha hl
    simp [Cond.value, q, Term.int_eval] at h
    exact ⟨hl, h⟩
  · simp [Cond.value, Term.eval, ev, ha, hl] at h
theorem own_len {cl : Cell} {ty : FieldType} {N : Nat} (ev : t.eval args s none [] s = some (.ref a)) (A : Arr s s.heap a cl ty) (hz : z.toInt = N) (h : (Cond.eq (.length t) (.int z)).value args s none s [] = some true) : cl.slots.size = N := by
  obtain ⟨h1, h2⟩ := own_lenE ev A h
  have h3 := len_toInt h1
  rw [h2, hz] at h3
  omega
theorem own_elem {cl : Cell} {j : Int32} (ev : t.eval args s none [] s = some (.ref a)) (hc : s.heap[a]? = some cl) (h : (Cond.eq (.elem t (.int j)) (.int z)).value args s none s [] = some true) : cl.slots[j.toNatClampNeg]? = some (.int z) := by
  obtain ⟨x, y, e1, e2, -, -⟩ := cmp_v (Or.inl h)
  have q := (elem_in e1 ev rfl hc).2
  cases e2
  cases x <;> simp [Cond.value, e1, Term.int_eval] at h
  subst h; exact q
end OwnWords
/-! ### the end of a walk that may intern -/
def PQW (s Z : State) (EL : List (String × Nat)) (Q : Option Value → Heap → List Loc → Prop) (C S : Nat) : Outcome → State → Prop :=
  fun o U' => ∃ v L, o = .returned v ∧ Q v U'.heap L ∧ CHr Z EL s.vm s.heap U'.vm U'.heap ∧ ReturnedEndW s o U' L C S
theorem Go.finW {p : Program} {l : Launch} {e : Env} {R : Room} {s Z : State} {a0 : Array Value} {EL : List (String × Nat)} {vm0 : Vm} {k0 : Nat} {m : MethodId} {args : Array Value} {below : List Frame} {meth : Method} {c : Code} {T : State} {locs : List Loc} {k n C S : Nat} {v : Option Value} {Q : Option Value → Heap → List Loc → Prop} {S0 : State} {h0 H : Heap}
    (X : Stand p l e R (s.setVm vm0) m args below meth c T locs k n) (hlk : meth.locks = false) (hEL : EW Z a0 EL) (hv : meth.sig.returnType = none → v = none) (hk : k ≤ C) (hn : n ≤ S) (hh : s.heap = h0) (eT : T.heap = H) (hS : s.Since vm0 k0) (hk0 : k0 ≤ H.size) (hZ : Z.Warmed39 vm0) (hC : CHr Z EL s.vm h0 vm0 H) (hQ : Q v H locs)
    (hst : ∀ fs, (∀ (f : JFrame) (acts : List Action), f.method = m → f.locked = none → f.entered = [] → (doReturn e (T.setTop f) acts v).1 = T.setFrames fs) → Steps p.tables e below S0 (T.setFrames fs)) : Go p e below (PQW s Z EL Q C S) S0 := by
  subst eT hh
  obtain ⟨fs, hr, hrun, hended, hW1, hW2, hW3, hsame⟩ := X.leaveW hS hk0 (v := v) hv hlk
  have hc := CHr.trans hC (CHv.at X hZ hEL hC.1)
  exact ⟨_, _, hst fs hr, hrun, hended, v, locs, rfl, hQ, hc, hW1, hW2, hW3, hsame.mono hk hn⟩
/-! ### a callee that may intern and that is handed addresses which no literal bears -/
theorem own_ss0 {Z : State} {EL : List (String × Nat)} {vm : Vm} {h : Heap} : ∀ x ∈ ([] : List Addr), x < h.size ∧ Safe Z EL vm h x := fun _ q => nomatch q
theorem own_ssS {Z : State} {EL : List (String × Nat)} {vm : Vm} {h : Heap} {y : Addr} {L : List Addr} (q : Safe Z EL vm h y) (lt : y < h.size) (r : ∀ x ∈ L, x < h.size ∧ Safe Z EL vm h x) : ∀ x ∈ y :: L, x < h.size ∧ Safe Z EL vm h x := fun x hx => by
  rcases List.mem_cons.mp hx with rfl | hx
  · exact ⟨lt, q⟩
  · exact r x hx
theorem own_backC {l : Launch} {R : Room} {p : Program} {e : Env} {below : List Frame} {s Z : State} {args a0 : Array Value} {EL : List (String × Nat)} {h : Heap} {vm0 : Vm} {y : MethodName} {bytes : ByteArray} {maxL : Nat} {ret : Option FieldType} {rm : Room} {len W : Nat} {as' : Array Value} {ss : List Addr} {Q : Option Value → Heap → List Loc → Prop}
    (hM : MetFree l y (head1 [Cond.code y bytes maxL ret] rm) (fun a U => a = as' ∧ Z.Warmed39 U.vm ∧ U.heap = h ∧ CHv Z EL U.vm h ∧ ∀ x ∈ ss, Safe Z EL U.vm h x) (fun _ _ _ _ _ => True) (fun _ U o U' => ∃ v L, o = .returned v ∧ Q v U'.heap L ∧ CHr Z EL U.vm U.heap U'.vm U'.heap ∧ ReturnedEndW U o U' L rm.cells rm.slots))
    (hZ : Z.Warmed39 vm0) (wc : (Cond.code y bytes maxL ret).before a0 Z = true) (wz : (Cond.initialized y.cls).before a0 Z = true) (hf : rm.frames + 1 ≤ R.frames) (hl : W + (maxL + 11) + rm.locals ≤ R.locals) (hEL : EW Z a0 EL) (H : CHv Z EL vm0 h) (hss : ∀ x ∈ ss, x < h.size ∧ Safe Z EL vm0 h x) :
    BackS l R p e below (s.setVm vm0) args y len W (fun A a => a = as' ∧ A.U.heap = h ∧ A.cells + rm.cells ≤ R.cells ∧ A.slots + rm.slots ≤ R.slots)
      (fun A _ v B => ∃ L, Q v B.U.heap L ∧ B.locs = A.locs ++ L ∧ B.cells = A.cells + rm.cells ∧ B.slots = A.slots + rm.slots ∧ CHr Z EL vm0 h B.U.vm B.U.heap) := by
  refine BackS.of_freeW (bytes := bytes) (maxL := maxL) (ret := ret) (E := fun _ U o t L k n => k = rm.cells ∧ n = rm.slots ∧ CHr Z EL U.vm U.heap t.vm t.heap ∧ ∃ v, o = .returned v ∧ Q v t.heap L) hM hf hl ?_ ?_ (fun _ _ _ _ _ _ _ _ _ => trivial) ?_ ?_
  · intro m meth c A a Y hp
    have hU : Z.Warmed39 A.U.vm := wtrans (s := s.setVm vm0) hZ Y.warmed
    refine ⟨?_, mv hU wc, mv hU wz, hp.2.2.1, hp.2.2.2⟩
    show (Cond.and _ .tt).before a A.U = true
    rw [Cond.before_and, mv hU wc]; rfl
  · intro m meth c A a g mk Y hp
    have C := CHv.at Y hZ hEL H
    exact ⟨hp.1, wtrans (s := s.setVm vm0) hZ Y.warmed, hp.2.1, C.1, fun x hx => C.safe (hss x hx).1 (hss x hx).2⟩
  · rintro a U o t ⟨v, L, h1, h2, h3, h4⟩
    exact ⟨L, _, _, h4, rfl, rfl, h3, v, h1, h2⟩
  · rintro m meth c A a g mk v t L k n Y hp - - ⟨e1, e2, e3, v', e4, e5⟩
    cases e4
    subst e1 e2
    refine ⟨L, e5, rfl, rfl, rfl, (CHv.at Y hZ hEL H).trans ?_⟩
    rw [← hp.2.1]; exact e3
/-! ### getfield where the entry stands resolved (the word fieldRef) -/
section OwnRef
variable {p : Program} {l : Launch} {e : Env} {R : Room} {s : State} {m : MethodId} {args : Array Value} {below : List Frame} {meth : Method} {c : Code} {T : State} {locs : List Loc} {cells slots : Nat} {Z : State} {a0 : Array Value} {h : Heap}
theorem own_getR (X : Stand p l e R s m args below meth c T locs cells slots) (hx : p.tables.exec = Jvm.exec) (hZ : Z.Warmed39 s.vm) {own R0 O n d : String} {index : Nat} (hown : s.vm.findClass own = some m.cls) (w : (Cond.fieldRef own index R0 n d).before a0 Z = true) (via : Via Z R0 O n d)
    (eT : T.heap = h) {a : Addr} {v : Value} (F : Fld Z h a O n d v) {g : JFrame} (hg : g.method = m) {rest : List Value} (hs : g.stack = .ref a :: rest) (hd : decode c.code g.pc = .ok (.getfield index, 3)) : ∃ T', Stand p l e R s m args below meth c T' locs cells slots ∧ T'.heap = h ∧ ∀ target, Steps p.tables e below (T'.setTop { g with pc := g.pc + 3, stack := v :: rest }) target → Steps p.tables e below (T.setTop g) target := by
  obtain ⟨cell, cf, k, i, f, h1, h2, h3, h4, -, -, h7⟩ := F
  have hU : Z.Warmed39 T.vm := wtrans hZ X.warmed
  have w' : (Cond.fieldRef own index R0 n d).before a0 (Z.setVm T.vm) = true := Cond.fieldRef_warmed39 hU w
  have hown' : (Z.setVm T.vm).vm.findClass own = some m.cls := by
    rw [State.vm_setVm, X.warmed.alike.findClass]; exact hown
  obtain ⟨c2, k2, i2, f2, hi2, hready⟩ := Cond.fieldRef_spec (s := Z.setVm T.vm) hown' w'
  obtain ⟨k', hi', -⟩ := State.fieldFound?_setVm (s := Z) hU.alike (via _ h2)
  cases hi2.symm.trans hi'
  refine ⟨T, X, eT, fun target hrest => ?_⟩
  subst hg
  have hc : T.heap[a]? = some cell := by rw [eT]; exact h1
  jvm_step X.here [hx, hd, getfield.wp_ready (e := e) (s := T) (f := g) X.here.top hready h3 hs hc h4 h7]
  exact hrest
end OwnRef
theorem pn_java_lang_Throwable : plainName "java/lang/Throwable" = true := by first | (simp [plainName, overriddenIn]; done) | decide +kernel
theorem d_jdk_78_method_2_code_0 : decode jdk_78_method_2_code 0 = .ok (.aload_n 0, 1) := by decide +kernel
theorem d_jdk_78_method_2_code_1 : decode jdk_78_method_2_code 1 = .ok (.invokespecial 1, 3) := by decide +kernel
theorem d_jdk_78_method_2_code_4 : decode jdk_78_method_2_code 4 = .ok (.aload_n 0, 1) := by decide +kernel
theorem d_jdk_78_method_2_code_5 : decode jdk_78_method_2_code 5 = .ok (.aload_n 0, 1) := by decide +kernel
theorem d_jdk_78_method_2_code_6 : decode jdk_78_method_2_code 6 = .ok (.putfield 7, 3) := by decide +kernel
theorem d_jdk_78_method_2_code_9 : decode jdk_78_method_2_code 9 = .ok (.aload_n 0, 1) := by decide +kernel
theorem d_jdk_78_method_2_code_10 : decode jdk_78_method_2_code 10 = .ok (.getstatic 13, 3) := by decide +kernel
theorem d_jdk_78_method_2_code_13 : decode jdk_78_method_2_code 13 = .ok (.putfield 17, 3) := by decide +kernel
theorem d_jdk_78_method_2_code_16 : decode jdk_78_method_2_code 16 = .ok (.aload_n 0, 1) := by decide +kernel
theorem d_jdk_78_method_2_code_17 : decode jdk_78_method_2_code 17 = .ok (.getstatic 20, 3) := by decide +kernel
theorem d_jdk_78_method_2_code_20 : decode jdk_78_method_2_code 20 = .ok (.putfield 24, 3) := by decide +kernel
theorem d_jdk_78_method_2_code_23 : decode jdk_78_method_2_code 23 = .ok (.aload_n 0, 1) := by decide +kernel
theorem d_jdk_78_method_2_code_24 : decode jdk_78_method_2_code 24 = .ok (.invokevirtual 27, 3) := by decide +kernel
theorem d_jdk_78_method_2_code_27 : decode jdk_78_method_2_code 27 = .ok (.pop, 1) := by decide +kernel
theorem d_jdk_78_method_2_code_28 : decode jdk_78_method_2_code 28 = .ok (.aload_n 0, 1) := by decide +kernel
theorem d_jdk_78_method_2_code_29 : decode jdk_78_method_2_code 29 = .ok (.aload_n 1, 1) := by decide +kernel
theorem d_jdk_78_method_2_code_30 : decode jdk_78_method_2_code 30 = .ok (.putfield 31, 3) := by decide +kernel
theorem d_jdk_78_method_2_code_33 : decode jdk_78_method_2_code 33 = .ok (.return_, 1) := by decide +kernel
theorem pn_java_lang_Exception : plainName "java/lang/Exception" = true := by first | (simp [plainName, overriddenIn]; done) | decide +kernel
theorem d_jdk_59_method_2_code_0 : decode jdk_59_method_2_code 0 = .ok (.aload_n 0, 1) := by decide +kernel
theorem d_jdk_59_method_2_code_1 : decode jdk_59_method_2_code 1 = .ok (.aload_n 1, 1) := by decide +kernel
theorem pd__Ljava_lang_String__V : parseMethodDescriptor "(Ljava/lang/String;)V" = some ⟨[(.object "java/lang/String")], none⟩ := by decide +kernel
theorem d_jdk_59_method_2_code_2 : decode jdk_59_method_2_code 2 = .ok (.invokespecial 7, 3) := by decide +kernel
theorem d_jdk_59_method_2_code_5 : decode jdk_59_method_2_code 5 = .ok (.return_, 1) := by decide +kernel
theorem pn_com_example_envelopa_envelopa_model_ServerStateFault : plainName "com/example/envelopa/envelopa/model/ServerStateFault" = true := by first | (simp [plainName, overriddenIn]; done) | decide +kernel
theorem d_prog_12_method_1_code_0 : decode prog_12_method_1_code 0 = .ok (.aload_n 0, 1) := by decide +kernel
theorem d_prog_12_method_1_code_1 : decode prog_12_method_1_code 1 = .ok (.aload_n 2, 1) := by decide +kernel
theorem d_prog_12_method_1_code_2 : decode prog_12_method_1_code 2 = .ok (.invokespecial 1, 3) := by decide +kernel
theorem d_prog_12_method_1_code_5 : decode prog_12_method_1_code 5 = .ok (.aload_n 0, 1) := by decide +kernel
theorem d_prog_12_method_1_code_6 : decode prog_12_method_1_code 6 = .ok (.aload_n 1, 1) := by decide +kernel
theorem d_prog_12_method_1_code_7 : decode prog_12_method_1_code 7 = .ok (.putfield 7, 3) := by decide +kernel
theorem d_prog_12_method_1_code_10 : decode prog_12_method_1_code 10 = .ok (.aload_n 0, 1) := by decide +kernel
theorem d_prog_12_method_1_code_11 : decode prog_12_method_1_code 11 = .ok (.aconst_null, 1) := by decide +kernel
theorem d_prog_12_method_1_code_12 : decode prog_12_method_1_code 12 = .ok (.putfield 13, 3) := by decide +kernel
theorem d_prog_12_method_1_code_15 : decode prog_12_method_1_code 15 = .ok (.return_, 1) := by decide +kernel
theorem d_prog_12_method_3_code_0 : decode prog_12_method_3_code 0 = .ok (.new 8, 3) := by decide +kernel
theorem d_prog_12_method_3_code_3 : decode prog_12_method_3_code 3 = .ok (.dup, 1) := by decide +kernel
theorem d_prog_12_method_3_code_4 : decode prog_12_method_3_code 4 = .ok (.getstatic 34, 3) := by decide +kernel
theorem d_prog_12_method_3_code_7 : decode prog_12_method_3_code 7 = .ok (.aload_n 0, 1) := by decide +kernel
theorem pd__Lcom_example_envelopa_envelopa_model_ServerStateFault_Kind_Ljava_lang_String__V : parseMethodDescriptor "(Lcom/example/envelopa/envelopa/model/ServerStateFault$Kind;Ljava/lang/String;)V" = some ⟨[(.object "com/example/envelopa/envelopa/model/ServerStateFault$Kind"), (.object "java/lang/String")], none⟩ := by decide +kernel
theorem d_prog_12_method_3_code_8 : decode prog_12_method_3_code 8 = .ok (.invokespecial 37, 3) := by decide +kernel
theorem d_prog_12_method_3_code_11 : decode prog_12_method_3_code 11 = .ok (.areturn, 1) := by decide +kernel
theorem d_prog_12_method_4_code_0 : decode prog_12_method_4_code 0 = .ok (.aload_n 0, 1) := by decide +kernel
theorem d_prog_12_method_4_code_1 : decode prog_12_method_4_code 1 = .ok (.getfield 7, 3) := by decide +kernel
theorem d_prog_12_method_4_code_4 : decode prog_12_method_4_code 4 = .ok (.areturn, 1) := by decide +kernel
theorem d_prog_12_method_5_code_0 : decode prog_12_method_5_code 0 = .ok (.aload_n 0, 1) := by decide +kernel
theorem d_prog_12_method_5_code_1 : decode prog_12_method_5_code 1 = .ok (.getfield 13, 3) := by decide +kernel
theorem d_prog_12_method_5_code_4 : decode prog_12_method_5_code 4 = .ok (.areturn, 1) := by decide +kernel
theorem pn_java_lang_StringUTF16 : plainName "java/lang/StringUTF16" = true := by first | (simp [plainName, overriddenIn]; done) | decide +kernel
theorem d_jdk_52_method_21_code_0 : decode jdk_52_method_21_code 0 = .ok (.iconst 0, 1) := by decide +kernel
theorem d_jdk_52_method_21_code_1 : decode jdk_52_method_21_code 1 = .ok (.istore 5, 2) := by decide +kernel
theorem d_jdk_52_method_21_code_3 : decode jdk_52_method_21_code 3 = .ok (.iload 5, 2) := by decide +kernel
theorem d_jdk_52_method_21_code_5 : decode jdk_52_method_21_code 5 = .ok (.iload 4, 2) := by decide +kernel
theorem d_jdk_52_method_21_code_7 : decode jdk_52_method_21_code 7 = .ok (.if_icmp .ge 37, 3) := by decide +kernel
theorem d_jdk_52_method_21_code_10 : decode jdk_52_method_21_code 10 = .ok (.aload_n 0, 1) := by decide +kernel
theorem d_jdk_52_method_21_code_11 : decode jdk_52_method_21_code 11 = .ok (.iload_n 1, 1) := by decide +kernel
theorem d_jdk_52_method_21_code_12 : decode jdk_52_method_21_code 12 = .ok (.caload, 1) := by decide +kernel
theorem d_jdk_52_method_21_code_13 : decode jdk_52_method_21_code 13 = .ok (.istore 6, 2) := by decide +kernel
theorem d_jdk_52_method_21_code_15 : decode jdk_52_method_21_code 15 = .ok (.iload 6, 2) := by decide +kernel
theorem d_jdk_52_method_21_code_17 : decode jdk_52_method_21_code 17 = .ok (.sipush 255, 3) := by decide +kernel
theorem d_jdk_52_method_21_code_20 : decode jdk_52_method_21_code 20 = .ok (.if_icmp .le 6, 3) := by decide +kernel
theorem d_jdk_52_method_21_code_26 : decode jdk_52_method_21_code 26 = .ok (.aload_n 2, 1) := by decide +kernel
theorem d_jdk_52_method_21_code_27 : decode jdk_52_method_21_code 27 = .ok (.iload_n 3, 1) := by decide +kernel
theorem d_jdk_52_method_21_code_28 : decode jdk_52_method_21_code 28 = .ok (.iload 6, 2) := by decide +kernel
theorem d_jdk_52_method_21_code_30 : decode jdk_52_method_21_code 30 = .ok (.i2b, 1) := by decide +kernel
theorem d_jdk_52_method_21_code_31 : decode jdk_52_method_21_code 31 = .ok (.bastore, 1) := by decide +kernel
theorem d_jdk_52_method_21_code_32 : decode jdk_52_method_21_code 32 = .ok (.iinc 1 1, 3) := by decide +kernel
theorem d_jdk_52_method_21_code_35 : decode jdk_52_method_21_code 35 = .ok (.iinc 3 1, 3) := by decide +kernel
theorem d_jdk_52_method_21_code_38 : decode jdk_52_method_21_code 38 = .ok (.iinc 5 1, 3) := by decide +kernel
theorem d_jdk_52_method_21_code_41 : decode jdk_52_method_21_code 41 = .ok (.goto (-38), 3) := by decide +kernel
theorem d_jdk_52_method_21_code_44 : decode jdk_52_method_21_code 44 = .ok (.iload 4, 2) := by decide +kernel
theorem d_jdk_52_method_21_code_46 : decode jdk_52_method_21_code 46 = .ok (.ireturn, 1) := by decide +kernel
theorem d_jdk_52_method_16_code_0 : decode jdk_52_method_16_code 0 = .ok (.iload_n 2, 1) := by decide +kernel
theorem d_jdk_52_method_16_code_1 : decode jdk_52_method_16_code 1 = .ok (.newarray .byte, 2) := by decide +kernel
theorem d_jdk_52_method_16_code_3 : decode jdk_52_method_16_code 3 = .ok (.astore_n 3, 1) := by decide +kernel
theorem d_jdk_52_method_16_code_4 : decode jdk_52_method_16_code 4 = .ok (.aload_n 0, 1) := by decide +kernel
theorem d_jdk_52_method_16_code_5 : decode jdk_52_method_16_code 5 = .ok (.iload_n 1, 1) := by decide +kernel
theorem d_jdk_52_method_16_code_6 : decode jdk_52_method_16_code 6 = .ok (.aload_n 3, 1) := by decide +kernel
theorem d_jdk_52_method_16_code_7 : decode jdk_52_method_16_code 7 = .ok (.iconst 0, 1) := by decide +kernel
theorem d_jdk_52_method_16_code_8 : decode jdk_52_method_16_code 8 = .ok (.iload_n 2, 1) := by decide +kernel
theorem pd___CI_BII_I : parseMethodDescriptor "([CI[BII)I" = some ⟨[(.array .char), .int, (.array .byte), .int, .int], some .int⟩ := by decide +kernel
theorem d_jdk_52_method_16_code_9 : decode jdk_52_method_16_code 9 = .ok (.invokestatic 115, 3) := by decide +kernel
theorem d_jdk_52_method_16_code_12 : decode jdk_52_method_16_code 12 = .ok (.istore 4, 2) := by decide +kernel
theorem d_jdk_52_method_16_code_14 : decode jdk_52_method_16_code 14 = .ok (.iload 4, 2) := by decide +kernel
theorem d_jdk_52_method_16_code_16 : decode jdk_52_method_16_code 16 = .ok (.iload_n 2, 1) := by decide +kernel
theorem d_jdk_52_method_16_code_17 : decode jdk_52_method_16_code 17 = .ok (.if_icmp .eq 40, 3) := by decide +kernel
theorem d_jdk_52_method_16_code_57 : decode jdk_52_method_16_code 57 = .ok (.aload_n 3, 1) := by decide +kernel
theorem d_jdk_52_method_16_code_58 : decode jdk_52_method_16_code 58 = .ok (.areturn, 1) := by decide +kernel
theorem d_jdk_52_method_15_code_0 : decode jdk_52_method_15_code 0 = .ok (.iload_n 1, 1) := by decide +kernel
theorem d_jdk_52_method_15_code_1 : decode jdk_52_method_15_code 1 = .ok (.aload_n 0, 1) := by decide +kernel
theorem d_jdk_52_method_15_code_2 : decode jdk_52_method_15_code 2 = .ok (.arraylength, 1) := by decide +kernel
theorem d_jdk_52_method_15_code_3 : decode jdk_52_method_15_code 3 = .ok (.isub, 1) := by decide +kernel
theorem d_jdk_52_method_15_code_4 : decode jdk_52_method_15_code 4 = .ok (.bipush 31, 2) := by decide +kernel
theorem d_jdk_52_method_15_code_6 : decode jdk_52_method_15_code 6 = .ok (.iushr, 1) := by decide +kernel
theorem d_jdk_52_method_15_code_7 : decode jdk_52_method_15_code 7 = .ok (.i2b, 1) := by decide +kernel
theorem d_jdk_52_method_15_code_8 : decode jdk_52_method_15_code 8 = .ok (.ireturn, 1) := by decide +kernel
theorem pn_java_lang_String : plainName "java/lang/String" = true := by first | (simp [plainName, overriddenIn]; done) | decide +kernel
theorem d_jdk_42_method_149_code_0 : decode jdk_42_method_149_code 0 = .ok (.aload_n 0, 1) := by decide +kernel
theorem d_jdk_42_method_149_code_1 : decode jdk_42_method_149_code 1 = .ok (.invokespecial 1, 3) := by decide +kernel
theorem d_jdk_42_method_149_code_4 : decode jdk_42_method_149_code 4 = .ok (.iload_n 3, 1) := by decide +kernel
theorem d_jdk_42_method_149_code_5 : decode jdk_42_method_149_code 5 = .ok (.ifCond .ne 22, 3) := by decide +kernel
theorem d_jdk_42_method_149_code_27 : decode jdk_42_method_149_code 27 = .ok (.getstatic 38, 3) := by decide +kernel
theorem d_jdk_42_method_149_code_30 : decode jdk_42_method_149_code 30 = .ok (.ifCond .eq 28, 3) := by decide +kernel
theorem d_jdk_42_method_149_code_33 : decode jdk_42_method_149_code 33 = .ok (.aload_n 1, 1) := by decide +kernel
theorem d_jdk_42_method_149_code_34 : decode jdk_42_method_149_code 34 = .ok (.iload_n 2, 1) := by decide +kernel
theorem d_jdk_42_method_149_code_35 : decode jdk_42_method_149_code 35 = .ok (.iload_n 3, 1) := by decide +kernel
theorem pd___CII__B : parseMethodDescriptor "([CII)[B" = some ⟨[(.array .char), .int, .int], some (.array .byte)⟩ := by decide +kernel
theorem d_jdk_42_method_149_code_36 : decode jdk_42_method_149_code 36 = .ok (.invokestatic 177, 3) := by decide +kernel
theorem d_jdk_42_method_149_code_39 : decode jdk_42_method_149_code 39 = .ok (.astore 5, 2) := by decide +kernel
theorem d_jdk_42_method_149_code_41 : decode jdk_42_method_149_code 41 = .ok (.aload_n 0, 1) := by decide +kernel
theorem d_jdk_42_method_149_code_42 : decode jdk_42_method_149_code 42 = .ok (.aload 5, 2) := by decide +kernel
theorem d_jdk_42_method_149_code_44 : decode jdk_42_method_149_code 44 = .ok (.iload_n 3, 1) := by decide +kernel
theorem pd___BI_B : parseMethodDescriptor "([BI)B" = some ⟨[(.array .byte), .int], some .byte⟩ := by decide +kernel
theorem d_jdk_42_method_149_code_45 : decode jdk_42_method_149_code 45 = .ok (.invokestatic 47, 3) := by decide +kernel
theorem d_jdk_42_method_149_code_48 : decode jdk_42_method_149_code 48 = .ok (.putfield 15, 3) := by decide +kernel
theorem d_jdk_42_method_149_code_51 : decode jdk_42_method_149_code 51 = .ok (.aload_n 0, 1) := by decide +kernel
theorem d_jdk_42_method_149_code_52 : decode jdk_42_method_149_code 52 = .ok (.aload 5, 2) := by decide +kernel
theorem d_jdk_42_method_149_code_54 : decode jdk_42_method_149_code 54 = .ok (.putfield 9, 3) := by decide +kernel
theorem d_jdk_42_method_149_code_57 : decode jdk_42_method_149_code 57 = .ok (.return_, 1) := by decide +kernel
theorem d_jdk_42_method_3_code_0 : decode jdk_42_method_3_code 0 = .ok (.aload_n 0, 1) := by decide +kernel
theorem d_jdk_42_method_3_code_1 : decode jdk_42_method_3_code 1 = .ok (.aload_n 1, 1) := by decide +kernel
theorem d_jdk_42_method_3_code_2 : decode jdk_42_method_3_code 2 = .ok (.iconst 0, 1) := by decide +kernel
theorem d_jdk_42_method_3_code_3 : decode jdk_42_method_3_code 3 = .ok (.aload_n 1, 1) := by decide +kernel
theorem d_jdk_42_method_3_code_4 : decode jdk_42_method_3_code 4 = .ok (.arraylength, 1) := by decide +kernel
theorem d_jdk_42_method_3_code_5 : decode jdk_42_method_3_code 5 = .ok (.aconst_null, 1) := by decide +kernel
theorem pd___CIILjava_lang_Void__V : parseMethodDescriptor "([CIILjava/lang/Void;)V" = some ⟨[(.array .char), .int, .int, (.object "java/lang/Void")], none⟩ := by decide +kernel
theorem d_jdk_42_method_3_code_6 : decode jdk_42_method_3_code 6 = .ok (.invokespecial 27, 3) := by decide +kernel
theorem d_jdk_42_method_3_code_9 : decode jdk_42_method_3_code 9 = .ok (.return_, 1) := by decide +kernel
theorem pn_java_lang_StringLatin1 : plainName "java/lang/StringLatin1" = true := by first | (simp [plainName, overriddenIn]; done) | decide +kernel
theorem d_jdk_43_method_3_code_0 : decode jdk_43_method_3_code 0 = .ok (.iload_n 0, 1) := by decide +kernel
theorem d_jdk_43_method_3_code_1 : decode jdk_43_method_3_code 1 = .ok (.sipush 255, 3) := by decide +kernel
theorem d_jdk_43_method_3_code_4 : decode jdk_43_method_3_code 4 = .ok (.if_icmp .gt 7, 3) := by decide +kernel
theorem d_jdk_43_method_3_code_7 : decode jdk_43_method_3_code 7 = .ok (.iconst 1, 1) := by decide +kernel
theorem d_jdk_43_method_3_code_8 : decode jdk_43_method_3_code 8 = .ok (.goto 4, 3) := by decide +kernel
theorem d_jdk_43_method_3_code_12 : decode jdk_43_method_3_code 12 = .ok (.ireturn, 1) := by decide +kernel
theorem d_jdk_43_method_46_code_0 : decode jdk_43_method_46_code 0 = .ok (.iconst 1, 1) := by decide +kernel
theorem d_jdk_43_method_46_code_1 : decode jdk_43_method_46_code 1 = .ok (.newarray .byte, 2) := by decide +kernel
theorem d_jdk_43_method_46_code_3 : decode jdk_43_method_46_code 3 = .ok (.dup, 1) := by decide +kernel
theorem d_jdk_43_method_46_code_4 : decode jdk_43_method_46_code 4 = .ok (.iconst 0, 1) := by decide +kernel
theorem d_jdk_43_method_46_code_5 : decode jdk_43_method_46_code 5 = .ok (.iload_n 0, 1) := by decide +kernel
theorem d_jdk_43_method_46_code_6 : decode jdk_43_method_46_code 6 = .ok (.i2b, 1) := by decide +kernel
theorem d_jdk_43_method_46_code_7 : decode jdk_43_method_46_code 7 = .ok (.bastore, 1) := by decide +kernel
theorem d_jdk_43_method_46_code_8 : decode jdk_43_method_46_code 8 = .ok (.areturn, 1) := by decide +kernel
theorem d_jdk_42_method_151_code_0 : decode jdk_42_method_151_code 0 = .ok (.aload_n 0, 1) := by decide +kernel
theorem d_jdk_42_method_151_code_1 : decode jdk_42_method_151_code 1 = .ok (.invokespecial 1, 3) := by decide +kernel
theorem d_jdk_42_method_151_code_4 : decode jdk_42_method_151_code 4 = .ok (.aload_n 0, 1) := by decide +kernel
theorem d_jdk_42_method_151_code_5 : decode jdk_42_method_151_code 5 = .ok (.aload_n 1, 1) := by decide +kernel
theorem d_jdk_42_method_151_code_6 : decode jdk_42_method_151_code 6 = .ok (.putfield 9, 3) := by decide +kernel
theorem d_jdk_42_method_151_code_9 : decode jdk_42_method_151_code 9 = .ok (.aload_n 0, 1) := by decide +kernel
theorem d_jdk_42_method_151_code_10 : decode jdk_42_method_151_code 10 = .ok (.iload_n 2, 1) := by decide +kernel
theorem d_jdk_42_method_151_code_11 : decode jdk_42_method_151_code 11 = .ok (.putfield 15, 3) := by decide +kernel
theorem d_jdk_42_method_151_code_14 : decode jdk_42_method_151_code 14 = .ok (.return_, 1) := by decide +kernel
theorem d_jdk_42_method_139_code_0 : decode jdk_42_method_139_code 0 = .ok (.getstatic 38, 3) := by decide +kernel
theorem d_jdk_42_method_139_code_3 : decode jdk_42_method_139_code 3 = .ok (.ifCond .eq 23, 3) := by decide +kernel
theorem d_jdk_42_method_139_code_6 : decode jdk_42_method_139_code 6 = .ok (.iload_n 0, 1) := by decide +kernel
theorem pd__C_Z : parseMethodDescriptor "(C)Z" = some ⟨[.char], some .boolean⟩ := by decide +kernel
theorem d_jdk_42_method_139_code_7 : decode jdk_42_method_139_code 7 = .ok (.invokestatic 1015, 3) := by decide +kernel
theorem d_jdk_42_method_139_code_10 : decode jdk_42_method_139_code 10 = .ok (.ifCond .eq 16, 3) := by decide +kernel
theorem d_jdk_42_method_139_code_13 : decode jdk_42_method_139_code 13 = .ok (.new 10, 3) := by decide +kernel
theorem d_jdk_42_method_139_code_16 : decode jdk_42_method_139_code 16 = .ok (.dup, 1) := by decide +kernel
theorem d_jdk_42_method_139_code_17 : decode jdk_42_method_139_code 17 = .ok (.iload_n 0, 1) := by decide +kernel
theorem pd__C__B : parseMethodDescriptor "(C)[B" = some ⟨[.char], some (.array .byte)⟩ := by decide +kernel
theorem d_jdk_42_method_139_code_18 : decode jdk_42_method_139_code 18 = .ok (.invokestatic 1018, 3) := by decide +kernel
theorem d_jdk_42_method_139_code_21 : decode jdk_42_method_139_code 21 = .ok (.iconst 0, 1) := by decide +kernel
theorem pd___BB_V : parseMethodDescriptor "([BB)V" = some ⟨[(.array .byte), .byte], none⟩ := by decide +kernel
theorem d_jdk_42_method_139_code_22 : decode jdk_42_method_139_code 22 = .ok (.invokespecial 209, 3) := by decide +kernel
theorem d_jdk_42_method_139_code_25 : decode jdk_42_method_139_code 25 = .ok (.areturn, 1) := by decide +kernel
theorem pn_com_example_envelopa_envelopa_model_ServerStateFaultMalformedPinLaw : plainName "com/example/envelopa/envelopa/model/ServerStateFaultMalformedPinLaw" = true := by first | (simp [plainName, overriddenIn]; done) | decide +kernel
theorem pd__Ljava_lang_String__Lcom_example_envelopa_envelopa_model_ServerStateFault_ : parseMethodDescriptor "(Ljava/lang/String;)Lcom/example/envelopa/envelopa/model/ServerStateFault;" = some ⟨[(.object "java/lang/String")], some (.object "com/example/envelopa/envelopa/model/ServerStateFault")⟩ := by decide +kernel
theorem pd___Lcom_example_envelopa_envelopa_model_ServerStateFault_Kind_ : parseMethodDescriptor "()Lcom/example/envelopa/envelopa/model/ServerStateFault$Kind;" = some ⟨[], some (.object "com/example/envelopa/envelopa/model/ServerStateFault$Kind")⟩ := by decide +kernel
theorem pd___Lcom_example_envelopa_envelopa_model_Reason_ : parseMethodDescriptor "()Lcom/example/envelopa/envelopa/model/Reason;" = some ⟨[], some (.object "com/example/envelopa/envelopa/model/Reason")⟩ := by decide +kernel
theorem pd__C_Ljava_lang_String_ : parseMethodDescriptor "(C)Ljava/lang/String;" = some ⟨[.char], some (.object "java/lang/String")⟩ := by decide +kernel
theorem pd___C_V : parseMethodDescriptor "([C)V" = some ⟨[(.array .char)], none⟩ := by decide +kernel
theorem tw_0 {Z : State} {a0 : Array Value} (hw : ∀ d ∈ tables_1, d.before a0 Z = true) : (Jvm.Cond.arrayClass Jvm.ClassFile.FieldType.char : Jvm.Cond).before a0 Z = true := hw _ (List.mem_of_getElem? (i := 0) rfl)
theorem tw_1 {Z : State} {a0 : Array Value} (hw : ∀ d ∈ tables_1, d.before a0 Z = true) : (Jvm.Cond.methodLink "com/example/envelopa/envelopa/model/ServerStateFaultMalformedPinLaw" (9 : Nat) ({ cls := "java/lang/String", name := "valueOf", desc := "(C)Ljava/lang/String;" } : Jvm.MethodName) : Jvm.Cond).before a0 Z = true := hw _ (List.mem_of_getElem? (i := 1) rfl)
theorem tw_2 {Z : State} {a0 : Array Value} (hw : ∀ d ∈ tables_1, d.before a0 Z = true) : (Jvm.Cond.static ({ cls := "java/lang/String", name := "valueOf", desc := "(C)Ljava/lang/String;" } : Jvm.MethodName) : Jvm.Cond).before a0 Z = true := hw _ (List.mem_of_getElem? (i := 2) rfl)
theorem tw_3 {Z : State} {a0 : Array Value} (hw : ∀ d ∈ tables_1, d.before a0 Z = true) : (Jvm.Cond.initialized "java/lang/String" : Jvm.Cond).before a0 Z = true := hw _ (List.mem_of_getElem? (i := 3) rfl)
theorem tw_4 {Z : State} {a0 : Array Value} (hw : ∀ d ∈ tables_1, d.before a0 Z = true) : (Jvm.Cond.code ({ cls := "java/lang/String", name := "valueOf", desc := "(C)Ljava/lang/String;" } : Jvm.MethodName) jdk_42_method_139_code (1 : Nat) (Option.some (Jvm.ClassFile.FieldType.object "java/lang/String")) : Jvm.Cond).before a0 Z = true := hw _ (List.mem_of_getElem? (i := 4) rfl)
theorem tw_5 {Z : State} {a0 : Array Value} (hw : ∀ d ∈ tables_1, d.before a0 Z = true) : (Jvm.Cond.fieldLink "java/lang/String" (38 : Nat) "java/lang/String" "COMPACT_STRINGS" "Z" : Jvm.Cond).before a0 Z = true := hw _ (List.mem_of_getElem? (i := 5) rfl)
theorem tw_6 {Z : State} {a0 : Array Value} (hw : ∀ d ∈ tables_1, d.before a0 Z = true) : (Jvm.Cond.methodLink "java/lang/String" (1015 : Nat) ({ cls := "java/lang/StringLatin1", name := "canEncode", desc := "(C)Z" } : Jvm.MethodName) : Jvm.Cond).before a0 Z = true := hw _ (List.mem_of_getElem? (i := 6) rfl)
theorem tw_7 {Z : State} {a0 : Array Value} (hw : ∀ d ∈ tables_1, d.before a0 Z = true) : (Jvm.Cond.static ({ cls := "java/lang/StringLatin1", name := "canEncode", desc := "(C)Z" } : Jvm.MethodName) : Jvm.Cond).before a0 Z = true := hw _ (List.mem_of_getElem? (i := 7) rfl)
theorem tw_8 {Z : State} {a0 : Array Value} (hw : ∀ d ∈ tables_1, d.before a0 Z = true) : (Jvm.Cond.initialized "java/lang/StringLatin1" : Jvm.Cond).before a0 Z = true := hw _ (List.mem_of_getElem? (i := 8) rfl)
theorem tw_9 {Z : State} {a0 : Array Value} (hw : ∀ d ∈ tables_1, d.before a0 Z = true) : (Jvm.Cond.code ({ cls := "java/lang/StringLatin1", name := "canEncode", desc := "(C)Z" } : Jvm.MethodName) jdk_43_method_3_code (1 : Nat) (Option.some Jvm.ClassFile.FieldType.boolean) : Jvm.Cond).before a0 Z = true := hw _ (List.mem_of_getElem? (i := 9) rfl)
theorem tw_10 {Z : State} {a0 : Array Value} (hw : ∀ d ∈ tables_1, d.before a0 Z = true) : (Jvm.Cond.classLink "java/lang/String" (10 : Nat) "java/lang/String" : Jvm.Cond).before a0 Z = true := hw _ (List.mem_of_getElem? (i := 10) rfl)
theorem tw_11 {Z : State} {a0 : Array Value} (hw : ∀ d ∈ tables_1, d.before a0 Z = true) : (Jvm.Cond.instantiable "java/lang/String" (4 : Nat) : Jvm.Cond).before a0 Z = true := hw _ (List.mem_of_getElem? (i := 11) rfl)
theorem tw_12 {Z : State} {a0 : Array Value} (hw : ∀ d ∈ tables_1, d.before a0 Z = true) : (Jvm.Cond.methodLink "java/lang/String" (1018 : Nat) ({ cls := "java/lang/StringLatin1", name := "toBytes", desc := "(C)[B" } : Jvm.MethodName) : Jvm.Cond).before a0 Z = true := hw _ (List.mem_of_getElem? (i := 12) rfl)
theorem tw_13 {Z : State} {a0 : Array Value} (hw : ∀ d ∈ tables_1, d.before a0 Z = true) : (Jvm.Cond.static ({ cls := "java/lang/StringLatin1", name := "toBytes", desc := "(C)[B" } : Jvm.MethodName) : Jvm.Cond).before a0 Z = true := hw _ (List.mem_of_getElem? (i := 13) rfl)
theorem tw_14 {Z : State} {a0 : Array Value} (hw : ∀ d ∈ tables_1, d.before a0 Z = true) : (Jvm.Cond.code ({ cls := "java/lang/StringLatin1", name := "toBytes", desc := "(C)[B" } : Jvm.MethodName) jdk_43_method_46_code (1 : Nat) (Option.some (Jvm.ClassFile.FieldType.array Jvm.ClassFile.FieldType.byte)) : Jvm.Cond).before a0 Z = true := hw _ (List.mem_of_getElem? (i := 14) rfl)
theorem tw_15 {Z : State} {a0 : Array Value} (hw : ∀ d ∈ tables_1, d.before a0 Z = true) : (Jvm.Cond.arrayClass Jvm.ClassFile.FieldType.byte : Jvm.Cond).before a0 Z = true := hw _ (List.mem_of_getElem? (i := 15) rfl)
theorem tw_16 {Z : State} {a0 : Array Value} (hw : ∀ d ∈ tables_1, d.before a0 Z = true) : (Jvm.Cond.methodLink "java/lang/String" (209 : Nat) ({ cls := "java/lang/String", name := "<init>", desc := "([BB)V" } : Jvm.MethodName) : Jvm.Cond).before a0 Z = true := hw _ (List.mem_of_getElem? (i := 16) rfl)
theorem tw_17 {Z : State} {a0 : Array Value} (hw : ∀ d ∈ tables_1, d.before a0 Z = true) : (Jvm.Cond.instanceMethod ({ cls := "java/lang/String", name := "<init>", desc := "([BB)V" } : Jvm.MethodName) : Jvm.Cond).before a0 Z = true := hw _ (List.mem_of_getElem? (i := 17) rfl)
theorem tw_19 {Z : State} {a0 : Array Value} (hw : ∀ d ∈ tables_1, d.before a0 Z = true) : (Jvm.Cond.code ({ cls := "java/lang/String", name := "<init>", desc := "([BB)V" } : Jvm.MethodName) jdk_42_method_151_code (3 : Nat) (Option.none : Option Jvm.ClassFile.FieldType) : Jvm.Cond).before a0 Z = true := hw _ (List.mem_of_getElem? (i := 19) rfl)
theorem tw_20 {Z : State} {a0 : Array Value} (hw : ∀ d ∈ tables_1, d.before a0 Z = true) : (Jvm.Cond.methodLink "java/lang/String" (1 : Nat) ({ cls := "java/lang/Object", name := "<init>", desc := "()V" } : Jvm.MethodName) : Jvm.Cond).before a0 Z = true := hw _ (List.mem_of_getElem? (i := 20) rfl)
theorem tw_21 {Z : State} {a0 : Array Value} (hw : ∀ d ∈ tables_1, d.before a0 Z = true) : (Jvm.Cond.instanceMethod ({ cls := "java/lang/Object", name := "<init>", desc := "()V" } : Jvm.MethodName) : Jvm.Cond).before a0 Z = true := hw _ (List.mem_of_getElem? (i := 21) rfl)
theorem tw_22 {Z : State} {a0 : Array Value} (hw : ∀ d ∈ tables_1, d.before a0 Z = true) : (Jvm.Cond.code ({ cls := "java/lang/Object", name := "<init>", desc := "()V" } : Jvm.MethodName) object_method_1_code (1 : Nat) (Option.none : Option Jvm.ClassFile.FieldType) : Jvm.Cond).before a0 Z = true := hw _ (List.mem_of_getElem? (i := 22) rfl)
theorem tw_23 {Z : State} {a0 : Array Value} (hw : ∀ d ∈ tables_1, d.before a0 Z = true) : (Jvm.Cond.fieldLink "java/lang/String" (9 : Nat) "java/lang/String" "value" "[B" : Jvm.Cond).before a0 Z = true := hw _ (List.mem_of_getElem? (i := 23) rfl)
theorem tw_24 {Z : State} {a0 : Array Value} (hw : ∀ d ∈ tables_1, d.before a0 Z = true) : (Jvm.Cond.laysFinal "java/lang/String" "java/lang/String" "value" "[B" : Jvm.Cond).before a0 Z = true := hw _ (List.mem_of_getElem? (i := 24) rfl)
theorem tw_25 {Z : State} {a0 : Array Value} (hw : ∀ d ∈ tables_1, d.before a0 Z = true) : (Jvm.Cond.fieldLink "java/lang/String" (15 : Nat) "java/lang/String" "coder" "B" : Jvm.Cond).before a0 Z = true := hw _ (List.mem_of_getElem? (i := 25) rfl)
theorem tw_26 {Z : State} {a0 : Array Value} (hw : ∀ d ∈ tables_1, d.before a0 Z = true) : (Jvm.Cond.laysFinal "java/lang/String" "java/lang/String" "coder" "B" : Jvm.Cond).before a0 Z = true := hw _ (List.mem_of_getElem? (i := 26) rfl)
theorem tw_27 {Z : State} {a0 : Array Value} (hw : ∀ d ∈ tables_1, d.before a0 Z = true) : (Jvm.Cond.methodLink "com/example/envelopa/envelopa/model/ServerStateFaultMalformedPinLaw" (18 : Nat) ({ cls := "com/example/envelopa/envelopa/model/ServerStateFault", name := "malformed", desc := "(Ljava/lang/String;)Lcom/example/envelopa/envelopa/model/ServerStateFault;" } : Jvm.MethodName) : Jvm.Cond).before a0 Z = true := hw _ (List.mem_of_getElem? (i := 27) rfl)
theorem tw_28 {Z : State} {a0 : Array Value} (hw : ∀ d ∈ tables_1, d.before a0 Z = true) : (Jvm.Cond.static ({ cls := "com/example/envelopa/envelopa/model/ServerStateFault", name := "malformed", desc := "(Ljava/lang/String;)Lcom/example/envelopa/envelopa/model/ServerStateFault;" } : Jvm.MethodName) : Jvm.Cond).before a0 Z = true := hw _ (List.mem_of_getElem? (i := 28) rfl)
theorem tw_29 {Z : State} {a0 : Array Value} (hw : ∀ d ∈ tables_1, d.before a0 Z = true) : (Jvm.Cond.initialized "com/example/envelopa/envelopa/model/ServerStateFault" : Jvm.Cond).before a0 Z = true := hw _ (List.mem_of_getElem? (i := 29) rfl)
theorem tw_30 {Z : State} {a0 : Array Value} (hw : ∀ d ∈ tables_1, d.before a0 Z = true) : (Jvm.Cond.code ({ cls := "com/example/envelopa/envelopa/model/ServerStateFault", name := "malformed", desc := "(Ljava/lang/String;)Lcom/example/envelopa/envelopa/model/ServerStateFault;" } : Jvm.MethodName) prog_12_method_3_code (1 : Nat) (Option.some (Jvm.ClassFile.FieldType.object "com/example/envelopa/envelopa/model/ServerStateFault")) : Jvm.Cond).before a0 Z = true := hw _ (List.mem_of_getElem? (i := 30) rfl)
theorem tw_31 {Z : State} {a0 : Array Value} (hw : ∀ d ∈ tables_1, d.before a0 Z = true) : (Jvm.Cond.classLink "com/example/envelopa/envelopa/model/ServerStateFault" (8 : Nat) "com/example/envelopa/envelopa/model/ServerStateFault" : Jvm.Cond).before a0 Z = true := hw _ (List.mem_of_getElem? (i := 31) rfl)
theorem tw_32 {Z : State} {a0 : Array Value} (hw : ∀ d ∈ tables_1, d.before a0 Z = true) : (Jvm.Cond.instantiable "com/example/envelopa/envelopa/model/ServerStateFault" (8 : Nat) : Jvm.Cond).before a0 Z = true := hw _ (List.mem_of_getElem? (i := 32) rfl)
theorem tw_33 {Z : State} {a0 : Array Value} (hw : ∀ d ∈ tables_1, d.before a0 Z = true) : (Jvm.Cond.fieldLink "com/example/envelopa/envelopa/model/ServerStateFault" (34 : Nat) "com/example/envelopa/envelopa/model/ServerStateFault$Kind" "MALFORMED" "Lcom/example/envelopa/envelopa/model/ServerStateFault$Kind;" : Jvm.Cond).before a0 Z = true := hw _ (List.mem_of_getElem? (i := 33) rfl)
theorem tw_34 {Z : State} {a0 : Array Value} (hw : ∀ d ∈ tables_1, d.before a0 Z = true) : (Jvm.Cond.initialized "com/example/envelopa/envelopa/model/ServerStateFault$Kind" : Jvm.Cond).before a0 Z = true := hw _ (List.mem_of_getElem? (i := 34) rfl)
theorem tw_35 {Z : State} {a0 : Array Value} (hw : ∀ d ∈ tables_1, d.before a0 Z = true) : (Jvm.Cond.laysStatic "com/example/envelopa/envelopa/model/ServerStateFault$Kind" "MALFORMED" "Lcom/example/envelopa/envelopa/model/ServerStateFault$Kind;" : Jvm.Cond).before a0 Z = true := hw _ (List.mem_of_getElem? (i := 35) rfl)
theorem tw_36 {Z : State} {a0 : Array Value} (hw : ∀ d ∈ tables_1, d.before a0 Z = true) : (Jvm.Cond.methodLink "com/example/envelopa/envelopa/model/ServerStateFault" (37 : Nat) ({ cls := "com/example/envelopa/envelopa/model/ServerStateFault", name := "<init>", desc := "(Lcom/example/envelopa/envelopa/model/ServerStateFault$Kind;Ljava/lang/String;)V" } : Jvm.MethodName) : Jvm.Cond).before a0 Z = true := hw _ (List.mem_of_getElem? (i := 36) rfl)
theorem tw_37 {Z : State} {a0 : Array Value} (hw : ∀ d ∈ tables_1, d.before a0 Z = true) : (Jvm.Cond.instanceMethod ({ cls := "com/example/envelopa/envelopa/model/ServerStateFault", name := "<init>", desc := "(Lcom/example/envelopa/envelopa/model/ServerStateFault$Kind;Ljava/lang/String;)V" } : Jvm.MethodName) : Jvm.Cond).before a0 Z = true := hw _ (List.mem_of_getElem? (i := 37) rfl)
theorem tw_38 {Z : State} {a0 : Array Value} (hw : ∀ d ∈ tables_1, d.before a0 Z = true) : (Jvm.Cond.code ({ cls := "com/example/envelopa/envelopa/model/ServerStateFault", name := "<init>", desc := "(Lcom/example/envelopa/envelopa/model/ServerStateFault$Kind;Ljava/lang/String;)V" } : Jvm.MethodName) prog_12_method_1_code (3 : Nat) (Option.none : Option Jvm.ClassFile.FieldType) : Jvm.Cond).before a0 Z = true := hw _ (List.mem_of_getElem? (i := 38) rfl)
theorem tw_39 {Z : State} {a0 : Array Value} (hw : ∀ d ∈ tables_1, d.before a0 Z = true) : (Jvm.Cond.methodLink "com/example/envelopa/envelopa/model/ServerStateFault" (1 : Nat) ({ cls := "java/lang/Exception", name := "<init>", desc := "(Ljava/lang/String;)V" } : Jvm.MethodName) : Jvm.Cond).before a0 Z = true := hw _ (List.mem_of_getElem? (i := 39) rfl)
theorem tw_40 {Z : State} {a0 : Array Value} (hw : ∀ d ∈ tables_1, d.before a0 Z = true) : (Jvm.Cond.instanceMethod ({ cls := "java/lang/Exception", name := "<init>", desc := "(Ljava/lang/String;)V" } : Jvm.MethodName) : Jvm.Cond).before a0 Z = true := hw _ (List.mem_of_getElem? (i := 40) rfl)
theorem tw_42 {Z : State} {a0 : Array Value} (hw : ∀ d ∈ tables_1, d.before a0 Z = true) : (Jvm.Cond.initialized "java/lang/Exception" : Jvm.Cond).before a0 Z = true := hw _ (List.mem_of_getElem? (i := 42) rfl)
theorem tw_43 {Z : State} {a0 : Array Value} (hw : ∀ d ∈ tables_1, d.before a0 Z = true) : (Jvm.Cond.code ({ cls := "java/lang/Exception", name := "<init>", desc := "(Ljava/lang/String;)V" } : Jvm.MethodName) jdk_59_method_2_code (2 : Nat) (Option.none : Option Jvm.ClassFile.FieldType) : Jvm.Cond).before a0 Z = true := hw _ (List.mem_of_getElem? (i := 43) rfl)
theorem tw_44 {Z : State} {a0 : Array Value} (hw : ∀ d ∈ tables_1, d.before a0 Z = true) : (Jvm.Cond.methodLink "java/lang/Exception" (7 : Nat) ({ cls := "java/lang/Throwable", name := "<init>", desc := "(Ljava/lang/String;)V" } : Jvm.MethodName) : Jvm.Cond).before a0 Z = true := hw _ (List.mem_of_getElem? (i := 44) rfl)
theorem tw_45 {Z : State} {a0 : Array Value} (hw : ∀ d ∈ tables_1, d.before a0 Z = true) : (Jvm.Cond.instanceMethod ({ cls := "java/lang/Throwable", name := "<init>", desc := "(Ljava/lang/String;)V" } : Jvm.MethodName) : Jvm.Cond).before a0 Z = true := hw _ (List.mem_of_getElem? (i := 45) rfl)
theorem tw_48 {Z : State} {a0 : Array Value} (hw : ∀ d ∈ tables_1, d.before a0 Z = true) : (Jvm.Cond.initialized "java/lang/Throwable" : Jvm.Cond).before a0 Z = true := hw _ (List.mem_of_getElem? (i := 48) rfl)
theorem tw_49 {Z : State} {a0 : Array Value} (hw : ∀ d ∈ tables_1, d.before a0 Z = true) : (Jvm.Cond.code ({ cls := "java/lang/Throwable", name := "<init>", desc := "(Ljava/lang/String;)V" } : Jvm.MethodName) jdk_78_method_2_code (2 : Nat) (Option.none : Option Jvm.ClassFile.FieldType) : Jvm.Cond).before a0 Z = true := hw _ (List.mem_of_getElem? (i := 49) rfl)
theorem tw_50 {Z : State} {a0 : Array Value} (hw : ∀ d ∈ tables_1, d.before a0 Z = true) : (Jvm.Cond.methodLink "java/lang/Throwable" (1 : Nat) ({ cls := "java/lang/Object", name := "<init>", desc := "()V" } : Jvm.MethodName) : Jvm.Cond).before a0 Z = true := hw _ (List.mem_of_getElem? (i := 50) rfl)
theorem tw_51 {Z : State} {a0 : Array Value} (hw : ∀ d ∈ tables_1, d.before a0 Z = true) : (Jvm.Cond.fieldLink "java/lang/Throwable" (7 : Nat) "java/lang/Throwable" "cause" "Ljava/lang/Throwable;" : Jvm.Cond).before a0 Z = true := hw _ (List.mem_of_getElem? (i := 51) rfl)
theorem tw_52 {Z : State} {a0 : Array Value} (hw : ∀ d ∈ tables_1, d.before a0 Z = true) : (Jvm.Cond.lays "com/example/envelopa/envelopa/model/ServerStateFault" "java/lang/Throwable" "cause" "Ljava/lang/Throwable;" : Jvm.Cond).before a0 Z = true := hw _ (List.mem_of_getElem? (i := 52) rfl)
theorem tw_53 {Z : State} {a0 : Array Value} (hw : ∀ d ∈ tables_1, d.before a0 Z = true) : (Jvm.Cond.fieldLink "java/lang/Throwable" (13 : Nat) "java/lang/Throwable" "UNASSIGNED_STACK" "[Ljava/lang/StackTraceElement;" : Jvm.Cond).before a0 Z = true := hw _ (List.mem_of_getElem? (i := 53) rfl)
theorem tw_54 {Z : State} {a0 : Array Value} (hw : ∀ d ∈ tables_1, d.before a0 Z = true) : (Jvm.Cond.fieldLink "java/lang/Throwable" (17 : Nat) "java/lang/Throwable" "stackTrace" "[Ljava/lang/StackTraceElement;" : Jvm.Cond).before a0 Z = true := hw _ (List.mem_of_getElem? (i := 54) rfl)
theorem tw_55 {Z : State} {a0 : Array Value} (hw : ∀ d ∈ tables_1, d.before a0 Z = true) : (Jvm.Cond.lays "com/example/envelopa/envelopa/model/ServerStateFault" "java/lang/Throwable" "stackTrace" "[Ljava/lang/StackTraceElement;" : Jvm.Cond).before a0 Z = true := hw _ (List.mem_of_getElem? (i := 55) rfl)
theorem tw_56 {Z : State} {a0 : Array Value} (hw : ∀ d ∈ tables_1, d.before a0 Z = true) : (Jvm.Cond.fieldLink "java/lang/Throwable" (20 : Nat) "java/lang/Throwable" "SUPPRESSED_SENTINEL" "Ljava/util/List;" : Jvm.Cond).before a0 Z = true := hw _ (List.mem_of_getElem? (i := 56) rfl)
theorem tw_57 {Z : State} {a0 : Array Value} (hw : ∀ d ∈ tables_1, d.before a0 Z = true) : (Jvm.Cond.fieldLink "java/lang/Throwable" (24 : Nat) "java/lang/Throwable" "suppressedExceptions" "Ljava/util/List;" : Jvm.Cond).before a0 Z = true := hw _ (List.mem_of_getElem? (i := 57) rfl)
theorem tw_58 {Z : State} {a0 : Array Value} (hw : ∀ d ∈ tables_1, d.before a0 Z = true) : (Jvm.Cond.lays "com/example/envelopa/envelopa/model/ServerStateFault" "java/lang/Throwable" "suppressedExceptions" "Ljava/util/List;" : Jvm.Cond).before a0 Z = true := hw _ (List.mem_of_getElem? (i := 58) rfl)
theorem tw_59 {Z : State} {a0 : Array Value} (hw : ∀ d ∈ tables_1, d.before a0 Z = true) : (Jvm.Cond.methodLink "java/lang/Throwable" (27 : Nat) ({ cls := "java/lang/Throwable", name := "fillInStackTrace", desc := "()Ljava/lang/Throwable;" } : Jvm.MethodName) : Jvm.Cond).before a0 Z = true := hw _ (List.mem_of_getElem? (i := 59) rfl)
theorem tw_60 {Z : State} {a0 : Array Value} (hw : ∀ d ∈ tables_1, d.before a0 Z = true) : (Jvm.Cond.declares ({ cls := "java/lang/Throwable", name := "fillInStackTrace", desc := "()Ljava/lang/Throwable;" } : Jvm.MethodName) : Jvm.Cond).before a0 Z = true := hw _ (List.mem_of_getElem? (i := 60) rfl)
theorem tw_61 {Z : State} {a0 : Array Value} (hw : ∀ d ∈ tables_1, d.before a0 Z = true) : (Jvm.Cond.instanceMethod ({ cls := "java/lang/Throwable", name := "fillInStackTrace", desc := "()Ljava/lang/Throwable;" } : Jvm.MethodName) : Jvm.Cond).before a0 Z = true := hw _ (List.mem_of_getElem? (i := 61) rfl)
theorem tw_62 {Z : State} {a0 : Array Value} (hw : ∀ d ∈ tables_1, d.before a0 Z = true) : (Jvm.Cond.selects "com/example/envelopa/envelopa/model/ServerStateFault" ({ cls := "java/lang/Throwable", name := "fillInStackTrace", desc := "()Ljava/lang/Throwable;" } : Jvm.MethodName) ({ cls := "java/lang/Throwable", name := "fillInStackTrace", desc := "()Ljava/lang/Throwable;" } : Jvm.MethodName) : Jvm.Cond).before a0 Z = true := hw _ (List.mem_of_getElem? (i := 62) rfl)
theorem tw_63 {Z : State} {a0 : Array Value} (hw : ∀ d ∈ tables_1, d.before a0 Z = true) : (Jvm.Cond.arrayOver (Jvm.ClassFile.FieldType.object "java/lang/Object") : Jvm.Cond).before a0 Z = true := hw _ (List.mem_of_getElem? (i := 63) rfl)
theorem tw_64 {Z : State} {a0 : Array Value} (hw : ∀ d ∈ tables_1, d.before a0 Z = true) : (Jvm.Cond.soleField "java/lang/Throwable" "backtrace" : Jvm.Cond).before a0 Z = true := hw _ (List.mem_of_getElem? (i := 64) rfl)
theorem tw_65 {Z : State} {a0 : Array Value} (hw : ∀ d ∈ tables_1, d.before a0 Z = true) : (Jvm.Cond.soleField "java/lang/Throwable" "depth" : Jvm.Cond).before a0 Z = true := hw _ (List.mem_of_getElem? (i := 65) rfl)
theorem tw_66 {Z : State} {a0 : Array Value} (hw : ∀ d ∈ tables_1, d.before a0 Z = true) : (Jvm.Cond.superclass "java/lang/Throwable" "java/lang/Object" : Jvm.Cond).before a0 Z = true := hw _ (List.mem_of_getElem? (i := 66) rfl)
theorem tw_67 {Z : State} {a0 : Array Value} (hw : ∀ d ∈ tables_1, d.before a0 Z = true) : (Jvm.Cond.codeSync ({ cls := "java/lang/Throwable", name := "fillInStackTrace", desc := "()Ljava/lang/Throwable;" } : Jvm.MethodName) jdk_78_method_18_code (1 : Nat) (Option.some (Jvm.ClassFile.FieldType.object "java/lang/Throwable")) : Jvm.Cond).before a0 Z = true := hw _ (List.mem_of_getElem? (i := 67) rfl)
theorem tw_68 {Z : State} {a0 : Array Value} (hw : ∀ d ∈ tables_1, d.before a0 Z = true) : (Jvm.Cond.instanceMethod ({ cls := "java/lang/Throwable", name := "fillInStackTrace", desc := "(I)Ljava/lang/Throwable;" } : Jvm.MethodName) : Jvm.Cond).before a0 Z = true := hw _ (List.mem_of_getElem? (i := 68) rfl)
theorem tw_69 {Z : State} {a0 : Array Value} (hw : ∀ d ∈ tables_1, d.before a0 Z = true) : (Jvm.Cond.native ({ cls := "java/lang/Throwable", name := "fillInStackTrace", desc := "(I)Ljava/lang/Throwable;" } : Jvm.MethodName) : Jvm.Cond).before a0 Z = true := hw _ (List.mem_of_getElem? (i := 69) rfl)
theorem tw_72 {Z : State} {a0 : Array Value} (hw : ∀ d ∈ tables_1, d.before a0 Z = true) : (Jvm.Cond.methodLink "java/lang/Throwable" (202 : Nat) ({ cls := "java/lang/Throwable", name := "fillInStackTrace", desc := "(I)Ljava/lang/Throwable;" } : Jvm.MethodName) : Jvm.Cond).before a0 Z = true := hw _ (List.mem_of_getElem? (i := 72) rfl)
theorem tw_77 {Z : State} {a0 : Array Value} (hw : ∀ d ∈ tables_1, d.before a0 Z = true) : (Jvm.Cond.fieldLink "java/lang/Throwable" (198 : Nat) "java/lang/Throwable" "backtrace" "Ljava/lang/Object;" : Jvm.Cond).before a0 Z = true := hw _ (List.mem_of_getElem? (i := 77) rfl)
theorem tw_79 {Z : State} {a0 : Array Value} (hw : ∀ d ∈ tables_1, d.before a0 Z = true) : (Jvm.Cond.laysStatic "java/lang/Throwable" "UNASSIGNED_STACK" "[Ljava/lang/StackTraceElement;" : Jvm.Cond).before a0 Z = true := hw _ (List.mem_of_getElem? (i := 79) rfl)
theorem tw_80 {Z : State} {a0 : Array Value} (hw : ∀ d ∈ tables_1, d.before a0 Z = true) : (Jvm.Cond.laysStatic "java/lang/Throwable" "SUPPRESSED_SENTINEL" "Ljava/util/List;" : Jvm.Cond).before a0 Z = true := hw _ (List.mem_of_getElem? (i := 80) rfl)
theorem tw_81 {Z : State} {a0 : Array Value} (hw : ∀ d ∈ tables_1, d.before a0 Z = true) : (Jvm.Cond.selects "com/example/envelopa/envelopa/model/ServerStateFault" ({ cls := "java/lang/Throwable", name := "fillInStackTrace", desc := "(I)Ljava/lang/Throwable;" } : Jvm.MethodName) ({ cls := "java/lang/Throwable", name := "fillInStackTrace", desc := "(I)Ljava/lang/Throwable;" } : Jvm.MethodName) : Jvm.Cond).before a0 Z = true := hw _ (List.mem_of_getElem? (i := 81) rfl)
theorem tw_82 {Z : State} {a0 : Array Value} (hw : ∀ d ∈ tables_1, d.before a0 Z = true) : (Jvm.Cond.lays "com/example/envelopa/envelopa/model/ServerStateFault" "java/lang/Throwable" "detailMessage" "Ljava/lang/String;" : Jvm.Cond).before a0 Z = true := hw _ (List.mem_of_getElem? (i := 82) rfl)
theorem tw_83 {Z : State} {a0 : Array Value} (hw : ∀ d ∈ tables_1, d.before a0 Z = true) : (Jvm.Cond.lays "com/example/envelopa/envelopa/model/ServerStateFault" "java/lang/Throwable" "backtrace" "Ljava/lang/Object;" : Jvm.Cond).before a0 Z = true := hw _ (List.mem_of_getElem? (i := 83) rfl)
theorem tw_84 {Z : State} {a0 : Array Value} (hw : ∀ d ∈ tables_1, d.before a0 Z = true) : (Jvm.Cond.lays "com/example/envelopa/envelopa/model/ServerStateFault" "java/lang/Throwable" "depth" "I" : Jvm.Cond).before a0 Z = true := hw _ (List.mem_of_getElem? (i := 84) rfl)
theorem tw_86 {Z : State} {a0 : Array Value} (hw : ∀ d ∈ tables_1, d.before a0 Z = true) : (Jvm.Cond.fieldLink "java/lang/Throwable" (31 : Nat) "java/lang/Throwable" "detailMessage" "Ljava/lang/String;" : Jvm.Cond).before a0 Z = true := hw _ (List.mem_of_getElem? (i := 86) rfl)
theorem tw_87 {Z : State} {a0 : Array Value} (hw : ∀ d ∈ tables_1, d.before a0 Z = true) : (Jvm.Cond.fieldLink "com/example/envelopa/envelopa/model/ServerStateFault" (7 : Nat) "com/example/envelopa/envelopa/model/ServerStateFault" "kind" "Lcom/example/envelopa/envelopa/model/ServerStateFault$Kind;" : Jvm.Cond).before a0 Z = true := hw _ (List.mem_of_getElem? (i := 87) rfl)
theorem tw_88 {Z : State} {a0 : Array Value} (hw : ∀ d ∈ tables_1, d.before a0 Z = true) : (Jvm.Cond.laysFinal "com/example/envelopa/envelopa/model/ServerStateFault" "com/example/envelopa/envelopa/model/ServerStateFault" "kind" "Lcom/example/envelopa/envelopa/model/ServerStateFault$Kind;" : Jvm.Cond).before a0 Z = true := hw _ (List.mem_of_getElem? (i := 88) rfl)
theorem tw_89 {Z : State} {a0 : Array Value} (hw : ∀ d ∈ tables_1, d.before a0 Z = true) : (Jvm.Cond.fieldLink "com/example/envelopa/envelopa/model/ServerStateFault" (13 : Nat) "com/example/envelopa/envelopa/model/ServerStateFault" "reason" "Lcom/example/envelopa/envelopa/model/Reason;" : Jvm.Cond).before a0 Z = true := hw _ (List.mem_of_getElem? (i := 89) rfl)
theorem tw_90 {Z : State} {a0 : Array Value} (hw : ∀ d ∈ tables_1, d.before a0 Z = true) : (Jvm.Cond.laysFinal "com/example/envelopa/envelopa/model/ServerStateFault" "com/example/envelopa/envelopa/model/ServerStateFault" "reason" "Lcom/example/envelopa/envelopa/model/Reason;" : Jvm.Cond).before a0 Z = true := hw _ (List.mem_of_getElem? (i := 90) rfl)
theorem tw_91 {Z : State} {a0 : Array Value} (hw : ∀ d ∈ tables_1, d.before a0 Z = true) : (Jvm.Cond.methodLink "com/example/envelopa/envelopa/model/ServerStateFaultMalformedPinLaw" (24 : Nat) ({ cls := "com/example/envelopa/envelopa/model/ServerStateFault", name := "kind", desc := "()Lcom/example/envelopa/envelopa/model/ServerStateFault$Kind;" } : Jvm.MethodName) : Jvm.Cond).before a0 Z = true := hw _ (List.mem_of_getElem? (i := 91) rfl)
theorem tw_92 {Z : State} {a0 : Array Value} (hw : ∀ d ∈ tables_1, d.before a0 Z = true) : (Jvm.Cond.declares ({ cls := "com/example/envelopa/envelopa/model/ServerStateFault", name := "kind", desc := "()Lcom/example/envelopa/envelopa/model/ServerStateFault$Kind;" } : Jvm.MethodName) : Jvm.Cond).before a0 Z = true := hw _ (List.mem_of_getElem? (i := 92) rfl)
theorem tw_93 {Z : State} {a0 : Array Value} (hw : ∀ d ∈ tables_1, d.before a0 Z = true) : (Jvm.Cond.instanceMethod ({ cls := "com/example/envelopa/envelopa/model/ServerStateFault", name := "kind", desc := "()Lcom/example/envelopa/envelopa/model/ServerStateFault$Kind;" } : Jvm.MethodName) : Jvm.Cond).before a0 Z = true := hw _ (List.mem_of_getElem? (i := 93) rfl)
theorem tw_94 {Z : State} {a0 : Array Value} (hw : ∀ d ∈ tables_1, d.before a0 Z = true) : (Jvm.Cond.selects "com/example/envelopa/envelopa/model/ServerStateFault" ({ cls := "com/example/envelopa/envelopa/model/ServerStateFault", name := "kind", desc := "()Lcom/example/envelopa/envelopa/model/ServerStateFault$Kind;" } : Jvm.MethodName) ({ cls := "com/example/envelopa/envelopa/model/ServerStateFault", name := "kind", desc := "()Lcom/example/envelopa/envelopa/model/ServerStateFault$Kind;" } : Jvm.MethodName) : Jvm.Cond).before a0 Z = true := hw _ (List.mem_of_getElem? (i := 94) rfl)
theorem tw_95 {Z : State} {a0 : Array Value} (hw : ∀ d ∈ tables_1, d.before a0 Z = true) : (Jvm.Cond.code ({ cls := "com/example/envelopa/envelopa/model/ServerStateFault", name := "kind", desc := "()Lcom/example/envelopa/envelopa/model/ServerStateFault$Kind;" } : Jvm.MethodName) prog_12_method_4_code (1 : Nat) (Option.some (Jvm.ClassFile.FieldType.object "com/example/envelopa/envelopa/model/ServerStateFault$Kind")) : Jvm.Cond).before a0 Z = true := hw _ (List.mem_of_getElem? (i := 95) rfl)
theorem tw_96 {Z : State} {a0 : Array Value} (hw : ∀ d ∈ tables_1, d.before a0 Z = true) : (Jvm.Cond.fieldLink "com/example/envelopa/envelopa/model/ServerStateFaultMalformedPinLaw" (28 : Nat) "com/example/envelopa/envelopa/model/ServerStateFault$Kind" "MALFORMED" "Lcom/example/envelopa/envelopa/model/ServerStateFault$Kind;" : Jvm.Cond).before a0 Z = true := hw _ (List.mem_of_getElem? (i := 96) rfl)
theorem tw_97 {Z : State} {a0 : Array Value} (hw : ∀ d ∈ tables_1, d.before a0 Z = true) : (Jvm.Cond.methodLink "com/example/envelopa/envelopa/model/ServerStateFaultMalformedPinLaw" (34 : Nat) ({ cls := "com/example/envelopa/envelopa/model/ServerStateFault", name := "reason", desc := "()Lcom/example/envelopa/envelopa/model/Reason;" } : Jvm.MethodName) : Jvm.Cond).before a0 Z = true := hw _ (List.mem_of_getElem? (i := 97) rfl)
theorem tw_98 {Z : State} {a0 : Array Value} (hw : ∀ d ∈ tables_1, d.before a0 Z = true) : (Jvm.Cond.declares ({ cls := "com/example/envelopa/envelopa/model/ServerStateFault", name := "reason", desc := "()Lcom/example/envelopa/envelopa/model/Reason;" } : Jvm.MethodName) : Jvm.Cond).before a0 Z = true := hw _ (List.mem_of_getElem? (i := 98) rfl)
theorem tw_99 {Z : State} {a0 : Array Value} (hw : ∀ d ∈ tables_1, d.before a0 Z = true) : (Jvm.Cond.instanceMethod ({ cls := "com/example/envelopa/envelopa/model/ServerStateFault", name := "reason", desc := "()Lcom/example/envelopa/envelopa/model/Reason;" } : Jvm.MethodName) : Jvm.Cond).before a0 Z = true := hw _ (List.mem_of_getElem? (i := 99) rfl)
theorem tw_100 {Z : State} {a0 : Array Value} (hw : ∀ d ∈ tables_1, d.before a0 Z = true) : (Jvm.Cond.selects "com/example/envelopa/envelopa/model/ServerStateFault" ({ cls := "com/example/envelopa/envelopa/model/ServerStateFault", name := "reason", desc := "()Lcom/example/envelopa/envelopa/model/Reason;" } : Jvm.MethodName) ({ cls := "com/example/envelopa/envelopa/model/ServerStateFault", name := "reason", desc := "()Lcom/example/envelopa/envelopa/model/Reason;" } : Jvm.MethodName) : Jvm.Cond).before a0 Z = true := hw _ (List.mem_of_getElem? (i := 100) rfl)
theorem tw_101 {Z : State} {a0 : Array Value} (hw : ∀ d ∈ tables_1, d.before a0 Z = true) : (Jvm.Cond.code ({ cls := "com/example/envelopa/envelopa/model/ServerStateFault", name := "reason", desc := "()Lcom/example/envelopa/envelopa/model/Reason;" } : Jvm.MethodName) prog_12_method_5_code (1 : Nat) (Option.some (Jvm.ClassFile.FieldType.object "com/example/envelopa/envelopa/model/Reason")) : Jvm.Cond).before a0 Z = true := hw _ (List.mem_of_getElem? (i := 101) rfl)
theorem tw_102 {Z : State} {a0 : Array Value} (hw : ∀ d ∈ tables_1, d.before a0 Z = true) : (Jvm.Cond.classLink "com/example/envelopa/envelopa/model/ServerStateFaultMalformedPinLaw" (10 : Nat) "java/lang/String" : Jvm.Cond).before a0 Z = true := hw _ (List.mem_of_getElem? (i := 102) rfl)
theorem tw_103 {Z : State} {a0 : Array Value} (hw : ∀ d ∈ tables_1, d.before a0 Z = true) : (Jvm.Cond.methodLink "com/example/envelopa/envelopa/model/ServerStateFaultMalformedPinLaw" (15 : Nat) ({ cls := "java/lang/String", name := "<init>", desc := "([C)V" } : Jvm.MethodName) : Jvm.Cond).before a0 Z = true := hw _ (List.mem_of_getElem? (i := 103) rfl)
theorem tw_104 {Z : State} {a0 : Array Value} (hw : ∀ d ∈ tables_1, d.before a0 Z = true) : (Jvm.Cond.instanceMethod ({ cls := "java/lang/String", name := "<init>", desc := "([C)V" } : Jvm.MethodName) : Jvm.Cond).before a0 Z = true := hw _ (List.mem_of_getElem? (i := 104) rfl)
theorem tw_105 {Z : State} {a0 : Array Value} (hw : ∀ d ∈ tables_1, d.before a0 Z = true) : (Jvm.Cond.code ({ cls := "java/lang/String", name := "<init>", desc := "([C)V" } : Jvm.MethodName) jdk_42_method_3_code (2 : Nat) (Option.none : Option Jvm.ClassFile.FieldType) : Jvm.Cond).before a0 Z = true := hw _ (List.mem_of_getElem? (i := 105) rfl)
theorem tw_106 {Z : State} {a0 : Array Value} (hw : ∀ d ∈ tables_1, d.before a0 Z = true) : (Jvm.Cond.methodLink "java/lang/String" (27 : Nat) ({ cls := "java/lang/String", name := "<init>", desc := "([CIILjava/lang/Void;)V" } : Jvm.MethodName) : Jvm.Cond).before a0 Z = true := hw _ (List.mem_of_getElem? (i := 106) rfl)
theorem tw_107 {Z : State} {a0 : Array Value} (hw : ∀ d ∈ tables_1, d.before a0 Z = true) : (Jvm.Cond.instanceMethod ({ cls := "java/lang/String", name := "<init>", desc := "([CIILjava/lang/Void;)V" } : Jvm.MethodName) : Jvm.Cond).before a0 Z = true := hw _ (List.mem_of_getElem? (i := 107) rfl)
theorem tw_108 {Z : State} {a0 : Array Value} (hw : ∀ d ∈ tables_1, d.before a0 Z = true) : (Jvm.Cond.code ({ cls := "java/lang/String", name := "<init>", desc := "([CIILjava/lang/Void;)V" } : Jvm.MethodName) jdk_42_method_149_code (6 : Nat) (Option.none : Option Jvm.ClassFile.FieldType) : Jvm.Cond).before a0 Z = true := hw _ (List.mem_of_getElem? (i := 108) rfl)
theorem tw_109 {Z : State} {a0 : Array Value} (hw : ∀ d ∈ tables_1, d.before a0 Z = true) : (Jvm.Cond.methodLink "java/lang/String" (177 : Nat) ({ cls := "java/lang/StringUTF16", name := "compress", desc := "([CII)[B" } : Jvm.MethodName) : Jvm.Cond).before a0 Z = true := hw _ (List.mem_of_getElem? (i := 109) rfl)
theorem tw_110 {Z : State} {a0 : Array Value} (hw : ∀ d ∈ tables_1, d.before a0 Z = true) : (Jvm.Cond.static ({ cls := "java/lang/StringUTF16", name := "compress", desc := "([CII)[B" } : Jvm.MethodName) : Jvm.Cond).before a0 Z = true := hw _ (List.mem_of_getElem? (i := 110) rfl)
theorem tw_111 {Z : State} {a0 : Array Value} (hw : ∀ d ∈ tables_1, d.before a0 Z = true) : (Jvm.Cond.initialized "java/lang/StringUTF16" : Jvm.Cond).before a0 Z = true := hw _ (List.mem_of_getElem? (i := 111) rfl)
theorem tw_112 {Z : State} {a0 : Array Value} (hw : ∀ d ∈ tables_1, d.before a0 Z = true) : (Jvm.Cond.code ({ cls := "java/lang/StringUTF16", name := "compress", desc := "([CII)[B" } : Jvm.MethodName) jdk_52_method_16_code (6 : Nat) (Option.some (Jvm.ClassFile.FieldType.array Jvm.ClassFile.FieldType.byte)) : Jvm.Cond).before a0 Z = true := hw _ (List.mem_of_getElem? (i := 112) rfl)
theorem tw_113 {Z : State} {a0 : Array Value} (hw : ∀ d ∈ tables_1, d.before a0 Z = true) : (Jvm.Cond.methodLink "java/lang/StringUTF16" (115 : Nat) ({ cls := "java/lang/StringUTF16", name := "compress", desc := "([CI[BII)I" } : Jvm.MethodName) : Jvm.Cond).before a0 Z = true := hw _ (List.mem_of_getElem? (i := 113) rfl)
theorem tw_114 {Z : State} {a0 : Array Value} (hw : ∀ d ∈ tables_1, d.before a0 Z = true) : (Jvm.Cond.static ({ cls := "java/lang/StringUTF16", name := "compress", desc := "([CI[BII)I" } : Jvm.MethodName) : Jvm.Cond).before a0 Z = true := hw _ (List.mem_of_getElem? (i := 114) rfl)
theorem tw_115 {Z : State} {a0 : Array Value} (hw : ∀ d ∈ tables_1, d.before a0 Z = true) : (Jvm.Cond.code ({ cls := "java/lang/StringUTF16", name := "compress", desc := "([CI[BII)I" } : Jvm.MethodName) jdk_52_method_21_code (7 : Nat) (Option.some Jvm.ClassFile.FieldType.int) : Jvm.Cond).before a0 Z = true := hw _ (List.mem_of_getElem? (i := 115) rfl)
theorem tw_116 {Z : State} {a0 : Array Value} (hw : ∀ d ∈ tables_1, d.before a0 Z = true) : (Jvm.Cond.methodLink "java/lang/String" (47 : Nat) ({ cls := "java/lang/StringUTF16", name := "coderFromArrayLen", desc := "([BI)B" } : Jvm.MethodName) : Jvm.Cond).before a0 Z = true := hw _ (List.mem_of_getElem? (i := 116) rfl)
theorem tw_117 {Z : State} {a0 : Array Value} (hw : ∀ d ∈ tables_1, d.before a0 Z = true) : (Jvm.Cond.static ({ cls := "java/lang/StringUTF16", name := "coderFromArrayLen", desc := "([BI)B" } : Jvm.MethodName) : Jvm.Cond).before a0 Z = true := hw _ (List.mem_of_getElem? (i := 117) rfl)
theorem tw_118 {Z : State} {a0 : Array Value} (hw : ∀ d ∈ tables_1, d.before a0 Z = true) : (Jvm.Cond.code ({ cls := "java/lang/StringUTF16", name := "coderFromArrayLen", desc := "([BI)B" } : Jvm.MethodName) jdk_52_method_15_code (2 : Nat) (Option.some Jvm.ClassFile.FieldType.byte) : Jvm.Cond).before a0 Z = true := hw _ (List.mem_of_getElem? (i := 118) rfl)
theorem tw_119 {Z : State} {a0 : Array Value} (hw : ∀ d ∈ tables_1, d.before a0 Z = true) : (Jvm.Cond.stringLink "com/example/envelopa/envelopa/model/ServerStateFaultMalformedPinLaw" (7 : Nat) "" : Jvm.Cond).before a0 Z = true := hw _ (List.mem_of_getElem? (i := 119) rfl)
theorem tw_120 {Z : State} {a0 : Array Value} (hw : ∀ d ∈ tables_1, d.before a0 Z = true) : (Jvm.Cond.soleField "java/lang/String" "value" : Jvm.Cond).before a0 Z = true := hw _ (List.mem_of_getElem? (i := 120) rfl)
theorem tw_121 {Z : State} {a0 : Array Value} (hw : ∀ d ∈ tables_1, d.before a0 Z = true) : (Jvm.Cond.soleField "java/lang/String" "coder" : Jvm.Cond).before a0 Z = true := hw _ (List.mem_of_getElem? (i := 121) rfl)
def own_EL : List (String × Nat) := []
theorem own_bb {x : Int32} : (x.toInt8.toInt32).toInt8.toInt32 = x.toInt8.toInt32 := by simp
/-! ### Strings with known bytes -/
theorem own_narR {v : Value} {C : String} (h : v.isRef = true) : narrow (.object C) v = v := by cases v <;> first | rfl | (cases h)
theorem own_fitR {v : Value} {C : String} (h : v.isRef = true) : fits (.object C) v = true := by cases v <;> first | rfl | (cases h)
theorem own_chr (x : Int32) (h : ¬ x < 0) (h2 : ¬ (255 : Int32) < x) : nar .char x = x := by
  have e := c_i2c x
  show x.toUInt32.toUInt16.toUInt32.toInt32 = x
  rw [Int32.lt_iff_toInt_lt] at h h2
  have z0 : (0 : Int32).toInt = 0 := rfl
  have z1 : (255 : Int32).toInt = 255 := rfl
  apply Int32.toInt_inj.mp
  omega
theorem own_chf (x : Int32) (h : ¬ x < 0) (h2 : ¬ (255 : Int32) < x) : fits .char (.int x) = true := by
  have e := fits_nar_char x
  rw [own_chr x h h2] at e; exact e
theorem own_m255 (c : Int32) : ¬ (c &&& (255 : Int32)) < 0 ∧ ¬ (255 : Int32) < (c &&& (255 : Int32)) := by
  have h := c_mask c 255 8 (by decide) (by decide)
  rw [Int32.lt_iff_toInt_lt, Int32.lt_iff_toInt_lt]
  have z0 : (0 : Int32).toInt = 0 := rfl
  have z1 : (255 : Int32).toInt = 255 := rfl
  omega
theorem own_cod {z : Int32} : ((((z - z) : Int32).toUInt32 >>> ((31 : Int32) &&& 31).toUInt32).toInt32).toInt8.toInt32 = 0 := by
  rw [Int32.sub_self]; decide
def StrV (Z : State) (h : Heap) (a : Addr) (bs : List Int32) : Prop := ∃ (d : Addr) (k : ClassId), Exa Z h a "java/lang/String" ∧ Fld Z h a "java/lang/String" "coder" "B" (.int (0 : Int32)) ∧ Fld Z h a "java/lang/String" "value" "[B" (.ref d) ∧ Arv Z h d k .byte (Int32.ofNat bs.length) (bs.map Value.int) (.int (0 : Int32))
theorem StrV.lt {Z : State} {h : Heap} {a : Addr} {bs : List Int32} (S : StrV Z h a bs) : a < h.size := by obtain ⟨_, _, E, _⟩ := S; exact E.lt
theorem StrV.ext {Z : State} {h h' : Heap} {a : Addr} {bs : List Int32} (S : StrV Z h a bs) (X : Ext h h') : StrV Z h' a bs := by
  obtain ⟨d, k, E, C, V, A⟩ := S; exact ⟨d, k, Exa.ext X E, Fld.ext X C, Fld.ext X V, Arv.ext A X⟩
theorem StrV.keep {Z : State} {h h' : Heap} {a : Addr} {bs : List Int32} {ws : List Addr} (S : StrV Z h a bs) (K : Keep h h' ws) (hd : ∀ (d : Addr) (k : ClassId) (z : Int32) (vs : List Value) (dv : Value), Arv Z h d k .byte z vs dv → d ∉ ws) (ha : ∀ b, Exa Z h b "java/lang/String" → b ∉ ws) : StrV Z h' a bs := by
  obtain ⟨d, k, E, C, V, A⟩ := S
  exact ⟨d, k, Exa.keep E K, Fld.keep C K (ha a E), Fld.keep V K (ha a E), Arv.keep A K (hd _ _ _ _ _ A)⟩
theorem StrV.keep0 {Z : State} {h h' : Heap} {a : Addr} {bs : List Int32} (S : StrV Z h a bs) (K : Keep h h' []) : StrV Z h' a bs := S.keep K (fun _ _ _ _ _ _ => nin0) (fun _ _ => nin0)
theorem StrV.keep1 {Z : State} {h h' : Heap} {a x : Addr} {bs : List Int32} {a0 : Array Value} {C : String} {kI : Nat} (S : StrV Z h a bs) (K : Keep h h' [x]) (E : Exa Z h x C) (wi : (Cond.instantiable C kI).before a0 Z = true) (hC : C ≠ "java/lang/String") : StrV Z h' a bs :=
  S.keep K (fun d _ _ _ _ A => ninS (fun q => by obtain ⟨c, Ar, -⟩ := A; exact ne_arr E wi Ar q.symm) nin0) (fun b F => ninS (fun q => ne_exa E F hC q.symm) nin0)
/-- null, or a String -/
def StrO (Z : State) (h : Heap) (r : Value) (o : Option (List Int32)) : Prop := (r = .null ∧ o = none) ∨ ∃ a bs, r = .ref a ∧ o = some bs ∧ StrV Z h a bs
theorem StrO.isRef {Z : State} {h : Heap} {r : Value} {o : Option (List Int32)} (S : StrO Z h r o) : r.isRef = true := by rcases S with ⟨rfl, -⟩ | ⟨a, bs, rfl, -⟩ <;> rfl
theorem StrO.ext {Z : State} {h h' : Heap} {r : Value} {o : Option (List Int32)} (S : StrO Z h r o) (X : Ext h h') : StrO Z h' r o := S.imp id fun ⟨a, bs, e1, e2, T⟩ => ⟨a, bs, e1, e2, T.ext X⟩
theorem StrO.keep0 {Z : State} {h h' : Heap} {r : Value} {o : Option (List Int32)} (S : StrO Z h r o) (K : Keep h h' []) : StrO Z h' r o := S.imp id fun ⟨a, bs, e1, e2, T⟩ => ⟨a, bs, e1, e2, T.keep0 K⟩
theorem StrO.keep1 {Z : State} {h h' : Heap} {r : Value} {o : Option (List Int32)} {x : Addr} {a0 : Array Value} {C : String} {kI : Nat} (S : StrO Z h r o) (K : Keep h h' [x]) (E : Exa Z h x C) (wi : (Cond.instantiable C kI).before a0 Z = true) (hC : C ≠ "java/lang/String") : StrO Z h' r o := S.imp id fun ⟨a, bs, e1, e2, T⟩ => ⟨a, bs, e1, e2, T.keep1 K E wi hC⟩
theorem own_if1 {p : Prop} [Decidable p] (h : ¬ (if p then (1 : Int32) else 0) = 0) : (if p then (1 : Int32) else 0) = 1 := by
  by_cases q : p
  · rw [if_pos q]
  · rw [if_neg q] at h; exact absurd rfl h
theorem own_len2 {bs : List Int32} (h : bs.length ≤ 2) : bs = [] ∨ (∃ x, bs = [x]) ∨ ∃ x y, bs = [x, y] := by
  match bs, h with
  | [], _ => exact Or.inl rfl
  | [x], _ => exact Or.inr (Or.inl ⟨x, rfl⟩)
  | [x, y], _ => exact Or.inr (Or.inr ⟨x, y, rfl⟩)
  | _ :: _ :: _ :: _, h => exact absurd h (by simp)
theorem own_wS {Z : State} {a0 : Array Value} (hw : ∀ d ∈ tables_1, d.before a0 Z = true) : ∀ a ∈ Bundle.stringAtoms, a.before a0 Z = true := by
  intro d hd
  simp only [Bundle.stringAtoms, List.mem_cons, List.not_mem_nil, or_false] at hd
  rcases hd with rfl | rfl | rfl | rfl | rfl | rfl | rfl
  · exact (tw_3 hw)
  · exact (tw_11 hw)
  · exact (tw_15 hw)
  · exact (tw_24 hw)
  · exact (tw_26 hw)
  · exact (tw_120 hw)
  · exact (tw_121 hw)
/-! ### java.lang.Throwable by the words of the sheet; rc: the class of the receiver -/
section OwnExc
open Jvm.Free.Exc
def own_xw (rc : String) : List Cond := [.initialized tN, .superclass tN "java/lang/Object", .instanceMethod tFill, .codeSync tFill LibCode.Throwable.Fill.code 1 (some (.object tN)), .instanceMethod tFill0, .native tFill0,
  .instanceMethod oInit, .code oInit ⟨#[0xb1]⟩ 1 none, .methodLink tN 1 oInit, .methodLink tN 27 tFill, .methodLink tN 202 tFill0, .declares tFill, .selects rc tFill0 tFill0, .selects rc tFill tFill,
  .fieldLink tN 7 tN "cause" thD, .lays rc tN "cause" thD, .fieldLink tN 17 tN "stackTrace" steD, .lays rc tN "stackTrace" steD, .fieldLink tN 24 tN "suppressedExceptions" listD, .lays rc tN "suppressedExceptions" listD,
  .fieldLink tN 13 tN "UNASSIGNED_STACK" steD, .laysStatic tN "UNASSIGNED_STACK" steD, .fieldLink tN 20 tN "SUPPRESSED_SENTINEL" listD, .laysStatic tN "SUPPRESSED_SENTINEL" listD,
  .lays rc tN "detailMessage" msgD, .fieldLink tN 198 tN "backtrace" obD, .lays rc tN "backtrace" obD, .lays rc tN "depth" "I", .soleField tN "backtrace", .soleField tN "depth", .arrayOver (.object "java/lang/Object")]
theorem own_xok {rc : String} : (own_xw rc).all xOk = true := rfl
theorem own_links {args : Array Value} {s : State} {pl : Platform} {rc : String} (hp1 : pl.frameOwnsMonitors = true) (hp2 : pl.finalization = false) (hp3 : pl.magicAccessors = ({} : Platform).magicAccessors) (h : ∀ c ∈ own_xw rc, c.before args s = true) :
    ∃ (T : ThrowableC) (B : BackC) (fD : Field) (iD : Nat), T.Links pl s ∧ B.Links T pl s ∧ s.vm.findClass tN = some T.cT ∧ s.methodNamed? tFill = some T.fill ∧ s.methodNamed? tFill0 = some T.fill0 ∧
      s.fieldFound? tN "stackTrace" steD = some (T.cT, T.kT, T.i17, T.fStack) ∧ T.fStack.type = .array (.object "java/lang/StackTraceElement") ∧ s.fieldFound? tN "UNASSIGNED_STACK" steD = some (T.cT, T.kT, T.i13, T.fUnassigned) ∧
      s.fieldFound? tN "backtrace" obD = some (T.cT, T.kT, B.i198, B.fBack) ∧ B.fBack.type = .object "java/lang/Object" ∧ s.fieldFound? tN "depth" "I" = some (T.cT, T.kT, iD, fD) ∧ fD.type = .int ∧
      T.kT.fields.find? (fun f => f.name == "backtrace" && !f.isStatic) = some B.fBack ∧ T.kT.fields.find? (fun f => f.name == "depth" && !f.isStatic) = some fD := by
  have w : ∀ (i : Nat) (c : Cond), (own_xw rc)[i]? = some c → c.holds args s none s [] = true := fun i c q => h c (List.mem_of_getElem? q)
  -- the class
  obtain ⟨⟨c, jN⟩, mN, aN, bN, cN, dN, eN, gN⟩ := Cond.native_spec (w 5 _ rfl)
  have hc : s.vm.findClass tN = some c := findClass_of_methodNamed aN
  obtain ⟨k, hk, hname⟩ := Vm.findClass_spec hc
  obtain ⟨_, kS, _, _, sk, _, _, -, _, hni⟩ := Cond.superclass_spec hc (w 1 _ rfl)
  cases hk.symm.trans sk
  -- its methods
  obtain ⟨jF, mF, aF, bF, cF, dF, eF, -, -⟩ := Cond.ownMethod (x := tFill) hc hk (w 2 _ rfl)
  obtain ⟨mF', kF, bF', fF, gF, lF, rF, sF, -, pF⟩ := Cond.codeSync_spec aF (w 3 _ rfl)
  cases bF.symm.trans bF'
  obtain ⟨jN', mN', aN', bN', cN', dN', eN', fN', gN'⟩ := Cond.ownMethod (x := tFill0) hc hk (w 4 _ rfl)
  cases aN.symm.trans aN'
  cases bN.symm.trans bN'
  obtain ⟨mO, meO, aO, bO, cO, dO⟩ := Cond.instanceMethod_spec (w 6 _ rfl)
  obtain ⟨meO', kO, bO', fO, gO, -, -, sO, -, pO⟩ := Cond.code_spec aO (w 7 _ rfl)
  cases bO.symm.trans bO'
  obtain ⟨clO, hclO, nameO⟩ := Vm.findClass_spec (findClass_of_methodNamed aO)
  obtain ⟨n1O, n2O⟩ := name_of_methodNamed aO bO
  have qF : mF.sig.parameters = [] := by
    have z : (parseMethodDescriptor tFill.desc).map (·.parameters) = some [] := by decide +kernel
    rw [pF] at z; simpa using z
  have qN : mN.sig.parameters = [.int] := by
    have z : (parseMethodDescriptor tFill0.desc).map (·.parameters) = some [.int] := by decide +kernel
    rw [gN] at z; simpa using z
  have qO : meO.sig.parameters.length = 0 := by
    have z : (parseMethodDescriptor oInit.desc).map (·.parameters.length) = some 0 := by decide +kernel
    rw [pO] at z; simpa using z
  -- its links
  obtain ⟨u1, v1, cf, x1, y1, z1, t1⟩ := Cond.linkedMethod hc hk aO (w 8 _ rfl) pl hp3
  obtain ⟨u2, v2, cf2, x2, y2, z2, t2⟩ := Cond.linkedMethod hc hk aF (w 9 _ rfl) pl hp3
  obtain ⟨u3, v3, cf3, x3, y3, z3, t3⟩ := Cond.linkedMethod hc hk aN (w 10 _ rfl) pl hp3
  cases z1.symm.trans z2
  cases z1.symm.trans z3
  -- its fields
  obtain ⟨a1, i1, f1, l1, r1, k1, s1, e1, -, -, -⟩ := Cond.ownField (t := .object tN) hc hk (by decide +kernel) (w 14 _ rfl) (w 15 _ rfl) pl hp3
  obtain ⟨a2, i2, f2, l2, r2, k2, s2, e2, m2, o2, g2⟩ := Cond.ownField (t := .array (.object "java/lang/StackTraceElement")) hc hk (by decide +kernel) (w 16 _ rfl) (w 17 _ rfl) pl hp3
  obtain ⟨a3, i3, f3, l3, r3, k3, s3, e3, m3, -, g3⟩ := Cond.ownField (t := .object "java/util/List") hc hk (by decide +kernel) (w 18 _ rfl) (w 19 _ rfl) pl hp3
  obtain ⟨a4, i4, f4, st, _, l4, r4, k4, s4, -, -, hst, -, -, -, -, g4⟩ := Cond.ownStatic (t := .array (.object "java/lang/StackTraceElement")) hc hk (by decide +kernel) (w 20 _ rfl) (w 21 _ rfl) pl hp3
  obtain ⟨a5, i5, f5, _, _, l5, r5, k5, s5, -, -, -, -, -, -, -, -⟩ := Cond.ownStatic (t := .object "java/util/List") hc hk (by decide +kernel) (w 22 _ rfl) (w 23 _ rfl) pl hp3
  obtain ⟨_, _, _, _, _, f6, _, _, -, s6, e6, -⟩ := Cond.lays_spec (w 24 _ rfl)
  obtain ⟨a7, i7, f7, l7, r7, k7, s7, -, m7, o7, g7⟩ := Cond.ownField (t := .object "java/lang/Object") hc hk (by decide +kernel) (w 25 _ rfl) (w 26 _ rfl) pl hp3
  obtain ⟨_, _, c8, k8, i8, f8, _, _, g8, s8, -, -⟩ := Cond.lays_spec (w 27 _ rfl)
  cases (Cond.lays_declared (w 27 _ rfl) g8).symm.trans hc
  obtain ⟨hk8, at8⟩ := State.fieldFound?_spec g8
  cases hk8.symm.trans hk
  obtain ⟨m8, o8⟩ := State.fieldFound?_type g8 (t := .int) (by decide +kernel)
  refine ⟨{ cT := c, kT := k, cO := c, aS := st, fillIdx := jF, fill0Idx := jN, initSIdx := jF, obj := mO, kObj := clO, methFill := mF, methFill0 := mN, methInitS := mF, methObj := meO, codeFill := kF, codeInitS := kF, codeObj := kO, fBack := f7, fDepth := f8, fStack := f2, fCause := f1, fSupp := f3, fMsg := f6, fUnassigned := f4, fSentinel := f5, cfT := cf, ci1 := u1, n1 := v1, ci27 := u2, n27 := v2, ci202 := u3, n202 := v3, ci7 := a1, i7 := i1, ci13 := a4, i13 := i4, ci17 := a2, i17 := i2, ci20 := a5, i20 := i5, ci24 := a3, i24 := i3 }, { ci198 := a7, i198 := i7, fBack := f7 }, f8, i8, ?_, ⟨l7, r7, k7, s7⟩, hc, aF, aN, g2, o2, g4, g7, o7, g8, o8,
    Cond.soleField_find hc hk (w 28 _ rfl) k7 m7 s7, Cond.soleField_find hc hk (w 29 _ rfl) at8 m8 s8⟩
  constructor
  case owns => exact hp1
  case noFinalization => exact hp2
  case boot => exact Vm.findClass_boot hc hk
  case initialized => exact Cond.initialized_spec hc hk (w 0 _ rfl)
  case objFound => rw [n2O]; exact lookupSpecial_of_named aO bO cO
  case stackApartSupp => exact Cond.lays_apart (w 17 _ rfl) (w 19 _ rfl) g2 g3 (by rw [m2, m3]; decide)
  all_goals assumption
theorem own_takes {s : State} {cell : Cell} {k : Class} {f : Field} {v : Value} (hk : s.vm.classes[cell.cls]? = some k) (ho : k.kind = .ordinary) (hz : cell.slots.size = k.instanceTypes.size) (hv : cell.vm = .none) (ht : k.instanceTypes[f.slot]? = some f.type) (hf : fits f.type v = true) : Jvm.Takes s cell f v := by
  obtain ⟨q1, q2⟩ := Takes.of_laid (v := v) hk ho ht hf
  exact ⟨by rw [hz]; simpa [freshCell] using q1, by rw [hv]; exact q2⟩
theorem own_slotOf {Z s : State} (hal : Z.vm.Alike s.vm) {C n d : String} {cc i : Nat} {k : Class} {f : Field} (h : s.fieldFound? C n d = some (cc, k, i, f)) : Jvm.RoadKit.slotOf Z C n d = f.slot := by
  obtain ⟨_, _, _, q⟩ := Jvm.Free.BdW.found_ride (U := s) (U' := Z) hal.symm ⟨_, _, _, h⟩
  simp [Jvm.RoadKit.slotOf, q]
/-- fillInStackTrace() on a throwable whose stack trace is UNASSIGNED_STACK: what is left of the receiver's fields -/
theorem own_fill {p : Program} {l : Launch} {e : Env} {R : Room} {s Z : State} {m : MethodId} {args a0 : Array Value} {below : List Frame} {meth : Method} {c : Code} {T : State} {locs : List Loc} {cells slots : Nat} {h : Heap} {rc : String} {n : Nat}
    (X : Stand p l e R s m args below meth c T locs cells slots) (hx : p.tables.exec = Jvm.exec) (hl : l.stackTraces = true) (hZ : Z.Warmed39 s.vm) (hown : s.vm.findClass tN = some m.cls) (W : ∀ d ∈ own_xw rc, d.before a0 Z = true) (wi : (Cond.instantiable rc n).before a0 Z = true) (hT0 : ThS Z s.heap) (hK : s.vm.MethodsKnown) (hB : s.vm.FramesKnown below)
    (eT : T.heap = h) {a : Addr} {u : Value} (hu : u.isRef = true) (E : Exa Z h a rc) (N : Unt h a) (FS : Fld Z h a tN "stackTrace" steD u) (FB : Fld Z h a tN "backtrace" obD .null) (SU : Sta Z h tN "UNASSIGNED_STACK" steD u)
    {g : JFrame} (hg : g.method = m) (hsize : g.locals.size = c.maxLocals) {rest : List Value} (hs : g.stack = .ref a :: rest) (hd : decode c.code g.pc = .ok (.invokevirtual 27, 3)) (hf : 3 ≤ R.frames) (hlo : 2 * g.monitorRoom + (rest.map fun v => v.category).sum + 42 ≤ R.locals) (hc : cells + 1 ≤ R.cells) (hsl : slots + 2752 ≤ R.slots) :
    ∃ (T' : State) (h' : Heap) (L : List Loc), Stand p l e R s m args below meth c T' (locs ++ L) (cells + 1) (slots + 2752) ∧ T'.heap = h' ∧ (∀ y ∈ L, y.base = a) ∧ Exa Z h' a rc ∧
      (∀ {O n d : String} {v : Value}, Fld Z h a O n d v → Jvm.RoadKit.slotOf Z O n d ≠ Jvm.RoadKit.slotOf Z tN "backtrace" obD → Jvm.RoadKit.slotOf Z O n d ≠ Jvm.RoadKit.slotOf Z tN "depth" "I" → Jvm.RoadKit.slotOf Z O n d ≠ Jvm.RoadKit.slotOf Z tN "stackTrace" steD → Fld Z h' a O n d v) ∧
      ∀ target, Steps p.tables e below (T'.setTop { g with pc := g.pc + 3, stack := .ref a :: rest }) target → Steps p.tables e below (T.setTop g) target := by
  subst eT
  have al := hZ.alike
  have hpl : e.platform.magicAccessors = ({} : Platform).magicAccessors := by rw [X.admits.platform]
  have W' : ∀ d ∈ own_xw rc, d.before args s = true := fun d hd => mvX hT0 hZ (List.all_eq_true.mp own_xok d hd) (W d hd)
  have w' : ∀ (i : Nat) (d : Cond), (own_xw rc)[i]? = some d → d.before args s = true := fun i d q => W' d (List.mem_of_getElem? q)
  obtain ⟨TC, B, fD, iD, LT, LB, hT, hF, hF0, gS, tS, gU, gB, tB, gD, tD, find1, find2⟩ := own_links (pl := e.platform) (by rw [X.admits.platform]) (by rw [X.admits.platform]) hpl W'
  -- the receiver
  obtain ⟨cell, k, c1, c2, c3, c4, c5⟩ := E
  obtain ⟨ce, n1, n2, n3⟩ := N
  cases c1.symm.trans n1
  obtain ⟨t, kt, t1, t2, t3, -⟩ := Cond.instantiable_spec wi
  cases t1.symm.trans c2
  cases t2.symm.trans c3
  obtain ⟨k', hk', he⟩ := al.2.2 _ _ c3
  have ho' : k'.kind = .ordinary := by rw [he]; exact t3
  have hz' : cell.slots.size = k'.instanceTypes.size := by rw [he]; exact c5 t3
  have hfc : s.vm.findClass rc = some cell.cls := by rw [al.findClass]; exact c2
  have laid : ∀ {nm ds : String} {cc i : Nat} {kk : Class} {f : Field}, s.fieldFound? tN nm ds = some (cc, kk, i, f) → (Cond.lays rc tN nm ds).before args s = true → k'.instanceTypes[f.slot]? = some f.type := fun q1 q2 => (Cond.laysAt hfc hk' q1 q2).1
  -- the two fields that are read
  obtain ⟨cl1, cf1, k1, i1, f1, p1, p2, p3, p4, p5, p6, p7⟩ := FS
  cases p1.symm.trans n1
  obtain ⟨_, _, _, p8⟩ := Jvm.Free.BdW.found_ride al ⟨_, _, _, p2⟩
  cases p8.symm.trans gS
  obtain ⟨cl2, cf2, k2, i2, f2, q1, q2, q3, q4, q5, q6, q7⟩ := FB
  cases q1.symm.trans n1
  obtain ⟨_, _, _, q8⟩ := Jvm.Free.BdW.found_ride al ⟨_, _, _, q2⟩
  cases q8.symm.trans gB
  -- the static
  obtain ⟨cf3, i3, k3, f3, st, cS, r1, r2, r3, r4, r5, r6, r7⟩ := SU
  obtain ⟨k4, r8, r9⟩ := State.fieldFound?_setVm al r1
  cases (show s.fieldFound? tN "UNASSIGNED_STACK" steD = _ from r8).symm.trans gU
  obtain rfl : st = TC.aS := Option.some.inj (r4.symm.trans ((by rw [r9] : TC.kT.statics = k3.statics) ▸ LT.statics))
  have hne : TC.aS ≠ a := fun q => by
    rw [q] at r5
    cases r5.symm.trans n1
    rw [n2] at r6; cases r6
  -- which fillInStackTrace(int)
  have hsel0 : selectMethod e.platform s.vm cell.cls TC.fill0 = .method TC.fill0 := by
    obtain ⟨x1, x2, x3, y1, y2, y3, y4, -⟩ := Cond.selects_spec (w' 12 _ rfl)
    cases y1.symm.trans hfc
    cases y2.symm.trans (State.methodFound?_of_named hF0 (by decide))
    cases y3.symm.trans hF0
    rw [Launch.admits_selectMethod X.admits]; exact y4
  obtain ⟨comp, cO, kO, -, -, hkO, hkindO, hO⟩ := Cond.arrayOver_spec (w' 30 _ rfl)
  have hSE := w' 13 _ rfl
  obtain ⟨v6, vm6, ⟨T6, L6, k6, n6⟩, -, X6, ⟨hv6, C6, n', hn, hD6, d1, d2, d3, d4, hL6, hc6, hn6⟩, st6⟩ := X.virtualBack hx (own := tN) (C := rc) (index := 27) (y := tFill) (z := tFill) hown (w' 9 _ rfl) (w' 11 _ rfl) (notFace_of_selects hSE) hSE (w' 2 _ rfl) (by decide)
    (fillPaysAny (l := l) (W := 2 * g.monitorRoom + (rest.map fun v => v.category).sum) hx (by rw [X.admits.platform]; exact hl) TC LT hF (u0 := ⟨u, hu⟩) (self := a) (cell := cell) (cellS := cS) (fun _ => by rw [n2]; simp) (by rw [n2]; simp) (by rw [n3]) (by rw [n3]) p7 hsel0 hne (by intro q; rw [q] at r6; cases r6) r7
      (own_takes hk' ho' hz' n2 (laid gS (w' 17 _ rfl)) (by rw [tS]; exact fits_refV_array _ ⟨u, hu⟩)) ⟨B, LB, q7⟩ hK hB hT hO hkO hkindO find1 find2
      (fun x => own_takes hk' ho' hz' n2 (laid gB (w' 26 _ rfl)) (by rw [tB]; rfl)) (fun x => own_takes hk' ho' hz' n2 (laid gD (w' 27 _ rfl)) (by rw [tD]; rfl)) (by omega) (by omega))
    (b := a) (cB := cell.cls) hfc ⟨cell, n1, rfl, c4⟩ (g := g) hg hsize (Steps.refl _) (argsL := []) (rest := rest)
    (fun sig h => by rw [show parseMethodDescriptor tFill.desc = some ⟨[], some (.object tN)⟩ from by decide +kernel] at h; rw [← Option.some.inj h]; rfl) hs (Nat.le_refl _) hd
    (fun vmx hWx => ⟨rfl, hc, hsl, n1, r5⟩)
  dsimp only [Pt.U, Pt.locs, Pt.cells, Pt.slots] at X6 hD6 hL6 hc6 hn6 st6
  subst hv6 hL6 hc6 hn6
  refine ⟨T6, T6.heap, _, X6.more (Nat.le_refl _) (Nat.add_le_add_left hn _), rfl, ?_, ⟨C6, k, hD6, by rw [d1]; exact c2, by rw [d1]; exact c3, by rw [d2]; exact c4, fun q => by rw [d3]; exact c5 q⟩, ?_, fun target q => st6.trans q⟩
  · intro y hy
    simp only [List.mem_cons, List.not_mem_nil, or_false] at hy
    rcases hy with rfl | rfl | rfl <;> rfl
  · intro O nm ds v F o1 o2 o3
    obtain ⟨cl, cf, kk, i, f, y1, y2, y3, y4, y5, y6, y7⟩ := F
    cases y1.symm.trans n1
    rw [own_slotOf al gB] at o1
    rw [own_slotOf al gD] at o2
    rw [own_slotOf al gS] at o3
    have z : Jvm.RoadKit.slotOf Z O nm ds = f.slot := by simp [Jvm.RoadKit.slotOf, y2]
    rw [z] at o1 o2 o3
    exact ⟨C6, cf, kk, i, f, hD6, y2, y3, by rw [d2]; exact y4, by rw [d2]; exact y5, by rw [d1]; exact y6, by rw [d4 _ o1 o2 o3]; exact y7⟩
/-- what a body has left of the heap where it wrote to one object alone -/
theorem own_keepX {p : Program} {l : Launch} {e : Env} {R : Room} {s : State} {m : MethodId} {args : Array Value} {below : List Frame} {meth : Method} {c : Code} {T : State} {locs : List Loc} {cells slots : Nat} {h0 h : Heap} {a : Addr}
    (X : Stand p l e R s m args below meth c T locs cells slots) (hh : s.heap = h0) (eT : T.heap = h) (hb : ∀ y ∈ locs, y.base = a) : Keep h0 h [a] := by
  subst hh eT
  obtain ⟨-, h1, -, -, -, h6⟩ := X.same
  have h6' : ∀ (x : Addr) (c : Cell), s.heap[x]? = some c → ∃ c', T.heap[x]? = some c' ∧ c' = { c with slots := c'.slots } ∧ c'.slots.size = c.slots.size ∧ ∀ i, (⟨x, i⟩ : Loc) ∉ locs → c'.slots[i]? = c.slots[i]? := h6
  refine ⟨h1, fun x c q ne => ?_, fun x c q => ?_⟩
  · obtain ⟨c', q1, q2, q3, q4⟩ := h6' x c q
    have : c'.slots = c.slots := Array.ext_getElem? fun i => q4 i fun hm => ne (List.mem_singleton.mpr (hb _ hm))
    rw [q1, q2, this]
  · obtain ⟨c', q1, q2, q3, -⟩ := h6' x c q
    exact ⟨c', q1, by rw [q2], by rw [q2], q3⟩
theorem own_ne_unt {Z : State} {h h' : Heap} {a : Addr} (N : Unt h a) (K : Keep h h' []) : Unt h' a := Unt.keep K nin0 N
theorem own_b0 {a : Addr} : ∀ y ∈ ([] : List Loc), y.base = a := fun _ q => nomatch q
theorem own_b1 {a : Addr} {x : Loc} (h : x.base = a) : ∀ y ∈ [x], y.base = a := fun y q => by rw [List.mem_singleton.mp q]; exact h
theorem own_bapp {a : Addr} {L M : List Loc} (p : ∀ y ∈ L, y.base = a) (q : ∀ y ∈ M, y.base = a) : ∀ y ∈ L ++ M, y.base = a := fun y h => (List.mem_append.mp h).elim (p y) (q y)
theorem own_fitV {v : Value} {C : String} (h : v.isRef = true) : fits (.object C) v = true := fits_refV_object C ⟨v, h⟩
theorem own_fitA {v : Value} {t : FieldType} (h : v.isRef = true) : fits (.array t) v = true := fits_refV_array t ⟨v, h⟩
end OwnExc
theorem own_xwords {Z : State} {a0 : Array Value} (hw : ∀ d ∈ tables_1, d.before a0 Z = true) : ∀ d ∈ own_xw "com/example/envelopa/envelopa/model/ServerStateFault", d.before a0 Z = true := by
  intro d hd
  simp only [own_xw, List.mem_cons, List.not_mem_nil, or_false] at hd
  rcases hd with rfl | rfl | rfl | rfl | rfl | rfl | rfl | rfl | rfl | rfl | rfl | rfl | rfl | rfl | rfl | rfl | rfl | rfl | rfl | rfl | rfl | rfl | rfl | rfl | rfl | rfl | rfl | rfl | rfl | rfl | rfl
  · exact (tw_48 hw)
  · exact (tw_66 hw)
  · exact (tw_61 hw)
  · exact (tw_67 hw)
  · exact (tw_68 hw)
  · exact (tw_69 hw)
  · exact (tw_21 hw)
  · exact (tw_22 hw)
  · exact (tw_50 hw)
  · exact (tw_59 hw)
  · exact (tw_72 hw)
  · exact (tw_60 hw)
  · exact (tw_81 hw)
  · exact (tw_62 hw)
  · exact (tw_51 hw)
  · exact (tw_52 hw)
  · exact (tw_54 hw)
  · exact (tw_55 hw)
  · exact (tw_57 hw)
  · exact (tw_58 hw)
  · exact (tw_53 hw)
  · exact (tw_79 hw)
  · exact (tw_56 hw)
  · exact (tw_80 hw)
  · exact (tw_82 hw)
  · exact (tw_77 hw)
  · exact (tw_83 hw)
  · exact (tw_84 hw)
  · exact (tw_64 hw)
  · exact (tw_65 hw)
  · exact (tw_63 hw)
def Q_thrInit (Z : State) (a0_ : Addr) (r1 : Value) (u : Value) (sn : Value) (h0 : Heap) (n0 : Nat) (v : Option Value) (h : Heap) (L : List Loc) : Prop := v = none ∧ Fr n0 L ∧ Keep h0 h [a0_] ∧ Fld Z h a0_ "java/lang/Throwable" "detailMessage" "Ljava/lang/String;" r1 ∧ Fld Z h a0_ "com/example/envelopa/envelopa/model/ServerStateFault" "kind" "Lcom/example/envelopa/envelopa/model/ServerStateFault$Kind;" .null ∧ Fld Z h a0_ "com/example/envelopa/envelopa/model/ServerStateFault" "reason" "Lcom/example/envelopa/envelopa/model/Reason;" .null
theorem ef_thrInit (m : MethodId) (a0_ : Addr) (r1 : Value) (u : Value) (sn : Value) (hr1 : r1.isRef = true) : entryFrame m #[(.ref a0_), r1] 2 = mkF m 0 #[.val (.ref a0_), .val r1] [] := by rcases XT.refc hr1 with rfl | ⟨_, rfl⟩ <;> first | (simp [entryFrame, mkF, argsToLocals, Value.category]; done) | rfl
set_option maxRecDepth 65536 in
set_option maxHeartbeats 40000000 in
theorem rm_thrInit (l : Launch) (Z : State) (a0 : Array Value) (hw : ∀ d ∈ tables_1, d.before a0 Z = true) (ws : List Jvm.Cond) (a0_ : Addr) (r1 : Value) (u : Value) (sn : Value) (h0 : Heap) (n0 : Nat) (Z0 : n0 ≤ h0.size) (O0 : Old Z n0 h0) (Su : Sta Z Z.heap "java/lang/Throwable" "UNASSIGNED_STACK" "[Ljava/lang/StackTraceElement;" u) (hu : u.isRef = true) (Ssn : Sta Z Z.heap "java/lang/Throwable" "SUPPRESSED_SENTINEL" "Ljava/util/List;" sn) (hsn : sn.isRef = true) (hl : l.stackTraces = true) (hr1 : r1.isRef = true) (E0 : Exa Z h0 a0_ "com/example/envelopa/envelopa/model/ServerStateFault") (g_a0_ : n0 ≤ a0_) (U0 : Unt h0 a0_) (F0_cause : Fld Z h0 a0_ "java/lang/Throwable" "cause" "Ljava/lang/Throwable;" .null) (F0_stackTrace : Fld Z h0 a0_ "java/lang/Throwable" "stackTrace" "[Ljava/lang/StackTraceElement;" .null) (F0_suppressedExceptions : Fld Z h0 a0_ "java/lang/Throwable" "suppressedExceptions" "Ljava/util/List;" .null) (F0_detailMessage : Fld Z h0 a0_ "java/lang/Throwable" "detailMessage" "Ljava/lang/String;" .null) (F0_backtrace : Fld Z h0 a0_ "java/lang/Throwable" "backtrace" "Ljava/lang/Object;" .null) (F0_depth : Fld Z h0 a0_ "java/lang/Throwable" "depth" "I" (.int (0 : Int32))) (F0_kind : Fld Z h0 a0_ "com/example/envelopa/envelopa/model/ServerStateFault" "kind" "Lcom/example/envelopa/envelopa/model/ServerStateFault$Kind;" .null) (F0_reason : Fld Z h0 a0_ "com/example/envelopa/envelopa/model/ServerStateFault" "reason" "Lcom/example/envelopa/envelopa/model/Reason;" .null) :
    MetFree l (⟨"java/lang/Throwable", "<init>", "(Ljava/lang/String;)V"⟩ : MethodName) (head1 (Jvm.Cond.code (⟨"java/lang/Throwable", "<init>", "(Ljava/lang/String;)V"⟩ : MethodName) jdk_78_method_2_code 2 none :: ws) ({ frames := 3, cells := 1, slots := 2752, locals := 44 } : Room)) (fun a U => a = #[(.ref a0_), r1] ∧ Z.Warmed39 U.vm ∧ U.heap = h0) (fun _ _ bl s _ => s.vm.MethodsKnown ∧ s.vm.FramesKnown bl) (fun _ U o U' => ∃ v L, o = .returned v ∧ Q_thrInit Z a0_ r1 u sn h0 n0 v U'.heap L ∧ FrameEnd U o U' L ({ frames := 3, cells := 1, slots := 2752, locals := 44 } : Room).cells ({ frames := 3, cells := 1, slots := 2752, locals := 44 } : Room).slots) := by
  refine MetFree.of_bodySF (plainFor_of_name pn_java_lang_Throwable) hisR ?_
  intro p e s m args below meth c s₁ Bd hml0 hP hK
  obtain ⟨rfl, hZ, hh⟩ := hP
  have hx := Bd.exec
  have hby := Bd.bytes
  have hml : c.maxLocals = 2 := hml0
  have hown : s.vm.findClass "java/lang/Throwable" = some m.cls := findClass_of_methodNamed Bd.named
  have hnm := (name_of_methodNamed Bd.named Bd.method).1
  have X0 : Stand p l e ({ frames := 3, cells := 1, slots := 2752, locals := 44 } : Room) s m #[(.ref a0_), r1] below meth c s₁ [] 0 0 := Stand.of_body Bd
  have e0 : s₁.heap = h0 := by rw [← hh, Bd.state]; rfl
  have N0 := Fr.nil n0
  have hlk : meth.locks = false := Bd.notSynchronized
  obtain ⟨P, hP⟩ : ∃ P : Outcome → State → Prop, P = PQ s (Q_thrInit Z a0_ r1 u sn h0 n0) ({ frames := 3, cells := 1, slots := 2752, locals := 44 } : Room).cells ({ frames := 3, cells := 1, slots := 2752, locals := 44 } : Room).slots := ⟨_, rfl⟩
  have fin : ∀ {T : State} {locs : List Loc} {k n : Nat} {v : Option Value} {S0 : State}, Stand p l e ({ frames := 3, cells := 1, slots := 2752, locals := 44 } : Room) s m #[(.ref a0_), r1] below meth c T locs k n → (meth.sig.returnType = none → v = none) → k ≤ ({ frames := 3, cells := 1, slots := 2752, locals := 44 } : Room).cells → n ≤ ({ frames := 3, cells := 1, slots := 2752, locals := 44 } : Room).slots → Q_thrInit Z a0_ r1 u sn h0 n0 v T.heap locs → (∀ fs, (∀ (f : JFrame) (acts : List Action), f.method = m → f.locked = none → f.entered = [] → (doReturn e (T.setTop f) acts v).1 = T.setFrames fs) → Steps p.tables e below S0 (T.setFrames fs)) → Go p e below P S0 := fun X hv hk hn hQ hst => hP ▸ Go.fin X hlk hv hk hn hQ hst
  suffices hgo : Go p e below P (s₁.setTop (mkF m 0 #[.val (.ref a0_), .val r1] [])) by
    rw [hP] at hgo
    exact Go.by (fun t k => castTop (ef_thrInit m a0_ r1 u sn hr1) k) hgo
  show Go p e below P (s₁.setTop (mkF m 0 #[.val (.ref a0_), .val r1] []))
  refine Go.by (fun _ => XS.aloadN X0.here hx rfl (hb hby d_jdk_78_method_2_code_0) rfl rfl) ?_
  show Go p e below P (s₁.setTop (mkF m 1 #[.val (.ref a0_), .val r1] [(.ref a0_)]))
  obtain ⟨T11, X11, e11, st11⟩ := initO X0 hx hZ hown (tw_50 hw) (tw_21 hw) (tw_22 hw) e0 (g := (mkF m 1 #[.val (.ref a0_), .val r1] [(.ref a0_)])) rfl (by rw [hml]; rfl) rfl (hb hby d_jdk_78_method_2_code_1) (by decide) (W := 0) (by show 2 * 0 + _ ≤ _; exact Nat.le_of_eq rfl) (by decide)
  refine Go.by st11 ?_
  show Go p e below P (T11.setTop (mkF m 4 #[.val (.ref a0_), .val r1] []))
  refine Go.by (fun _ => XS.aloadN X11.here hx rfl (hb hby d_jdk_78_method_2_code_4) rfl rfl) ?_
  show Go p e below P (T11.setTop (mkF m 5 #[.val (.ref a0_), .val r1] [(.ref a0_)]))
  refine Go.by (fun _ => XS.aloadN X11.here hx rfl (hb hby d_jdk_78_method_2_code_5) rfl rfl) ?_
  show Go p e below P (T11.setTop (mkF m 6 #[.val (.ref a0_), .val r1] [(.ref a0_), (.ref a0_)]))
  obtain ⟨T12, h12, X12, e12, W12, st12⟩ := putF X11 hx hZ hown (host := "") (Or.inl (tw_51 hw)) Via.refl e11 F0_cause E0 (Or.inl (tw_52 hw)) (tw_32 hw) (ty := (.object "java/lang/Throwable")) (by decide) rfl rfl (g := (mkF m 6 #[.val (.ref a0_), .val r1] [(.ref a0_), (.ref a0_)])) rfl rfl (hb hby d_jdk_78_method_2_code_6)
  refine Go.by st12 ?_
  have N12 := Fr.snoc X12 N0 g_a0_
  have f12_0 : n0 ≤ h12.size := (Nat.le_trans Z0 (Keep.of_wr W12).1)
  have f12_1 : Keep h0 h12 [a0_] := (Keep.wr (Keep.refl h0 [a0_]) W12 (Or.inl (List.mem_of_getElem? (i := 0) rfl)))
  have f12_2 : Old Z n0 h12 := (Old.wr O0 W12 g_a0_)
  have f12_3 : Exa Z h12 a0_ "com/example/envelopa/envelopa/model/ServerStateFault" := (Exa.wr W12 E0)
  have f12_4 : Unt h12 a0_ := (Unt.wr W12 U0)
  have f12_5 : Fld Z h12 a0_ "java/lang/Throwable" "cause" "Ljava/lang/Throwable;" (.ref a0_) := (Fld.same W12 F0_cause)
  have f12_6 : Fld Z h12 a0_ "java/lang/Throwable" "stackTrace" "[Ljava/lang/StackTraceElement;" .null := (Fld.other W12 F0_stackTrace (Or.inr (slot_ne (Or.inl (tw_55 hw)) (Or.inl (tw_52 hw)) (by decide) (t := (.array (.object "java/lang/StackTraceElement"))) (t' := (.object "java/lang/Throwable")) (by decide) (by decide))))
  have f12_7 : Fld Z h12 a0_ "java/lang/Throwable" "suppressedExceptions" "Ljava/util/List;" .null := (Fld.other W12 F0_suppressedExceptions (Or.inr (slot_ne (Or.inl (tw_58 hw)) (Or.inl (tw_52 hw)) (by decide) (t := (.object "java/util/List")) (t' := (.object "java/lang/Throwable")) (by decide) (by decide))))
  have f12_8 : Fld Z h12 a0_ "java/lang/Throwable" "detailMessage" "Ljava/lang/String;" .null := (Fld.other W12 F0_detailMessage (Or.inr (slot_ne (Or.inl (tw_82 hw)) (Or.inl (tw_52 hw)) (by decide) (t := (.object "java/lang/String")) (t' := (.object "java/lang/Throwable")) (by decide) (by decide))))
  have f12_9 : Fld Z h12 a0_ "java/lang/Throwable" "backtrace" "Ljava/lang/Object;" .null := (Fld.other W12 F0_backtrace (Or.inr (slot_ne (Or.inl (tw_83 hw)) (Or.inl (tw_52 hw)) (by decide) (t := (.object "java/lang/Object")) (t' := (.object "java/lang/Throwable")) (by decide) (by decide))))
  have f12_10 : Fld Z h12 a0_ "java/lang/Throwable" "depth" "I" (.int (0 : Int32)) := (Fld.other W12 F0_depth (Or.inr (slot_ne (Or.inl (tw_84 hw)) (Or.inl (tw_52 hw)) (by decide) (t := .int) (t' := (.object "java/lang/Throwable")) (by decide) (by decide))))
  have f12_11 : Fld Z h12 a0_ "com/example/envelopa/envelopa/model/ServerStateFault" "kind" "Lcom/example/envelopa/envelopa/model/ServerStateFault$Kind;" .null := (Fld.other W12 F0_kind (Or.inr (slot_ne (Or.inr (tw_88 hw)) (Or.inl (tw_52 hw)) (by decide) (t := (.object "com/example/envelopa/envelopa/model/ServerStateFault$Kind")) (t' := (.object "java/lang/Throwable")) (by decide) (by decide))))
  have f12_12 : Fld Z h12 a0_ "com/example/envelopa/envelopa/model/ServerStateFault" "reason" "Lcom/example/envelopa/envelopa/model/Reason;" .null := (Fld.other W12 F0_reason (Or.inr (slot_ne (Or.inr (tw_90 hw)) (Or.inl (tw_52 hw)) (by decide) (t := (.object "com/example/envelopa/envelopa/model/Reason")) (t' := (.object "java/lang/Throwable")) (by decide) (by decide))))
  show Go p e below P (T12.setTop (mkF m 9 #[.val (.ref a0_), .val r1] []))
  refine Go.by (fun _ => XS.aloadN X12.here hx rfl (hb hby d_jdk_78_method_2_code_9) rfl rfl) ?_
  show Go p e below P (T12.setTop (mkF m 10 #[.val (.ref a0_), .val r1] [(.ref a0_)]))
  obtain ⟨T13, X13, e13, st13⟩ := getS2 X12 hx hZ hown (host := "") (Or.inl (tw_53 hw)) Via.refl e12 (Su.ext f12_2.2) (g := (mkF m 10 #[.val (.ref a0_), .val r1] [(.ref a0_)])) rfl (hb hby d_jdk_78_method_2_code_10)
  refine Go.by st13 ?_
  show Go p e below P (T13.setTop (mkF m 13 #[.val (.ref a0_), .val r1] [u, (.ref a0_)]))
  obtain ⟨T14, h14, X14, e14, W14, st14⟩ := putF X13 hx hZ hown (host := "") (Or.inl (tw_54 hw)) Via.refl e13 f12_6 f12_3 (Or.inl (tw_55 hw)) (tw_32 hw) (ty := (.array (.object "java/lang/StackTraceElement"))) (by decide) (narrow_isRef _ hu) (own_fitA hu) (g := (mkF m 13 #[.val (.ref a0_), .val r1] [u, (.ref a0_)])) rfl rfl (hb hby d_jdk_78_method_2_code_13)
  refine Go.by st14 ?_
  have N14 := Fr.snoc X14 N12 g_a0_
  have f14_0 : n0 ≤ h14.size := (Nat.le_trans f12_0 (Keep.of_wr W14).1)
  have f14_1 : Keep h0 h14 [a0_] := (Keep.wr f12_1 W14 (Or.inl (List.mem_of_getElem? (i := 0) rfl)))
  have f14_2 : Old Z n0 h14 := (Old.wr f12_2 W14 g_a0_)
  have f14_3 : Exa Z h14 a0_ "com/example/envelopa/envelopa/model/ServerStateFault" := (Exa.wr W14 f12_3)
  have f14_4 : Unt h14 a0_ := (Unt.wr W14 f12_4)
  have f14_5 : Fld Z h14 a0_ "java/lang/Throwable" "cause" "Ljava/lang/Throwable;" (.ref a0_) := (Fld.other W14 f12_5 (Or.inr (slot_ne (Or.inl (tw_52 hw)) (Or.inl (tw_55 hw)) (by decide) (t := (.object "java/lang/Throwable")) (t' := (.array (.object "java/lang/StackTraceElement"))) (by decide) (by decide))))
  have f14_6 : Fld Z h14 a0_ "java/lang/Throwable" "stackTrace" "[Ljava/lang/StackTraceElement;" u := (Fld.same W14 f12_6)
  have f14_7 : Fld Z h14 a0_ "java/lang/Throwable" "suppressedExceptions" "Ljava/util/List;" .null := (Fld.other W14 f12_7 (Or.inr (slot_ne (Or.inl (tw_58 hw)) (Or.inl (tw_55 hw)) (by decide) (t := (.object "java/util/List")) (t' := (.array (.object "java/lang/StackTraceElement"))) (by decide) (by decide))))
  have f14_8 : Fld Z h14 a0_ "java/lang/Throwable" "detailMessage" "Ljava/lang/String;" .null := (Fld.other W14 f12_8 (Or.inr (slot_ne (Or.inl (tw_82 hw)) (Or.inl (tw_55 hw)) (by decide) (t := (.object "java/lang/String")) (t' := (.array (.object "java/lang/StackTraceElement"))) (by decide) (by decide))))
  have f14_9 : Fld Z h14 a0_ "java/lang/Throwable" "backtrace" "Ljava/lang/Object;" .null := (Fld.other W14 f12_9 (Or.inr (slot_ne (Or.inl (tw_83 hw)) (Or.inl (tw_55 hw)) (by decide) (t := (.object "java/lang/Object")) (t' := (.array (.object "java/lang/StackTraceElement"))) (by decide) (by decide))))
  have f14_10 : Fld Z h14 a0_ "java/lang/Throwable" "depth" "I" (.int (0 : Int32)) := (Fld.other W14 f12_10 (Or.inr (slot_ne (Or.inl (tw_84 hw)) (Or.inl (tw_55 hw)) (by decide) (t := .int) (t' := (.array (.object "java/lang/StackTraceElement"))) (by decide) (by decide))))
  have f14_11 : Fld Z h14 a0_ "com/example/envelopa/envelopa/model/ServerStateFault" "kind" "Lcom/example/envelopa/envelopa/model/ServerStateFault$Kind;" .null := (Fld.other W14 f12_11 (Or.inr (slot_ne (Or.inr (tw_88 hw)) (Or.inl (tw_55 hw)) (by decide) (t := (.object "com/example/envelopa/envelopa/model/ServerStateFault$Kind")) (t' := (.array (.object "java/lang/StackTraceElement"))) (by decide) (by decide))))
  have f14_12 : Fld Z h14 a0_ "com/example/envelopa/envelopa/model/ServerStateFault" "reason" "Lcom/example/envelopa/envelopa/model/Reason;" .null := (Fld.other W14 f12_12 (Or.inr (slot_ne (Or.inr (tw_90 hw)) (Or.inl (tw_55 hw)) (by decide) (t := (.object "com/example/envelopa/envelopa/model/Reason")) (t' := (.array (.object "java/lang/StackTraceElement"))) (by decide) (by decide))))
  show Go p e below P (T14.setTop (mkF m 16 #[.val (.ref a0_), .val r1] []))
  refine Go.by (fun _ => XS.aloadN X14.here hx rfl (hb hby d_jdk_78_method_2_code_16) rfl rfl) ?_
  show Go p e below P (T14.setTop (mkF m 17 #[.val (.ref a0_), .val r1] [(.ref a0_)]))
  obtain ⟨T15, X15, e15, st15⟩ := getS2 X14 hx hZ hown (host := "") (Or.inl (tw_56 hw)) Via.refl e14 (Ssn.ext f14_2.2) (g := (mkF m 17 #[.val (.ref a0_), .val r1] [(.ref a0_)])) rfl (hb hby d_jdk_78_method_2_code_17)
  refine Go.by st15 ?_
  show Go p e below P (T15.setTop (mkF m 20 #[.val (.ref a0_), .val r1] [sn, (.ref a0_)]))
  obtain ⟨T16, h16, X16, e16, W16, st16⟩ := putF X15 hx hZ hown (host := "") (Or.inl (tw_57 hw)) Via.refl e15 f14_7 f14_3 (Or.inl (tw_58 hw)) (tw_32 hw) (ty := (.object "java/util/List")) (by decide) (narrow_isRef _ hsn) (own_fitV hsn) (g := (mkF m 20 #[.val (.ref a0_), .val r1] [sn, (.ref a0_)])) rfl rfl (hb hby d_jdk_78_method_2_code_20)
  refine Go.by st16 ?_
  have N16 := Fr.snoc X16 N14 g_a0_
  have f16_0 : n0 ≤ h16.size := (Nat.le_trans f14_0 (Keep.of_wr W16).1)
  have f16_1 : Keep h0 h16 [a0_] := (Keep.wr f14_1 W16 (Or.inl (List.mem_of_getElem? (i := 0) rfl)))
  have f16_2 : Old Z n0 h16 := (Old.wr f14_2 W16 g_a0_)
  have f16_3 : Exa Z h16 a0_ "com/example/envelopa/envelopa/model/ServerStateFault" := (Exa.wr W16 f14_3)
  have f16_4 : Unt h16 a0_ := (Unt.wr W16 f14_4)
  have f16_5 : Fld Z h16 a0_ "java/lang/Throwable" "cause" "Ljava/lang/Throwable;" (.ref a0_) := (Fld.other W16 f14_5 (Or.inr (slot_ne (Or.inl (tw_52 hw)) (Or.inl (tw_58 hw)) (by decide) (t := (.object "java/lang/Throwable")) (t' := (.object "java/util/List")) (by decide) (by decide))))
  have f16_6 : Fld Z h16 a0_ "java/lang/Throwable" "stackTrace" "[Ljava/lang/StackTraceElement;" u := (Fld.other W16 f14_6 (Or.inr (slot_ne (Or.inl (tw_55 hw)) (Or.inl (tw_58 hw)) (by decide) (t := (.array (.object "java/lang/StackTraceElement"))) (t' := (.object "java/util/List")) (by decide) (by decide))))
  have f16_7 : Fld Z h16 a0_ "java/lang/Throwable" "suppressedExceptions" "Ljava/util/List;" sn := (Fld.same W16 f14_7)
  have f16_8 : Fld Z h16 a0_ "java/lang/Throwable" "detailMessage" "Ljava/lang/String;" .null := (Fld.other W16 f14_8 (Or.inr (slot_ne (Or.inl (tw_82 hw)) (Or.inl (tw_58 hw)) (by decide) (t := (.object "java/lang/String")) (t' := (.object "java/util/List")) (by decide) (by decide))))
  have f16_9 : Fld Z h16 a0_ "java/lang/Throwable" "backtrace" "Ljava/lang/Object;" .null := (Fld.other W16 f14_9 (Or.inr (slot_ne (Or.inl (tw_83 hw)) (Or.inl (tw_58 hw)) (by decide) (t := (.object "java/lang/Object")) (t' := (.object "java/util/List")) (by decide) (by decide))))
  have f16_10 : Fld Z h16 a0_ "java/lang/Throwable" "depth" "I" (.int (0 : Int32)) := (Fld.other W16 f14_10 (Or.inr (slot_ne (Or.inl (tw_84 hw)) (Or.inl (tw_58 hw)) (by decide) (t := .int) (t' := (.object "java/util/List")) (by decide) (by decide))))
  have f16_11 : Fld Z h16 a0_ "com/example/envelopa/envelopa/model/ServerStateFault" "kind" "Lcom/example/envelopa/envelopa/model/ServerStateFault$Kind;" .null := (Fld.other W16 f14_11 (Or.inr (slot_ne (Or.inr (tw_88 hw)) (Or.inl (tw_58 hw)) (by decide) (t := (.object "com/example/envelopa/envelopa/model/ServerStateFault$Kind")) (t' := (.object "java/util/List")) (by decide) (by decide))))
  have f16_12 : Fld Z h16 a0_ "com/example/envelopa/envelopa/model/ServerStateFault" "reason" "Lcom/example/envelopa/envelopa/model/Reason;" .null := (Fld.other W16 f14_12 (Or.inr (slot_ne (Or.inr (tw_90 hw)) (Or.inl (tw_58 hw)) (by decide) (t := (.object "com/example/envelopa/envelopa/model/Reason")) (t' := (.object "java/util/List")) (by decide) (by decide))))
  show Go p e below P (T16.setTop (mkF m 23 #[.val (.ref a0_), .val r1] []))
  refine Go.by (fun _ => XS.aloadN X16.here hx rfl (hb hby d_jdk_78_method_2_code_23) rfl rfl) ?_
  show Go p e below P (T16.setTop (mkF m 24 #[.val (.ref a0_), .val r1] [(.ref a0_)]))
  have hT0 : ThS Z s.heap := by rw [hh]; exact ThS.ext O0.2 ThS.start
  obtain ⟨T17, h17, Lf17, X17, e17, Lb17, Ef17, Ff17, st17⟩ := own_fill X16 hx hl hZ hown (own_xwords hw) (tw_32 hw) hT0 hK.1 hK.2 e16 hu f16_3 f16_4 f16_6 f16_9 (Su.ext f16_2.2) (g := (mkF m 24 #[.val (.ref a0_), .val r1] [(.ref a0_)])) rfl (by rw [hml]; rfl) rfl (hb hby d_jdk_78_method_2_code_24) (by decide) (by show 2 * 0 + _ ≤ _; decide) (by decide) (by decide)
  have K17 : Keep h0 h17 [a0_] := own_keepX X17 hh e17 (own_bapp (own_bapp (own_bapp (own_bapp own_b0 (own_b1 rfl)) (own_b1 rfl)) (own_b1 rfl)) Lb17)
  have N17 := Fr.app N16 (fun y hy => by rw [Lb17 y hy]; exact g_a0_)
  have f17_0 : n0 ≤ h17.size := (Nat.le_trans Z0 K17.1)
  have f17_1 : Keep h0 h17 [a0_] := K17
  have f17_2 : Old Z n0 h17 := (Old.keep O0 K17 (allS g_a0_ all0))
  have f17_3 : Exa Z h17 a0_ "com/example/envelopa/envelopa/model/ServerStateFault" := Ef17
  have f17_4 : Fld Z h17 a0_ "java/lang/Throwable" "cause" "Ljava/lang/Throwable;" (.ref a0_) := (Ff17 f16_5 (slot_ne (Or.inl (tw_52 hw)) (Or.inl (tw_83 hw)) (by decide) (t := (.object "java/lang/Throwable")) (t' := (.object "java/lang/Object")) (by decide) (by decide)) (slot_ne (Or.inl (tw_52 hw)) (Or.inl (tw_84 hw)) (by decide) (t := (.object "java/lang/Throwable")) (t' := .int) (by decide) (by decide)) (slot_ne (Or.inl (tw_52 hw)) (Or.inl (tw_55 hw)) (by decide) (t := (.object "java/lang/Throwable")) (t' := (.array (.object "java/lang/StackTraceElement"))) (by decide) (by decide)))
  have f17_5 : Fld Z h17 a0_ "java/lang/Throwable" "suppressedExceptions" "Ljava/util/List;" sn := (Ff17 f16_7 (slot_ne (Or.inl (tw_58 hw)) (Or.inl (tw_83 hw)) (by decide) (t := (.object "java/util/List")) (t' := (.object "java/lang/Object")) (by decide) (by decide)) (slot_ne (Or.inl (tw_58 hw)) (Or.inl (tw_84 hw)) (by decide) (t := (.object "java/util/List")) (t' := .int) (by decide) (by decide)) (slot_ne (Or.inl (tw_58 hw)) (Or.inl (tw_55 hw)) (by decide) (t := (.object "java/util/List")) (t' := (.array (.object "java/lang/StackTraceElement"))) (by decide) (by decide)))
  have f17_6 : Fld Z h17 a0_ "java/lang/Throwable" "detailMessage" "Ljava/lang/String;" .null := (Ff17 f16_8 (slot_ne (Or.inl (tw_82 hw)) (Or.inl (tw_83 hw)) (by decide) (t := (.object "java/lang/String")) (t' := (.object "java/lang/Object")) (by decide) (by decide)) (slot_ne (Or.inl (tw_82 hw)) (Or.inl (tw_84 hw)) (by decide) (t := (.object "java/lang/String")) (t' := .int) (by decide) (by decide)) (slot_ne (Or.inl (tw_82 hw)) (Or.inl (tw_55 hw)) (by decide) (t := (.object "java/lang/String")) (t' := (.array (.object "java/lang/StackTraceElement"))) (by decide) (by decide)))
  have f17_7 : Fld Z h17 a0_ "com/example/envelopa/envelopa/model/ServerStateFault" "kind" "Lcom/example/envelopa/envelopa/model/ServerStateFault$Kind;" .null := (Ff17 f16_11 (slot_ne (Or.inr (tw_88 hw)) (Or.inl (tw_83 hw)) (by decide) (t := (.object "com/example/envelopa/envelopa/model/ServerStateFault$Kind")) (t' := (.object "java/lang/Object")) (by decide) (by decide)) (slot_ne (Or.inr (tw_88 hw)) (Or.inl (tw_84 hw)) (by decide) (t := (.object "com/example/envelopa/envelopa/model/ServerStateFault$Kind")) (t' := .int) (by decide) (by decide)) (slot_ne (Or.inr (tw_88 hw)) (Or.inl (tw_55 hw)) (by decide) (t := (.object "com/example/envelopa/envelopa/model/ServerStateFault$Kind")) (t' := (.array (.object "java/lang/StackTraceElement"))) (by decide) (by decide)))
  have f17_8 : Fld Z h17 a0_ "com/example/envelopa/envelopa/model/ServerStateFault" "reason" "Lcom/example/envelopa/envelopa/model/Reason;" .null := (Ff17 f16_12 (slot_ne (Or.inr (tw_90 hw)) (Or.inl (tw_83 hw)) (by decide) (t := (.object "com/example/envelopa/envelopa/model/Reason")) (t' := (.object "java/lang/Object")) (by decide) (by decide)) (slot_ne (Or.inr (tw_90 hw)) (Or.inl (tw_84 hw)) (by decide) (t := (.object "com/example/envelopa/envelopa/model/Reason")) (t' := .int) (by decide) (by decide)) (slot_ne (Or.inr (tw_90 hw)) (Or.inl (tw_55 hw)) (by decide) (t := (.object "com/example/envelopa/envelopa/model/Reason")) (t' := (.array (.object "java/lang/StackTraceElement"))) (by decide) (by decide)))
  refine Go.by st17 ?_
  show Go p e below P (T17.setTop (mkF m 27 #[.val (.ref a0_), .val r1] [(.ref a0_)]))
  refine Go.by (fun _ => XS.pop X17.here hx rfl (hb hby d_jdk_78_method_2_code_27) rfl rfl) ?_
  show Go p e below P (T17.setTop (mkF m 28 #[.val (.ref a0_), .val r1] []))
  refine Go.by (fun _ => XS.aloadN X17.here hx rfl (hb hby d_jdk_78_method_2_code_28) rfl rfl) ?_
  show Go p e below P (T17.setTop (mkF m 29 #[.val (.ref a0_), .val r1] [(.ref a0_)]))
  refine Go.by (fun _ => XS.aloadN X17.here hx rfl (hb hby d_jdk_78_method_2_code_29) rfl hr1) ?_
  show Go p e below P (T17.setTop (mkF m 30 #[.val (.ref a0_), .val r1] [r1, (.ref a0_)]))
  obtain ⟨T18, h18, X18, e18, W18, st18⟩ := putF X17 hx hZ hown (host := "") (Or.inl (tw_86 hw)) Via.refl e17 f17_6 f17_3 (Or.inl (tw_82 hw)) (tw_32 hw) (ty := (.object "java/lang/String")) (by decide) (narrow_isRef _ hr1) (own_fitV hr1) (g := (mkF m 30 #[.val (.ref a0_), .val r1] [r1, (.ref a0_)])) rfl rfl (hb hby d_jdk_78_method_2_code_30)
  refine Go.by st18 ?_
  have N18 := Fr.snoc X18 N17 g_a0_
  have f18_0 : n0 ≤ h18.size := (Nat.le_trans f17_0 (Keep.of_wr W18).1)
  have f18_1 : Keep h0 h18 [a0_] := (Keep.wr f17_1 W18 (Or.inl (List.mem_of_getElem? (i := 0) rfl)))
  have f18_2 : Old Z n0 h18 := (Old.wr f17_2 W18 g_a0_)
  have f18_3 : Exa Z h18 a0_ "com/example/envelopa/envelopa/model/ServerStateFault" := (Exa.wr W18 f17_3)
  have f18_4 : Fld Z h18 a0_ "java/lang/Throwable" "cause" "Ljava/lang/Throwable;" (.ref a0_) := (Fld.other W18 f17_4 (Or.inr (slot_ne (Or.inl (tw_52 hw)) (Or.inl (tw_82 hw)) (by decide) (t := (.object "java/lang/Throwable")) (t' := (.object "java/lang/String")) (by decide) (by decide))))
  have f18_5 : Fld Z h18 a0_ "java/lang/Throwable" "suppressedExceptions" "Ljava/util/List;" sn := (Fld.other W18 f17_5 (Or.inr (slot_ne (Or.inl (tw_58 hw)) (Or.inl (tw_82 hw)) (by decide) (t := (.object "java/util/List")) (t' := (.object "java/lang/String")) (by decide) (by decide))))
  have f18_6 : Fld Z h18 a0_ "java/lang/Throwable" "detailMessage" "Ljava/lang/String;" r1 := (Fld.same W18 f17_6)
  have f18_7 : Fld Z h18 a0_ "com/example/envelopa/envelopa/model/ServerStateFault" "kind" "Lcom/example/envelopa/envelopa/model/ServerStateFault$Kind;" .null := (Fld.other W18 f17_7 (Or.inr (slot_ne (Or.inr (tw_88 hw)) (Or.inl (tw_82 hw)) (by decide) (t := (.object "com/example/envelopa/envelopa/model/ServerStateFault$Kind")) (t' := (.object "java/lang/String")) (by decide) (by decide))))
  have f18_8 : Fld Z h18 a0_ "com/example/envelopa/envelopa/model/ServerStateFault" "reason" "Lcom/example/envelopa/envelopa/model/Reason;" .null := (Fld.other W18 f17_8 (Or.inr (slot_ne (Or.inr (tw_90 hw)) (Or.inl (tw_82 hw)) (by decide) (t := (.object "com/example/envelopa/envelopa/model/Reason")) (t' := (.object "java/lang/String")) (by decide) (by decide))))
  show Go p e below P (T18.setTop (mkF m 33 #[.val (.ref a0_), .val r1] []))
  refine fin X18 (v := none) (fun _ => rfl) (by decide) (by decide) ?_ (fun fs hr => X18.returnOut hx Bd.returns (hb hby d_jdk_78_method_2_code_33) hr)
  rw [e18]
  exact ⟨rfl, N18, f18_1, f18_6, f18_7, f18_8⟩
def Q_exc0 (Z : State) (a0_ : Addr) (r1 : Value) (u : Value) (sn : Value) (h0 : Heap) (n0 : Nat) (v : Option Value) (h : Heap) (L : List Loc) : Prop := v = none ∧ Fr n0 L ∧ Keep h0 h [a0_] ∧ Fld Z h a0_ "java/lang/Throwable" "detailMessage" "Ljava/lang/String;" r1 ∧ Fld Z h a0_ "com/example/envelopa/envelopa/model/ServerStateFault" "kind" "Lcom/example/envelopa/envelopa/model/ServerStateFault$Kind;" .null ∧ Fld Z h a0_ "com/example/envelopa/envelopa/model/ServerStateFault" "reason" "Lcom/example/envelopa/envelopa/model/Reason;" .null
theorem ef_exc0 (m : MethodId) (a0_ : Addr) (r1 : Value) (u : Value) (sn : Value) (hr1 : r1.isRef = true) : entryFrame m #[(.ref a0_), r1] 2 = mkF m 0 #[.val (.ref a0_), .val r1] [] := by rcases XT.refc hr1 with rfl | ⟨_, rfl⟩ <;> first | (simp [entryFrame, mkF, argsToLocals, Value.category]; done) | rfl
set_option maxRecDepth 65536 in
set_option maxHeartbeats 40000000 in
theorem rm_exc0 (l : Launch) (Z : State) (a0 : Array Value) (hw : ∀ d ∈ tables_1, d.before a0 Z = true) (ws : List Jvm.Cond) (a0_ : Addr) (r1 : Value) (u : Value) (sn : Value) (h0 : Heap) (n0 : Nat) (Z0 : n0 ≤ h0.size) (O0 : Old Z n0 h0) (Su : Sta Z Z.heap "java/lang/Throwable" "UNASSIGNED_STACK" "[Ljava/lang/StackTraceElement;" u) (hu : u.isRef = true) (Ssn : Sta Z Z.heap "java/lang/Throwable" "SUPPRESSED_SENTINEL" "Ljava/util/List;" sn) (hsn : sn.isRef = true) (hl : l.stackTraces = true) (hr1 : r1.isRef = true) (E0 : Exa Z h0 a0_ "com/example/envelopa/envelopa/model/ServerStateFault") (g_a0_ : n0 ≤ a0_) (U0 : Unt h0 a0_) (F0_cause : Fld Z h0 a0_ "java/lang/Throwable" "cause" "Ljava/lang/Throwable;" .null) (F0_stackTrace : Fld Z h0 a0_ "java/lang/Throwable" "stackTrace" "[Ljava/lang/StackTraceElement;" .null) (F0_suppressedExceptions : Fld Z h0 a0_ "java/lang/Throwable" "suppressedExceptions" "Ljava/util/List;" .null) (F0_detailMessage : Fld Z h0 a0_ "java/lang/Throwable" "detailMessage" "Ljava/lang/String;" .null) (F0_backtrace : Fld Z h0 a0_ "java/lang/Throwable" "backtrace" "Ljava/lang/Object;" .null) (F0_depth : Fld Z h0 a0_ "java/lang/Throwable" "depth" "I" (.int (0 : Int32))) (F0_kind : Fld Z h0 a0_ "com/example/envelopa/envelopa/model/ServerStateFault" "kind" "Lcom/example/envelopa/envelopa/model/ServerStateFault$Kind;" .null) (F0_reason : Fld Z h0 a0_ "com/example/envelopa/envelopa/model/ServerStateFault" "reason" "Lcom/example/envelopa/envelopa/model/Reason;" .null) :
    MetFree l (⟨"java/lang/Exception", "<init>", "(Ljava/lang/String;)V"⟩ : MethodName) (head1 (Jvm.Cond.code (⟨"java/lang/Exception", "<init>", "(Ljava/lang/String;)V"⟩ : MethodName) jdk_59_method_2_code 2 none :: ws) ({ frames := 4, cells := 1, slots := 2752, locals := 58 } : Room)) (fun a U => a = #[(.ref a0_), r1] ∧ Z.Warmed39 U.vm ∧ U.heap = h0) (fun _ _ bl s _ => s.vm.MethodsKnown ∧ s.vm.FramesKnown bl) (fun _ U o U' => ∃ v L, o = .returned v ∧ Q_exc0 Z a0_ r1 u sn h0 n0 v U'.heap L ∧ FrameEnd U o U' L ({ frames := 4, cells := 1, slots := 2752, locals := 58 } : Room).cells ({ frames := 4, cells := 1, slots := 2752, locals := 58 } : Room).slots) := by
  refine MetFree.of_bodySF (plainFor_of_name pn_java_lang_Exception) hisR ?_
  intro p e s m args below meth c s₁ Bd hml0 hP hK
  obtain ⟨rfl, hZ, hh⟩ := hP
  have hx := Bd.exec
  have hby := Bd.bytes
  have hml : c.maxLocals = 2 := hml0
  have hown : s.vm.findClass "java/lang/Exception" = some m.cls := findClass_of_methodNamed Bd.named
  have hnm := (name_of_methodNamed Bd.named Bd.method).1
  have X0 : Stand p l e ({ frames := 4, cells := 1, slots := 2752, locals := 58 } : Room) s m #[(.ref a0_), r1] below meth c s₁ [] 0 0 := Stand.of_body Bd
  have e0 : s₁.heap = h0 := by rw [← hh, Bd.state]; rfl
  have N0 := Fr.nil n0
  have hlk : meth.locks = false := Bd.notSynchronized
  obtain ⟨P, hP⟩ : ∃ P : Outcome → State → Prop, P = PQ s (Q_exc0 Z a0_ r1 u sn h0 n0) ({ frames := 4, cells := 1, slots := 2752, locals := 58 } : Room).cells ({ frames := 4, cells := 1, slots := 2752, locals := 58 } : Room).slots := ⟨_, rfl⟩
  have fin : ∀ {T : State} {locs : List Loc} {k n : Nat} {v : Option Value} {S0 : State}, Stand p l e ({ frames := 4, cells := 1, slots := 2752, locals := 58 } : Room) s m #[(.ref a0_), r1] below meth c T locs k n → (meth.sig.returnType = none → v = none) → k ≤ ({ frames := 4, cells := 1, slots := 2752, locals := 58 } : Room).cells → n ≤ ({ frames := 4, cells := 1, slots := 2752, locals := 58 } : Room).slots → Q_exc0 Z a0_ r1 u sn h0 n0 v T.heap locs → (∀ fs, (∀ (f : JFrame) (acts : List Action), f.method = m → f.locked = none → f.entered = [] → (doReturn e (T.setTop f) acts v).1 = T.setFrames fs) → Steps p.tables e below S0 (T.setFrames fs)) → Go p e below P S0 := fun X hv hk hn hQ hst => hP ▸ Go.fin X hlk hv hk hn hQ hst
  suffices hgo : Go p e below P (s₁.setTop (mkF m 0 #[.val (.ref a0_), .val r1] [])) by
    rw [hP] at hgo
    exact Go.by (fun t k => castTop (ef_exc0 m a0_ r1 u sn hr1) k) hgo
  show Go p e below P (s₁.setTop (mkF m 0 #[.val (.ref a0_), .val r1] []))
  refine Go.by (fun _ => XS.aloadN X0.here hx rfl (hb hby d_jdk_59_method_2_code_0) rfl rfl) ?_
  show Go p e below P (s₁.setTop (mkF m 1 #[.val (.ref a0_), .val r1] [(.ref a0_)]))
  refine Go.by (fun _ => XS.aloadN X0.here hx rfl (hb hby d_jdk_59_method_2_code_1) rfl hr1) ?_
  show Go p e below P (s₁.setTop (mkF m 2 #[.val (.ref a0_), .val r1] [r1, (.ref a0_)]))
  obtain ⟨_, _, ⟨T11, L11, k11, n11⟩, -, X11, ⟨Lc11, hQ11, l11, y11, z11⟩, st11⟩ := X0.specialBack hx (y := (⟨"java/lang/Throwable", "<init>", "(Ljava/lang/String;)V"⟩ : MethodName)) rfl hown (mvT hZ (tw_44 hw)) (mvT hZ (tw_45 hw)) (mvT hZ (tw_49 hw)) (by decide) (backOfKL (W := 0) (rm_thrInit l Z a0 hw [] a0_ r1 u sn h0 n0 Z0 O0 Su hu Ssn hsn hl hr1 E0 g_a0_ U0 F0_cause F0_stackTrace F0_suppressedExceptions F0_detailMessage F0_backtrace F0_depth F0_kind F0_reason) hZ (tw_49 hw) (tw_48 hw) (by decide) (by decide) hK.1 hK.2) (g := (mkF m 2 #[.val (.ref a0_), .val r1] [r1, (.ref a0_)])) rfl (by rw [hml]; rfl) (Steps.refl _) (a := a0_) (argsL := [r1]) (rest := []) (lenOf pd__Ljava_lang_String__V rfl) rfl (by show 2 * 0 + _ ≤ _; exact Nat.le_of_eq rfl) (hb hby d_jdk_59_method_2_code_2) (fun _ _ => ⟨rfl, e0, (by decide : 0 + 1 ≤ _), (by decide : 0 + 2752 ≤ _)⟩)
  dsimp only [Pt.U, Pt.locs, Pt.cells, Pt.slots] at X11 l11 y11 z11 st11 hQ11
  subst l11 y11 z11
  obtain ⟨rfl, N11q, K11, Gm11, G11_0, G11_1⟩ := hQ11
  have N11 := Fr.app N0 N11q
  refine Go.by (fun t k => st11.trans k) ?_
  have f11_0 : n0 ≤ T11.heap.size := (Nat.le_trans Z0 K11.1)
  have f11_1 : Keep h0 T11.heap [a0_] := (Keep.trans (Keep.refl h0 [a0_]) K11 (allS (Or.inl (List.mem_of_getElem? (i := 0) rfl)) all0))
  have f11_2 : Old Z n0 T11.heap := (Old.keep O0 K11 (allS g_a0_ all0))
  have f11_3 : Exa Z T11.heap a0_ "com/example/envelopa/envelopa/model/ServerStateFault" := (Exa.keep E0 K11)
  show Go p e below P (T11.setTop (mkF m 5 #[.val (.ref a0_), .val r1] []))
  refine fin X11 (v := none) (fun _ => rfl) (by decide) (by decide) ?_ (fun fs hr => X11.returnOut hx Bd.returns (hb hby d_jdk_59_method_2_code_5) hr)
  exact ⟨rfl, N11, f11_1, Gm11, G11_0, G11_1⟩
def Q_sfInit (Z : State) (a0_ : Addr) (r1 : Value) (u : Value) (sn : Value) (kd : Addr) (h0 : Heap) (n0 : Nat) (v : Option Value) (h : Heap) (L : List Loc) : Prop := v = none ∧ Fr n0 L ∧ Keep h0 h [a0_] ∧ Fld Z h a0_ "com/example/envelopa/envelopa/model/ServerStateFault" "kind" "Lcom/example/envelopa/envelopa/model/ServerStateFault$Kind;" (.ref kd) ∧ Fld Z h a0_ "com/example/envelopa/envelopa/model/ServerStateFault" "reason" "Lcom/example/envelopa/envelopa/model/Reason;" .null
theorem ef_sfInit (m : MethodId) (a0_ : Addr) (r1 : Value) (u : Value) (sn : Value) (kd : Addr) (hr1 : r1.isRef = true) : entryFrame m #[(.ref a0_), (.ref kd), r1] 3 = mkF m 0 #[.val (.ref a0_), .val (.ref kd), .val r1] [] := by rcases XT.refc hr1 with rfl | ⟨_, rfl⟩ <;> first | (simp [entryFrame, mkF, argsToLocals, Value.category]; done) | rfl
set_option maxRecDepth 65536 in
set_option maxHeartbeats 40000000 in
theorem rm_sfInit (l : Launch) (Z : State) (a0 : Array Value) (hw : ∀ d ∈ tables_1, d.before a0 Z = true) (ws : List Jvm.Cond) (a0_ : Addr) (r1 : Value) (u : Value) (sn : Value) (kd : Addr) (h0 : Heap) (n0 : Nat) (Z0 : n0 ≤ h0.size) (O0 : Old Z n0 h0) (Su : Sta Z Z.heap "java/lang/Throwable" "UNASSIGNED_STACK" "[Ljava/lang/StackTraceElement;" u) (hu : u.isRef = true) (Ssn : Sta Z Z.heap "java/lang/Throwable" "SUPPRESSED_SENTINEL" "Ljava/util/List;" sn) (hsn : sn.isRef = true) (hl : l.stackTraces = true) (hr1 : r1.isRef = true) (E0 : Exa Z h0 a0_ "com/example/envelopa/envelopa/model/ServerStateFault") (g_a0_ : n0 ≤ a0_) (U0 : Unt h0 a0_) (F0_cause : Fld Z h0 a0_ "java/lang/Throwable" "cause" "Ljava/lang/Throwable;" .null) (F0_stackTrace : Fld Z h0 a0_ "java/lang/Throwable" "stackTrace" "[Ljava/lang/StackTraceElement;" .null) (F0_suppressedExceptions : Fld Z h0 a0_ "java/lang/Throwable" "suppressedExceptions" "Ljava/util/List;" .null) (F0_detailMessage : Fld Z h0 a0_ "java/lang/Throwable" "detailMessage" "Ljava/lang/String;" .null) (F0_backtrace : Fld Z h0 a0_ "java/lang/Throwable" "backtrace" "Ljava/lang/Object;" .null) (F0_depth : Fld Z h0 a0_ "java/lang/Throwable" "depth" "I" (.int (0 : Int32))) (F0_kind : Fld Z h0 a0_ "com/example/envelopa/envelopa/model/ServerStateFault" "kind" "Lcom/example/envelopa/envelopa/model/ServerStateFault$Kind;" .null) (F0_reason : Fld Z h0 a0_ "com/example/envelopa/envelopa/model/ServerStateFault" "reason" "Lcom/example/envelopa/envelopa/model/Reason;" .null) :
    MetFree l (⟨"com/example/envelopa/envelopa/model/ServerStateFault", "<init>", "(Lcom/example/envelopa/envelopa/model/ServerStateFault$Kind;Ljava/lang/String;)V"⟩ : MethodName) (head1 (Jvm.Cond.code (⟨"com/example/envelopa/envelopa/model/ServerStateFault", "<init>", "(Lcom/example/envelopa/envelopa/model/ServerStateFault$Kind;Ljava/lang/String;)V"⟩ : MethodName) prog_12_method_1_code 3 none :: ws) ({ frames := 5, cells := 1, slots := 2752, locals := 72 } : Room)) (fun a U => a = #[(.ref a0_), (.ref kd), r1] ∧ Z.Warmed39 U.vm ∧ U.heap = h0) (fun _ _ bl s _ => s.vm.MethodsKnown ∧ s.vm.FramesKnown bl) (fun _ U o U' => ∃ v L, o = .returned v ∧ Q_sfInit Z a0_ r1 u sn kd h0 n0 v U'.heap L ∧ FrameEnd U o U' L ({ frames := 5, cells := 1, slots := 2752, locals := 72 } : Room).cells ({ frames := 5, cells := 1, slots := 2752, locals := 72 } : Room).slots) := by
  refine MetFree.of_bodySF (plainFor_of_name pn_com_example_envelopa_envelopa_model_ServerStateFault) hisR ?_
  intro p e s m args below meth c s₁ Bd hml0 hP hK
  obtain ⟨rfl, hZ, hh⟩ := hP
  have hx := Bd.exec
  have hby := Bd.bytes
  have hml : c.maxLocals = 3 := hml0
  have hown : s.vm.findClass "com/example/envelopa/envelopa/model/ServerStateFault" = some m.cls := findClass_of_methodNamed Bd.named
  have hnm := (name_of_methodNamed Bd.named Bd.method).1
  have X0 : Stand p l e ({ frames := 5, cells := 1, slots := 2752, locals := 72 } : Room) s m #[(.ref a0_), (.ref kd), r1] below meth c s₁ [] 0 0 := Stand.of_body Bd
  have e0 : s₁.heap = h0 := by rw [← hh, Bd.state]; rfl
  have N0 := Fr.nil n0
  have hlk : meth.locks = false := Bd.notSynchronized
  obtain ⟨P, hP⟩ : ∃ P : Outcome → State → Prop, P = PQ s (Q_sfInit Z a0_ r1 u sn kd h0 n0) ({ frames := 5, cells := 1, slots := 2752, locals := 72 } : Room).cells ({ frames := 5, cells := 1, slots := 2752, locals := 72 } : Room).slots := ⟨_, rfl⟩
  have fin : ∀ {T : State} {locs : List Loc} {k n : Nat} {v : Option Value} {S0 : State}, Stand p l e ({ frames := 5, cells := 1, slots := 2752, locals := 72 } : Room) s m #[(.ref a0_), (.ref kd), r1] below meth c T locs k n → (meth.sig.returnType = none → v = none) → k ≤ ({ frames := 5, cells := 1, slots := 2752, locals := 72 } : Room).cells → n ≤ ({ frames := 5, cells := 1, slots := 2752, locals := 72 } : Room).slots → Q_sfInit Z a0_ r1 u sn kd h0 n0 v T.heap locs → (∀ fs, (∀ (f : JFrame) (acts : List Action), f.method = m → f.locked = none → f.entered = [] → (doReturn e (T.setTop f) acts v).1 = T.setFrames fs) → Steps p.tables e below S0 (T.setFrames fs)) → Go p e below P S0 := fun X hv hk hn hQ hst => hP ▸ Go.fin X hlk hv hk hn hQ hst
  suffices hgo : Go p e below P (s₁.setTop (mkF m 0 #[.val (.ref a0_), .val (.ref kd), .val r1] [])) by
    rw [hP] at hgo
    exact Go.by (fun t k => castTop (ef_sfInit m a0_ r1 u sn kd hr1) k) hgo
  show Go p e below P (s₁.setTop (mkF m 0 #[.val (.ref a0_), .val (.ref kd), .val r1] []))
  refine Go.by (fun _ => XS.aloadN X0.here hx rfl (hb hby d_prog_12_method_1_code_0) rfl rfl) ?_
  show Go p e below P (s₁.setTop (mkF m 1 #[.val (.ref a0_), .val (.ref kd), .val r1] [(.ref a0_)]))
  refine Go.by (fun _ => XS.aloadN X0.here hx rfl (hb hby d_prog_12_method_1_code_1) rfl hr1) ?_
  show Go p e below P (s₁.setTop (mkF m 2 #[.val (.ref a0_), .val (.ref kd), .val r1] [r1, (.ref a0_)]))
  obtain ⟨_, _, ⟨T11, L11, k11, n11⟩, -, X11, ⟨Lc11, hQ11, l11, y11, z11⟩, st11⟩ := X0.specialBack hx (y := (⟨"java/lang/Exception", "<init>", "(Ljava/lang/String;)V"⟩ : MethodName)) rfl hown (mvT hZ (tw_39 hw)) (mvT hZ (tw_40 hw)) (mvT hZ (tw_43 hw)) (by decide) (backOfKL (W := 0) (rm_exc0 l Z a0 hw [] a0_ r1 u sn h0 n0 Z0 O0 Su hu Ssn hsn hl hr1 E0 g_a0_ U0 F0_cause F0_stackTrace F0_suppressedExceptions F0_detailMessage F0_backtrace F0_depth F0_kind F0_reason) hZ (tw_43 hw) (tw_42 hw) (by decide) (by decide) hK.1 hK.2) (g := (mkF m 2 #[.val (.ref a0_), .val (.ref kd), .val r1] [r1, (.ref a0_)])) rfl (by rw [hml]; rfl) (Steps.refl _) (a := a0_) (argsL := [r1]) (rest := []) (lenOf pd__Ljava_lang_String__V rfl) rfl (by show 2 * 0 + _ ≤ _; exact Nat.le_of_eq rfl) (hb hby d_prog_12_method_1_code_2) (fun _ _ => ⟨rfl, e0, (by decide : 0 + 1 ≤ _), (by decide : 0 + 2752 ≤ _)⟩)
  dsimp only [Pt.U, Pt.locs, Pt.cells, Pt.slots] at X11 l11 y11 z11 st11 hQ11
  subst l11 y11 z11
  obtain ⟨rfl, N11q, K11, Gm11, G11_0, G11_1⟩ := hQ11
  have N11 := Fr.app N0 N11q
  refine Go.by (fun t k => st11.trans k) ?_
  have f11_0 : n0 ≤ T11.heap.size := (Nat.le_trans Z0 K11.1)
  have f11_1 : Keep h0 T11.heap [a0_] := (Keep.trans (Keep.refl h0 [a0_]) K11 (allS (Or.inl (List.mem_of_getElem? (i := 0) rfl)) all0))
  have f11_2 : Old Z n0 T11.heap := (Old.keep O0 K11 (allS g_a0_ all0))
  have f11_3 : Exa Z T11.heap a0_ "com/example/envelopa/envelopa/model/ServerStateFault" := (Exa.keep E0 K11)
  show Go p e below P (T11.setTop (mkF m 5 #[.val (.ref a0_), .val (.ref kd), .val r1] []))
  refine Go.by (fun _ => XS.aloadN X11.here hx rfl (hb hby d_prog_12_method_1_code_5) rfl rfl) ?_
  show Go p e below P (T11.setTop (mkF m 6 #[.val (.ref a0_), .val (.ref kd), .val r1] [(.ref a0_)]))
  refine Go.by (fun _ => XS.aloadN X11.here hx rfl (hb hby d_prog_12_method_1_code_6) rfl rfl) ?_
  show Go p e below P (T11.setTop (mkF m 7 #[.val (.ref a0_), .val (.ref kd), .val r1] [(.ref kd), (.ref a0_)]))
  obtain ⟨T12, h12, X12, e12, W12, st12⟩ := putF X11 hx hZ hown (host := "") (Or.inl (tw_87 hw)) Via.refl rfl G11_0 f11_3 (Or.inr ⟨(tw_88 hw), rfl, hnm⟩) (tw_32 hw) (ty := (.object "com/example/envelopa/envelopa/model/ServerStateFault$Kind")) (by decide) rfl rfl (g := (mkF m 7 #[.val (.ref a0_), .val (.ref kd), .val r1] [(.ref kd), (.ref a0_)])) rfl rfl (hb hby d_prog_12_method_1_code_7)
  refine Go.by st12 ?_
  have N12 := Fr.snoc X12 N11 g_a0_
  have f12_0 : n0 ≤ h12.size := (Nat.le_trans f11_0 (Keep.of_wr W12).1)
  have f12_1 : Keep h0 h12 [a0_] := (Keep.wr f11_1 W12 (Or.inl (List.mem_of_getElem? (i := 0) rfl)))
  have f12_2 : Old Z n0 h12 := (Old.wr f11_2 W12 g_a0_)
  have f12_3 : Exa Z h12 a0_ "com/example/envelopa/envelopa/model/ServerStateFault" := (Exa.wr W12 f11_3)
  have f12_4 : Fld Z h12 a0_ "java/lang/Throwable" "detailMessage" "Ljava/lang/String;" r1 := (Fld.other W12 Gm11 (Or.inr (slot_ne (Or.inl (tw_82 hw)) (Or.inr (tw_88 hw)) (by decide) (t := (.object "java/lang/String")) (t' := (.object "com/example/envelopa/envelopa/model/ServerStateFault$Kind")) (by decide) (by decide))))
  have f12_5 : Fld Z h12 a0_ "com/example/envelopa/envelopa/model/ServerStateFault" "kind" "Lcom/example/envelopa/envelopa/model/ServerStateFault$Kind;" (.ref kd) := (Fld.same W12 G11_0)
  have f12_6 : Fld Z h12 a0_ "com/example/envelopa/envelopa/model/ServerStateFault" "reason" "Lcom/example/envelopa/envelopa/model/Reason;" .null := (Fld.other W12 G11_1 (Or.inr (slot_ne (Or.inr (tw_90 hw)) (Or.inr (tw_88 hw)) (by decide) (t := (.object "com/example/envelopa/envelopa/model/Reason")) (t' := (.object "com/example/envelopa/envelopa/model/ServerStateFault$Kind")) (by decide) (by decide))))
  show Go p e below P (T12.setTop (mkF m 10 #[.val (.ref a0_), .val (.ref kd), .val r1] []))
  refine Go.by (fun _ => XS.aloadN X12.here hx rfl (hb hby d_prog_12_method_1_code_10) rfl rfl) ?_
  show Go p e below P (T12.setTop (mkF m 11 #[.val (.ref a0_), .val (.ref kd), .val r1] [(.ref a0_)]))
  refine Go.by (fun _ => XS.aconstNull X12.here hx rfl (hb hby d_prog_12_method_1_code_11)) ?_
  show Go p e below P (T12.setTop (mkF m 12 #[.val (.ref a0_), .val (.ref kd), .val r1] [.null, (.ref a0_)]))
  obtain ⟨T13, h13, X13, e13, W13, st13⟩ := putF X12 hx hZ hown (host := "") (Or.inl (tw_89 hw)) Via.refl e12 f12_6 f12_3 (Or.inr ⟨(tw_90 hw), rfl, hnm⟩) (tw_32 hw) (ty := (.object "com/example/envelopa/envelopa/model/Reason")) (by decide) rfl rfl (g := (mkF m 12 #[.val (.ref a0_), .val (.ref kd), .val r1] [.null, (.ref a0_)])) rfl rfl (hb hby d_prog_12_method_1_code_12)
  refine Go.by st13 ?_
  have N13 := Fr.snoc X13 N12 g_a0_
  have f13_0 : n0 ≤ h13.size := (Nat.le_trans f12_0 (Keep.of_wr W13).1)
  have f13_1 : Keep h0 h13 [a0_] := (Keep.wr f12_1 W13 (Or.inl (List.mem_of_getElem? (i := 0) rfl)))
  have f13_2 : Old Z n0 h13 := (Old.wr f12_2 W13 g_a0_)
  have f13_3 : Exa Z h13 a0_ "com/example/envelopa/envelopa/model/ServerStateFault" := (Exa.wr W13 f12_3)
  have f13_4 : Fld Z h13 a0_ "java/lang/Throwable" "detailMessage" "Ljava/lang/String;" r1 := (Fld.other W13 f12_4 (Or.inr (slot_ne (Or.inl (tw_82 hw)) (Or.inr (tw_90 hw)) (by decide) (t := (.object "java/lang/String")) (t' := (.object "com/example/envelopa/envelopa/model/Reason")) (by decide) (by decide))))
  have f13_5 : Fld Z h13 a0_ "com/example/envelopa/envelopa/model/ServerStateFault" "kind" "Lcom/example/envelopa/envelopa/model/ServerStateFault$Kind;" (.ref kd) := (Fld.other W13 f12_5 (Or.inr (slot_ne (Or.inr (tw_88 hw)) (Or.inr (tw_90 hw)) (by decide) (t := (.object "com/example/envelopa/envelopa/model/ServerStateFault$Kind")) (t' := (.object "com/example/envelopa/envelopa/model/Reason")) (by decide) (by decide))))
  have f13_6 : Fld Z h13 a0_ "com/example/envelopa/envelopa/model/ServerStateFault" "reason" "Lcom/example/envelopa/envelopa/model/Reason;" .null := (Fld.same W13 f12_6)
  show Go p e below P (T13.setTop (mkF m 15 #[.val (.ref a0_), .val (.ref kd), .val r1] []))
  refine fin X13 (v := none) (fun _ => rfl) (by decide) (by decide) ?_ (fun fs hr => X13.returnOut hx Bd.returns (hb hby d_prog_12_method_1_code_15) hr)
  rw [e13]
  exact ⟨rfl, N13, f13_1, f13_5, f13_6⟩
def Q_malf (Z : State) (r1 : Value) (u : Value) (sn : Value) (kd : Addr) (h0 : Heap) (n0 : Nat) (v : Option Value) (h : Heap) (L : List Loc) : Prop := ∃ b, v = some (.ref b) ∧ Fr n0 L ∧ Keep h0 h [] ∧ Exa Z h b "com/example/envelopa/envelopa/model/ServerStateFault" ∧ Fld Z h b "com/example/envelopa/envelopa/model/ServerStateFault" "kind" "Lcom/example/envelopa/envelopa/model/ServerStateFault$Kind;" (.ref kd) ∧ Fld Z h b "com/example/envelopa/envelopa/model/ServerStateFault" "reason" "Lcom/example/envelopa/envelopa/model/Reason;" .null
theorem ef_malf (m : MethodId) (r1 : Value) (u : Value) (sn : Value) (kd : Addr) (hr1 : r1.isRef = true) : entryFrame m #[r1] 1 = mkF m 0 #[.val r1] [] := by rcases XT.refc hr1 with rfl | ⟨_, rfl⟩ <;> first | (simp [entryFrame, mkF, argsToLocals, Value.category]; done) | rfl
set_option maxRecDepth 65536 in
set_option maxHeartbeats 40000000 in
theorem rm_malf (l : Launch) (Z : State) (a0 : Array Value) (hw : ∀ d ∈ tables_1, d.before a0 Z = true) (ws : List Jvm.Cond) (r1 : Value) (u : Value) (sn : Value) (kd : Addr) (h0 : Heap) (n0 : Nat) (Z0 : n0 ≤ h0.size) (O0 : Old Z n0 h0) (Su : Sta Z Z.heap "java/lang/Throwable" "UNASSIGNED_STACK" "[Ljava/lang/StackTraceElement;" u) (hu : u.isRef = true) (Ssn : Sta Z Z.heap "java/lang/Throwable" "SUPPRESSED_SENTINEL" "Ljava/util/List;" sn) (hsn : sn.isRef = true) (hl : l.stackTraces = true) (hr1 : r1.isRef = true) (Skd : Sta Z Z.heap "com/example/envelopa/envelopa/model/ServerStateFault$Kind" "MALFORMED" "Lcom/example/envelopa/envelopa/model/ServerStateFault$Kind;" (.ref kd)) :
    MetFree l (⟨"com/example/envelopa/envelopa/model/ServerStateFault", "malformed", "(Ljava/lang/String;)Lcom/example/envelopa/envelopa/model/ServerStateFault;"⟩ : MethodName) (head1 (Jvm.Cond.code (⟨"com/example/envelopa/envelopa/model/ServerStateFault", "malformed", "(Ljava/lang/String;)Lcom/example/envelopa/envelopa/model/ServerStateFault;"⟩ : MethodName) prog_12_method_3_code 1 (some (.object "com/example/envelopa/envelopa/model/ServerStateFault")) :: ws) ({ frames := 6, cells := 2, slots := 2760, locals := 90 } : Room)) (fun a U => a = #[r1] ∧ Z.Warmed39 U.vm ∧ U.heap = h0) (fun _ _ bl s _ => s.vm.MethodsKnown ∧ s.vm.FramesKnown bl) (fun _ U o U' => ∃ v L, o = .returned v ∧ Q_malf Z r1 u sn kd h0 n0 v U'.heap L ∧ FrameEnd U o U' L ({ frames := 6, cells := 2, slots := 2760, locals := 90 } : Room).cells ({ frames := 6, cells := 2, slots := 2760, locals := 90 } : Room).slots) := by
  refine MetFree.of_bodySF (plainFor_of_name pn_com_example_envelopa_envelopa_model_ServerStateFault) hisR ?_
  intro p e s m args below meth c s₁ Bd hml0 hP hK
  obtain ⟨rfl, hZ, hh⟩ := hP
  have hx := Bd.exec
  have hby := Bd.bytes
  have hml : c.maxLocals = 1 := hml0
  have hown : s.vm.findClass "com/example/envelopa/envelopa/model/ServerStateFault" = some m.cls := findClass_of_methodNamed Bd.named
  have hnm := (name_of_methodNamed Bd.named Bd.method).1
  have X0 : Stand p l e ({ frames := 6, cells := 2, slots := 2760, locals := 90 } : Room) s m #[r1] below meth c s₁ [] 0 0 := Stand.of_body Bd
  have e0 : s₁.heap = h0 := by rw [← hh, Bd.state]; rfl
  have N0 := Fr.nil n0
  have hlk : meth.locks = false := Bd.notSynchronized
  obtain ⟨P, hP⟩ : ∃ P : Outcome → State → Prop, P = PQ s (Q_malf Z r1 u sn kd h0 n0) ({ frames := 6, cells := 2, slots := 2760, locals := 90 } : Room).cells ({ frames := 6, cells := 2, slots := 2760, locals := 90 } : Room).slots := ⟨_, rfl⟩
  have fin : ∀ {T : State} {locs : List Loc} {k n : Nat} {v : Option Value} {S0 : State}, Stand p l e ({ frames := 6, cells := 2, slots := 2760, locals := 90 } : Room) s m #[r1] below meth c T locs k n → (meth.sig.returnType = none → v = none) → k ≤ ({ frames := 6, cells := 2, slots := 2760, locals := 90 } : Room).cells → n ≤ ({ frames := 6, cells := 2, slots := 2760, locals := 90 } : Room).slots → Q_malf Z r1 u sn kd h0 n0 v T.heap locs → (∀ fs, (∀ (f : JFrame) (acts : List Action), f.method = m → f.locked = none → f.entered = [] → (doReturn e (T.setTop f) acts v).1 = T.setFrames fs) → Steps p.tables e below S0 (T.setFrames fs)) → Go p e below P S0 := fun X hv hk hn hQ hst => hP ▸ Go.fin X hlk hv hk hn hQ hst
  suffices hgo : Go p e below P (s₁.setTop (mkF m 0 #[.val r1] [])) by
    rw [hP] at hgo
    exact Go.by (fun t k => castTop (ef_malf m r1 u sn kd hr1) k) hgo
  show Go p e below P (s₁.setTop (mkF m 0 #[.val r1] []))
  obtain ⟨T11, h11, X11, e11, E11, A11, D11, U11, st11⟩ := newO X0 hx hZ hown (tw_31 hw) (tw_32 hw) (tw_29 hw) e0 (g := (mkF m 0 #[.val r1] [])) rfl (hb hby d_prog_12_method_3_code_0) (by decide) (by decide)
  obtain ⟨b11, g11⟩ : ∃ z, z = h0.size := ⟨_, rfl⟩
  rw [← g11] at A11 D11 U11 st11
  have g_b11 : n0 ≤ b11 := Nat.le_trans Z0 (Nat.le_of_eq g11.symm)
  have sz_b11 : h0.size ≤ b11 := Nat.le_trans (Keep.refl h0 []).1 (Nat.le_of_eq g11.symm)
  have f11_0 : n0 ≤ h11.size := (Nat.le_trans Z0 E11.1)
  have f11_1 : Keep h0 h11 [] := (Keep.ext (Keep.refl h0 []) E11)
  have f11_2 : Old Z n0 h11 := (Old.ext O0 E11)
  refine Go.by st11 ?_
  have F11_cause : Fld Z h11 b11 "java/lang/Throwable" "cause" "Ljava/lang/Throwable;" .null := D11 (Or.inl (tw_52 hw)) (ty := (.object "java/lang/Throwable")) (by decide)
  have F11_stackTrace : Fld Z h11 b11 "java/lang/Throwable" "stackTrace" "[Ljava/lang/StackTraceElement;" .null := D11 (Or.inl (tw_55 hw)) (ty := (.array (.object "java/lang/StackTraceElement"))) (by decide)
  have F11_suppressedExceptions : Fld Z h11 b11 "java/lang/Throwable" "suppressedExceptions" "Ljava/util/List;" .null := D11 (Or.inl (tw_58 hw)) (ty := (.object "java/util/List")) (by decide)
  have F11_detailMessage : Fld Z h11 b11 "java/lang/Throwable" "detailMessage" "Ljava/lang/String;" .null := D11 (Or.inl (tw_82 hw)) (ty := (.object "java/lang/String")) (by decide)
  have F11_backtrace : Fld Z h11 b11 "java/lang/Throwable" "backtrace" "Ljava/lang/Object;" .null := D11 (Or.inl (tw_83 hw)) (ty := (.object "java/lang/Object")) (by decide)
  have F11_depth : Fld Z h11 b11 "java/lang/Throwable" "depth" "I" (.int (0 : Int32)) := D11 (Or.inl (tw_84 hw)) (ty := .int) (by decide)
  have F11_kind : Fld Z h11 b11 "com/example/envelopa/envelopa/model/ServerStateFault" "kind" "Lcom/example/envelopa/envelopa/model/ServerStateFault$Kind;" .null := D11 (Or.inr (tw_88 hw)) (ty := (.object "com/example/envelopa/envelopa/model/ServerStateFault$Kind")) (by decide)
  have F11_reason : Fld Z h11 b11 "com/example/envelopa/envelopa/model/ServerStateFault" "reason" "Lcom/example/envelopa/envelopa/model/Reason;" .null := D11 (Or.inr (tw_90 hw)) (ty := (.object "com/example/envelopa/envelopa/model/Reason")) (by decide)
  show Go p e below P (T11.setTop (mkF m 3 #[.val r1] [(.ref b11)]))
  refine Go.by (fun _ => XS.dup X11.here hx rfl (hb hby d_prog_12_method_3_code_3) rfl rfl) ?_
  show Go p e below P (T11.setTop (mkF m 4 #[.val r1] [(.ref b11), (.ref b11)]))
  obtain ⟨T12, X12, e12, st12⟩ := getS2 X11 hx hZ hown (host := "") (Or.inl (tw_33 hw)) Via.refl e11 (Skd.ext f11_2.2) (g := (mkF m 4 #[.val r1] [(.ref b11), (.ref b11)])) rfl (hb hby d_prog_12_method_3_code_4)
  refine Go.by st12 ?_
  show Go p e below P (T12.setTop (mkF m 7 #[.val r1] [(.ref kd), (.ref b11), (.ref b11)]))
  refine Go.by (fun _ => XS.aloadN X12.here hx rfl (hb hby d_prog_12_method_3_code_7) rfl hr1) ?_
  show Go p e below P (T12.setTop (mkF m 8 #[.val r1] [r1, (.ref kd), (.ref b11), (.ref b11)]))
  obtain ⟨_, _, ⟨T13, L13, k13, n13⟩, -, X13, ⟨Lc13, hQ13, l13, y13, z13⟩, st13⟩ := X12.specialBack hx (y := (⟨"com/example/envelopa/envelopa/model/ServerStateFault", "<init>", "(Lcom/example/envelopa/envelopa/model/ServerStateFault$Kind;Ljava/lang/String;)V"⟩ : MethodName)) rfl hown (mvT hZ (tw_36 hw)) (mvT hZ (tw_37 hw)) (mvT hZ (tw_38 hw)) (by decide) (backOfKL (W := 1) (rm_sfInit l Z a0 hw [] b11 r1 u sn kd h11 n0 f11_0 f11_2 Su hu Ssn hsn hl hr1 A11 g_b11 U11 F11_cause F11_stackTrace F11_suppressedExceptions F11_detailMessage F11_backtrace F11_depth F11_kind F11_reason) hZ (tw_38 hw) (tw_29 hw) (by decide) (by decide) hK.1 hK.2) (g := (mkF m 8 #[.val r1] [r1, (.ref kd), (.ref b11), (.ref b11)])) rfl (by rw [hml]; rfl) (Steps.refl _) (a := b11) (argsL := [(.ref kd), r1]) (rest := [(.ref b11)]) (lenOf pd__Lcom_example_envelopa_envelopa_model_ServerStateFault_Kind_Ljava_lang_String__V rfl) rfl (by show 2 * 0 + _ ≤ _; exact Nat.le_of_eq rfl) (hb hby d_prog_12_method_3_code_8) (fun _ _ => ⟨rfl, e12, (by decide : 1 + 1 ≤ _), (by decide : 8 + 2752 ≤ _)⟩)
  dsimp only [Pt.U, Pt.locs, Pt.cells, Pt.slots] at X13 l13 y13 z13 st13 hQ13
  subst l13 y13 z13
  obtain ⟨rfl, N13q, K13, Gk13, Gr13⟩ := hQ13
  have N13 := Fr.app N0 N13q
  refine Go.by (fun t k => st13.trans k) ?_
  have f13_0 : n0 ≤ T13.heap.size := (Nat.le_trans f11_0 K13.1)
  have f13_1 : Keep h0 T13.heap [] := (Keep.trans f11_1 K13 (allS (Or.inr sz_b11) all0))
  have f13_2 : Old Z n0 T13.heap := (Old.keep f11_2 K13 (allS g_b11 all0))
  have f13_3 : Exa Z T13.heap b11 "com/example/envelopa/envelopa/model/ServerStateFault" := (Exa.keep A11 K13)
  show Go p e below P (T13.setTop (mkF m 11 #[.val r1] [(.ref b11)]))
  refine fin X13 (v := some (.ref b11)) (fun h => by rw [Bd.returns] at h; cases h) (by decide) (by decide) ?_ (fun fs hr => retOut X13 hx Bd.returns rfl (Or.inr (Or.inr (Or.inr (Or.inr ⟨rfl, rfl, rfl⟩)))) (hb hby d_prog_12_method_3_code_11) hr)
  exact ⟨b11, rfl, N13, f13_1, f13_3, Gk13, Gr13⟩
def Q_gKind (Z : State) (a0_ : Addr) (kd : Addr) (h0 : Heap) (n0 : Nat) (v : Option Value) (h : Heap) (L : List Loc) : Prop := v = some (.ref kd) ∧ Fr n0 L ∧ h = h0
theorem ef_gKind (m : MethodId) (a0_ : Addr) (kd : Addr) : entryFrame m #[(.ref a0_)] 1 = mkF m 0 #[.val (.ref a0_)] [] := by first | (simp [entryFrame, mkF, argsToLocals, Value.category]; done) | rfl
set_option maxRecDepth 65536 in
set_option maxHeartbeats 40000000 in
theorem rm_gKind (l : Launch) (Z : State) (a0 : Array Value) (hw : ∀ d ∈ tables_1, d.before a0 Z = true) (ws : List Jvm.Cond) (a0_ : Addr) (kd : Addr) (h0 : Heap) (n0 : Nat) (Z0 : n0 ≤ h0.size) (F0 : Fld Z h0 a0_ "com/example/envelopa/envelopa/model/ServerStateFault" "kind" "Lcom/example/envelopa/envelopa/model/ServerStateFault$Kind;" (.ref kd)) :
    MetFree l (⟨"com/example/envelopa/envelopa/model/ServerStateFault", "kind", "()Lcom/example/envelopa/envelopa/model/ServerStateFault$Kind;"⟩ : MethodName) (head1 (Jvm.Cond.code (⟨"com/example/envelopa/envelopa/model/ServerStateFault", "kind", "()Lcom/example/envelopa/envelopa/model/ServerStateFault$Kind;"⟩ : MethodName) prog_12_method_4_code 1 (some (.object "com/example/envelopa/envelopa/model/ServerStateFault$Kind")) :: ws) ({ frames := 0, cells := 0, slots := 0, locals := 0 } : Room)) (fun a U => a = #[(.ref a0_)] ∧ Z.Warmed39 U.vm ∧ U.heap = h0) (fun _ _ _ _ _ => True) (fun _ U o U' => ∃ v L, o = .returned v ∧ Q_gKind Z a0_ kd h0 n0 v U'.heap L ∧ FrameEnd U o U' L ({ frames := 0, cells := 0, slots := 0, locals := 0 } : Room).cells ({ frames := 0, cells := 0, slots := 0, locals := 0 } : Room).slots) := by
  refine MetFree.of_bodySF (plainFor_of_name pn_com_example_envelopa_envelopa_model_ServerStateFault) hisR ?_
  intro p e s m args below meth c s₁ Bd hml0 hP hK
  obtain ⟨rfl, hZ, hh⟩ := hP
  have hx := Bd.exec
  have hby := Bd.bytes
  have hml : c.maxLocals = 1 := hml0
  have hown : s.vm.findClass "com/example/envelopa/envelopa/model/ServerStateFault" = some m.cls := findClass_of_methodNamed Bd.named
  have hnm := (name_of_methodNamed Bd.named Bd.method).1
  have X0 : Stand p l e ({ frames := 0, cells := 0, slots := 0, locals := 0 } : Room) s m #[(.ref a0_)] below meth c s₁ [] 0 0 := Stand.of_body Bd
  have e0 : s₁.heap = h0 := by rw [← hh, Bd.state]; rfl
  have N0 := Fr.nil n0
  have hlk : meth.locks = false := Bd.notSynchronized
  obtain ⟨P, hP⟩ : ∃ P : Outcome → State → Prop, P = PQ s (Q_gKind Z a0_ kd h0 n0) ({ frames := 0, cells := 0, slots := 0, locals := 0 } : Room).cells ({ frames := 0, cells := 0, slots := 0, locals := 0 } : Room).slots := ⟨_, rfl⟩
  have fin : ∀ {T : State} {locs : List Loc} {k n : Nat} {v : Option Value} {S0 : State}, Stand p l e ({ frames := 0, cells := 0, slots := 0, locals := 0 } : Room) s m #[(.ref a0_)] below meth c T locs k n → (meth.sig.returnType = none → v = none) → k ≤ ({ frames := 0, cells := 0, slots := 0, locals := 0 } : Room).cells → n ≤ ({ frames := 0, cells := 0, slots := 0, locals := 0 } : Room).slots → Q_gKind Z a0_ kd h0 n0 v T.heap locs → (∀ fs, (∀ (f : JFrame) (acts : List Action), f.method = m → f.locked = none → f.entered = [] → (doReturn e (T.setTop f) acts v).1 = T.setFrames fs) → Steps p.tables e below S0 (T.setFrames fs)) → Go p e below P S0 := fun X hv hk hn hQ hst => hP ▸ Go.fin X hlk hv hk hn hQ hst
  suffices hgo : Go p e below P (s₁.setTop (mkF m 0 #[.val (.ref a0_)] [])) by
    rw [hP] at hgo
    exact Go.by (fun t k => castTop (ef_gKind m a0_ kd) k) hgo
  show Go p e below P (s₁.setTop (mkF m 0 #[.val (.ref a0_)] []))
  refine Go.by (fun _ => XS.aloadN X0.here hx rfl (hb hby d_prog_12_method_4_code_0) rfl rfl) ?_
  show Go p e below P (s₁.setTop (mkF m 1 #[.val (.ref a0_)] [(.ref a0_)]))
  obtain ⟨T11, X11, e11, st11⟩ := getF X0 hx hZ hown (host := "") (Or.inl (tw_87 hw)) Via.refl e0 F0 (g := (mkF m 1 #[.val (.ref a0_)] [(.ref a0_)])) rfl rfl (hb hby d_prog_12_method_4_code_1)
  refine Go.by st11 ?_
  show Go p e below P (T11.setTop (mkF m 4 #[.val (.ref a0_)] [(.ref kd)]))
  refine fin X11 (v := some (.ref kd)) (fun h => by rw [Bd.returns] at h; cases h) (by decide) (by decide) ?_ (fun fs hr => retOut X11 hx Bd.returns rfl (Or.inr (Or.inr (Or.inr (Or.inr ⟨rfl, rfl, rfl⟩)))) (hb hby d_prog_12_method_4_code_4) hr)
  rw [e11]
  exact ⟨rfl, N0, rfl⟩
def Q_gReason (Z : State) (a0_ : Addr) (h0 : Heap) (n0 : Nat) (v : Option Value) (h : Heap) (L : List Loc) : Prop := v = some .null ∧ Fr n0 L ∧ h = h0
theorem ef_gReason (m : MethodId) (a0_ : Addr) : entryFrame m #[(.ref a0_)] 1 = mkF m 0 #[.val (.ref a0_)] [] := by first | (simp [entryFrame, mkF, argsToLocals, Value.category]; done) | rfl
set_option maxRecDepth 65536 in
set_option maxHeartbeats 40000000 in
theorem rm_gReason (l : Launch) (Z : State) (a0 : Array Value) (hw : ∀ d ∈ tables_1, d.before a0 Z = true) (ws : List Jvm.Cond) (a0_ : Addr) (h0 : Heap) (n0 : Nat) (Z0 : n0 ≤ h0.size) (F0 : Fld Z h0 a0_ "com/example/envelopa/envelopa/model/ServerStateFault" "reason" "Lcom/example/envelopa/envelopa/model/Reason;" .null) :
    MetFree l (⟨"com/example/envelopa/envelopa/model/ServerStateFault", "reason", "()Lcom/example/envelopa/envelopa/model/Reason;"⟩ : MethodName) (head1 (Jvm.Cond.code (⟨"com/example/envelopa/envelopa/model/ServerStateFault", "reason", "()Lcom/example/envelopa/envelopa/model/Reason;"⟩ : MethodName) prog_12_method_5_code 1 (some (.object "com/example/envelopa/envelopa/model/Reason")) :: ws) ({ frames := 0, cells := 0, slots := 0, locals := 0 } : Room)) (fun a U => a = #[(.ref a0_)] ∧ Z.Warmed39 U.vm ∧ U.heap = h0) (fun _ _ _ _ _ => True) (fun _ U o U' => ∃ v L, o = .returned v ∧ Q_gReason Z a0_ h0 n0 v U'.heap L ∧ FrameEnd U o U' L ({ frames := 0, cells := 0, slots := 0, locals := 0 } : Room).cells ({ frames := 0, cells := 0, slots := 0, locals := 0 } : Room).slots) := by
  refine MetFree.of_bodySF (plainFor_of_name pn_com_example_envelopa_envelopa_model_ServerStateFault) hisR ?_
  intro p e s m args below meth c s₁ Bd hml0 hP hK
  obtain ⟨rfl, hZ, hh⟩ := hP
  have hx := Bd.exec
  have hby := Bd.bytes
  have hml : c.maxLocals = 1 := hml0
  have hown : s.vm.findClass "com/example/envelopa/envelopa/model/ServerStateFault" = some m.cls := findClass_of_methodNamed Bd.named
  have hnm := (name_of_methodNamed Bd.named Bd.method).1
  have X0 : Stand p l e ({ frames := 0, cells := 0, slots := 0, locals := 0 } : Room) s m #[(.ref a0_)] below meth c s₁ [] 0 0 := Stand.of_body Bd
  have e0 : s₁.heap = h0 := by rw [← hh, Bd.state]; rfl
  have N0 := Fr.nil n0
  have hlk : meth.locks = false := Bd.notSynchronized
  obtain ⟨P, hP⟩ : ∃ P : Outcome → State → Prop, P = PQ s (Q_gReason Z a0_ h0 n0) ({ frames := 0, cells := 0, slots := 0, locals := 0 } : Room).cells ({ frames := 0, cells := 0, slots := 0, locals := 0 } : Room).slots := ⟨_, rfl⟩
  have fin : ∀ {T : State} {locs : List Loc} {k n : Nat} {v : Option Value} {S0 : State}, Stand p l e ({ frames := 0, cells := 0, slots := 0, locals := 0 } : Room) s m #[(.ref a0_)] below meth c T locs k n → (meth.sig.returnType = none → v = none) → k ≤ ({ frames := 0, cells := 0, slots := 0, locals := 0 } : Room).cells → n ≤ ({ frames := 0, cells := 0, slots := 0, locals := 0 } : Room).slots → Q_gReason Z a0_ h0 n0 v T.heap locs → (∀ fs, (∀ (f : JFrame) (acts : List Action), f.method = m → f.locked = none → f.entered = [] → (doReturn e (T.setTop f) acts v).1 = T.setFrames fs) → Steps p.tables e below S0 (T.setFrames fs)) → Go p e below P S0 := fun X hv hk hn hQ hst => hP ▸ Go.fin X hlk hv hk hn hQ hst
  suffices hgo : Go p e below P (s₁.setTop (mkF m 0 #[.val (.ref a0_)] [])) by
    rw [hP] at hgo
    exact Go.by (fun t k => castTop (ef_gReason m a0_) k) hgo
  show Go p e below P (s₁.setTop (mkF m 0 #[.val (.ref a0_)] []))
  refine Go.by (fun _ => XS.aloadN X0.here hx rfl (hb hby d_prog_12_method_5_code_0) rfl rfl) ?_
  show Go p e below P (s₁.setTop (mkF m 1 #[.val (.ref a0_)] [(.ref a0_)]))
  obtain ⟨T11, X11, e11, st11⟩ := getF X0 hx hZ hown (host := "") (Or.inl (tw_89 hw)) Via.refl e0 F0 (g := (mkF m 1 #[.val (.ref a0_)] [(.ref a0_)])) rfl rfl (hb hby d_prog_12_method_5_code_1)
  refine Go.by st11 ?_
  show Go p e below P (T11.setTop (mkF m 4 #[.val (.ref a0_)] [.null]))
  refine fin X11 (v := some .null) (fun h => by rw [Bd.returns] at h; cases h) (by decide) (by decide) ?_ (fun fs hr => retOut X11 hx Bd.returns rfl (Or.inr (Or.inr (Or.inr (Or.inr ⟨rfl, rfl, rfl⟩)))) (hb hby d_prog_12_method_5_code_4) hr)
  rw [e11]
  exact ⟨rfl, N0, rfl⟩
def Q_cmp5_2 (Z : State) (a1 : Addr) (k1 : ClassId) (a2 : Addr) (k2 : ClassId) (x0 : Int32) (x1 : Int32) (h0 : Heap) (n0 : Nat) (v : Option Value) (h : Heap) (L : List Loc) : Prop := v = some (.int (2 : Int32)) ∧ Fr n0 L ∧ Keep h0 h [a2] ∧ Arv Z h a2 k2 .byte (2 : Int32) [(.int (x0.toInt8.toInt32)), (.int (x1.toInt8.toInt32))] (.int (0 : Int32))
theorem ef_cmp5_2 (m : MethodId) (a1 : Addr) (k1 : ClassId) (a2 : Addr) (k2 : ClassId) (x0 : Int32) (x1 : Int32) : entryFrame m #[(.ref a1), (.int (0 : Int32)), (.ref a2), (.int (0 : Int32)), (.int (2 : Int32))] 7 = mkF m 0 #[.val (.ref a1), .val (.int (0 : Int32)), .val (.ref a2), .val (.int (0 : Int32)), .val (.int (2 : Int32)), .unset, .unset] [] := by first | (simp [entryFrame, mkF, argsToLocals, Value.category]; done) | rfl
set_option maxRecDepth 65536 in
set_option maxHeartbeats 40000000 in
theorem rm_cmp5_2 (l : Launch) (Z : State) (a0 : Array Value) (hw : ∀ d ∈ tables_1, d.before a0 Z = true) (ws : List Jvm.Cond) (a1 : Addr) (k1 : ClassId) (a2 : Addr) (k2 : ClassId) (x0 : Int32) (x1 : Int32) (h0 : Heap) (n0 : Nat) (Z0 : n0 ≤ h0.size) (V1 : Arv Z h0 a1 k1 .char (2 : Int32) [(.int x0), (.int x1)] (.int (0 : Int32))) (V2 : Arv Z h0 a2 k2 .byte (2 : Int32) [(.int (0 : Int32)), (.int (0 : Int32))] (.int (0 : Int32))) (ne12 : a1 ≠ a2) (g_a2 : n0 ≤ a2) (hx0a : ¬ x0 < 0) (hx0b : ¬ (255 : Int32) < x0) (hx1a : ¬ x1 < 0) (hx1b : ¬ (255 : Int32) < x1) :
    MetFree l (⟨"java/lang/StringUTF16", "compress", "([CI[BII)I"⟩ : MethodName) (head1 (Jvm.Cond.code (⟨"java/lang/StringUTF16", "compress", "([CI[BII)I"⟩ : MethodName) jdk_52_method_21_code 7 (some .int) :: ws) ({ frames := 0, cells := 0, slots := 0, locals := 0 } : Room)) (fun a U => a = #[(.ref a1), (.int (0 : Int32)), (.ref a2), (.int (0 : Int32)), (.int (2 : Int32))] ∧ Z.Warmed39 U.vm ∧ U.heap = h0) (fun _ _ _ _ _ => True) (fun _ U o U' => ∃ v L, o = .returned v ∧ Q_cmp5_2 Z a1 k1 a2 k2 x0 x1 h0 n0 v U'.heap L ∧ FrameEnd U o U' L ({ frames := 0, cells := 0, slots := 0, locals := 0 } : Room).cells ({ frames := 0, cells := 0, slots := 0, locals := 0 } : Room).slots) := by
  refine MetFree.of_bodySF (plainFor_of_name pn_java_lang_StringUTF16) hisR ?_
  intro p e s m args below meth c s₁ Bd hml0 hP hK
  obtain ⟨rfl, hZ, hh⟩ := hP
  have hx := Bd.exec
  have hby := Bd.bytes
  have hml : c.maxLocals = 7 := hml0
  have hown : s.vm.findClass "java/lang/StringUTF16" = some m.cls := findClass_of_methodNamed Bd.named
  have hnm := (name_of_methodNamed Bd.named Bd.method).1
  have X0 : Stand p l e ({ frames := 0, cells := 0, slots := 0, locals := 0 } : Room) s m #[(.ref a1), (.int (0 : Int32)), (.ref a2), (.int (0 : Int32)), (.int (2 : Int32))] below meth c s₁ [] 0 0 := Stand.of_body Bd
  have e0 : s₁.heap = h0 := by rw [← hh, Bd.state]; rfl
  have N0 := Fr.nil n0
  have hlk : meth.locks = false := Bd.notSynchronized
  obtain ⟨P, hP⟩ : ∃ P : Outcome → State → Prop, P = PQ s (Q_cmp5_2 Z a1 k1 a2 k2 x0 x1 h0 n0) ({ frames := 0, cells := 0, slots := 0, locals := 0 } : Room).cells ({ frames := 0, cells := 0, slots := 0, locals := 0 } : Room).slots := ⟨_, rfl⟩
  have fin : ∀ {T : State} {locs : List Loc} {k n : Nat} {v : Option Value} {S0 : State}, Stand p l e ({ frames := 0, cells := 0, slots := 0, locals := 0 } : Room) s m #[(.ref a1), (.int (0 : Int32)), (.ref a2), (.int (0 : Int32)), (.int (2 : Int32))] below meth c T locs k n → (meth.sig.returnType = none → v = none) → k ≤ ({ frames := 0, cells := 0, slots := 0, locals := 0 } : Room).cells → n ≤ ({ frames := 0, cells := 0, slots := 0, locals := 0 } : Room).slots → Q_cmp5_2 Z a1 k1 a2 k2 x0 x1 h0 n0 v T.heap locs → (∀ fs, (∀ (f : JFrame) (acts : List Action), f.method = m → f.locked = none → f.entered = [] → (doReturn e (T.setTop f) acts v).1 = T.setFrames fs) → Steps p.tables e below S0 (T.setFrames fs)) → Go p e below P S0 := fun X hv hk hn hQ hst => hP ▸ Go.fin X hlk hv hk hn hQ hst
  suffices hgo : Go p e below P (s₁.setTop (mkF m 0 #[.val (.ref a1), .val (.int (0 : Int32)), .val (.ref a2), .val (.int (0 : Int32)), .val (.int (2 : Int32)), .unset, .unset] [])) by
    rw [hP] at hgo
    exact Go.by (fun t k => castTop (ef_cmp5_2 m a1 k1 a2 k2 x0 x1) k) hgo
  show Go p e below P (s₁.setTop (mkF m 0 #[.val (.ref a1), .val (.int (0 : Int32)), .val (.ref a2), .val (.int (0 : Int32)), .val (.int (2 : Int32)), .unset, .unset] []))
  refine Go.by (fun _ => XS.iconst X0.here hx rfl (hb hby d_jdk_52_method_21_code_0)) ?_
  show Go p e below P (s₁.setTop (mkF m 1 #[.val (.ref a1), .val (.int (0 : Int32)), .val (.ref a2), .val (.int (0 : Int32)), .val (.int (2 : Int32)), .unset, .unset] [(.int (0 : Int32))]))
  refine Go.by (fun _ => XS.istore X0.here hx rfl (hb hby d_jdk_52_method_21_code_1) rfl (l' := #[.val (.ref a1), .val (.int (0 : Int32)), .val (.ref a2), .val (.int (0 : Int32)), .val (.int (2 : Int32)), .val (.int (0 : Int32)), .unset]) rfl) ?_
  show Go p e below P (s₁.setTop (mkF m 3 #[.val (.ref a1), .val (.int (0 : Int32)), .val (.ref a2), .val (.int (0 : Int32)), .val (.int (2 : Int32)), .val (.int (0 : Int32)), .unset] []))
  refine Go.by (fun _ => XS.iload X0.here hx rfl (hb hby d_jdk_52_method_21_code_3) rfl) ?_
  show Go p e below P (s₁.setTop (mkF m 5 #[.val (.ref a1), .val (.int (0 : Int32)), .val (.ref a2), .val (.int (0 : Int32)), .val (.int (2 : Int32)), .val (.int (0 : Int32)), .unset] [(.int (0 : Int32))]))
  refine Go.by (fun _ => XS.iload X0.here hx rfl (hb hby d_jdk_52_method_21_code_5) rfl) ?_
  show Go p e below P (s₁.setTop (mkF m 7 #[.val (.ref a1), .val (.int (0 : Int32)), .val (.ref a2), .val (.int (0 : Int32)), .val (.int (2 : Int32)), .val (.int (0 : Int32)), .unset] [(.int (2 : Int32)), (.int (0 : Int32))]))
  refine Go.by (fun _ => XS.icmpNo X0.here hx rfl (hb hby d_jdk_52_method_21_code_7) rfl (XT.ii_ge_f (by decide : (0 : Int32) < (2 : Int32)))) ?_
  show Go p e below P (s₁.setTop (mkF m 10 #[.val (.ref a1), .val (.int (0 : Int32)), .val (.ref a2), .val (.int (0 : Int32)), .val (.int (2 : Int32)), .val (.int (0 : Int32)), .unset] []))
  refine Go.by (fun _ => XS.aloadN X0.here hx rfl (hb hby d_jdk_52_method_21_code_10) rfl rfl) ?_
  show Go p e below P (s₁.setTop (mkF m 11 #[.val (.ref a1), .val (.int (0 : Int32)), .val (.ref a2), .val (.int (0 : Int32)), .val (.int (2 : Int32)), .val (.int (0 : Int32)), .unset] [(.ref a1)]))
  refine Go.by (fun _ => XS.iloadN X0.here hx rfl (hb hby d_jdk_52_method_21_code_11) rfl) ?_
  show Go p e below P (s₁.setTop (mkF m 12 #[.val (.ref a1), .val (.int (0 : Int32)), .val (.ref a2), .val (.int (0 : Int32)), .val (.int (2 : Int32)), .val (.int (0 : Int32)), .unset] [(.int (0 : Int32)), (.ref a1)]))
  have av11 := V1
  obtain ⟨cl11, Ar11, -, Sz11, Nn11, Ha11, Gf11⟩ := av11
  have hin11 : ¬ ((0 : Int32) < 0 ∨ cl11.slots.size ≤ ((0 : Int32)).toNatClampNeg) := inb_of Sz11 ⟨by decide, by decide⟩
  have hat11 : cl11.slots[((0 : Int32)).toNatClampNeg]? = some (.int x0) := Ha11.at hin11 rfl
  refine Go.by (X0.caload hx (j := (0 : Int32)) (v := (.int x0)) (by rw [e0]; exact Ar11.1) (State.isArrayOf_alike hZ.alike Ar11.2.1) Ar11.2.2 hin11 hat11 (g := (mkF m 12 #[.val (.ref a1), .val (.int (0 : Int32)), .val (.ref a2), .val (.int (0 : Int32)), .val (.int (2 : Int32)), .val (.int (0 : Int32)), .unset] [(.int (0 : Int32)), (.ref a1)])) rfl rfl (hb hby d_jdk_52_method_21_code_12)) ?_
  show Go p e below P (s₁.setTop (mkF m 13 #[.val (.ref a1), .val (.int (0 : Int32)), .val (.ref a2), .val (.int (0 : Int32)), .val (.int (2 : Int32)), .val (.int (0 : Int32)), .unset] [(.int x0)]))
  refine Go.by (fun _ => XS.istore X0.here hx rfl (hb hby d_jdk_52_method_21_code_13) rfl (l' := #[.val (.ref a1), .val (.int (0 : Int32)), .val (.ref a2), .val (.int (0 : Int32)), .val (.int (2 : Int32)), .val (.int (0 : Int32)), .val (.int x0)]) rfl) ?_
  show Go p e below P (s₁.setTop (mkF m 15 #[.val (.ref a1), .val (.int (0 : Int32)), .val (.ref a2), .val (.int (0 : Int32)), .val (.int (2 : Int32)), .val (.int (0 : Int32)), .val (.int x0)] []))
  refine Go.by (fun _ => XS.iload X0.here hx rfl (hb hby d_jdk_52_method_21_code_15) rfl) ?_
  show Go p e below P (s₁.setTop (mkF m 17 #[.val (.ref a1), .val (.int (0 : Int32)), .val (.ref a2), .val (.int (0 : Int32)), .val (.int (2 : Int32)), .val (.int (0 : Int32)), .val (.int x0)] [(.int x0)]))
  refine Go.by (fun _ => XS.sipush X0.here hx rfl (hb hby d_jdk_52_method_21_code_17)) ?_
  show Go p e below P (s₁.setTop (mkF m 20 #[.val (.ref a1), .val (.int (0 : Int32)), .val (.ref a2), .val (.int (0 : Int32)), .val (.int (2 : Int32)), .val (.int (0 : Int32)), .val (.int x0)] [(.int (255 : Int32)), (.int x0)]))
  refine Go.by (fun _ => XS.icmpYes X0.here hx rfl (pc0 := 20) (pc' := 26) rfl (hb hby d_jdk_52_method_21_code_20) rfl (XT.ii_le_t hx0b) (by decide) (by decide)) ?_
  show Go p e below P (s₁.setTop (mkF m 26 #[.val (.ref a1), .val (.int (0 : Int32)), .val (.ref a2), .val (.int (0 : Int32)), .val (.int (2 : Int32)), .val (.int (0 : Int32)), .val (.int x0)] []))
  refine Go.by (fun _ => XS.aloadN X0.here hx rfl (hb hby d_jdk_52_method_21_code_26) rfl rfl) ?_
  show Go p e below P (s₁.setTop (mkF m 27 #[.val (.ref a1), .val (.int (0 : Int32)), .val (.ref a2), .val (.int (0 : Int32)), .val (.int (2 : Int32)), .val (.int (0 : Int32)), .val (.int x0)] [(.ref a2)]))
  refine Go.by (fun _ => XS.iloadN X0.here hx rfl (hb hby d_jdk_52_method_21_code_27) rfl) ?_
  show Go p e below P (s₁.setTop (mkF m 28 #[.val (.ref a1), .val (.int (0 : Int32)), .val (.ref a2), .val (.int (0 : Int32)), .val (.int (2 : Int32)), .val (.int (0 : Int32)), .val (.int x0)] [(.int (0 : Int32)), (.ref a2)]))
  refine Go.by (fun _ => XS.iload X0.here hx rfl (hb hby d_jdk_52_method_21_code_28) rfl) ?_
  show Go p e below P (s₁.setTop (mkF m 30 #[.val (.ref a1), .val (.int (0 : Int32)), .val (.ref a2), .val (.int (0 : Int32)), .val (.int (2 : Int32)), .val (.int (0 : Int32)), .val (.int x0)] [(.int x0), (.int (0 : Int32)), (.ref a2)]))
  refine Go.by (fun _ => XS.i2b X0.here hx rfl (hb hby d_jdk_52_method_21_code_30) rfl) ?_
  show Go p e below P (s₁.setTop (mkF m 31 #[.val (.ref a1), .val (.int (0 : Int32)), .val (.ref a2), .val (.int (0 : Int32)), .val (.int (2 : Int32)), .val (.int (0 : Int32)), .val (.int x0)] [(.int (x0.toInt8.toInt32)), (.int (0 : Int32)), (.ref a2)]))
  have av12 := V2
  obtain ⟨cl12, Ar12, q12, Sz12, Nn12, Ha12, Gf12⟩ := av12
  have hin12 : ¬ ((0 : Int32) < 0 ∨ cl12.slots.size ≤ ((0 : Int32)).toNatClampNeg) := inb_of Sz12 ⟨by decide, by decide⟩
  obtain ⟨T13, h13, X13, e13, W13, st13⟩ := stB X0 hx hZ e0 Ar12 (j := (0 : Int32)) hin12 (g := (mkF m 31 #[.val (.ref a1), .val (.int (0 : Int32)), .val (.ref a2), .val (.int (0 : Int32)), .val (.int (2 : Int32)), .val (.int (0 : Int32)), .val (.int x0)] [(.int (x0.toInt8.toInt32)), (.int (0 : Int32)), (.ref a2)])) rfl rfl (hb hby d_jdk_52_method_21_code_31)
  have W13' : Wr h0 h13 a2 ((0 : Int32)).toNatClampNeg (.int (x0.toInt8.toInt32)) := (by have q : Wr h0 h13 a2 ((0 : Int32)).toNatClampNeg (.int ((x0.toInt8.toInt32)).toInt8.toInt32) := W13; rw [own_bb] at q; exact q)
  have V13 : Arv Z h13 a2 k2 .byte (2 : Int32) [(.int (x0.toInt8.toInt32)), (.int (0 : Int32))] (.int (0 : Int32)) := Arv.set Ar12 q12 Sz12 Nn12 Ha12 Gf12 (fits_nar_byte _) W13' 0 rfl (Nat.le_of_ble_eq_true rfl)
  have N13 := Fr.snoc X13 N0 g_a2
  have f13_0 : n0 ≤ h13.size := (Nat.le_trans Z0 (Keep.of_wr W13).1)
  have f13_1 : Keep h0 h13 [a2] := (Keep.wr (Keep.refl h0 [a2]) W13 (Or.inl (List.mem_of_getElem? (i := 0) rfl)))
  have f13_2 : Arv Z h13 a1 k1 .char (2 : Int32) [(.int x0), (.int x1)] (.int (0 : Int32)) := (Arv.other V1 W13 ne12)
  refine Go.by st13 ?_
  show Go p e below P (T13.setTop (mkF m 32 #[.val (.ref a1), .val (.int (0 : Int32)), .val (.ref a2), .val (.int (0 : Int32)), .val (.int (2 : Int32)), .val (.int (0 : Int32)), .val (.int x0)] []))
  refine Go.by (fun _ => XS.iinc X13.here hx rfl (hb hby d_jdk_52_method_21_code_32) rfl (l' := #[.val (.ref a1), .val (.int (1 : Int32)), .val (.ref a2), .val (.int (0 : Int32)), .val (.int (2 : Int32)), .val (.int (0 : Int32)), .val (.int x0)]) rfl) ?_
  show Go p e below P (T13.setTop (mkF m 35 #[.val (.ref a1), .val (.int (1 : Int32)), .val (.ref a2), .val (.int (0 : Int32)), .val (.int (2 : Int32)), .val (.int (0 : Int32)), .val (.int x0)] []))
  refine Go.by (fun _ => XS.iinc X13.here hx rfl (hb hby d_jdk_52_method_21_code_35) rfl (l' := #[.val (.ref a1), .val (.int (1 : Int32)), .val (.ref a2), .val (.int (1 : Int32)), .val (.int (2 : Int32)), .val (.int (0 : Int32)), .val (.int x0)]) rfl) ?_
  show Go p e below P (T13.setTop (mkF m 38 #[.val (.ref a1), .val (.int (1 : Int32)), .val (.ref a2), .val (.int (1 : Int32)), .val (.int (2 : Int32)), .val (.int (0 : Int32)), .val (.int x0)] []))
  refine Go.by (fun _ => XS.iinc X13.here hx rfl (hb hby d_jdk_52_method_21_code_38) rfl (l' := #[.val (.ref a1), .val (.int (1 : Int32)), .val (.ref a2), .val (.int (1 : Int32)), .val (.int (2 : Int32)), .val (.int (1 : Int32)), .val (.int x0)]) rfl) ?_
  show Go p e below P (T13.setTop (mkF m 41 #[.val (.ref a1), .val (.int (1 : Int32)), .val (.ref a2), .val (.int (1 : Int32)), .val (.int (2 : Int32)), .val (.int (1 : Int32)), .val (.int x0)] []))
  refine Go.by (fun _ => XS.goto X13.here hx rfl (pc0 := 41) (pc' := 3) rfl (hb hby d_jdk_52_method_21_code_41) (by decide) (by decide)) ?_
  show Go p e below P (T13.setTop (mkF m 3 #[.val (.ref a1), .val (.int (1 : Int32)), .val (.ref a2), .val (.int (1 : Int32)), .val (.int (2 : Int32)), .val (.int (1 : Int32)), .val (.int x0)] []))
  refine Go.by (fun _ => XS.iload X13.here hx rfl (hb hby d_jdk_52_method_21_code_3) rfl) ?_
  show Go p e below P (T13.setTop (mkF m 5 #[.val (.ref a1), .val (.int (1 : Int32)), .val (.ref a2), .val (.int (1 : Int32)), .val (.int (2 : Int32)), .val (.int (1 : Int32)), .val (.int x0)] [(.int (1 : Int32))]))
  refine Go.by (fun _ => XS.iload X13.here hx rfl (hb hby d_jdk_52_method_21_code_5) rfl) ?_
  show Go p e below P (T13.setTop (mkF m 7 #[.val (.ref a1), .val (.int (1 : Int32)), .val (.ref a2), .val (.int (1 : Int32)), .val (.int (2 : Int32)), .val (.int (1 : Int32)), .val (.int x0)] [(.int (2 : Int32)), (.int (1 : Int32))]))
  refine Go.by (fun _ => XS.icmpNo X13.here hx rfl (hb hby d_jdk_52_method_21_code_7) rfl (XT.ii_ge_f (by decide : (1 : Int32) < (2 : Int32)))) ?_
  show Go p e below P (T13.setTop (mkF m 10 #[.val (.ref a1), .val (.int (1 : Int32)), .val (.ref a2), .val (.int (1 : Int32)), .val (.int (2 : Int32)), .val (.int (1 : Int32)), .val (.int x0)] []))
  refine Go.by (fun _ => XS.aloadN X13.here hx rfl (hb hby d_jdk_52_method_21_code_10) rfl rfl) ?_
  show Go p e below P (T13.setTop (mkF m 11 #[.val (.ref a1), .val (.int (1 : Int32)), .val (.ref a2), .val (.int (1 : Int32)), .val (.int (2 : Int32)), .val (.int (1 : Int32)), .val (.int x0)] [(.ref a1)]))
  refine Go.by (fun _ => XS.iloadN X13.here hx rfl (hb hby d_jdk_52_method_21_code_11) rfl) ?_
  show Go p e below P (T13.setTop (mkF m 12 #[.val (.ref a1), .val (.int (1 : Int32)), .val (.ref a2), .val (.int (1 : Int32)), .val (.int (2 : Int32)), .val (.int (1 : Int32)), .val (.int x0)] [(.int (1 : Int32)), (.ref a1)]))
  have av14 := f13_2
  obtain ⟨cl14, Ar14, -, Sz14, Nn14, Ha14, Gf14⟩ := av14
  have hin14 : ¬ ((1 : Int32) < 0 ∨ cl14.slots.size ≤ ((1 : Int32)).toNatClampNeg) := inb_of Sz14 ⟨by decide, by decide⟩
  have hat14 : cl14.slots[((1 : Int32)).toNatClampNeg]? = some (.int x1) := Ha14.at hin14 rfl
  refine Go.by (X13.caload hx (j := (1 : Int32)) (v := (.int x1)) (by rw [e13]; exact Ar14.1) (State.isArrayOf_alike hZ.alike Ar14.2.1) Ar14.2.2 hin14 hat14 (g := (mkF m 12 #[.val (.ref a1), .val (.int (1 : Int32)), .val (.ref a2), .val (.int (1 : Int32)), .val (.int (2 : Int32)), .val (.int (1 : Int32)), .val (.int x0)] [(.int (1 : Int32)), (.ref a1)])) rfl rfl (hb hby d_jdk_52_method_21_code_12)) ?_
  show Go p e below P (T13.setTop (mkF m 13 #[.val (.ref a1), .val (.int (1 : Int32)), .val (.ref a2), .val (.int (1 : Int32)), .val (.int (2 : Int32)), .val (.int (1 : Int32)), .val (.int x0)] [(.int x1)]))
  refine Go.by (fun _ => XS.istore X13.here hx rfl (hb hby d_jdk_52_method_21_code_13) rfl (l' := #[.val (.ref a1), .val (.int (1 : Int32)), .val (.ref a2), .val (.int (1 : Int32)), .val (.int (2 : Int32)), .val (.int (1 : Int32)), .val (.int x1)]) rfl) ?_
  show Go p e below P (T13.setTop (mkF m 15 #[.val (.ref a1), .val (.int (1 : Int32)), .val (.ref a2), .val (.int (1 : Int32)), .val (.int (2 : Int32)), .val (.int (1 : Int32)), .val (.int x1)] []))
  refine Go.by (fun _ => XS.iload X13.here hx rfl (hb hby d_jdk_52_method_21_code_15) rfl) ?_
  show Go p e below P (T13.setTop (mkF m 17 #[.val (.ref a1), .val (.int (1 : Int32)), .val (.ref a2), .val (.int (1 : Int32)), .val (.int (2 : Int32)), .val (.int (1 : Int32)), .val (.int x1)] [(.int x1)]))
  refine Go.by (fun _ => XS.sipush X13.here hx rfl (hb hby d_jdk_52_method_21_code_17)) ?_
  show Go p e below P (T13.setTop (mkF m 20 #[.val (.ref a1), .val (.int (1 : Int32)), .val (.ref a2), .val (.int (1 : Int32)), .val (.int (2 : Int32)), .val (.int (1 : Int32)), .val (.int x1)] [(.int (255 : Int32)), (.int x1)]))
  refine Go.by (fun _ => XS.icmpYes X13.here hx rfl (pc0 := 20) (pc' := 26) rfl (hb hby d_jdk_52_method_21_code_20) rfl (XT.ii_le_t hx1b) (by decide) (by decide)) ?_
  show Go p e below P (T13.setTop (mkF m 26 #[.val (.ref a1), .val (.int (1 : Int32)), .val (.ref a2), .val (.int (1 : Int32)), .val (.int (2 : Int32)), .val (.int (1 : Int32)), .val (.int x1)] []))
  refine Go.by (fun _ => XS.aloadN X13.here hx rfl (hb hby d_jdk_52_method_21_code_26) rfl rfl) ?_
  show Go p e below P (T13.setTop (mkF m 27 #[.val (.ref a1), .val (.int (1 : Int32)), .val (.ref a2), .val (.int (1 : Int32)), .val (.int (2 : Int32)), .val (.int (1 : Int32)), .val (.int x1)] [(.ref a2)]))
  refine Go.by (fun _ => XS.iloadN X13.here hx rfl (hb hby d_jdk_52_method_21_code_27) rfl) ?_
  show Go p e below P (T13.setTop (mkF m 28 #[.val (.ref a1), .val (.int (1 : Int32)), .val (.ref a2), .val (.int (1 : Int32)), .val (.int (2 : Int32)), .val (.int (1 : Int32)), .val (.int x1)] [(.int (1 : Int32)), (.ref a2)]))
  refine Go.by (fun _ => XS.iload X13.here hx rfl (hb hby d_jdk_52_method_21_code_28) rfl) ?_
  show Go p e below P (T13.setTop (mkF m 30 #[.val (.ref a1), .val (.int (1 : Int32)), .val (.ref a2), .val (.int (1 : Int32)), .val (.int (2 : Int32)), .val (.int (1 : Int32)), .val (.int x1)] [(.int x1), (.int (1 : Int32)), (.ref a2)]))
  refine Go.by (fun _ => XS.i2b X13.here hx rfl (hb hby d_jdk_52_method_21_code_30) rfl) ?_
  show Go p e below P (T13.setTop (mkF m 31 #[.val (.ref a1), .val (.int (1 : Int32)), .val (.ref a2), .val (.int (1 : Int32)), .val (.int (2 : Int32)), .val (.int (1 : Int32)), .val (.int x1)] [(.int (x1.toInt8.toInt32)), (.int (1 : Int32)), (.ref a2)]))
  have av15 := V13
  obtain ⟨cl15, Ar15, q15, Sz15, Nn15, Ha15, Gf15⟩ := av15
  have hin15 : ¬ ((1 : Int32) < 0 ∨ cl15.slots.size ≤ ((1 : Int32)).toNatClampNeg) := inb_of Sz15 ⟨by decide, by decide⟩
  obtain ⟨T16, h16, X16, e16, W16, st16⟩ := stB X13 hx hZ e13 Ar15 (j := (1 : Int32)) hin15 (g := (mkF m 31 #[.val (.ref a1), .val (.int (1 : Int32)), .val (.ref a2), .val (.int (1 : Int32)), .val (.int (2 : Int32)), .val (.int (1 : Int32)), .val (.int x1)] [(.int (x1.toInt8.toInt32)), (.int (1 : Int32)), (.ref a2)])) rfl rfl (hb hby d_jdk_52_method_21_code_31)
  have W16' : Wr h13 h16 a2 ((1 : Int32)).toNatClampNeg (.int (x1.toInt8.toInt32)) := (by have q : Wr h13 h16 a2 ((1 : Int32)).toNatClampNeg (.int ((x1.toInt8.toInt32)).toInt8.toInt32) := W16; rw [own_bb] at q; exact q)
  have V16 : Arv Z h16 a2 k2 .byte (2 : Int32) [(.int (x0.toInt8.toInt32)), (.int (x1.toInt8.toInt32))] (.int (0 : Int32)) := Arv.set Ar15 q15 Sz15 Nn15 Ha15 Gf15 (fits_nar_byte _) W16' 1 rfl (Nat.le_of_ble_eq_true rfl)
  have N16 := Fr.snoc X16 N13 g_a2
  have f16_0 : n0 ≤ h16.size := (Nat.le_trans f13_0 (Keep.of_wr W16).1)
  have f16_1 : Keep h0 h16 [a2] := (Keep.wr f13_1 W16 (Or.inl (List.mem_of_getElem? (i := 0) rfl)))
  have f16_2 : Arv Z h16 a1 k1 .char (2 : Int32) [(.int x0), (.int x1)] (.int (0 : Int32)) := (Arv.other f13_2 W16 ne12)
  refine Go.by st16 ?_
  show Go p e below P (T16.setTop (mkF m 32 #[.val (.ref a1), .val (.int (1 : Int32)), .val (.ref a2), .val (.int (1 : Int32)), .val (.int (2 : Int32)), .val (.int (1 : Int32)), .val (.int x1)] []))
  refine Go.by (fun _ => XS.iinc X16.here hx rfl (hb hby d_jdk_52_method_21_code_32) rfl (l' := #[.val (.ref a1), .val (.int (2 : Int32)), .val (.ref a2), .val (.int (1 : Int32)), .val (.int (2 : Int32)), .val (.int (1 : Int32)), .val (.int x1)]) rfl) ?_
  show Go p e below P (T16.setTop (mkF m 35 #[.val (.ref a1), .val (.int (2 : Int32)), .val (.ref a2), .val (.int (1 : Int32)), .val (.int (2 : Int32)), .val (.int (1 : Int32)), .val (.int x1)] []))
  refine Go.by (fun _ => XS.iinc X16.here hx rfl (hb hby d_jdk_52_method_21_code_35) rfl (l' := #[.val (.ref a1), .val (.int (2 : Int32)), .val (.ref a2), .val (.int (2 : Int32)), .val (.int (2 : Int32)), .val (.int (1 : Int32)), .val (.int x1)]) rfl) ?_
  show Go p e below P (T16.setTop (mkF m 38 #[.val (.ref a1), .val (.int (2 : Int32)), .val (.ref a2), .val (.int (2 : Int32)), .val (.int (2 : Int32)), .val (.int (1 : Int32)), .val (.int x1)] []))
  refine Go.by (fun _ => XS.iinc X16.here hx rfl (hb hby d_jdk_52_method_21_code_38) rfl (l' := #[.val (.ref a1), .val (.int (2 : Int32)), .val (.ref a2), .val (.int (2 : Int32)), .val (.int (2 : Int32)), .val (.int (2 : Int32)), .val (.int x1)]) rfl) ?_
  show Go p e below P (T16.setTop (mkF m 41 #[.val (.ref a1), .val (.int (2 : Int32)), .val (.ref a2), .val (.int (2 : Int32)), .val (.int (2 : Int32)), .val (.int (2 : Int32)), .val (.int x1)] []))
  refine Go.by (fun _ => XS.goto X16.here hx rfl (pc0 := 41) (pc' := 3) rfl (hb hby d_jdk_52_method_21_code_41) (by decide) (by decide)) ?_
  show Go p e below P (T16.setTop (mkF m 3 #[.val (.ref a1), .val (.int (2 : Int32)), .val (.ref a2), .val (.int (2 : Int32)), .val (.int (2 : Int32)), .val (.int (2 : Int32)), .val (.int x1)] []))
  refine Go.by (fun _ => XS.iload X16.here hx rfl (hb hby d_jdk_52_method_21_code_3) rfl) ?_
  show Go p e below P (T16.setTop (mkF m 5 #[.val (.ref a1), .val (.int (2 : Int32)), .val (.ref a2), .val (.int (2 : Int32)), .val (.int (2 : Int32)), .val (.int (2 : Int32)), .val (.int x1)] [(.int (2 : Int32))]))
  refine Go.by (fun _ => XS.iload X16.here hx rfl (hb hby d_jdk_52_method_21_code_5) rfl) ?_
  show Go p e below P (T16.setTop (mkF m 7 #[.val (.ref a1), .val (.int (2 : Int32)), .val (.ref a2), .val (.int (2 : Int32)), .val (.int (2 : Int32)), .val (.int (2 : Int32)), .val (.int x1)] [(.int (2 : Int32)), (.int (2 : Int32))]))
  refine Go.by (fun _ => XS.icmpYes X16.here hx rfl (pc0 := 7) (pc' := 44) rfl (hb hby d_jdk_52_method_21_code_7) rfl (XT.ii_ge_t (by decide : ¬ (2 : Int32) < (2 : Int32))) (by decide) (by decide)) ?_
  show Go p e below P (T16.setTop (mkF m 44 #[.val (.ref a1), .val (.int (2 : Int32)), .val (.ref a2), .val (.int (2 : Int32)), .val (.int (2 : Int32)), .val (.int (2 : Int32)), .val (.int x1)] []))
  refine Go.by (fun _ => XS.iload X16.here hx rfl (hb hby d_jdk_52_method_21_code_44) rfl) ?_
  show Go p e below P (T16.setTop (mkF m 46 #[.val (.ref a1), .val (.int (2 : Int32)), .val (.ref a2), .val (.int (2 : Int32)), .val (.int (2 : Int32)), .val (.int (2 : Int32)), .val (.int x1)] [(.int (2 : Int32))]))
  refine fin X16 (v := some (.int (2 : Int32))) (fun h => by rw [Bd.returns] at h; cases h) (by decide) (by decide) ?_ (fun fs hr => retOut X16 hx Bd.returns rfl (Or.inl ⟨rfl, Or.inl rfl, _, rfl⟩) (hb hby d_jdk_52_method_21_code_46) hr)
  rw [e16]
  exact ⟨rfl, N16, f16_1, V16⟩
def Q_cmp3_2 (Z : State) (a1 : Addr) (k1 : ClassId) (x0 : Int32) (x1 : Int32) (h0 : Heap) (n0 : Nat) (v : Option Value) (h : Heap) (L : List Loc) : Prop := ∃ d k, v = some (.ref d) ∧ Fr n0 L ∧ Keep h0 h [] ∧ h0.size ≤ d ∧ Arv Z h d k .byte (2 : Int32) [(.int (x0.toInt8.toInt32)), (.int (x1.toInt8.toInt32))] (.int (0 : Int32))
theorem ef_cmp3_2 (m : MethodId) (a1 : Addr) (k1 : ClassId) (x0 : Int32) (x1 : Int32) : entryFrame m #[(.ref a1), (.int (0 : Int32)), (.int (2 : Int32))] 6 = mkF m 0 #[.val (.ref a1), .val (.int (0 : Int32)), .val (.int (2 : Int32)), .unset, .unset, .unset] [] := by first | (simp [entryFrame, mkF, argsToLocals, Value.category]; done) | rfl
set_option maxRecDepth 65536 in
set_option maxHeartbeats 40000000 in
theorem rm_cmp3_2 (l : Launch) (Z : State) (a0 : Array Value) (hw : ∀ d ∈ tables_1, d.before a0 Z = true) (ws : List Jvm.Cond) (a1 : Addr) (k1 : ClassId) (x0 : Int32) (x1 : Int32) (h0 : Heap) (n0 : Nat) (Z0 : n0 ≤ h0.size) (V1 : Arv Z h0 a1 k1 .char (2 : Int32) [(.int x0), (.int x1)] (.int (0 : Int32))) (hx0a : ¬ x0 < 0) (hx0b : ¬ (255 : Int32) < x0) (hx1a : ¬ x1 < 0) (hx1b : ¬ (255 : Int32) < x1) :
    MetFree l (⟨"java/lang/StringUTF16", "compress", "([CII)[B"⟩ : MethodName) (head1 (Jvm.Cond.code (⟨"java/lang/StringUTF16", "compress", "([CII)[B"⟩ : MethodName) jdk_52_method_16_code 6 (some (.array .byte)) :: ws) ({ frames := 1, cells := 1, slots := 2, locals := 30 } : Room)) (fun a U => a = #[(.ref a1), (.int (0 : Int32)), (.int (2 : Int32))] ∧ Z.Warmed39 U.vm ∧ U.heap = h0) (fun _ _ _ _ _ => True) (fun _ U o U' => ∃ v L, o = .returned v ∧ Q_cmp3_2 Z a1 k1 x0 x1 h0 n0 v U'.heap L ∧ FrameEnd U o U' L ({ frames := 1, cells := 1, slots := 2, locals := 30 } : Room).cells ({ frames := 1, cells := 1, slots := 2, locals := 30 } : Room).slots) := by
  refine MetFree.of_bodySF (plainFor_of_name pn_java_lang_StringUTF16) hisR ?_
  intro p e s m args below meth c s₁ Bd hml0 hP hK
  obtain ⟨rfl, hZ, hh⟩ := hP
  have hx := Bd.exec
  have hby := Bd.bytes
  have hml : c.maxLocals = 6 := hml0
  have hown : s.vm.findClass "java/lang/StringUTF16" = some m.cls := findClass_of_methodNamed Bd.named
  have hnm := (name_of_methodNamed Bd.named Bd.method).1
  have X0 : Stand p l e ({ frames := 1, cells := 1, slots := 2, locals := 30 } : Room) s m #[(.ref a1), (.int (0 : Int32)), (.int (2 : Int32))] below meth c s₁ [] 0 0 := Stand.of_body Bd
  have e0 : s₁.heap = h0 := by rw [← hh, Bd.state]; rfl
  have N0 := Fr.nil n0
  have hlk : meth.locks = false := Bd.notSynchronized
  obtain ⟨P, hP⟩ : ∃ P : Outcome → State → Prop, P = PQ s (Q_cmp3_2 Z a1 k1 x0 x1 h0 n0) ({ frames := 1, cells := 1, slots := 2, locals := 30 } : Room).cells ({ frames := 1, cells := 1, slots := 2, locals := 30 } : Room).slots := ⟨_, rfl⟩
  have fin : ∀ {T : State} {locs : List Loc} {k n : Nat} {v : Option Value} {S0 : State}, Stand p l e ({ frames := 1, cells := 1, slots := 2, locals := 30 } : Room) s m #[(.ref a1), (.int (0 : Int32)), (.int (2 : Int32))] below meth c T locs k n → (meth.sig.returnType = none → v = none) → k ≤ ({ frames := 1, cells := 1, slots := 2, locals := 30 } : Room).cells → n ≤ ({ frames := 1, cells := 1, slots := 2, locals := 30 } : Room).slots → Q_cmp3_2 Z a1 k1 x0 x1 h0 n0 v T.heap locs → (∀ fs, (∀ (f : JFrame) (acts : List Action), f.method = m → f.locked = none → f.entered = [] → (doReturn e (T.setTop f) acts v).1 = T.setFrames fs) → Steps p.tables e below S0 (T.setFrames fs)) → Go p e below P S0 := fun X hv hk hn hQ hst => hP ▸ Go.fin X hlk hv hk hn hQ hst
  suffices hgo : Go p e below P (s₁.setTop (mkF m 0 #[.val (.ref a1), .val (.int (0 : Int32)), .val (.int (2 : Int32)), .unset, .unset, .unset] [])) by
    rw [hP] at hgo
    exact Go.by (fun t k => castTop (ef_cmp3_2 m a1 k1 x0 x1) k) hgo
  show Go p e below P (s₁.setTop (mkF m 0 #[.val (.ref a1), .val (.int (0 : Int32)), .val (.int (2 : Int32)), .unset, .unset, .unset] []))
  refine Go.by (fun _ => XS.iloadN X0.here hx rfl (hb hby d_jdk_52_method_16_code_0) rfl) ?_
  show Go p e below P (s₁.setTop (mkF m 1 #[.val (.ref a1), .val (.int (0 : Int32)), .val (.int (2 : Int32)), .unset, .unset, .unset] [(.int (2 : Int32))]))
  obtain ⟨T11, h11, k11, X11, e11, E11, A11, st11⟩ := newP X0 hx hZ (aty := .byte) (tw_15 hw) e0 (g := (mkF m 1 #[.val (.ref a1), .val (.int (0 : Int32)), .val (.int (2 : Int32)), .unset, .unset, .unset] [(.int (2 : Int32))])) rfl (hb hby d_jdk_52_method_16_code_1) rfl (by decide) (cap := 2) (by decide) (by decide) (by decide) (by decide)
  obtain ⟨b11, g11⟩ : ∃ z, z = h0.size := ⟨_, rfl⟩
  rw [← g11] at A11 st11
  have g_b11 : n0 ≤ b11 := Nat.le_trans Z0 (Nat.le_of_eq g11.symm)
  have sz_b11 : h0.size ≤ b11 := Nat.le_trans (Keep.refl h0 []).1 (Nat.le_of_eq g11.symm)
  have ne_a1_b11 : a1 ≠ b11 := Nat.ne_of_lt (Nat.lt_of_lt_of_le (V1.lt) (Nat.le_of_eq g11.symm))
  have f11_0 : n0 ≤ h11.size := (Nat.le_trans Z0 E11.1)
  have f11_1 : Keep h0 h11 [] := (Keep.ext (Keep.refl h0 []) E11)
  have f11_2 : Arv Z h11 a1 k1 .char (2 : Int32) [(.int x0), (.int x1)] (.int (0 : Int32)) := (Arv.ext V1 E11)
  refine Go.by st11 ?_
  have V11 : Arv Z h11 b11 k11 .byte (2 : Int32) [(.int (0 : Int32)), (.int (0 : Int32))] (.int (0 : Int32)) := (Arv.new A11 (by decide)).pad (pad_rep [] (.int (0 : Int32)) 2)
  show Go p e below P (T11.setTop (mkF m 3 #[.val (.ref a1), .val (.int (0 : Int32)), .val (.int (2 : Int32)), .unset, .unset, .unset] [(.ref b11)]))
  refine Go.by (fun _ => XS.astoreN X11.here hx rfl (hb hby d_jdk_52_method_16_code_3) rfl rfl (l' := #[.val (.ref a1), .val (.int (0 : Int32)), .val (.int (2 : Int32)), .val (.ref b11), .unset, .unset]) rfl) ?_
  show Go p e below P (T11.setTop (mkF m 4 #[.val (.ref a1), .val (.int (0 : Int32)), .val (.int (2 : Int32)), .val (.ref b11), .unset, .unset] []))
  refine Go.by (fun _ => XS.aloadN X11.here hx rfl (hb hby d_jdk_52_method_16_code_4) rfl rfl) ?_
  show Go p e below P (T11.setTop (mkF m 5 #[.val (.ref a1), .val (.int (0 : Int32)), .val (.int (2 : Int32)), .val (.ref b11), .unset, .unset] [(.ref a1)]))
  refine Go.by (fun _ => XS.iloadN X11.here hx rfl (hb hby d_jdk_52_method_16_code_5) rfl) ?_
  show Go p e below P (T11.setTop (mkF m 6 #[.val (.ref a1), .val (.int (0 : Int32)), .val (.int (2 : Int32)), .val (.ref b11), .unset, .unset] [(.int (0 : Int32)), (.ref a1)]))
  refine Go.by (fun _ => XS.aloadN X11.here hx rfl (hb hby d_jdk_52_method_16_code_6) rfl rfl) ?_
  show Go p e below P (T11.setTop (mkF m 7 #[.val (.ref a1), .val (.int (0 : Int32)), .val (.int (2 : Int32)), .val (.ref b11), .unset, .unset] [(.ref b11), (.int (0 : Int32)), (.ref a1)]))
  refine Go.by (fun _ => XS.iconst X11.here hx rfl (hb hby d_jdk_52_method_16_code_7)) ?_
  show Go p e below P (T11.setTop (mkF m 8 #[.val (.ref a1), .val (.int (0 : Int32)), .val (.int (2 : Int32)), .val (.ref b11), .unset, .unset] [(.int (0 : Int32)), (.ref b11), (.int (0 : Int32)), (.ref a1)]))
  refine Go.by (fun _ => XS.iloadN X11.here hx rfl (hb hby d_jdk_52_method_16_code_8) rfl) ?_
  show Go p e below P (T11.setTop (mkF m 9 #[.val (.ref a1), .val (.int (0 : Int32)), .val (.int (2 : Int32)), .val (.ref b11), .unset, .unset] [(.int (2 : Int32)), (.int (0 : Int32)), (.ref b11), (.int (0 : Int32)), (.ref a1)]))
  obtain ⟨_, _, ⟨T12, L12, k12, n12⟩, -, X12, ⟨Lc12, hQ12, l12, y12, z12⟩, st12⟩ := Jvm.LawKit.callS X11 hx (y := (⟨"java/lang/StringUTF16", "compress", "([CI[BII)I"⟩ : MethodName)) hown (mvT hZ (tw_113 hw)) (mvT hZ (tw_114 hw)) (mvT hZ (tw_111 hw)) (mvT hZ (tw_115 hw)) (by decide) (backOf (W := 0) (rm_cmp5_2 l Z a0 hw [] a1 k1 b11 k11 x0 x1 h11 n0 f11_0 f11_2 V11 ne_a1_b11 g_b11 hx0a hx0b hx1a hx1b) hZ (tw_115 hw) (tw_111 hw) (by decide) (by decide)) (g := (mkF m 9 #[.val (.ref a1), .val (.int (0 : Int32)), .val (.int (2 : Int32)), .val (.ref b11), .unset, .unset] [(.int (2 : Int32)), (.int (0 : Int32)), (.ref b11), (.int (0 : Int32)), (.ref a1)])) rfl (by rw [hml]; rfl) (argsL := [(.ref a1), (.int (0 : Int32)), (.ref b11), (.int (0 : Int32)), (.int (2 : Int32))]) (rest := []) (lenOf pd___CI_BII_I rfl) rfl (by show 2 * 0 + _ ≤ _; exact Nat.le_of_eq rfl) (hb hby d_jdk_52_method_16_code_9) (fun _ _ => ⟨rfl, e11, (by decide : 1 + 0 ≤ _), (by decide : 2 + 0 ≤ _)⟩)
  dsimp only [Pt.U, Pt.locs, Pt.cells, Pt.slots] at X12 l12 y12 z12 st12 hQ12
  subst l12 y12 z12
  obtain ⟨rfl, N12q, K12, V12⟩ := hQ12
  have N12 := Fr.app N0 N12q
  refine Go.by (fun t k => st12 t k) ?_
  have f12_0 : n0 ≤ T12.heap.size := (Nat.le_trans f11_0 K12.1)
  have f12_1 : Keep h0 T12.heap [] := (Keep.trans f11_1 K12 (allS (Or.inr sz_b11) all0))
  have f12_2 : Arv Z T12.heap a1 k1 .char (2 : Int32) [(.int x0), (.int x1)] (.int (0 : Int32)) := (Arv.keep f11_2 K12 (ninS ne_a1_b11 nin0))
  show Go p e below P (T12.setTop (mkF m 12 #[.val (.ref a1), .val (.int (0 : Int32)), .val (.int (2 : Int32)), .val (.ref b11), .unset, .unset] [(.int (2 : Int32))]))
  refine Go.by (fun _ => XS.istore X12.here hx rfl (hb hby d_jdk_52_method_16_code_12) rfl (l' := #[.val (.ref a1), .val (.int (0 : Int32)), .val (.int (2 : Int32)), .val (.ref b11), .val (.int (2 : Int32)), .unset]) rfl) ?_
  show Go p e below P (T12.setTop (mkF m 14 #[.val (.ref a1), .val (.int (0 : Int32)), .val (.int (2 : Int32)), .val (.ref b11), .val (.int (2 : Int32)), .unset] []))
  refine Go.by (fun _ => XS.iload X12.here hx rfl (hb hby d_jdk_52_method_16_code_14) rfl) ?_
  show Go p e below P (T12.setTop (mkF m 16 #[.val (.ref a1), .val (.int (0 : Int32)), .val (.int (2 : Int32)), .val (.ref b11), .val (.int (2 : Int32)), .unset] [(.int (2 : Int32))]))
  refine Go.by (fun _ => XS.iloadN X12.here hx rfl (hb hby d_jdk_52_method_16_code_16) rfl) ?_
  show Go p e below P (T12.setTop (mkF m 17 #[.val (.ref a1), .val (.int (0 : Int32)), .val (.int (2 : Int32)), .val (.ref b11), .val (.int (2 : Int32)), .unset] [(.int (2 : Int32)), (.int (2 : Int32))]))
  refine Go.by (fun _ => XS.icmpYes X12.here hx rfl (pc0 := 17) (pc' := 57) rfl (hb hby d_jdk_52_method_16_code_17) rfl (XT.ii_eq_t (by decide : (2 : Int32) = (2 : Int32))) (by decide) (by decide)) ?_
  show Go p e below P (T12.setTop (mkF m 57 #[.val (.ref a1), .val (.int (0 : Int32)), .val (.int (2 : Int32)), .val (.ref b11), .val (.int (2 : Int32)), .unset] []))
  refine Go.by (fun _ => XS.aloadN X12.here hx rfl (hb hby d_jdk_52_method_16_code_57) rfl rfl) ?_
  show Go p e below P (T12.setTop (mkF m 58 #[.val (.ref a1), .val (.int (0 : Int32)), .val (.int (2 : Int32)), .val (.ref b11), .val (.int (2 : Int32)), .unset] [(.ref b11)]))
  refine fin X12 (v := some (.ref b11)) (fun h => by rw [Bd.returns] at h; cases h) (by decide) (by decide) ?_ (fun fs hr => retOut X12 hx Bd.returns rfl (Or.inr (Or.inr (Or.inr (Or.inr ⟨rfl, rfl, rfl⟩)))) (hb hby d_jdk_52_method_16_code_58) hr)
  exact ⟨b11, k11, rfl, N12, f12_1, sz_b11, V12⟩
def Q_cfal_2 (Z : State) (a1 : Addr) (k1 : ClassId) (x0 : Int32) (x1 : Int32) (h0 : Heap) (n0 : Nat) (v : Option Value) (h : Heap) (L : List Loc) : Prop := v = some (.int (0 : Int32)) ∧ Fr n0 L ∧ h = h0
theorem ef_cfal_2 (m : MethodId) (a1 : Addr) (k1 : ClassId) (x0 : Int32) (x1 : Int32) : entryFrame m #[(.ref a1), (.int (2 : Int32))] 2 = mkF m 0 #[.val (.ref a1), .val (.int (2 : Int32))] [] := by first | (simp [entryFrame, mkF, argsToLocals, Value.category]; done) | rfl
set_option maxRecDepth 65536 in
set_option maxHeartbeats 40000000 in
theorem rm_cfal_2 (l : Launch) (Z : State) (a0 : Array Value) (hw : ∀ d ∈ tables_1, d.before a0 Z = true) (ws : List Jvm.Cond) (a1 : Addr) (k1 : ClassId) (x0 : Int32) (x1 : Int32) (h0 : Heap) (n0 : Nat) (Z0 : n0 ≤ h0.size) (V1 : Arv Z h0 a1 k1 .byte (2 : Int32) [(.int (x0.toInt8.toInt32)), (.int (x1.toInt8.toInt32))] (.int (0 : Int32))) :
    MetFree l (⟨"java/lang/StringUTF16", "coderFromArrayLen", "([BI)B"⟩ : MethodName) (head1 (Jvm.Cond.code (⟨"java/lang/StringUTF16", "coderFromArrayLen", "([BI)B"⟩ : MethodName) jdk_52_method_15_code 2 (some .byte) :: ws) ({ frames := 0, cells := 0, slots := 0, locals := 0 } : Room)) (fun a U => a = #[(.ref a1), (.int (2 : Int32))] ∧ Z.Warmed39 U.vm ∧ U.heap = h0) (fun _ _ _ _ _ => True) (fun _ U o U' => ∃ v L, o = .returned v ∧ Q_cfal_2 Z a1 k1 x0 x1 h0 n0 v U'.heap L ∧ FrameEnd U o U' L ({ frames := 0, cells := 0, slots := 0, locals := 0 } : Room).cells ({ frames := 0, cells := 0, slots := 0, locals := 0 } : Room).slots) := by
  refine MetFree.of_bodySF (plainFor_of_name pn_java_lang_StringUTF16) hisR ?_
  intro p e s m args below meth c s₁ Bd hml0 hP hK
  obtain ⟨rfl, hZ, hh⟩ := hP
  have hx := Bd.exec
  have hby := Bd.bytes
  have hml : c.maxLocals = 2 := hml0
  have hown : s.vm.findClass "java/lang/StringUTF16" = some m.cls := findClass_of_methodNamed Bd.named
  have hnm := (name_of_methodNamed Bd.named Bd.method).1
  have X0 : Stand p l e ({ frames := 0, cells := 0, slots := 0, locals := 0 } : Room) s m #[(.ref a1), (.int (2 : Int32))] below meth c s₁ [] 0 0 := Stand.of_body Bd
  have e0 : s₁.heap = h0 := by rw [← hh, Bd.state]; rfl
  have N0 := Fr.nil n0
  have hlk : meth.locks = false := Bd.notSynchronized
  obtain ⟨P, hP⟩ : ∃ P : Outcome → State → Prop, P = PQ s (Q_cfal_2 Z a1 k1 x0 x1 h0 n0) ({ frames := 0, cells := 0, slots := 0, locals := 0 } : Room).cells ({ frames := 0, cells := 0, slots := 0, locals := 0 } : Room).slots := ⟨_, rfl⟩
  have fin : ∀ {T : State} {locs : List Loc} {k n : Nat} {v : Option Value} {S0 : State}, Stand p l e ({ frames := 0, cells := 0, slots := 0, locals := 0 } : Room) s m #[(.ref a1), (.int (2 : Int32))] below meth c T locs k n → (meth.sig.returnType = none → v = none) → k ≤ ({ frames := 0, cells := 0, slots := 0, locals := 0 } : Room).cells → n ≤ ({ frames := 0, cells := 0, slots := 0, locals := 0 } : Room).slots → Q_cfal_2 Z a1 k1 x0 x1 h0 n0 v T.heap locs → (∀ fs, (∀ (f : JFrame) (acts : List Action), f.method = m → f.locked = none → f.entered = [] → (doReturn e (T.setTop f) acts v).1 = T.setFrames fs) → Steps p.tables e below S0 (T.setFrames fs)) → Go p e below P S0 := fun X hv hk hn hQ hst => hP ▸ Go.fin X hlk hv hk hn hQ hst
  suffices hgo : Go p e below P (s₁.setTop (mkF m 0 #[.val (.ref a1), .val (.int (2 : Int32))] [])) by
    rw [hP] at hgo
    exact Go.by (fun t k => castTop (ef_cfal_2 m a1 k1 x0 x1) k) hgo
  show Go p e below P (s₁.setTop (mkF m 0 #[.val (.ref a1), .val (.int (2 : Int32))] []))
  refine Go.by (fun _ => XS.iloadN X0.here hx rfl (hb hby d_jdk_52_method_15_code_0) rfl) ?_
  show Go p e below P (s₁.setTop (mkF m 1 #[.val (.ref a1), .val (.int (2 : Int32))] [(.int (2 : Int32))]))
  refine Go.by (fun _ => XS.aloadN X0.here hx rfl (hb hby d_jdk_52_method_15_code_1) rfl rfl) ?_
  show Go p e below P (s₁.setTop (mkF m 2 #[.val (.ref a1), .val (.int (2 : Int32))] [(.ref a1), (.int (2 : Int32))]))
  have av11 := V1
  obtain ⟨cl11, Ar11, -, Sz11, Nn11, -, -⟩ := av11
  refine Go.by (X0.arraylength hx (by rw [e0]; exact Ar11.1) (State.isArrayOf_alike hZ.alike Ar11.2.1) (g := (mkF m 2 #[.val (.ref a1), .val (.int (2 : Int32))] [(.ref a1), (.int (2 : Int32))])) rfl rfl (hb hby d_jdk_52_method_15_code_2)) ?_
  rw [len_of Sz11 Nn11]
  show Go p e below P (s₁.setTop (mkF m 3 #[.val (.ref a1), .val (.int (2 : Int32))] [(.int (2 : Int32)), (.int (2 : Int32))]))
  refine Go.by (fun _ => XS.isub X0.here hx rfl (hb hby d_jdk_52_method_15_code_3) rfl) ?_
  show Go p e below P (s₁.setTop (mkF m 4 #[.val (.ref a1), .val (.int (2 : Int32))] [(.int (0 : Int32))]))
  refine Go.by (fun _ => XS.bipush X0.here hx rfl (hb hby d_jdk_52_method_15_code_4)) ?_
  show Go p e below P (s₁.setTop (mkF m 6 #[.val (.ref a1), .val (.int (2 : Int32))] [(.int (31 : Int32)), (.int (0 : Int32))]))
  refine Go.by (fun _ => XS.iushr X0.here hx rfl (hb hby d_jdk_52_method_15_code_6) rfl) ?_
  show Go p e below P (s₁.setTop (mkF m 7 #[.val (.ref a1), .val (.int (2 : Int32))] [(.int (((0 : Int32).toUInt32 >>> ((31 : Int32) &&& 31).toUInt32).toInt32))]))
  refine Go.by (fun _ => XS.i2b X0.here hx rfl (hb hby d_jdk_52_method_15_code_7) rfl) ?_
  show Go p e below P (s₁.setTop (mkF m 8 #[.val (.ref a1), .val (.int (2 : Int32))] [(.int ((((0 : Int32).toUInt32 >>> ((31 : Int32) &&& 31).toUInt32).toInt32).toInt8.toInt32))]))
  show Go p e below P (s₁.setTop (mkF m 8 #[.val (.ref a1), .val (.int (2 : Int32))] [(.int (0 : Int32))]))
  refine fin X0 (v := some (.int (0 : Int32))) (fun h => by rw [Bd.returns] at h; cases h) (by decide) (by decide) ?_ (fun fs hr => retOut X0 hx Bd.returns rfl (Or.inl ⟨rfl, Or.inr (Or.inr (Or.inl rfl)), _, rfl⟩) (hb hby d_jdk_52_method_15_code_8) hr)
  rw [e0]
  exact ⟨rfl, N0, rfl⟩
def Q_si4_2 (Z : State) (a0_ : Addr) (a1 : Addr) (k1 : ClassId) (x0 : Int32) (x1 : Int32) (cs : Int32) (h0 : Heap) (n0 : Nat) (v : Option Value) (h : Heap) (L : List Loc) : Prop := v = none ∧ Fr n0 L ∧ Keep h0 h [a0_] ∧ Fld Z h a0_ "java/lang/String" "coder" "B" (.int (0 : Int32)) ∧ ∃ d k, h0.size ≤ d ∧ Fld Z h a0_ "java/lang/String" "value" "[B" (.ref d) ∧ Arv Z h d k .byte (2 : Int32) [(.int (x0.toInt8.toInt32)), (.int (x1.toInt8.toInt32))] (.int (0 : Int32))
theorem ef_si4_2 (m : MethodId) (a0_ : Addr) (a1 : Addr) (k1 : ClassId) (x0 : Int32) (x1 : Int32) (cs : Int32) : entryFrame m #[(.ref a0_), (.ref a1), (.int (0 : Int32)), (.int (2 : Int32)), .null] 6 = mkF m 0 #[.val (.ref a0_), .val (.ref a1), .val (.int (0 : Int32)), .val (.int (2 : Int32)), .val .null, .unset] [] := by first | (simp [entryFrame, mkF, argsToLocals, Value.category]; done) | rfl
set_option maxRecDepth 65536 in
set_option maxHeartbeats 40000000 in
theorem rm_si4_2 (l : Launch) (Z : State) (a0 : Array Value) (hw : ∀ d ∈ tables_1, d.before a0 Z = true) (ws : List Jvm.Cond) (a0_ : Addr) (a1 : Addr) (k1 : ClassId) (x0 : Int32) (x1 : Int32) (cs : Int32) (h0 : Heap) (n0 : Nat) (Z0 : n0 ≤ h0.size) (O0 : Old Z n0 h0) (Scs : Sta Z Z.heap "java/lang/String" "COMPACT_STRINGS" "Z" (.int cs)) (hcs : ¬ cs = (0 : Int32)) (E0 : Exa Z h0 a0_ "java/lang/String") (g_a0_ : n0 ≤ a0_) (F0c : Fld Z h0 a0_ "java/lang/String" "coder" "B" (.int (0 : Int32))) (F0v : Fld Z h0 a0_ "java/lang/String" "value" "[B" .null) (V1 : Arv Z h0 a1 k1 .char (2 : Int32) [(.int x0), (.int x1)] (.int (0 : Int32))) (hx0a : ¬ x0 < 0) (hx0b : ¬ (255 : Int32) < x0) (hx1a : ¬ x1 < 0) (hx1b : ¬ (255 : Int32) < x1) :
    MetFree l (⟨"java/lang/String", "<init>", "([CIILjava/lang/Void;)V"⟩ : MethodName) (head1 (Jvm.Cond.code (⟨"java/lang/String", "<init>", "([CIILjava/lang/Void;)V"⟩ : MethodName) jdk_42_method_149_code 6 none :: ws) ({ frames := 2, cells := 1, slots := 2, locals := 50 } : Room)) (fun a U => a = #[(.ref a0_), (.ref a1), (.int (0 : Int32)), (.int (2 : Int32)), .null] ∧ Z.Warmed39 U.vm ∧ U.heap = h0) (fun _ _ _ _ _ => True) (fun _ U o U' => ∃ v L, o = .returned v ∧ Q_si4_2 Z a0_ a1 k1 x0 x1 cs h0 n0 v U'.heap L ∧ FrameEnd U o U' L ({ frames := 2, cells := 1, slots := 2, locals := 50 } : Room).cells ({ frames := 2, cells := 1, slots := 2, locals := 50 } : Room).slots) := by
  refine MetFree.of_bodySF (plainFor_of_name pn_java_lang_String) hisR ?_
  intro p e s m args below meth c s₁ Bd hml0 hP hK
  obtain ⟨rfl, hZ, hh⟩ := hP
  have hx := Bd.exec
  have hby := Bd.bytes
  have hml : c.maxLocals = 6 := hml0
  have hown : s.vm.findClass "java/lang/String" = some m.cls := findClass_of_methodNamed Bd.named
  have hnm := (name_of_methodNamed Bd.named Bd.method).1
  have X0 : Stand p l e ({ frames := 2, cells := 1, slots := 2, locals := 50 } : Room) s m #[(.ref a0_), (.ref a1), (.int (0 : Int32)), (.int (2 : Int32)), .null] below meth c s₁ [] 0 0 := Stand.of_body Bd
  have e0 : s₁.heap = h0 := by rw [← hh, Bd.state]; rfl
  have N0 := Fr.nil n0
  have hlk : meth.locks = false := Bd.notSynchronized
  obtain ⟨P, hP⟩ : ∃ P : Outcome → State → Prop, P = PQ s (Q_si4_2 Z a0_ a1 k1 x0 x1 cs h0 n0) ({ frames := 2, cells := 1, slots := 2, locals := 50 } : Room).cells ({ frames := 2, cells := 1, slots := 2, locals := 50 } : Room).slots := ⟨_, rfl⟩
  have fin : ∀ {T : State} {locs : List Loc} {k n : Nat} {v : Option Value} {S0 : State}, Stand p l e ({ frames := 2, cells := 1, slots := 2, locals := 50 } : Room) s m #[(.ref a0_), (.ref a1), (.int (0 : Int32)), (.int (2 : Int32)), .null] below meth c T locs k n → (meth.sig.returnType = none → v = none) → k ≤ ({ frames := 2, cells := 1, slots := 2, locals := 50 } : Room).cells → n ≤ ({ frames := 2, cells := 1, slots := 2, locals := 50 } : Room).slots → Q_si4_2 Z a0_ a1 k1 x0 x1 cs h0 n0 v T.heap locs → (∀ fs, (∀ (f : JFrame) (acts : List Action), f.method = m → f.locked = none → f.entered = [] → (doReturn e (T.setTop f) acts v).1 = T.setFrames fs) → Steps p.tables e below S0 (T.setFrames fs)) → Go p e below P S0 := fun X hv hk hn hQ hst => hP ▸ Go.fin X hlk hv hk hn hQ hst
  suffices hgo : Go p e below P (s₁.setTop (mkF m 0 #[.val (.ref a0_), .val (.ref a1), .val (.int (0 : Int32)), .val (.int (2 : Int32)), .val .null, .unset] [])) by
    rw [hP] at hgo
    exact Go.by (fun t k => castTop (ef_si4_2 m a0_ a1 k1 x0 x1 cs) k) hgo
  have ne01 : a0_ ≠ a1 := fun q => by obtain ⟨c, Ar, -⟩ := V1; exact ne_arr E0 (tw_11 hw) Ar q
  show Go p e below P (s₁.setTop (mkF m 0 #[.val (.ref a0_), .val (.ref a1), .val (.int (0 : Int32)), .val (.int (2 : Int32)), .val .null, .unset] []))
  refine Go.by (fun _ => XS.aloadN X0.here hx rfl (hb hby d_jdk_42_method_149_code_0) rfl rfl) ?_
  show Go p e below P (s₁.setTop (mkF m 1 #[.val (.ref a0_), .val (.ref a1), .val (.int (0 : Int32)), .val (.int (2 : Int32)), .val .null, .unset] [(.ref a0_)]))
  obtain ⟨T11, X11, e11, st11⟩ := initO X0 hx hZ hown (tw_20 hw) (tw_21 hw) (tw_22 hw) e0 (g := (mkF m 1 #[.val (.ref a0_), .val (.ref a1), .val (.int (0 : Int32)), .val (.int (2 : Int32)), .val .null, .unset] [(.ref a0_)])) rfl (by rw [hml]; rfl) rfl (hb hby d_jdk_42_method_149_code_1) (by decide) (W := 0) (by show 2 * 0 + _ ≤ _; exact Nat.le_of_eq rfl) (by decide)
  refine Go.by st11 ?_
  show Go p e below P (T11.setTop (mkF m 4 #[.val (.ref a0_), .val (.ref a1), .val (.int (0 : Int32)), .val (.int (2 : Int32)), .val .null, .unset] []))
  refine Go.by (fun _ => XS.iloadN X11.here hx rfl (hb hby d_jdk_42_method_149_code_4) rfl) ?_
  show Go p e below P (T11.setTop (mkF m 5 #[.val (.ref a0_), .val (.ref a1), .val (.int (0 : Int32)), .val (.int (2 : Int32)), .val .null, .unset] [(.int (2 : Int32))]))
  refine Go.by (fun _ => XS.ifYes X11.here hx rfl (pc0 := 5) (pc' := 27) rfl (hb hby d_jdk_42_method_149_code_5) rfl (XT.i0_ne_t (by decide : ¬ (2 : Int32) = (0 : Int32))) (by decide) (by decide)) ?_
  show Go p e below P (T11.setTop (mkF m 27 #[.val (.ref a0_), .val (.ref a1), .val (.int (0 : Int32)), .val (.int (2 : Int32)), .val .null, .unset] []))
  obtain ⟨T12, X12, e12, st12⟩ := getS2 X11 hx hZ hown (host := "") (Or.inl (tw_5 hw)) Via.refl e11 (Scs.ext O0.2) (g := (mkF m 27 #[.val (.ref a0_), .val (.ref a1), .val (.int (0 : Int32)), .val (.int (2 : Int32)), .val .null, .unset] [])) rfl (hb hby d_jdk_42_method_149_code_27)
  refine Go.by st12 ?_
  show Go p e below P (T12.setTop (mkF m 30 #[.val (.ref a0_), .val (.ref a1), .val (.int (0 : Int32)), .val (.int (2 : Int32)), .val .null, .unset] [(.int cs)]))
  refine Go.by (fun _ => XS.ifNo X12.here hx rfl (hb hby d_jdk_42_method_149_code_30) rfl (XT.i0_eq_f hcs)) ?_
  show Go p e below P (T12.setTop (mkF m 33 #[.val (.ref a0_), .val (.ref a1), .val (.int (0 : Int32)), .val (.int (2 : Int32)), .val .null, .unset] []))
  refine Go.by (fun _ => XS.aloadN X12.here hx rfl (hb hby d_jdk_42_method_149_code_33) rfl rfl) ?_
  show Go p e below P (T12.setTop (mkF m 34 #[.val (.ref a0_), .val (.ref a1), .val (.int (0 : Int32)), .val (.int (2 : Int32)), .val .null, .unset] [(.ref a1)]))
  refine Go.by (fun _ => XS.iloadN X12.here hx rfl (hb hby d_jdk_42_method_149_code_34) rfl) ?_
  show Go p e below P (T12.setTop (mkF m 35 #[.val (.ref a0_), .val (.ref a1), .val (.int (0 : Int32)), .val (.int (2 : Int32)), .val .null, .unset] [(.int (0 : Int32)), (.ref a1)]))
  refine Go.by (fun _ => XS.iloadN X12.here hx rfl (hb hby d_jdk_42_method_149_code_35) rfl) ?_
  show Go p e below P (T12.setTop (mkF m 36 #[.val (.ref a0_), .val (.ref a1), .val (.int (0 : Int32)), .val (.int (2 : Int32)), .val .null, .unset] [(.int (2 : Int32)), (.int (0 : Int32)), (.ref a1)]))
  obtain ⟨_, _, ⟨T13, L13, k13, n13⟩, -, X13, ⟨Lc13, hQ13, l13, y13, z13⟩, st13⟩ := Jvm.LawKit.callS X12 hx (y := (⟨"java/lang/StringUTF16", "compress", "([CII)[B"⟩ : MethodName)) hown (mvT hZ (tw_109 hw)) (mvT hZ (tw_110 hw)) (mvT hZ (tw_111 hw)) (mvT hZ (tw_112 hw)) (by decide) (backOf (W := 0) (rm_cmp3_2 l Z a0 hw [] a1 k1 x0 x1 h0 n0 Z0 V1 hx0a hx0b hx1a hx1b) hZ (tw_112 hw) (tw_111 hw) (by decide) (by decide)) (g := (mkF m 36 #[.val (.ref a0_), .val (.ref a1), .val (.int (0 : Int32)), .val (.int (2 : Int32)), .val .null, .unset] [(.int (2 : Int32)), (.int (0 : Int32)), (.ref a1)])) rfl (by rw [hml]; rfl) (argsL := [(.ref a1), (.int (0 : Int32)), (.int (2 : Int32))]) (rest := []) (lenOf pd___CII__B rfl) rfl (by show 2 * 0 + _ ≤ _; exact Nat.le_of_eq rfl) (hb hby d_jdk_42_method_149_code_36) (fun _ _ => ⟨rfl, e12, (by decide : 0 + 1 ≤ _), (by decide : 0 + 2 ≤ _)⟩)
  dsimp only [Pt.U, Pt.locs, Pt.cells, Pt.slots] at X13 l13 y13 z13 st13 hQ13
  subst l13 y13 z13
  obtain ⟨d13, kd13, rfl, N13q, K13, z13, V13⟩ := hQ13
  have N13 := Fr.app N0 N13q
  refine Go.by (fun t k => st13 t k) ?_
  have f13_0 : n0 ≤ T13.heap.size := (Nat.le_trans Z0 K13.1)
  have f13_1 : Keep h0 T13.heap [a0_] := (Keep.trans (Keep.refl h0 [a0_]) K13 all0)
  have f13_2 : Old Z n0 T13.heap := (Old.keep O0 K13 all0)
  have f13_3 : Exa Z T13.heap a0_ "java/lang/String" := (Exa.keep E0 K13)
  have f13_4 : Fld Z T13.heap a0_ "java/lang/String" "coder" "B" (.int (0 : Int32)) := (Fld.keep F0c K13 nin0)
  have f13_5 : Fld Z T13.heap a0_ "java/lang/String" "value" "[B" .null := (Fld.keep F0v K13 nin0)
  have f13_6 : Arv Z T13.heap a1 k1 .char (2 : Int32) [(.int x0), (.int x1)] (.int (0 : Int32)) := (Arv.keep V1 K13 nin0)
  have g_d13 : n0 ≤ d13 := Nat.le_trans Z0 z13
  have sz_d13 : h0.size ≤ d13 := z13
  have ne0d13 : a0_ ≠ d13 := Nat.ne_of_lt (Nat.lt_of_lt_of_le E0.lt z13)
  show Go p e below P (T13.setTop (mkF m 39 #[.val (.ref a0_), .val (.ref a1), .val (.int (0 : Int32)), .val (.int (2 : Int32)), .val .null, .unset] [(.ref d13)]))
  refine Go.by (fun _ => XS.astore X13.here hx rfl (hb hby d_jdk_42_method_149_code_39) rfl rfl (l' := #[.val (.ref a0_), .val (.ref a1), .val (.int (0 : Int32)), .val (.int (2 : Int32)), .val .null, .val (.ref d13)]) rfl) ?_
  show Go p e below P (T13.setTop (mkF m 41 #[.val (.ref a0_), .val (.ref a1), .val (.int (0 : Int32)), .val (.int (2 : Int32)), .val .null, .val (.ref d13)] []))
  refine Go.by (fun _ => XS.aloadN X13.here hx rfl (hb hby d_jdk_42_method_149_code_41) rfl rfl) ?_
  show Go p e below P (T13.setTop (mkF m 42 #[.val (.ref a0_), .val (.ref a1), .val (.int (0 : Int32)), .val (.int (2 : Int32)), .val .null, .val (.ref d13)] [(.ref a0_)]))
  refine Go.by (fun _ => XS.aload X13.here hx rfl (hb hby d_jdk_42_method_149_code_42) rfl rfl) ?_
  show Go p e below P (T13.setTop (mkF m 44 #[.val (.ref a0_), .val (.ref a1), .val (.int (0 : Int32)), .val (.int (2 : Int32)), .val .null, .val (.ref d13)] [(.ref d13), (.ref a0_)]))
  refine Go.by (fun _ => XS.iloadN X13.here hx rfl (hb hby d_jdk_42_method_149_code_44) rfl) ?_
  show Go p e below P (T13.setTop (mkF m 45 #[.val (.ref a0_), .val (.ref a1), .val (.int (0 : Int32)), .val (.int (2 : Int32)), .val .null, .val (.ref d13)] [(.int (2 : Int32)), (.ref d13), (.ref a0_)]))
  obtain ⟨_, _, ⟨T14, L14, k14, n14⟩, -, X14, ⟨Lc14, hQ14, l14, y14, z14⟩, st14⟩ := Jvm.LawKit.callS X13 hx (y := (⟨"java/lang/StringUTF16", "coderFromArrayLen", "([BI)B"⟩ : MethodName)) hown (mvT hZ (tw_116 hw)) (mvT hZ (tw_117 hw)) (mvT hZ (tw_111 hw)) (mvT hZ (tw_118 hw)) (by decide) (backOf (W := 1) (rm_cfal_2 l Z a0 hw [] d13 kd13 x0 x1 T13.heap n0 f13_0 V13) hZ (tw_118 hw) (tw_111 hw) (by decide) (by decide)) (g := (mkF m 45 #[.val (.ref a0_), .val (.ref a1), .val (.int (0 : Int32)), .val (.int (2 : Int32)), .val .null, .val (.ref d13)] [(.int (2 : Int32)), (.ref d13), (.ref a0_)])) rfl (by rw [hml]; rfl) (argsL := [(.ref d13), (.int (2 : Int32))]) (rest := [(.ref a0_)]) (lenOf pd___BI_B rfl) rfl (by show 2 * 0 + _ ≤ _; exact Nat.le_of_eq rfl) (hb hby d_jdk_42_method_149_code_45) (fun _ _ => ⟨rfl, rfl, (by decide : 1 + 0 ≤ _), (by decide : 2 + 0 ≤ _)⟩)
  dsimp only [Pt.U, Pt.locs, Pt.cells, Pt.slots] at X14 l14 y14 z14 st14 hQ14
  subst l14 y14 z14
  obtain ⟨rfl, N14q, q14⟩ := hQ14
  have N14 := Fr.app N13 N14q
  refine Go.by (fun t k => st14 t k) ?_
  show Go p e below P (T14.setTop (mkF m 48 #[.val (.ref a0_), .val (.ref a1), .val (.int (0 : Int32)), .val (.int (2 : Int32)), .val .null, .val (.ref d13)] [(.int (0 : Int32)), (.ref a0_)]))
  obtain ⟨T15, h15, X15, e15, W15, st15⟩ := putFN X14 hx hZ hown (tw_25 hw) Via.refl q14 f13_4 f13_3 (Or.inr ⟨(tw_26 hw), rfl, hnm⟩) (tw_11 hw) (ty := .byte) (v' := (.int (0 : Int32))) (by decide) rfl rfl (g := (mkF m 48 #[.val (.ref a0_), .val (.ref a1), .val (.int (0 : Int32)), .val (.int (2 : Int32)), .val .null, .val (.ref d13)] [(.int (0 : Int32)), (.ref a0_)])) rfl rfl (hb hby d_jdk_42_method_149_code_48)
  refine Go.by st15 ?_
  have N15 := Fr.snoc X15 N14 g_a0_
  have f15_0 : n0 ≤ h15.size := (Nat.le_trans f13_0 (Keep.of_wr W15).1)
  have f15_1 : Keep h0 h15 [a0_] := (Keep.wr f13_1 W15 (Or.inl (List.mem_of_getElem? (i := 0) rfl)))
  have f15_2 : Old Z n0 h15 := (Old.wr f13_2 W15 g_a0_)
  have f15_3 : Exa Z h15 a0_ "java/lang/String" := (Exa.wr W15 f13_3)
  have f15_4 : Fld Z h15 a0_ "java/lang/String" "coder" "B" (.int (0 : Int32)) := (Fld.same W15 f13_4)
  have f15_5 : Fld Z h15 a0_ "java/lang/String" "value" "[B" .null := (Fld.other W15 f13_5 (Or.inr (slot_ne (Or.inr (tw_24 hw)) (Or.inr (tw_26 hw)) (by decide) (t := (.array .byte)) (t' := .byte) (by decide) (by decide))))
  have f15_6 : Arv Z h15 a1 k1 .char (2 : Int32) [(.int x0), (.int x1)] (.int (0 : Int32)) := (Arv.other f13_6 W15 (Ne.symm ne01))
  have f15_7 : Arv Z h15 d13 kd13 .byte (2 : Int32) [(.int (x0.toInt8.toInt32)), (.int (x1.toInt8.toInt32))] (.int (0 : Int32)) := (Arv.other V13 W15 (Ne.symm ne0d13))
  show Go p e below P (T15.setTop (mkF m 51 #[.val (.ref a0_), .val (.ref a1), .val (.int (0 : Int32)), .val (.int (2 : Int32)), .val .null, .val (.ref d13)] []))
  refine Go.by (fun _ => XS.aloadN X15.here hx rfl (hb hby d_jdk_42_method_149_code_51) rfl rfl) ?_
  show Go p e below P (T15.setTop (mkF m 52 #[.val (.ref a0_), .val (.ref a1), .val (.int (0 : Int32)), .val (.int (2 : Int32)), .val .null, .val (.ref d13)] [(.ref a0_)]))
  refine Go.by (fun _ => XS.aload X15.here hx rfl (hb hby d_jdk_42_method_149_code_52) rfl rfl) ?_
  show Go p e below P (T15.setTop (mkF m 54 #[.val (.ref a0_), .val (.ref a1), .val (.int (0 : Int32)), .val (.int (2 : Int32)), .val .null, .val (.ref d13)] [(.ref d13), (.ref a0_)]))
  obtain ⟨T16, h16, X16, e16, W16, st16⟩ := putF X15 hx hZ hown (host := "") (Or.inl (tw_23 hw)) Via.refl e15 f15_5 f15_3 (Or.inr ⟨(tw_24 hw), rfl, hnm⟩) (tw_11 hw) (ty := (.array .byte)) (by decide) rfl rfl (g := (mkF m 54 #[.val (.ref a0_), .val (.ref a1), .val (.int (0 : Int32)), .val (.int (2 : Int32)), .val .null, .val (.ref d13)] [(.ref d13), (.ref a0_)])) rfl rfl (hb hby d_jdk_42_method_149_code_54)
  refine Go.by st16 ?_
  have N16 := Fr.snoc X16 N15 g_a0_
  have f16_0 : n0 ≤ h16.size := (Nat.le_trans f15_0 (Keep.of_wr W16).1)
  have f16_1 : Keep h0 h16 [a0_] := (Keep.wr f15_1 W16 (Or.inl (List.mem_of_getElem? (i := 0) rfl)))
  have f16_2 : Old Z n0 h16 := (Old.wr f15_2 W16 g_a0_)
  have f16_3 : Exa Z h16 a0_ "java/lang/String" := (Exa.wr W16 f15_3)
  have f16_4 : Fld Z h16 a0_ "java/lang/String" "coder" "B" (.int (0 : Int32)) := (Fld.other W16 f15_4 (Or.inr (slot_ne (Or.inr (tw_26 hw)) (Or.inr (tw_24 hw)) (by decide) (t := .byte) (t' := (.array .byte)) (by decide) (by decide))))
  have f16_5 : Fld Z h16 a0_ "java/lang/String" "value" "[B" (.ref d13) := (Fld.same W16 f15_5)
  have f16_6 : Arv Z h16 a1 k1 .char (2 : Int32) [(.int x0), (.int x1)] (.int (0 : Int32)) := (Arv.other f15_6 W16 (Ne.symm ne01))
  have f16_7 : Arv Z h16 d13 kd13 .byte (2 : Int32) [(.int (x0.toInt8.toInt32)), (.int (x1.toInt8.toInt32))] (.int (0 : Int32)) := (Arv.other f15_7 W16 (Ne.symm ne0d13))
  show Go p e below P (T16.setTop (mkF m 57 #[.val (.ref a0_), .val (.ref a1), .val (.int (0 : Int32)), .val (.int (2 : Int32)), .val .null, .val (.ref d13)] []))
  refine fin X16 (v := none) (fun _ => rfl) (by decide) (by decide) ?_ (fun fs hr => X16.returnOut hx Bd.returns (hb hby d_jdk_42_method_149_code_57) hr)
  rw [e16]
  exact ⟨rfl, N16, f16_1, f16_4, d13, kd13, sz_d13, f16_5, f16_7⟩
def Q_si1_2 (Z : State) (a0_ : Addr) (a1 : Addr) (k1 : ClassId) (x0 : Int32) (x1 : Int32) (cs : Int32) (h0 : Heap) (n0 : Nat) (v : Option Value) (h : Heap) (L : List Loc) : Prop := v = none ∧ Fr n0 L ∧ Keep h0 h [a0_] ∧ Fld Z h a0_ "java/lang/String" "coder" "B" (.int (0 : Int32)) ∧ ∃ d k, h0.size ≤ d ∧ Fld Z h a0_ "java/lang/String" "value" "[B" (.ref d) ∧ Arv Z h d k .byte (2 : Int32) [(.int (x0.toInt8.toInt32)), (.int (x1.toInt8.toInt32))] (.int (0 : Int32))
theorem ef_si1_2 (m : MethodId) (a0_ : Addr) (a1 : Addr) (k1 : ClassId) (x0 : Int32) (x1 : Int32) (cs : Int32) : entryFrame m #[(.ref a0_), (.ref a1)] 2 = mkF m 0 #[.val (.ref a0_), .val (.ref a1)] [] := by first | (simp [entryFrame, mkF, argsToLocals, Value.category]; done) | rfl
set_option maxRecDepth 65536 in
set_option maxHeartbeats 40000000 in
theorem rm_si1_2 (l : Launch) (Z : State) (a0 : Array Value) (hw : ∀ d ∈ tables_1, d.before a0 Z = true) (ws : List Jvm.Cond) (a0_ : Addr) (a1 : Addr) (k1 : ClassId) (x0 : Int32) (x1 : Int32) (cs : Int32) (h0 : Heap) (n0 : Nat) (Z0 : n0 ≤ h0.size) (O0 : Old Z n0 h0) (Scs : Sta Z Z.heap "java/lang/String" "COMPACT_STRINGS" "Z" (.int cs)) (hcs : ¬ cs = (0 : Int32)) (E0 : Exa Z h0 a0_ "java/lang/String") (g_a0_ : n0 ≤ a0_) (F0c : Fld Z h0 a0_ "java/lang/String" "coder" "B" (.int (0 : Int32))) (F0v : Fld Z h0 a0_ "java/lang/String" "value" "[B" .null) (V1 : Arv Z h0 a1 k1 .char (2 : Int32) [(.int x0), (.int x1)] (.int (0 : Int32))) (hx0a : ¬ x0 < 0) (hx0b : ¬ (255 : Int32) < x0) (hx1a : ¬ x1 < 0) (hx1b : ¬ (255 : Int32) < x1) :
    MetFree l (⟨"java/lang/String", "<init>", "([C)V"⟩ : MethodName) (head1 (Jvm.Cond.code (⟨"java/lang/String", "<init>", "([C)V"⟩ : MethodName) jdk_42_method_3_code 2 none :: ws) ({ frames := 3, cells := 1, slots := 2, locals := 75 } : Room)) (fun a U => a = #[(.ref a0_), (.ref a1)] ∧ Z.Warmed39 U.vm ∧ U.heap = h0) (fun _ _ _ _ _ => True) (fun _ U o U' => ∃ v L, o = .returned v ∧ Q_si1_2 Z a0_ a1 k1 x0 x1 cs h0 n0 v U'.heap L ∧ FrameEnd U o U' L ({ frames := 3, cells := 1, slots := 2, locals := 75 } : Room).cells ({ frames := 3, cells := 1, slots := 2, locals := 75 } : Room).slots) := by
  refine MetFree.of_bodySF (plainFor_of_name pn_java_lang_String) hisR ?_
  intro p e s m args below meth c s₁ Bd hml0 hP hK
  obtain ⟨rfl, hZ, hh⟩ := hP
  have hx := Bd.exec
  have hby := Bd.bytes
  have hml : c.maxLocals = 2 := hml0
  have hown : s.vm.findClass "java/lang/String" = some m.cls := findClass_of_methodNamed Bd.named
  have hnm := (name_of_methodNamed Bd.named Bd.method).1
  have X0 : Stand p l e ({ frames := 3, cells := 1, slots := 2, locals := 75 } : Room) s m #[(.ref a0_), (.ref a1)] below meth c s₁ [] 0 0 := Stand.of_body Bd
  have e0 : s₁.heap = h0 := by rw [← hh, Bd.state]; rfl
  have N0 := Fr.nil n0
  have hlk : meth.locks = false := Bd.notSynchronized
  obtain ⟨P, hP⟩ : ∃ P : Outcome → State → Prop, P = PQ s (Q_si1_2 Z a0_ a1 k1 x0 x1 cs h0 n0) ({ frames := 3, cells := 1, slots := 2, locals := 75 } : Room).cells ({ frames := 3, cells := 1, slots := 2, locals := 75 } : Room).slots := ⟨_, rfl⟩
  have fin : ∀ {T : State} {locs : List Loc} {k n : Nat} {v : Option Value} {S0 : State}, Stand p l e ({ frames := 3, cells := 1, slots := 2, locals := 75 } : Room) s m #[(.ref a0_), (.ref a1)] below meth c T locs k n → (meth.sig.returnType = none → v = none) → k ≤ ({ frames := 3, cells := 1, slots := 2, locals := 75 } : Room).cells → n ≤ ({ frames := 3, cells := 1, slots := 2, locals := 75 } : Room).slots → Q_si1_2 Z a0_ a1 k1 x0 x1 cs h0 n0 v T.heap locs → (∀ fs, (∀ (f : JFrame) (acts : List Action), f.method = m → f.locked = none → f.entered = [] → (doReturn e (T.setTop f) acts v).1 = T.setFrames fs) → Steps p.tables e below S0 (T.setFrames fs)) → Go p e below P S0 := fun X hv hk hn hQ hst => hP ▸ Go.fin X hlk hv hk hn hQ hst
  suffices hgo : Go p e below P (s₁.setTop (mkF m 0 #[.val (.ref a0_), .val (.ref a1)] [])) by
    rw [hP] at hgo
    exact Go.by (fun t k => castTop (ef_si1_2 m a0_ a1 k1 x0 x1 cs) k) hgo
  have ne01 : a0_ ≠ a1 := fun q => by obtain ⟨c, Ar, -⟩ := V1; exact ne_arr E0 (tw_11 hw) Ar q
  show Go p e below P (s₁.setTop (mkF m 0 #[.val (.ref a0_), .val (.ref a1)] []))
  refine Go.by (fun _ => XS.aloadN X0.here hx rfl (hb hby d_jdk_42_method_3_code_0) rfl rfl) ?_
  show Go p e below P (s₁.setTop (mkF m 1 #[.val (.ref a0_), .val (.ref a1)] [(.ref a0_)]))
  refine Go.by (fun _ => XS.aloadN X0.here hx rfl (hb hby d_jdk_42_method_3_code_1) rfl rfl) ?_
  show Go p e below P (s₁.setTop (mkF m 2 #[.val (.ref a0_), .val (.ref a1)] [(.ref a1), (.ref a0_)]))
  refine Go.by (fun _ => XS.iconst X0.here hx rfl (hb hby d_jdk_42_method_3_code_2)) ?_
  show Go p e below P (s₁.setTop (mkF m 3 #[.val (.ref a0_), .val (.ref a1)] [(.int (0 : Int32)), (.ref a1), (.ref a0_)]))
  refine Go.by (fun _ => XS.aloadN X0.here hx rfl (hb hby d_jdk_42_method_3_code_3) rfl rfl) ?_
  show Go p e below P (s₁.setTop (mkF m 4 #[.val (.ref a0_), .val (.ref a1)] [(.ref a1), (.int (0 : Int32)), (.ref a1), (.ref a0_)]))
  have av3 := V1
  obtain ⟨cl3, Ar3, -, Sz3, Nn3, -, -⟩ := av3
  refine Go.by (X0.arraylength hx (by rw [e0]; exact Ar3.1) (State.isArrayOf_alike hZ.alike Ar3.2.1) (g := (mkF m 4 #[.val (.ref a0_), .val (.ref a1)] [(.ref a1), (.int (0 : Int32)), (.ref a1), (.ref a0_)])) rfl rfl (hb hby d_jdk_42_method_3_code_4)) ?_
  rw [len_of Sz3 Nn3]
  show Go p e below P (s₁.setTop (mkF m 5 #[.val (.ref a0_), .val (.ref a1)] [(.int (2 : Int32)), (.int (0 : Int32)), (.ref a1), (.ref a0_)]))
  refine Go.by (fun _ => XS.aconstNull X0.here hx rfl (hb hby d_jdk_42_method_3_code_5)) ?_
  show Go p e below P (s₁.setTop (mkF m 6 #[.val (.ref a0_), .val (.ref a1)] [.null, (.int (2 : Int32)), (.int (0 : Int32)), (.ref a1), (.ref a0_)]))
  obtain ⟨_, _, ⟨T4, L4, k4, n4⟩, -, X4, ⟨Lc4, hQ4, l4, y4, z4⟩, st4⟩ := X0.specialBack hx (y := (⟨"java/lang/String", "<init>", "([CIILjava/lang/Void;)V"⟩ : MethodName)) rfl hown (mvT hZ (tw_106 hw)) (mvT hZ (tw_107 hw)) (mvT hZ (tw_108 hw)) (by decide) (backOf (W := 0) (rm_si4_2 l Z a0 hw [] a0_ a1 k1 x0 x1 cs h0 n0 Z0 O0 Scs hcs E0 g_a0_ F0c F0v V1 hx0a hx0b hx1a hx1b) hZ (tw_108 hw) (tw_3 hw) (by decide) (by decide)) (g := (mkF m 6 #[.val (.ref a0_), .val (.ref a1)] [.null, (.int (2 : Int32)), (.int (0 : Int32)), (.ref a1), (.ref a0_)])) rfl (by rw [hml]; rfl) (Steps.refl _) (a := a0_) (argsL := [(.ref a1), (.int (0 : Int32)), (.int (2 : Int32)), .null]) (rest := []) (lenOf pd___CIILjava_lang_Void__V rfl) rfl (by show 2 * 0 + _ ≤ _; exact Nat.le_of_eq rfl) (hb hby d_jdk_42_method_3_code_6) (fun _ _ => ⟨rfl, e0, (by decide : 0 + 1 ≤ _), (by decide : 0 + 2 ≤ _)⟩)
  dsimp only [Pt.U, Pt.locs, Pt.cells, Pt.slots] at X4 l4 y4 z4 st4 hQ4
  subst l4 y4 z4
  obtain ⟨rfl, N4q, K4, Gc4, d4, kd4, z4, Gv4, V4⟩ := hQ4
  have N4 := Fr.app N0 N4q
  refine Go.by (fun t k => st4.trans k) ?_
  have f4_0 : n0 ≤ T4.heap.size := (Nat.le_trans Z0 K4.1)
  have f4_1 : Keep h0 T4.heap [a0_] := (Keep.trans (Keep.refl h0 [a0_]) K4 (allS (Or.inl (List.mem_of_getElem? (i := 0) rfl)) all0))
  have f4_2 : Old Z n0 T4.heap := (Old.keep O0 K4 (allS g_a0_ all0))
  have f4_3 : Exa Z T4.heap a0_ "java/lang/String" := (Exa.keep E0 K4)
  have f4_4 : Arv Z T4.heap a1 k1 .char (2 : Int32) [(.int x0), (.int x1)] (.int (0 : Int32)) := (Arv.keep V1 K4 (ninS (Ne.symm ne01) nin0))
  show Go p e below P (T4.setTop (mkF m 9 #[.val (.ref a0_), .val (.ref a1)] []))
  refine fin X4 (v := none) (fun _ => rfl) (by decide) (by decide) ?_ (fun fs hr => X4.returnOut hx Bd.returns (hb hby d_jdk_42_method_3_code_9) hr)
  exact ⟨rfl, N4, f4_1, Gc4, d4, kd4, z4, Gv4, V4⟩
def Q_canEncC (Z : State) (x0 : Int32) (h0 : Heap) (n0 : Nat) (v : Option Value) (h : Heap) (L : List Loc) : Prop := v = some (.int (1 : Int32)) ∧ Fr n0 L ∧ h = h0
theorem ef_canEncC (m : MethodId) (x0 : Int32) : entryFrame m #[(.int x0)] 1 = mkF m 0 #[.val (.int x0)] [] := by first | (simp [entryFrame, mkF, argsToLocals, Value.category]; done) | rfl
set_option maxRecDepth 65536 in
set_option maxHeartbeats 40000000 in
theorem rm_canEncC (l : Launch) (Z : State) (a0 : Array Value) (hw : ∀ d ∈ tables_1, d.before a0 Z = true) (ws : List Jvm.Cond) (x0 : Int32) (h0 : Heap) (n0 : Nat) (Z0 : n0 ≤ h0.size) (hxb : ¬ (255 : Int32) < x0) :
    MetFree l (⟨"java/lang/StringLatin1", "canEncode", "(C)Z"⟩ : MethodName) (head1 (Jvm.Cond.code (⟨"java/lang/StringLatin1", "canEncode", "(C)Z"⟩ : MethodName) jdk_43_method_3_code 1 (some .boolean) :: ws) ({ frames := 0, cells := 0, slots := 0, locals := 0 } : Room)) (fun a U => a = #[(.int x0)] ∧ Z.Warmed39 U.vm ∧ U.heap = h0) (fun _ _ _ _ _ => True) (fun _ U o U' => ∃ v L, o = .returned v ∧ Q_canEncC Z x0 h0 n0 v U'.heap L ∧ FrameEnd U o U' L ({ frames := 0, cells := 0, slots := 0, locals := 0 } : Room).cells ({ frames := 0, cells := 0, slots := 0, locals := 0 } : Room).slots) := by
  refine MetFree.of_bodySF (plainFor_of_name pn_java_lang_StringLatin1) hisR ?_
  intro p e s m args below meth c s₁ Bd hml0 hP hK
  obtain ⟨rfl, hZ, hh⟩ := hP
  have hx := Bd.exec
  have hby := Bd.bytes
  have hml : c.maxLocals = 1 := hml0
  have hown : s.vm.findClass "java/lang/StringLatin1" = some m.cls := findClass_of_methodNamed Bd.named
  have hnm := (name_of_methodNamed Bd.named Bd.method).1
  have X0 : Stand p l e ({ frames := 0, cells := 0, slots := 0, locals := 0 } : Room) s m #[(.int x0)] below meth c s₁ [] 0 0 := Stand.of_body Bd
  have e0 : s₁.heap = h0 := by rw [← hh, Bd.state]; rfl
  have N0 := Fr.nil n0
  have hlk : meth.locks = false := Bd.notSynchronized
  obtain ⟨P, hP⟩ : ∃ P : Outcome → State → Prop, P = PQ s (Q_canEncC Z x0 h0 n0) ({ frames := 0, cells := 0, slots := 0, locals := 0 } : Room).cells ({ frames := 0, cells := 0, slots := 0, locals := 0 } : Room).slots := ⟨_, rfl⟩
  have fin : ∀ {T : State} {locs : List Loc} {k n : Nat} {v : Option Value} {S0 : State}, Stand p l e ({ frames := 0, cells := 0, slots := 0, locals := 0 } : Room) s m #[(.int x0)] below meth c T locs k n → (meth.sig.returnType = none → v = none) → k ≤ ({ frames := 0, cells := 0, slots := 0, locals := 0 } : Room).cells → n ≤ ({ frames := 0, cells := 0, slots := 0, locals := 0 } : Room).slots → Q_canEncC Z x0 h0 n0 v T.heap locs → (∀ fs, (∀ (f : JFrame) (acts : List Action), f.method = m → f.locked = none → f.entered = [] → (doReturn e (T.setTop f) acts v).1 = T.setFrames fs) → Steps p.tables e below S0 (T.setFrames fs)) → Go p e below P S0 := fun X hv hk hn hQ hst => hP ▸ Go.fin X hlk hv hk hn hQ hst
  suffices hgo : Go p e below P (s₁.setTop (mkF m 0 #[.val (.int x0)] [])) by
    rw [hP] at hgo
    exact Go.by (fun t k => castTop (ef_canEncC m x0) k) hgo
  show Go p e below P (s₁.setTop (mkF m 0 #[.val (.int x0)] []))
  refine Go.by (fun _ => XS.iloadN X0.here hx rfl (hb hby d_jdk_43_method_3_code_0) rfl) ?_
  show Go p e below P (s₁.setTop (mkF m 1 #[.val (.int x0)] [(.int x0)]))
  refine Go.by (fun _ => XS.sipush X0.here hx rfl (hb hby d_jdk_43_method_3_code_1)) ?_
  show Go p e below P (s₁.setTop (mkF m 4 #[.val (.int x0)] [(.int (255 : Int32)), (.int x0)]))
  refine Go.by (fun _ => XS.icmpNo X0.here hx rfl (hb hby d_jdk_43_method_3_code_4) rfl (XT.ii_gt_f hxb)) ?_
  show Go p e below P (s₁.setTop (mkF m 7 #[.val (.int x0)] []))
  refine Go.by (fun _ => XS.iconst X0.here hx rfl (hb hby d_jdk_43_method_3_code_7)) ?_
  show Go p e below P (s₁.setTop (mkF m 8 #[.val (.int x0)] [(.int (1 : Int32))]))
  refine Go.by (fun _ => XS.goto X0.here hx rfl (pc0 := 8) (pc' := 12) rfl (hb hby d_jdk_43_method_3_code_8) (by decide) (by decide)) ?_
  show Go p e below P (s₁.setTop (mkF m 12 #[.val (.int x0)] [(.int (1 : Int32))]))
  refine fin X0 (v := some (.int (1 : Int32))) (fun h => by rw [Bd.returns] at h; cases h) (by decide) (by decide) ?_ (fun fs hr => retOut X0 hx Bd.returns rfl (Or.inl ⟨rfl, Or.inr (Or.inl rfl), _, rfl⟩) (hb hby d_jdk_43_method_3_code_12) hr)
  rw [e0]
  exact ⟨rfl, N0, rfl⟩
def Q_toBytes (Z : State) (x0 : Int32) (h0 : Heap) (n0 : Nat) (v : Option Value) (h : Heap) (L : List Loc) : Prop := ∃ d k, v = some (.ref d) ∧ Fr n0 L ∧ Keep h0 h [] ∧ h0.size ≤ d ∧ Arv Z h d k .byte (1 : Int32) [(.int (x0.toInt8.toInt32))] (.int (0 : Int32))
theorem ef_toBytes (m : MethodId) (x0 : Int32) : entryFrame m #[(.int x0)] 1 = mkF m 0 #[.val (.int x0)] [] := by first | (simp [entryFrame, mkF, argsToLocals, Value.category]; done) | rfl
set_option maxRecDepth 65536 in
set_option maxHeartbeats 40000000 in
theorem rm_toBytes (l : Launch) (Z : State) (a0 : Array Value) (hw : ∀ d ∈ tables_1, d.before a0 Z = true) (ws : List Jvm.Cond) (x0 : Int32) (h0 : Heap) (n0 : Nat) (Z0 : n0 ≤ h0.size) :
    MetFree l (⟨"java/lang/StringLatin1", "toBytes", "(C)[B"⟩ : MethodName) (head1 (Jvm.Cond.code (⟨"java/lang/StringLatin1", "toBytes", "(C)[B"⟩ : MethodName) jdk_43_method_46_code 1 (some (.array .byte)) :: ws) ({ frames := 0, cells := 1, slots := 1, locals := 0 } : Room)) (fun a U => a = #[(.int x0)] ∧ Z.Warmed39 U.vm ∧ U.heap = h0) (fun _ _ _ _ _ => True) (fun _ U o U' => ∃ v L, o = .returned v ∧ Q_toBytes Z x0 h0 n0 v U'.heap L ∧ FrameEnd U o U' L ({ frames := 0, cells := 1, slots := 1, locals := 0 } : Room).cells ({ frames := 0, cells := 1, slots := 1, locals := 0 } : Room).slots) := by
  refine MetFree.of_bodySF (plainFor_of_name pn_java_lang_StringLatin1) hisR ?_
  intro p e s m args below meth c s₁ Bd hml0 hP hK
  obtain ⟨rfl, hZ, hh⟩ := hP
  have hx := Bd.exec
  have hby := Bd.bytes
  have hml : c.maxLocals = 1 := hml0
  have hown : s.vm.findClass "java/lang/StringLatin1" = some m.cls := findClass_of_methodNamed Bd.named
  have hnm := (name_of_methodNamed Bd.named Bd.method).1
  have X0 : Stand p l e ({ frames := 0, cells := 1, slots := 1, locals := 0 } : Room) s m #[(.int x0)] below meth c s₁ [] 0 0 := Stand.of_body Bd
  have e0 : s₁.heap = h0 := by rw [← hh, Bd.state]; rfl
  have N0 := Fr.nil n0
  have hlk : meth.locks = false := Bd.notSynchronized
  obtain ⟨P, hP⟩ : ∃ P : Outcome → State → Prop, P = PQ s (Q_toBytes Z x0 h0 n0) ({ frames := 0, cells := 1, slots := 1, locals := 0 } : Room).cells ({ frames := 0, cells := 1, slots := 1, locals := 0 } : Room).slots := ⟨_, rfl⟩
  have fin : ∀ {T : State} {locs : List Loc} {k n : Nat} {v : Option Value} {S0 : State}, Stand p l e ({ frames := 0, cells := 1, slots := 1, locals := 0 } : Room) s m #[(.int x0)] below meth c T locs k n → (meth.sig.returnType = none → v = none) → k ≤ ({ frames := 0, cells := 1, slots := 1, locals := 0 } : Room).cells → n ≤ ({ frames := 0, cells := 1, slots := 1, locals := 0 } : Room).slots → Q_toBytes Z x0 h0 n0 v T.heap locs → (∀ fs, (∀ (f : JFrame) (acts : List Action), f.method = m → f.locked = none → f.entered = [] → (doReturn e (T.setTop f) acts v).1 = T.setFrames fs) → Steps p.tables e below S0 (T.setFrames fs)) → Go p e below P S0 := fun X hv hk hn hQ hst => hP ▸ Go.fin X hlk hv hk hn hQ hst
  suffices hgo : Go p e below P (s₁.setTop (mkF m 0 #[.val (.int x0)] [])) by
    rw [hP] at hgo
    exact Go.by (fun t k => castTop (ef_toBytes m x0) k) hgo
  show Go p e below P (s₁.setTop (mkF m 0 #[.val (.int x0)] []))
  refine Go.by (fun _ => XS.iconst X0.here hx rfl (hb hby d_jdk_43_method_46_code_0)) ?_
  show Go p e below P (s₁.setTop (mkF m 1 #[.val (.int x0)] [(.int (1 : Int32))]))
  obtain ⟨T11, h11, k11, X11, e11, E11, A11, st11⟩ := newP X0 hx hZ (aty := .byte) (tw_15 hw) e0 (g := (mkF m 1 #[.val (.int x0)] [(.int (1 : Int32))])) rfl (hb hby d_jdk_43_method_46_code_1) rfl (by decide) (cap := 1) (by decide) (by decide) (by decide) (by decide)
  obtain ⟨b11, g11⟩ : ∃ z, z = h0.size := ⟨_, rfl⟩
  rw [← g11] at A11 st11
  have g_b11 : n0 ≤ b11 := Nat.le_trans Z0 (Nat.le_of_eq g11.symm)
  have sz_b11 : h0.size ≤ b11 := Nat.le_trans (Keep.refl h0 []).1 (Nat.le_of_eq g11.symm)
  have f11_0 : n0 ≤ h11.size := (Nat.le_trans Z0 E11.1)
  have f11_1 : Keep h0 h11 [] := (Keep.ext (Keep.refl h0 []) E11)
  refine Go.by st11 ?_
  have V11 : Arv Z h11 b11 k11 .byte (1 : Int32) [(.int (0 : Int32))] (.int (0 : Int32)) := (Arv.new A11 (by decide)).pad (pad_rep [] (.int (0 : Int32)) 1)
  show Go p e below P (T11.setTop (mkF m 3 #[.val (.int x0)] [(.ref b11)]))
  refine Go.by (fun _ => XS.dup X11.here hx rfl (hb hby d_jdk_43_method_46_code_3) rfl rfl) ?_
  show Go p e below P (T11.setTop (mkF m 4 #[.val (.int x0)] [(.ref b11), (.ref b11)]))
  refine Go.by (fun _ => XS.iconst X11.here hx rfl (hb hby d_jdk_43_method_46_code_4)) ?_
  show Go p e below P (T11.setTop (mkF m 5 #[.val (.int x0)] [(.int (0 : Int32)), (.ref b11), (.ref b11)]))
  refine Go.by (fun _ => XS.iloadN X11.here hx rfl (hb hby d_jdk_43_method_46_code_5) rfl) ?_
  show Go p e below P (T11.setTop (mkF m 6 #[.val (.int x0)] [(.int x0), (.int (0 : Int32)), (.ref b11), (.ref b11)]))
  refine Go.by (fun _ => XS.i2b X11.here hx rfl (hb hby d_jdk_43_method_46_code_6) rfl) ?_
  show Go p e below P (T11.setTop (mkF m 7 #[.val (.int x0)] [(.int (x0.toInt8.toInt32)), (.int (0 : Int32)), (.ref b11), (.ref b11)]))
  have av12 := V11
  obtain ⟨cl12, Ar12, q12, Sz12, Nn12, Ha12, Gf12⟩ := av12
  have hin12 : ¬ ((0 : Int32) < 0 ∨ cl12.slots.size ≤ ((0 : Int32)).toNatClampNeg) := inb_of Sz12 ⟨by decide, by decide⟩
  obtain ⟨T13, h13, X13, e13, W13, st13⟩ := stB X11 hx hZ e11 Ar12 (j := (0 : Int32)) hin12 (g := (mkF m 7 #[.val (.int x0)] [(.int (x0.toInt8.toInt32)), (.int (0 : Int32)), (.ref b11), (.ref b11)])) rfl rfl (hb hby d_jdk_43_method_46_code_7)
  have W13' : Wr h11 h13 b11 ((0 : Int32)).toNatClampNeg (.int (x0.toInt8.toInt32)) := (by have q : Wr h11 h13 b11 ((0 : Int32)).toNatClampNeg (.int ((x0.toInt8.toInt32)).toInt8.toInt32) := W13; rw [own_bb] at q; exact q)
  have V13 : Arv Z h13 b11 k11 .byte (1 : Int32) [(.int (x0.toInt8.toInt32))] (.int (0 : Int32)) := Arv.set Ar12 q12 Sz12 Nn12 Ha12 Gf12 (fits_nar_byte _) W13' 0 rfl (Nat.le_of_ble_eq_true rfl)
  have N13 := Fr.snoc X13 N0 g_b11
  have f13_0 : n0 ≤ h13.size := (Nat.le_trans f11_0 (Keep.of_wr W13).1)
  have f13_1 : Keep h0 h13 [] := (Keep.wr f11_1 W13 (Or.inr sz_b11))
  refine Go.by st13 ?_
  show Go p e below P (T13.setTop (mkF m 8 #[.val (.int x0)] [(.ref b11)]))
  refine fin X13 (v := some (.ref b11)) (fun h => by rw [Bd.returns] at h; cases h) (by decide) (by decide) ?_ (fun fs hr => retOut X13 hx Bd.returns rfl (Or.inr (Or.inr (Or.inr (Or.inr ⟨rfl, rfl, rfl⟩)))) (hb hby d_jdk_43_method_46_code_8) hr)
  rw [e13]
  exact ⟨b11, k11, rfl, N13, f13_1, sz_b11, V13⟩
def Q_siBB (Z : State) (a0_ : Addr) (a1 : Addr) (h0 : Heap) (n0 : Nat) (v : Option Value) (h : Heap) (L : List Loc) : Prop := v = none ∧ Fr n0 L ∧ Keep h0 h [a0_] ∧ Fld Z h a0_ "java/lang/String" "coder" "B" (.int (0 : Int32)) ∧ Fld Z h a0_ "java/lang/String" "value" "[B" (.ref a1)
theorem ef_siBB (m : MethodId) (a0_ : Addr) (a1 : Addr) : entryFrame m #[(.ref a0_), (.ref a1), (.int (0 : Int32))] 3 = mkF m 0 #[.val (.ref a0_), .val (.ref a1), .val (.int (0 : Int32))] [] := by first | (simp [entryFrame, mkF, argsToLocals, Value.category]; done) | rfl
set_option maxRecDepth 65536 in
set_option maxHeartbeats 40000000 in
theorem rm_siBB (l : Launch) (Z : State) (a0 : Array Value) (hw : ∀ d ∈ tables_1, d.before a0 Z = true) (ws : List Jvm.Cond) (a0_ : Addr) (a1 : Addr) (h0 : Heap) (n0 : Nat) (Z0 : n0 ≤ h0.size) (E0 : Exa Z h0 a0_ "java/lang/String") (g_a0_ : n0 ≤ a0_) (F0_coder : Fld Z h0 a0_ "java/lang/String" "coder" "B" (.int (0 : Int32))) (F0_value : Fld Z h0 a0_ "java/lang/String" "value" "[B" .null) :
    MetFree l (⟨"java/lang/String", "<init>", "([BB)V"⟩ : MethodName) (head1 (Jvm.Cond.code (⟨"java/lang/String", "<init>", "([BB)V"⟩ : MethodName) jdk_42_method_151_code 3 none :: ws) ({ frames := 1, cells := 0, slots := 0, locals := 12 } : Room)) (fun a U => a = #[(.ref a0_), (.ref a1), (.int (0 : Int32))] ∧ Z.Warmed39 U.vm ∧ U.heap = h0) (fun _ _ _ _ _ => True) (fun _ U o U' => ∃ v L, o = .returned v ∧ Q_siBB Z a0_ a1 h0 n0 v U'.heap L ∧ FrameEnd U o U' L ({ frames := 1, cells := 0, slots := 0, locals := 12 } : Room).cells ({ frames := 1, cells := 0, slots := 0, locals := 12 } : Room).slots) := by
  refine MetFree.of_bodySF (plainFor_of_name pn_java_lang_String) hisR ?_
  intro p e s m args below meth c s₁ Bd hml0 hP hK
  obtain ⟨rfl, hZ, hh⟩ := hP
  have hx := Bd.exec
  have hby := Bd.bytes
  have hml : c.maxLocals = 3 := hml0
  have hown : s.vm.findClass "java/lang/String" = some m.cls := findClass_of_methodNamed Bd.named
  have hnm := (name_of_methodNamed Bd.named Bd.method).1
  have X0 : Stand p l e ({ frames := 1, cells := 0, slots := 0, locals := 12 } : Room) s m #[(.ref a0_), (.ref a1), (.int (0 : Int32))] below meth c s₁ [] 0 0 := Stand.of_body Bd
  have e0 : s₁.heap = h0 := by rw [← hh, Bd.state]; rfl
  have N0 := Fr.nil n0
  have hlk : meth.locks = false := Bd.notSynchronized
  obtain ⟨P, hP⟩ : ∃ P : Outcome → State → Prop, P = PQ s (Q_siBB Z a0_ a1 h0 n0) ({ frames := 1, cells := 0, slots := 0, locals := 12 } : Room).cells ({ frames := 1, cells := 0, slots := 0, locals := 12 } : Room).slots := ⟨_, rfl⟩
  have fin : ∀ {T : State} {locs : List Loc} {k n : Nat} {v : Option Value} {S0 : State}, Stand p l e ({ frames := 1, cells := 0, slots := 0, locals := 12 } : Room) s m #[(.ref a0_), (.ref a1), (.int (0 : Int32))] below meth c T locs k n → (meth.sig.returnType = none → v = none) → k ≤ ({ frames := 1, cells := 0, slots := 0, locals := 12 } : Room).cells → n ≤ ({ frames := 1, cells := 0, slots := 0, locals := 12 } : Room).slots → Q_siBB Z a0_ a1 h0 n0 v T.heap locs → (∀ fs, (∀ (f : JFrame) (acts : List Action), f.method = m → f.locked = none → f.entered = [] → (doReturn e (T.setTop f) acts v).1 = T.setFrames fs) → Steps p.tables e below S0 (T.setFrames fs)) → Go p e below P S0 := fun X hv hk hn hQ hst => hP ▸ Go.fin X hlk hv hk hn hQ hst
  suffices hgo : Go p e below P (s₁.setTop (mkF m 0 #[.val (.ref a0_), .val (.ref a1), .val (.int (0 : Int32))] [])) by
    rw [hP] at hgo
    exact Go.by (fun t k => castTop (ef_siBB m a0_ a1) k) hgo
  show Go p e below P (s₁.setTop (mkF m 0 #[.val (.ref a0_), .val (.ref a1), .val (.int (0 : Int32))] []))
  refine Go.by (fun _ => XS.aloadN X0.here hx rfl (hb hby d_jdk_42_method_151_code_0) rfl rfl) ?_
  show Go p e below P (s₁.setTop (mkF m 1 #[.val (.ref a0_), .val (.ref a1), .val (.int (0 : Int32))] [(.ref a0_)]))
  obtain ⟨T11, X11, e11, st11⟩ := initO X0 hx hZ hown (tw_20 hw) (tw_21 hw) (tw_22 hw) e0 (g := (mkF m 1 #[.val (.ref a0_), .val (.ref a1), .val (.int (0 : Int32))] [(.ref a0_)])) rfl (by rw [hml]; rfl) rfl (hb hby d_jdk_42_method_151_code_1) (by decide) (W := 0) (by show 2 * 0 + _ ≤ _; exact Nat.le_of_eq rfl) (by decide)
  refine Go.by st11 ?_
  show Go p e below P (T11.setTop (mkF m 4 #[.val (.ref a0_), .val (.ref a1), .val (.int (0 : Int32))] []))
  refine Go.by (fun _ => XS.aloadN X11.here hx rfl (hb hby d_jdk_42_method_151_code_4) rfl rfl) ?_
  show Go p e below P (T11.setTop (mkF m 5 #[.val (.ref a0_), .val (.ref a1), .val (.int (0 : Int32))] [(.ref a0_)]))
  refine Go.by (fun _ => XS.aloadN X11.here hx rfl (hb hby d_jdk_42_method_151_code_5) rfl rfl) ?_
  show Go p e below P (T11.setTop (mkF m 6 #[.val (.ref a0_), .val (.ref a1), .val (.int (0 : Int32))] [(.ref a1), (.ref a0_)]))
  obtain ⟨T12, h12, X12, e12, W12, st12⟩ := putF X11 hx hZ hown (host := "") (Or.inl (tw_23 hw)) Via.refl e11 F0_value E0 (Or.inr ⟨(tw_24 hw), rfl, hnm⟩) (tw_11 hw) (ty := (.array .byte)) (by decide) rfl rfl (g := (mkF m 6 #[.val (.ref a0_), .val (.ref a1), .val (.int (0 : Int32))] [(.ref a1), (.ref a0_)])) rfl rfl (hb hby d_jdk_42_method_151_code_6)
  refine Go.by st12 ?_
  have N12 := Fr.snoc X12 N0 g_a0_
  have f12_0 : n0 ≤ h12.size := (Nat.le_trans Z0 (Keep.of_wr W12).1)
  have f12_1 : Keep h0 h12 [a0_] := (Keep.wr (Keep.refl h0 [a0_]) W12 (Or.inl (List.mem_of_getElem? (i := 0) rfl)))
  have f12_2 : Exa Z h12 a0_ "java/lang/String" := (Exa.wr W12 E0)
  have f12_3 : Fld Z h12 a0_ "java/lang/String" "coder" "B" (.int (0 : Int32)) := (Fld.other W12 F0_coder (Or.inr (slot_ne (Or.inr (tw_26 hw)) (Or.inr (tw_24 hw)) (by decide) (t := .byte) (t' := (.array .byte)) (by decide) (by decide))))
  have f12_4 : Fld Z h12 a0_ "java/lang/String" "value" "[B" (.ref a1) := (Fld.same W12 F0_value)
  show Go p e below P (T12.setTop (mkF m 9 #[.val (.ref a0_), .val (.ref a1), .val (.int (0 : Int32))] []))
  refine Go.by (fun _ => XS.aloadN X12.here hx rfl (hb hby d_jdk_42_method_151_code_9) rfl rfl) ?_
  show Go p e below P (T12.setTop (mkF m 10 #[.val (.ref a0_), .val (.ref a1), .val (.int (0 : Int32))] [(.ref a0_)]))
  refine Go.by (fun _ => XS.iloadN X12.here hx rfl (hb hby d_jdk_42_method_151_code_10) rfl) ?_
  show Go p e below P (T12.setTop (mkF m 11 #[.val (.ref a0_), .val (.ref a1), .val (.int (0 : Int32))] [(.int (0 : Int32)), (.ref a0_)]))
  obtain ⟨T13, h13, X13, e13, W13, st13⟩ := putFN X12 hx hZ hown (tw_25 hw) Via.refl e12 f12_3 f12_2 (Or.inr ⟨(tw_26 hw), rfl, hnm⟩) (tw_11 hw) (ty := .byte) (v' := (.int (0 : Int32))) (by decide) rfl rfl (g := (mkF m 11 #[.val (.ref a0_), .val (.ref a1), .val (.int (0 : Int32))] [(.int (0 : Int32)), (.ref a0_)])) rfl rfl (hb hby d_jdk_42_method_151_code_11)
  refine Go.by st13 ?_
  have N13 := Fr.snoc X13 N12 g_a0_
  have f13_0 : n0 ≤ h13.size := (Nat.le_trans f12_0 (Keep.of_wr W13).1)
  have f13_1 : Keep h0 h13 [a0_] := (Keep.wr f12_1 W13 (Or.inl (List.mem_of_getElem? (i := 0) rfl)))
  have f13_2 : Exa Z h13 a0_ "java/lang/String" := (Exa.wr W13 f12_2)
  have f13_3 : Fld Z h13 a0_ "java/lang/String" "coder" "B" (.int (0 : Int32)) := (Fld.same W13 f12_3)
  have f13_4 : Fld Z h13 a0_ "java/lang/String" "value" "[B" (.ref a1) := (Fld.other W13 f12_4 (Or.inr (slot_ne (Or.inr (tw_24 hw)) (Or.inr (tw_26 hw)) (by decide) (t := (.array .byte)) (t' := .byte) (by decide) (by decide))))
  show Go p e below P (T13.setTop (mkF m 14 #[.val (.ref a0_), .val (.ref a1), .val (.int (0 : Int32))] []))
  refine fin X13 (v := none) (fun _ => rfl) (by decide) (by decide) ?_ (fun fs hr => X13.returnOut hx Bd.returns (hb hby d_jdk_42_method_151_code_14) hr)
  rw [e13]
  exact ⟨rfl, N13, f13_1, f13_3, f13_4⟩
def Q_valueOfC (Z : State) (x0 : Int32) (cs : Int32) (h0 : Heap) (n0 : Nat) (v : Option Value) (h : Heap) (L : List Loc) : Prop := ∃ b, v = some (.ref b) ∧ Fr n0 L ∧ Keep h0 h [] ∧ h0.size ≤ b ∧ StrV Z h b [(x0.toInt8.toInt32)]
theorem ef_valueOfC (m : MethodId) (x0 : Int32) (cs : Int32) : entryFrame m #[(.int x0)] 1 = mkF m 0 #[.val (.int x0)] [] := by first | (simp [entryFrame, mkF, argsToLocals, Value.category]; done) | rfl
set_option maxRecDepth 65536 in
set_option maxHeartbeats 40000000 in
theorem rm_valueOfC (l : Launch) (Z : State) (a0 : Array Value) (hw : ∀ d ∈ tables_1, d.before a0 Z = true) (ws : List Jvm.Cond) (x0 : Int32) (cs : Int32) (h0 : Heap) (n0 : Nat) (Z0 : n0 ≤ h0.size) (O0 : Old Z n0 h0) (Scs : Sta Z Z.heap "java/lang/String" "COMPACT_STRINGS" "Z" (.int cs)) (hcs : ¬ cs = (0 : Int32)) (hxb : ¬ (255 : Int32) < x0) :
    MetFree l (⟨"java/lang/String", "valueOf", "(C)Ljava/lang/String;"⟩ : MethodName) (head1 (Jvm.Cond.code (⟨"java/lang/String", "valueOf", "(C)Ljava/lang/String;"⟩ : MethodName) jdk_42_method_139_code 1 (some (.object "java/lang/String")) :: ws) ({ frames := 2, cells := 2, slots := 5, locals := 40 } : Room)) (fun a U => a = #[(.int x0)] ∧ Z.Warmed39 U.vm ∧ U.heap = h0) (fun _ _ _ _ _ => True) (fun _ U o U' => ∃ v L, o = .returned v ∧ Q_valueOfC Z x0 cs h0 n0 v U'.heap L ∧ FrameEnd U o U' L ({ frames := 2, cells := 2, slots := 5, locals := 40 } : Room).cells ({ frames := 2, cells := 2, slots := 5, locals := 40 } : Room).slots) := by
  refine MetFree.of_bodySF (plainFor_of_name pn_java_lang_String) hisR ?_
  intro p e s m args below meth c s₁ Bd hml0 hP hK
  obtain ⟨rfl, hZ, hh⟩ := hP
  have hx := Bd.exec
  have hby := Bd.bytes
  have hml : c.maxLocals = 1 := hml0
  have hown : s.vm.findClass "java/lang/String" = some m.cls := findClass_of_methodNamed Bd.named
  have hnm := (name_of_methodNamed Bd.named Bd.method).1
  have X0 : Stand p l e ({ frames := 2, cells := 2, slots := 5, locals := 40 } : Room) s m #[(.int x0)] below meth c s₁ [] 0 0 := Stand.of_body Bd
  have e0 : s₁.heap = h0 := by rw [← hh, Bd.state]; rfl
  have N0 := Fr.nil n0
  have hlk : meth.locks = false := Bd.notSynchronized
  obtain ⟨P, hP⟩ : ∃ P : Outcome → State → Prop, P = PQ s (Q_valueOfC Z x0 cs h0 n0) ({ frames := 2, cells := 2, slots := 5, locals := 40 } : Room).cells ({ frames := 2, cells := 2, slots := 5, locals := 40 } : Room).slots := ⟨_, rfl⟩
  have fin : ∀ {T : State} {locs : List Loc} {k n : Nat} {v : Option Value} {S0 : State}, Stand p l e ({ frames := 2, cells := 2, slots := 5, locals := 40 } : Room) s m #[(.int x0)] below meth c T locs k n → (meth.sig.returnType = none → v = none) → k ≤ ({ frames := 2, cells := 2, slots := 5, locals := 40 } : Room).cells → n ≤ ({ frames := 2, cells := 2, slots := 5, locals := 40 } : Room).slots → Q_valueOfC Z x0 cs h0 n0 v T.heap locs → (∀ fs, (∀ (f : JFrame) (acts : List Action), f.method = m → f.locked = none → f.entered = [] → (doReturn e (T.setTop f) acts v).1 = T.setFrames fs) → Steps p.tables e below S0 (T.setFrames fs)) → Go p e below P S0 := fun X hv hk hn hQ hst => hP ▸ Go.fin X hlk hv hk hn hQ hst
  suffices hgo : Go p e below P (s₁.setTop (mkF m 0 #[.val (.int x0)] [])) by
    rw [hP] at hgo
    exact Go.by (fun t k => castTop (ef_valueOfC m x0 cs) k) hgo
  show Go p e below P (s₁.setTop (mkF m 0 #[.val (.int x0)] []))
  obtain ⟨T11, X11, e11, st11⟩ := getS2 X0 hx hZ hown (host := "") (Or.inl (tw_5 hw)) Via.refl e0 (Scs.ext O0.2) (g := (mkF m 0 #[.val (.int x0)] [])) rfl (hb hby d_jdk_42_method_139_code_0)
  refine Go.by st11 ?_
  show Go p e below P (T11.setTop (mkF m 3 #[.val (.int x0)] [(.int cs)]))
  refine Go.by (fun _ => XS.ifNo X11.here hx rfl (hb hby d_jdk_42_method_139_code_3) rfl (XT.i0_eq_f hcs)) ?_
  show Go p e below P (T11.setTop (mkF m 6 #[.val (.int x0)] []))
  refine Go.by (fun _ => XS.iloadN X11.here hx rfl (hb hby d_jdk_42_method_139_code_6) rfl) ?_
  show Go p e below P (T11.setTop (mkF m 7 #[.val (.int x0)] [(.int x0)]))
  obtain ⟨_, _, ⟨T12, L12, k12, n12⟩, -, X12, ⟨Lc12, hQ12, l12, y12, z12⟩, st12⟩ := Jvm.LawKit.callS X11 hx (y := (⟨"java/lang/StringLatin1", "canEncode", "(C)Z"⟩ : MethodName)) hown (mvT hZ (tw_6 hw)) (mvT hZ (tw_7 hw)) (mvT hZ (tw_8 hw)) (mvT hZ (tw_9 hw)) (by decide) (backOf (W := 0) (rm_canEncC l Z a0 hw [] x0 h0 n0 Z0 hxb) hZ (tw_9 hw) (tw_8 hw) (by decide) (by decide)) (g := (mkF m 7 #[.val (.int x0)] [(.int x0)])) rfl (by rw [hml]; rfl) (argsL := [(.int x0)]) (rest := []) (lenOf pd__C_Z rfl) rfl (by show 2 * 0 + _ ≤ _; exact Nat.le_of_eq rfl) (hb hby d_jdk_42_method_139_code_7) (fun _ _ => ⟨rfl, e11, (by decide : 0 + 0 ≤ _), (by decide : 0 + 0 ≤ _)⟩)
  dsimp only [Pt.U, Pt.locs, Pt.cells, Pt.slots] at X12 l12 y12 z12 st12 hQ12
  subst l12 y12 z12
  obtain ⟨rfl, N12q, q12⟩ := hQ12
  have N12 := Fr.app N0 N12q
  refine Go.by (fun t k => st12 t k) ?_
  show Go p e below P (T12.setTop (mkF m 10 #[.val (.int x0)] [(.int (1 : Int32))]))
  refine Go.by (fun _ => XS.ifNo X12.here hx rfl (hb hby d_jdk_42_method_139_code_10) rfl (XT.i0_eq_f (by decide : ¬ (1 : Int32) = (0 : Int32)))) ?_
  show Go p e below P (T12.setTop (mkF m 13 #[.val (.int x0)] []))
  obtain ⟨T13, h13, X13, e13, E13, A13, D13, U13, st13⟩ := newO X12 hx hZ hown (tw_10 hw) (tw_11 hw) (tw_3 hw) q12 (g := (mkF m 13 #[.val (.int x0)] [])) rfl (hb hby d_jdk_42_method_139_code_13) (by decide) (by decide)
  obtain ⟨b13, g13⟩ : ∃ z, z = h0.size := ⟨_, rfl⟩
  rw [← g13] at A13 D13 U13 st13
  have g_b13 : n0 ≤ b13 := Nat.le_trans Z0 (Nat.le_of_eq g13.symm)
  have sz_b13 : h0.size ≤ b13 := Nat.le_trans (Keep.refl h0 []).1 (Nat.le_of_eq g13.symm)
  have f13_0 : n0 ≤ h13.size := (Nat.le_trans Z0 E13.1)
  have f13_1 : Keep h0 h13 [] := (Keep.ext (Keep.refl h0 []) E13)
  have f13_2 : Old Z n0 h13 := (Old.ext O0 E13)
  refine Go.by st13 ?_
  have F13_value : Fld Z h13 b13 "java/lang/String" "value" "[B" .null := D13 (Or.inr (tw_24 hw)) (ty := (.array .byte)) (by decide)
  have F13_coder : Fld Z h13 b13 "java/lang/String" "coder" "B" (.int (0 : Int32)) := D13 (Or.inr (tw_26 hw)) (ty := .byte) (by decide)
  show Go p e below P (T13.setTop (mkF m 16 #[.val (.int x0)] [(.ref b13)]))
  refine Go.by (fun _ => XS.dup X13.here hx rfl (hb hby d_jdk_42_method_139_code_16) rfl rfl) ?_
  show Go p e below P (T13.setTop (mkF m 17 #[.val (.int x0)] [(.ref b13), (.ref b13)]))
  refine Go.by (fun _ => XS.iloadN X13.here hx rfl (hb hby d_jdk_42_method_139_code_17) rfl) ?_
  show Go p e below P (T13.setTop (mkF m 18 #[.val (.int x0)] [(.int x0), (.ref b13), (.ref b13)]))
  obtain ⟨_, _, ⟨T14, L14, k14, n14⟩, -, X14, ⟨Lc14, hQ14, l14, y14, z14⟩, st14⟩ := Jvm.LawKit.callS X13 hx (y := (⟨"java/lang/StringLatin1", "toBytes", "(C)[B"⟩ : MethodName)) hown (mvT hZ (tw_12 hw)) (mvT hZ (tw_13 hw)) (mvT hZ (tw_8 hw)) (mvT hZ (tw_14 hw)) (by decide) (backOf (W := 2) (rm_toBytes l Z a0 hw [] x0 h13 n0 f13_0 ) hZ (tw_14 hw) (tw_8 hw) (by decide) (by decide)) (g := (mkF m 18 #[.val (.int x0)] [(.int x0), (.ref b13), (.ref b13)])) rfl (by rw [hml]; rfl) (argsL := [(.int x0)]) (rest := [(.ref b13), (.ref b13)]) (lenOf pd__C__B rfl) rfl (by show 2 * 0 + _ ≤ _; exact Nat.le_of_eq rfl) (hb hby d_jdk_42_method_139_code_18) (fun _ _ => ⟨rfl, e13, (by decide : 1 + 1 ≤ _), (by decide : 4 + 1 ≤ _)⟩)
  dsimp only [Pt.U, Pt.locs, Pt.cells, Pt.slots] at X14 l14 y14 z14 st14 hQ14
  subst l14 y14 z14
  obtain ⟨d14, kd14, rfl, N14q, K14, z14, V14⟩ := hQ14
  have N14 := Fr.app N12 N14q
  refine Go.by (fun t k => st14 t k) ?_
  have f14_0 : n0 ≤ T14.heap.size := (Nat.le_trans f13_0 K14.1)
  have f14_1 : Keep h0 T14.heap [] := (Keep.trans f13_1 K14 all0)
  have f14_2 : Old Z n0 T14.heap := (Old.keep f13_2 K14 all0)
  have f14_3 : Exa Z T14.heap b13 "java/lang/String" := (Exa.keep A13 K14)
  have f14_4 : Fld Z T14.heap b13 "java/lang/String" "value" "[B" .null := (Fld.keep F13_value K14 nin0)
  have f14_5 : Fld Z T14.heap b13 "java/lang/String" "coder" "B" (.int (0 : Int32)) := (Fld.keep F13_coder K14 nin0)
  have g_d14 : n0 ≤ d14 := Nat.le_trans f13_0 z14
  have neb13d14 : b13 ≠ d14 := Nat.ne_of_lt (Nat.lt_of_lt_of_le (A13.lt) z14)
  show Go p e below P (T14.setTop (mkF m 21 #[.val (.int x0)] [(.ref d14), (.ref b13), (.ref b13)]))
  refine Go.by (fun _ => XS.iconst X14.here hx rfl (hb hby d_jdk_42_method_139_code_21)) ?_
  show Go p e below P (T14.setTop (mkF m 22 #[.val (.int x0)] [(.int (0 : Int32)), (.ref d14), (.ref b13), (.ref b13)]))
  obtain ⟨_, _, ⟨T15, L15, k15, n15⟩, -, X15, ⟨Lc15, hQ15, l15, y15, z15⟩, st15⟩ := X14.specialBack hx (y := (⟨"java/lang/String", "<init>", "([BB)V"⟩ : MethodName)) rfl hown (mvT hZ (tw_16 hw)) (mvT hZ (tw_17 hw)) (mvT hZ (tw_19 hw)) (by decide) (backOf (W := 1) (rm_siBB l Z a0 hw [] b13 d14 T14.heap n0 f14_0 f14_3 g_b13 f14_5 f14_4) hZ (tw_19 hw) (tw_3 hw) (by decide) (by decide)) (g := (mkF m 22 #[.val (.int x0)] [(.int (0 : Int32)), (.ref d14), (.ref b13), (.ref b13)])) rfl (by rw [hml]; rfl) (Steps.refl _) (a := b13) (argsL := [(.ref d14), (.int (0 : Int32))]) (rest := [(.ref b13)]) (lenOf pd___BB_V rfl) rfl (by show 2 * 0 + _ ≤ _; exact Nat.le_of_eq rfl) (hb hby d_jdk_42_method_139_code_22) (fun _ _ => ⟨rfl, rfl, (by decide : 2 + 0 ≤ _), (by decide : 5 + 0 ≤ _)⟩)
  dsimp only [Pt.U, Pt.locs, Pt.cells, Pt.slots] at X15 l15 y15 z15 st15 hQ15
  subst l15 y15 z15
  obtain ⟨rfl, N15q, K15, G15_0, G15_1⟩ := hQ15
  have N15 := Fr.app N14 N15q
  refine Go.by (fun t k => st15.trans k) ?_
  have f15_0 : n0 ≤ T15.heap.size := (Nat.le_trans f14_0 K15.1)
  have f15_1 : Keep h0 T15.heap [] := (Keep.trans f14_1 K15 (allS (Or.inr sz_b13) all0))
  have f15_2 : Old Z n0 T15.heap := (Old.keep f14_2 K15 (allS g_b13 all0))
  have f15_3 : Exa Z T15.heap b13 "java/lang/String" := (Exa.keep f14_3 K15)
  have f15_4 : Arv Z T15.heap d14 kd14 .byte (1 : Int32) [(.int (x0.toInt8.toInt32))] (.int (0 : Int32)) := (Arv.keep V14 K15 (ninS (Ne.symm neb13d14) nin0))
  show Go p e below P (T15.setTop (mkF m 25 #[.val (.int x0)] [(.ref b13)]))
  refine fin X15 (v := some (.ref b13)) (fun h => by rw [Bd.returns] at h; cases h) (by decide) (by decide) ?_ (fun fs hr => retOut X15 hx Bd.returns rfl (Or.inr (Or.inr (Or.inr (Or.inr ⟨rfl, rfl, rfl⟩)))) (hb hby d_jdk_42_method_139_code_25) hr)
  exact ⟨b13, rfl, N15, f15_1, sz_b13, d14, kd14, f15_3, G15_0, G15_1, f15_4⟩
def Q_law (Z : State) (p0 : Int32) (p1 : Int32) (p2 : Int32) (cs : Int32) (u : Value) (sn : Value) (kd : Addr) (h0 : Heap) (n0 : Nat) (v : Option Value) (h : Heap) (L : List Loc) : Prop := v = some (.int (1 : Int32)) ∧ Fr n0 L
theorem ef_law (m : MethodId) (p0 : Int32) (p1 : Int32) (p2 : Int32) (cs : Int32) (u : Value) (sn : Value) (kd : Addr) : entryFrame m #[(.int p0), (.int p1), (.int p2)] maxLocals = mkF m 0 #[.val (.int p0), .val (.int p1), .val (.int p2), .unset, .unset, .unset, .unset] [] := by first | (simp [entryFrame, mkF, argsToLocals, Value.category, maxLocals]; done) | rfl
set_option maxRecDepth 65536 in
set_option maxHeartbeats 40000000 in
theorem rm_law (l : Launch) (Z : State) (a0 : Array Value) (hw : ∀ d ∈ tables_1, d.before a0 Z = true) (hEL : EW Z a0 own_EL) (ws : List Jvm.Cond) (p0 : Int32) (p1 : Int32) (p2 : Int32) (cs : Int32) (u : Value) (sn : Value) (kd : Addr) (h0 : Heap) (n0 : Nat) (Z0 : n0 ≤ h0.size) (O0 : Old Z n0 h0) (Scs : Sta Z Z.heap "java/lang/String" "COMPACT_STRINGS" "Z" (.int cs)) (hcs : ¬ cs = (0 : Int32)) (Su : Sta Z Z.heap "java/lang/Throwable" "UNASSIGNED_STACK" "[Ljava/lang/StackTraceElement;" u) (hu : u.isRef = true) (Ssn : Sta Z Z.heap "java/lang/Throwable" "SUPPRESSED_SENTINEL" "Ljava/util/List;" sn) (hsn : sn.isRef = true) (hl : l.stackTraces = true) (Skd : Sta Z Z.heap "com/example/envelopa/envelopa/model/ServerStateFault$Kind" "MALFORMED" "Lcom/example/envelopa/envelopa/model/ServerStateFault$Kind;" (.ref kd)) :
    MetFree l x (head1 (Jvm.Cond.code x code maxLocals ret :: ws) room_1) (fun a U => a = #[(.int p0), (.int p1), (.int p2)] ∧ Z.Warmed39 U.vm ∧ U.heap = h0 ∧ CHv Z own_EL U.vm h0 ∧ ∀ x ∈ ([] : List Addr), Safe Z own_EL U.vm h0 x) (fun _ _ bl s _ => s.vm.MethodsKnown ∧ s.vm.FramesKnown bl) (fun _ U o U' => ∃ v L, o = .returned v ∧ Q_law Z p0 p1 p2 cs u sn kd h0 n0 v U'.heap L ∧ CHr Z own_EL U.vm U.heap U'.vm U'.heap ∧ ReturnedEndW U o U' L room_1.cells room_1.slots) := by
  refine MetFree.of_bodySF (plainFor_of_name pn_com_example_envelopa_envelopa_model_ServerStateFaultMalformedPinLaw) hisR ?_
  intro p e s m args below meth c s₁ Bd hml0 hP hK
  obtain ⟨rfl, hZ, hh, hCH, hSf⟩ := hP
  have hx := Bd.exec
  have hby := Bd.bytes
  have hml : c.maxLocals = 7 := hml0
  have hown : s.vm.findClass "com/example/envelopa/envelopa/model/ServerStateFaultMalformedPinLaw" = some m.cls := findClass_of_methodNamed Bd.named
  have hnm := (name_of_methodNamed Bd.named Bd.method).1
  have X0 : Stand p l e room_1 (s.setVm s.vm) m #[(.int p0), (.int p1), (.int p2)] below meth c s₁ [] 0 0 := Stand.of_body Bd
  have e0 : s₁.heap = h0 := by rw [← hh, Bd.state]; rfl
  have N0 := Fr.nil n0
  have hZs := hZ
  have wS := own_wS hw
  have hS0 : s.Since s.vm s.heap.size := (State.WarmedH.refl s).since _
  have hk0 : s.heap.size ≤ h0.size := Nat.le_of_eq (congrArg Array.size hh)
  have hlk : meth.locks = false := Bd.notSynchronized
  obtain ⟨P, hP⟩ : ∃ P : Outcome → State → Prop, P = PQW s Z own_EL (Q_law Z p0 p1 p2 cs u sn kd h0 n0) room_1.cells room_1.slots := ⟨_, rfl⟩
  have fin : ∀ {T : State} {vm0 : Vm} {k0 : Nat} {locs : List Loc} {k n : Nat} {v : Option Value} {S0 : State} {H : Heap}, Stand p l e room_1 (s.setVm vm0) m #[(.int p0), (.int p1), (.int p2)] below meth c T locs k n → (meth.sig.returnType = none → v = none) → k ≤ room_1.cells → n ≤ room_1.slots → T.heap = H → s.Since vm0 k0 → k0 ≤ H.size → Z.Warmed39 vm0 → CHr Z own_EL s.vm h0 vm0 H → Q_law Z p0 p1 p2 cs u sn kd h0 n0 v H locs → (∀ fs, (∀ (f : JFrame) (acts : List Action), f.method = m → f.locked = none → f.entered = [] → (doReturn e (T.setTop f) acts v).1 = T.setFrames fs) → Steps p.tables e below S0 (T.setFrames fs)) → Go p e below P S0 := fun X hv hk hn eT hS hk0 hZ' hC hQ hst => hP ▸ Go.finW X hlk hEL hv hk hn hh eT hS hk0 hZ' hC hQ hst
  suffices hgo : Go p e below P (s₁.setTop (mkF m 0 #[.val (.int p0), .val (.int p1), .val (.int p2), .unset, .unset, .unset, .unset] [])) by
    rw [hP] at hgo
    exact Go.by (fun t k => castTop (ef_law m p0 p1 p2 cs u sn kd) k) hgo
  show Go p e below P (s₁.setTop (mkF m 0 #[.val (.int p0), .val (.int p1), .val (.int p2), .unset, .unset, .unset, .unset] []))
  refine Go.by (fun _ => XS.iconst X0.here hx rfl (hb hby at_0)) ?_
  show Go p e below P (s₁.setTop (mkF m 1 #[.val (.int p0), .val (.int p1), .val (.int p2), .unset, .unset, .unset, .unset] [(.int (2 : Int32))]))
  obtain ⟨T11, h11, k11, X11, e11, E11, A11, st11⟩ := newP X0 hx hZ (aty := .char) (tw_0 hw) e0 (g := (mkF m 1 #[.val (.int p0), .val (.int p1), .val (.int p2), .unset, .unset, .unset, .unset] [(.int (2 : Int32))])) rfl (hb hby at_1) rfl (by decide) (cap := 2) (by decide) (by decide) (by decide) (by decide)
  obtain ⟨b11, g11⟩ : ∃ z, z = h0.size := ⟨_, rfl⟩
  rw [← g11] at A11 st11
  have g_b11 : n0 ≤ b11 := Nat.le_trans Z0 (Nat.le_of_eq g11.symm)
  have sz_b11 : h0.size ≤ b11 := Nat.le_trans (Keep.refl h0 []).1 (Nat.le_of_eq g11.symm)
  have sf_b11 : Safe Z own_EL s.vm h0 b11 := Safe.new (Nat.le_of_eq g11.symm)
  have f11_0 : n0 ≤ h11.size := (Nat.le_trans Z0 E11.1)
  have f11_1 : CHr Z own_EL s.vm h0 s.vm h11 := (CHr.trans (CHr.refl hCH) (CHr.ext E11 (CHr.refl hCH).1))
  have f11_2 : s.heap.size ≤ h11.size := (Nat.le_trans hk0 E11.1)
  have f11_3 : Keep h0 h11 [] := (Keep.ext (Keep.refl h0 []) E11)
  have f11_4 : Old Z n0 h11 := (Old.ext O0 E11)
  have f11_5 : Safe Z own_EL s.vm h11 b11 := (Safe.ext E11 (CHr.refl hCH).1 sf_b11)
  refine Go.by st11 ?_
  have V11 : Arv Z h11 b11 k11 .char (2 : Int32) [(.int (0 : Int32)), (.int (0 : Int32))] (.int (0 : Int32)) := (Arv.new A11 (by decide)).pad (pad_rep [] (.int (0 : Int32)) 2)
  show Go p e below P (T11.setTop (mkF m 3 #[.val (.int p0), .val (.int p1), .val (.int p2), .unset, .unset, .unset, .unset] [(.ref b11)]))
  refine Go.by (fun _ => XS.astoreN X11.here hx rfl (hb hby at_3) rfl rfl (l' := #[.val (.int p0), .val (.int p1), .val (.int p2), .val (.ref b11), .unset, .unset, .unset]) rfl) ?_
  show Go p e below P (T11.setTop (mkF m 4 #[.val (.int p0), .val (.int p1), .val (.int p2), .val (.ref b11), .unset, .unset, .unset] []))
  refine Go.by (fun _ => XS.aloadN X11.here hx rfl (hb hby at_4) rfl rfl) ?_
  show Go p e below P (T11.setTop (mkF m 5 #[.val (.int p0), .val (.int p1), .val (.int p2), .val (.ref b11), .unset, .unset, .unset] [(.ref b11)]))
  refine Go.by (fun _ => XS.iconst X11.here hx rfl (hb hby at_5)) ?_
  show Go p e below P (T11.setTop (mkF m 6 #[.val (.int p0), .val (.int p1), .val (.int p2), .val (.ref b11), .unset, .unset, .unset] [(.int (0 : Int32)), (.ref b11)]))
  refine Go.by (fun _ => XS.iloadN X11.here hx rfl (hb hby at_6) rfl) ?_
  show Go p e below P (T11.setTop (mkF m 7 #[.val (.int p0), .val (.int p1), .val (.int p2), .val (.ref b11), .unset, .unset, .unset] [(.int p0), (.int (0 : Int32)), (.ref b11)]))
  refine Go.by (fun _ => XS.sipush X11.here hx rfl (hb hby at_7)) ?_
  show Go p e below P (T11.setTop (mkF m 10 #[.val (.int p0), .val (.int p1), .val (.int p2), .val (.ref b11), .unset, .unset, .unset] [(.int (255 : Int32)), (.int p0), (.int (0 : Int32)), (.ref b11)]))
  refine Go.by (fun _ => XS.iand X11.here hx rfl (hb hby at_10) rfl) ?_
  show Go p e below P (T11.setTop (mkF m 11 #[.val (.int p0), .val (.int p1), .val (.int p2), .val (.ref b11), .unset, .unset, .unset] [(.int (p0 &&& (255 : Int32))), (.int (0 : Int32)), (.ref b11)]))
  refine Go.by (fun _ => XS.i2c X11.here hx rfl (hb hby at_11) rfl) ?_
  rw [i2c_mask]
  show Go p e below P (T11.setTop (mkF m 12 #[.val (.int p0), .val (.int p1), .val (.int p2), .val (.ref b11), .unset, .unset, .unset] [(.int (p0 &&& (255 : Int32))), (.int (0 : Int32)), (.ref b11)]))
  have av12 := V11
  obtain ⟨cl12, Ar12, q12, Sz12, Nn12, Ha12, Gf12⟩ := av12
  have hin12 : ¬ ((0 : Int32) < 0 ∨ cl12.slots.size ≤ ((0 : Int32)).toNatClampNeg) := inb_of Sz12 ⟨by decide, by decide⟩
  obtain ⟨T13, h13, X13, e13, W13, st13⟩ := stC X11 hx hZ e11 Ar12 (j := (0 : Int32)) hin12 (g := (mkF m 12 #[.val (.int p0), .val (.int p1), .val (.int p2), .val (.ref b11), .unset, .unset, .unset] [(.int (p0 &&& (255 : Int32))), (.int (0 : Int32)), (.ref b11)])) rfl rfl (hb hby at_12)
  have W13' : Wr h11 h13 b11 ((0 : Int32)).toNatClampNeg (.int (p0 &&& (255 : Int32))) := (by have q : Wr h11 h13 b11 ((0 : Int32)).toNatClampNeg (.int (nar .char (p0 &&& (255 : Int32)))) := W13; rw [own_chr _ (own_m255 _).1 (own_m255 _).2] at q; exact q)
  have V13 : Arv Z h13 b11 k11 .char (2 : Int32) [(.int (p0 &&& (255 : Int32))), (.int (0 : Int32))] (.int (0 : Int32)) := Arv.set Ar12 q12 Sz12 Nn12 Ha12 Gf12 (own_chf _ (own_m255 _).1 (own_m255 _).2) W13' 0 rfl (Nat.le_of_ble_eq_true rfl)
  have N13 := Fr.snoc X13 N0 g_b11
  have f13_0 : n0 ≤ h13.size := (Nat.le_trans f11_0 (Keep.of_wr W13).1)
  have f13_1 : CHr Z own_EL s.vm h0 s.vm h13 := (CHr.trans f11_1 (CHr.wr W13 f11_5 f11_1.1))
  have f13_2 : s.heap.size ≤ h13.size := (Nat.le_trans f11_2 (Keep.of_wr W13).1)
  have f13_3 : Keep h0 h13 [] := (Keep.wr f11_3 W13 (Or.inr sz_b11))
  have f13_4 : Old Z n0 h13 := (Old.wr f11_4 W13 g_b11)
  have f13_5 : Safe Z own_EL s.vm h13 b11 := (Safe.wr W13 f11_5 f11_1.1 f11_5)
  refine Go.by st13 ?_
  show Go p e below P (T13.setTop (mkF m 13 #[.val (.int p0), .val (.int p1), .val (.int p2), .val (.ref b11), .unset, .unset, .unset] []))
  refine Go.by (fun _ => XS.aloadN X13.here hx rfl (hb hby at_13) rfl rfl) ?_
  show Go p e below P (T13.setTop (mkF m 14 #[.val (.int p0), .val (.int p1), .val (.int p2), .val (.ref b11), .unset, .unset, .unset] [(.ref b11)]))
  refine Go.by (fun _ => XS.iconst X13.here hx rfl (hb hby at_14)) ?_
  show Go p e below P (T13.setTop (mkF m 15 #[.val (.int p0), .val (.int p1), .val (.int p2), .val (.ref b11), .unset, .unset, .unset] [(.int (1 : Int32)), (.ref b11)]))
  refine Go.by (fun _ => XS.iloadN X13.here hx rfl (hb hby at_15) rfl) ?_
  show Go p e below P (T13.setTop (mkF m 16 #[.val (.int p0), .val (.int p1), .val (.int p2), .val (.ref b11), .unset, .unset, .unset] [(.int p1), (.int (1 : Int32)), (.ref b11)]))
  refine Go.by (fun _ => XS.sipush X13.here hx rfl (hb hby at_16)) ?_
  show Go p e below P (T13.setTop (mkF m 19 #[.val (.int p0), .val (.int p1), .val (.int p2), .val (.ref b11), .unset, .unset, .unset] [(.int (255 : Int32)), (.int p1), (.int (1 : Int32)), (.ref b11)]))
  refine Go.by (fun _ => XS.iand X13.here hx rfl (hb hby at_19) rfl) ?_
  show Go p e below P (T13.setTop (mkF m 20 #[.val (.int p0), .val (.int p1), .val (.int p2), .val (.ref b11), .unset, .unset, .unset] [(.int (p1 &&& (255 : Int32))), (.int (1 : Int32)), (.ref b11)]))
  refine Go.by (fun _ => XS.i2c X13.here hx rfl (hb hby at_20) rfl) ?_
  rw [i2c_mask]
  show Go p e below P (T13.setTop (mkF m 21 #[.val (.int p0), .val (.int p1), .val (.int p2), .val (.ref b11), .unset, .unset, .unset] [(.int (p1 &&& (255 : Int32))), (.int (1 : Int32)), (.ref b11)]))
  have av14 := V13
  obtain ⟨cl14, Ar14, q14, Sz14, Nn14, Ha14, Gf14⟩ := av14
  have hin14 : ¬ ((1 : Int32) < 0 ∨ cl14.slots.size ≤ ((1 : Int32)).toNatClampNeg) := inb_of Sz14 ⟨by decide, by decide⟩
  obtain ⟨T15, h15, X15, e15, W15, st15⟩ := stC X13 hx hZ e13 Ar14 (j := (1 : Int32)) hin14 (g := (mkF m 21 #[.val (.int p0), .val (.int p1), .val (.int p2), .val (.ref b11), .unset, .unset, .unset] [(.int (p1 &&& (255 : Int32))), (.int (1 : Int32)), (.ref b11)])) rfl rfl (hb hby at_21)
  have W15' : Wr h13 h15 b11 ((1 : Int32)).toNatClampNeg (.int (p1 &&& (255 : Int32))) := (by have q : Wr h13 h15 b11 ((1 : Int32)).toNatClampNeg (.int (nar .char (p1 &&& (255 : Int32)))) := W15; rw [own_chr _ (own_m255 _).1 (own_m255 _).2] at q; exact q)
  have V15 : Arv Z h15 b11 k11 .char (2 : Int32) [(.int (p0 &&& (255 : Int32))), (.int (p1 &&& (255 : Int32)))] (.int (0 : Int32)) := Arv.set Ar14 q14 Sz14 Nn14 Ha14 Gf14 (own_chf _ (own_m255 _).1 (own_m255 _).2) W15' 1 rfl (Nat.le_of_ble_eq_true rfl)
  have N15 := Fr.snoc X15 N13 g_b11
  have f15_0 : n0 ≤ h15.size := (Nat.le_trans f13_0 (Keep.of_wr W15).1)
  have f15_1 : CHr Z own_EL s.vm h0 s.vm h15 := (CHr.trans f13_1 (CHr.wr W15 f13_5 f13_1.1))
  have f15_2 : s.heap.size ≤ h15.size := (Nat.le_trans f13_2 (Keep.of_wr W15).1)
  have f15_3 : Keep h0 h15 [] := (Keep.wr f13_3 W15 (Or.inr sz_b11))
  have f15_4 : Old Z n0 h15 := (Old.wr f13_4 W15 g_b11)
  have f15_5 : Safe Z own_EL s.vm h15 b11 := (Safe.wr W15 f13_5 f13_1.1 f13_5)
  refine Go.by st15 ?_
  show Go p e below P (T15.setTop (mkF m 22 #[.val (.int p0), .val (.int p1), .val (.int p2), .val (.ref b11), .unset, .unset, .unset] []))
  refine Go.by (fun _ => XS.iloadN X15.here hx rfl (hb hby at_22) rfl) ?_
  show Go p e below P (T15.setTop (mkF m 23 #[.val (.int p0), .val (.int p1), .val (.int p2), .val (.ref b11), .unset, .unset, .unset] [(.int p2)]))
  refine Go.by (fun _ => XS.iconst X15.here hx rfl (hb hby at_23)) ?_
  show Go p e below P (T15.setTop (mkF m 24 #[.val (.int p0), .val (.int p1), .val (.int p2), .val (.ref b11), .unset, .unset, .unset] [(.int (3 : Int32)), (.int p2)]))
  refine Go.by (fun _ => XS.iand X15.here hx rfl (hb hby at_24) rfl) ?_
  show Go p e below P (T15.setTop (mkF m 25 #[.val (.int p0), .val (.int p1), .val (.int p2), .val (.ref b11), .unset, .unset, .unset] [(.int (p2 &&& (3 : Int32)))]))
  refine Go.by (fun _ => XS.istore X15.here hx rfl (hb hby at_25) rfl (l' := #[.val (.int p0), .val (.int p1), .val (.int p2), .val (.ref b11), .val (.int (p2 &&& (3 : Int32))), .unset, .unset]) rfl) ?_
  show Go p e below P (T15.setTop (mkF m 27 #[.val (.int p0), .val (.int p1), .val (.int p2), .val (.ref b11), .val (.int (p2 &&& (3 : Int32))), .unset, .unset] []))
  refine Go.by (fun _ => XS.iload X15.here hx rfl (hb hby at_27) rfl) ?_
  show Go p e below P (T15.setTop (mkF m 29 #[.val (.int p0), .val (.int p1), .val (.int p2), .val (.ref b11), .val (.int (p2 &&& (3 : Int32))), .unset, .unset] [(.int (p2 &&& (3 : Int32)))]))
  by_cases hc29_16 : (p2 &&& (3 : Int32)) = (0 : Int32)
  · refine Go.by (fun _ => XS.ifNo X15.here hx rfl (hb hby at_29) rfl (XT.i0_ne_f hc29_16)) ?_
    show Go p e below P (T15.setTop (mkF m 32 #[.val (.int p0), .val (.int p1), .val (.int p2), .val (.ref b11), .val (.int (p2 &&& (3 : Int32))), .unset, .unset] []))
    refine Go.by (fun _ => XS.aconstNull X15.here hx rfl (hb hby at_32)) ?_
    show Go p e below P (T15.setTop (mkF m 33 #[.val (.int p0), .val (.int p1), .val (.int p2), .val (.ref b11), .val (.int (p2 &&& (3 : Int32))), .unset, .unset] [.null]))
    refine Go.by (fun _ => XS.astore X15.here hx rfl (hb hby at_33) rfl rfl (l' := #[.val (.int p0), .val (.int p1), .val (.int p2), .val (.ref b11), .val (.int (p2 &&& (3 : Int32))), .val .null, .unset]) rfl) ?_
    show Go p e below P (T15.setTop (mkF m 35 #[.val (.int p0), .val (.int p1), .val (.int p2), .val (.ref b11), .val (.int (p2 &&& (3 : Int32))), .val .null, .unset] []))
    refine Go.by (fun _ => XS.goto X15.here hx rfl (pc0 := 35) (pc' := 78) rfl (hb hby at_35) (by decide) (by decide)) ?_
    show Go p e below P (T15.setTop (mkF m 78 #[.val (.int p0), .val (.int p1), .val (.int p2), .val (.ref b11), .val (.int (p2 &&& (3 : Int32))), .val .null, .unset] []))
    refine Go.by (fun _ => XS.aload X15.here hx rfl (hb hby at_78) rfl rfl) ?_
    show Go p e below P (T15.setTop (mkF m 80 #[.val (.int p0), .val (.int p1), .val (.int p2), .val (.ref b11), .val (.int (p2 &&& (3 : Int32))), .val .null, .unset] [.null]))
    obtain ⟨_, _, ⟨T17, L17, k17, n17⟩, -, X17, ⟨Lc17, hQ17, l17, y17, z17⟩, st17⟩ := Jvm.LawKit.callS X15 hx (y := (⟨"com/example/envelopa/envelopa/model/ServerStateFault", "malformed", "(Ljava/lang/String;)Lcom/example/envelopa/envelopa/model/ServerStateFault;"⟩ : MethodName)) hown (mvT hZ (tw_27 hw)) (mvT hZ (tw_28 hw)) (mvT hZ (tw_29 hw)) (mvT hZ (tw_30 hw)) (by decide) (backOfKL (W := 0) (rm_malf l Z a0 hw [] .null u sn kd h15 n0 f15_0 f15_4 Su hu Ssn hsn hl rfl Skd) hZ (tw_30 hw) (tw_29 hw) (by decide) (by decide) (Vm.MethodsKnown.alikeC (hZs.alike.symm.trans hZ.alike) hK.1) (Vm.FramesKnown.alikeC (hZs.alike.symm.trans hZ.alike) hK.2)) (g := (mkF m 80 #[.val (.int p0), .val (.int p1), .val (.int p2), .val (.ref b11), .val (.int (p2 &&& (3 : Int32))), .val .null, .unset] [.null])) rfl (by rw [hml]; rfl) (argsL := [.null]) (rest := []) (lenOf pd__Ljava_lang_String__Lcom_example_envelopa_envelopa_model_ServerStateFault_ rfl) rfl (by show 2 * 0 + _ ≤ _; exact Nat.le_of_eq rfl) (hb hby at_80) (fun _ _ => ⟨rfl, e15, (by decide : 1 + 2 ≤ _), (by decide : 2 + 2760 ≤ _)⟩)
    dsimp only [Pt.U, Pt.locs, Pt.cells, Pt.slots] at X17 l17 y17 z17 st17 hQ17
    subst l17 y17 z17
    obtain ⟨b17, rfl, N17q, K17, Eb17, Gk17, Gr17⟩ := hQ17
    have N17 := Fr.app N15 N17q
    refine Go.by (fun t k => st17 t k) ?_
    have f17_0 : n0 ≤ T17.heap.size := (Nat.le_trans f15_0 K17.1)
    have f17_1 : CHr Z own_EL s.vm h0 s.vm T17.heap := (CHr.trans f15_1 (CHr.keep K17 sf0 f15_1.1))
    have f17_2 : s.heap.size ≤ T17.heap.size := (Nat.le_trans f15_2 K17.1)
    have f17_3 : Keep h0 T17.heap [] := (Keep.trans f15_3 K17 all0)
    have f17_4 : Old Z n0 T17.heap := (Old.keep f15_4 K17 all0)
    have f17_5 : Safe Z own_EL s.vm T17.heap b11 := (Safe.keep K17 sf0 f15_1.1 f15_5)
    have f17_6 : Arv Z T17.heap b11 k11 .char (2 : Int32) [(.int (p0 &&& (255 : Int32))), (.int (p1 &&& (255 : Int32)))] (.int (0 : Int32)) := (Arv.keep V15 K17 nin0)
    show Go p e below P (T17.setTop (mkF m 83 #[.val (.int p0), .val (.int p1), .val (.int p2), .val (.ref b11), .val (.int (p2 &&& (3 : Int32))), .val .null, .unset] [(.ref b17)]))
    refine Go.by (fun _ => XS.astore X17.here hx rfl (hb hby at_83) rfl rfl (l' := #[.val (.int p0), .val (.int p1), .val (.int p2), .val (.ref b11), .val (.int (p2 &&& (3 : Int32))), .val .null, .val (.ref b17)]) rfl) ?_
    show Go p e below P (T17.setTop (mkF m 85 #[.val (.int p0), .val (.int p1), .val (.int p2), .val (.ref b11), .val (.int (p2 &&& (3 : Int32))), .val .null, .val (.ref b17)] []))
    refine Go.by (fun _ => XS.aload X17.here hx rfl (hb hby at_85) rfl rfl) ?_
    show Go p e below P (T17.setTop (mkF m 87 #[.val (.int p0), .val (.int p1), .val (.int p2), .val (.ref b11), .val (.int (p2 &&& (3 : Int32))), .val .null, .val (.ref b17)] [(.ref b17)]))
    refine Go.by (fun _ => XS.ifnonnullYes X17.here hx rfl (pc0 := 87) (pc' := 92) rfl (hb hby at_87) rfl (by decide) (by decide)) ?_
    show Go p e below P (T17.setTop (mkF m 92 #[.val (.int p0), .val (.int p1), .val (.int p2), .val (.ref b11), .val (.int (p2 &&& (3 : Int32))), .val .null, .val (.ref b17)] []))
    refine Go.by (fun _ => XS.aload X17.here hx rfl (hb hby at_92) rfl rfl) ?_
    show Go p e below P (T17.setTop (mkF m 94 #[.val (.int p0), .val (.int p1), .val (.int p2), .val (.ref b11), .val (.int (p2 &&& (3 : Int32))), .val .null, .val (.ref b17)] [(.ref b17)]))
    obtain ⟨cq18, kq18, q18a, q18b, q18c⟩ := isOf hZ rfl Eb17
    obtain ⟨_, _, ⟨T18, L18, k18, n18⟩, -, X18, ⟨Lc18, hQ18, l18, y18, z18⟩, st18⟩ := X17.virtualBack hx (y := (⟨"com/example/envelopa/envelopa/model/ServerStateFault", "kind", "()Lcom/example/envelopa/envelopa/model/ServerStateFault$Kind;"⟩ : MethodName)) (z := (⟨"com/example/envelopa/envelopa/model/ServerStateFault", "kind", "()Lcom/example/envelopa/envelopa/model/ServerStateFault$Kind;"⟩ : MethodName)) hown (mvT hZ (tw_91 hw)) (mvT hZ (tw_92 hw)) (notFace_of_selects (args := #[]) (mvT hZ (tw_94 hw))) (mvT hZ (tw_94 hw)) (mvT hZ (tw_93 hw)) (by decide) (backOf (W := 0) (rm_gKind l Z a0 hw [] b17 kd T17.heap n0 f17_0 Gk17) hZ (tw_95 hw) (tw_29 hw) (by decide) (by decide)) q18a q18c (g := (mkF m 94 #[.val (.int p0), .val (.int p1), .val (.int p2), .val (.ref b11), .val (.int (p2 &&& (3 : Int32))), .val .null, .val (.ref b17)] [(.ref b17)])) rfl (by rw [hml]; rfl) (Steps.refl _) (argsL := []) (rest := []) (lenOf pd___Lcom_example_envelopa_envelopa_model_ServerStateFault_Kind_ rfl) rfl (by show 2 * 0 + _ ≤ _; exact Nat.le_of_eq rfl) (hb hby at_94) (fun _ _ => ⟨rfl, rfl, (by decide : 3 + 0 ≤ _), (by decide : 2762 + 0 ≤ _)⟩)
    dsimp only [Pt.U, Pt.locs, Pt.cells, Pt.slots] at X18 l18 y18 z18 st18 hQ18
    subst l18 y18 z18
    obtain ⟨rfl, N18q, q18⟩ := hQ18
    have N18 := Fr.app N17 N18q
    refine Go.by (fun t k => st18.trans k) ?_
    show Go p e below P (T18.setTop (mkF m 97 #[.val (.int p0), .val (.int p1), .val (.int p2), .val (.ref b11), .val (.int (p2 &&& (3 : Int32))), .val .null, .val (.ref b17)] [(.ref kd)]))
    obtain ⟨T19, X19, e19, st19⟩ := getS2 X18 hx hZ hown (host := "") (Or.inl (tw_96 hw)) Via.refl q18 (Skd.ext f17_4.2) (g := (mkF m 97 #[.val (.int p0), .val (.int p1), .val (.int p2), .val (.ref b11), .val (.int (p2 &&& (3 : Int32))), .val .null, .val (.ref b17)] [(.ref kd)])) rfl (hb hby at_97)
    refine Go.by st19 ?_
    show Go p e below P (T19.setTop (mkF m 100 #[.val (.int p0), .val (.int p1), .val (.int p2), .val (.ref b11), .val (.int (p2 &&& (3 : Int32))), .val .null, .val (.ref b17)] [(.ref kd), (.ref kd)]))
    refine Go.by (fun _ => Jvm.RoadKit.acmp (g := (mkF m 100 #[.val (.int p0), .val (.int p1), .val (.int p2), .val (.ref b11), .val (.int (p2 &&& (3 : Int32))), .val .null, .val (.ref b17)] [(.ref kd), (.ref kd)])) X19 hx rfl rfl rfl (pc0 := 100) (pc' := 103) (same := true) rfl (hb hby at_100) rfl (decide_eq_true rfl) (by decide) (by decide)) ?_
    show Go p e below P (T19.setTop (mkF m 103 #[.val (.int p0), .val (.int p1), .val (.int p2), .val (.ref b11), .val (.int (p2 &&& (3 : Int32))), .val .null, .val (.ref b17)] []))
    refine Go.by (fun _ => XS.aload X19.here hx rfl (hb hby at_103) rfl rfl) ?_
    show Go p e below P (T19.setTop (mkF m 105 #[.val (.int p0), .val (.int p1), .val (.int p2), .val (.ref b11), .val (.int (p2 &&& (3 : Int32))), .val .null, .val (.ref b17)] [(.ref b17)]))
    obtain ⟨cq20, kq20, q20a, q20b, q20c⟩ := isOf hZ e19 Eb17
    obtain ⟨_, _, ⟨T20, L20, k20, n20⟩, -, X20, ⟨Lc20, hQ20, l20, y20, z20⟩, st20⟩ := X19.virtualBack hx (y := (⟨"com/example/envelopa/envelopa/model/ServerStateFault", "reason", "()Lcom/example/envelopa/envelopa/model/Reason;"⟩ : MethodName)) (z := (⟨"com/example/envelopa/envelopa/model/ServerStateFault", "reason", "()Lcom/example/envelopa/envelopa/model/Reason;"⟩ : MethodName)) hown (mvT hZ (tw_97 hw)) (mvT hZ (tw_98 hw)) (notFace_of_selects (args := #[]) (mvT hZ (tw_100 hw))) (mvT hZ (tw_100 hw)) (mvT hZ (tw_99 hw)) (by decide) (backOf (W := 0) (rm_gReason l Z a0 hw [] b17 T17.heap n0 f17_0 Gr17) hZ (tw_101 hw) (tw_29 hw) (by decide) (by decide)) q20a q20c (g := (mkF m 105 #[.val (.int p0), .val (.int p1), .val (.int p2), .val (.ref b11), .val (.int (p2 &&& (3 : Int32))), .val .null, .val (.ref b17)] [(.ref b17)])) rfl (by rw [hml]; rfl) (Steps.refl _) (argsL := []) (rest := []) (lenOf pd___Lcom_example_envelopa_envelopa_model_Reason_ rfl) rfl (by show 2 * 0 + _ ≤ _; exact Nat.le_of_eq rfl) (hb hby at_105) (fun _ _ => ⟨rfl, e19, (by decide : 3 + 0 ≤ _), (by decide : 2762 + 0 ≤ _)⟩)
    dsimp only [Pt.U, Pt.locs, Pt.cells, Pt.slots] at X20 l20 y20 z20 st20 hQ20
    subst l20 y20 z20
    obtain ⟨rfl, N20q, q20⟩ := hQ20
    have N20 := Fr.app N18 N20q
    refine Go.by (fun t k => st20.trans k) ?_
    show Go p e below P (T20.setTop (mkF m 108 #[.val (.int p0), .val (.int p1), .val (.int p2), .val (.ref b11), .val (.int (p2 &&& (3 : Int32))), .val .null, .val (.ref b17)] [.null]))
    refine Go.by (fun _ => XS.ifnonnullNo X20.here hx rfl (hb hby at_108) rfl) ?_
    show Go p e below P (T20.setTop (mkF m 111 #[.val (.int p0), .val (.int p1), .val (.int p2), .val (.ref b11), .val (.int (p2 &&& (3 : Int32))), .val .null, .val (.ref b17)] []))
    refine Go.by (fun _ => XS.iconst X20.here hx rfl (hb hby at_111)) ?_
    show Go p e below P (T20.setTop (mkF m 112 #[.val (.int p0), .val (.int p1), .val (.int p2), .val (.ref b11), .val (.int (p2 &&& (3 : Int32))), .val .null, .val (.ref b17)] [(.int (1 : Int32))]))
    refine Go.by (fun _ => XS.goto X20.here hx rfl (pc0 := 112) (pc' := 116) rfl (hb hby at_112) (by decide) (by decide)) ?_
    show Go p e below P (T20.setTop (mkF m 116 #[.val (.int p0), .val (.int p1), .val (.int p2), .val (.ref b11), .val (.int (p2 &&& (3 : Int32))), .val .null, .val (.ref b17)] [(.int (1 : Int32))]))
    refine fin X20 (v := some (.int (1 : Int32))) (fun h => by rw [Bd.returns] at h; cases h) (by decide) (by decide) q20 hS0 f17_2 hZ f17_1 ?_ (fun fs hr => retOut X20 hx Bd.returns rfl (Or.inl ⟨rfl, Or.inr (Or.inl rfl), _, rfl⟩) (hb hby at_116) hr)
    exact ⟨rfl, N20⟩
  · refine Go.by (fun _ => XS.ifYes X15.here hx rfl (pc0 := 29) (pc' := 38) rfl (hb hby at_29) rfl (XT.i0_ne_t hc29_16) (by decide) (by decide)) ?_
    show Go p e below P (T15.setTop (mkF m 38 #[.val (.int p0), .val (.int p1), .val (.int p2), .val (.ref b11), .val (.int (p2 &&& (3 : Int32))), .unset, .unset] []))
    refine Go.by (fun _ => XS.iload X15.here hx rfl (hb hby at_38) rfl) ?_
    show Go p e below P (T15.setTop (mkF m 40 #[.val (.int p0), .val (.int p1), .val (.int p2), .val (.ref b11), .val (.int (p2 &&& (3 : Int32))), .unset, .unset] [(.int (p2 &&& (3 : Int32)))]))
    refine Go.by (fun _ => XS.iconst X15.here hx rfl (hb hby at_40)) ?_
    show Go p e below P (T15.setTop (mkF m 41 #[.val (.int p0), .val (.int p1), .val (.int p2), .val (.ref b11), .val (.int (p2 &&& (3 : Int32))), .unset, .unset] [(.int (1 : Int32)), (.int (p2 &&& (3 : Int32)))]))
    by_cases hc41_21 : (p2 &&& (3 : Int32)) = (1 : Int32)
    · refine Go.by (fun _ => XS.icmpNo X15.here hx rfl (hb hby at_41) rfl (XT.ii_ne_f hc41_21)) ?_
      show Go p e below P (T15.setTop (mkF m 44 #[.val (.int p0), .val (.int p1), .val (.int p2), .val (.ref b11), .val (.int (p2 &&& (3 : Int32))), .unset, .unset] []))
      obtain ⟨b22, T22, h22, k122, X22, e22, E22, hS22, hk22, hZ22, hown22, C22, Lt22, st22⟩ := ldcOH X15 hx hZ hown (tw_119 hw) wS e15 hS0 f15_2 hEL f15_1.1 (g := (mkF m 44 #[.val (.int p0), .val (.int p1), .val (.int p2), .val (.ref b11), .val (.int (p2 &&& (3 : Int32))), .unset, .unset] [])) rfl (hb hby at_44) (n := 0) (by decide) (by decide) (by decide) (by decide)
      have f22_0 : n0 ≤ h22.size := (Nat.le_trans f15_0 E22.1)
      have f22_1 : CHr Z own_EL s.vm h0 T22.vm h22 := (CHr.trans f15_1 C22)
      have f22_2 : k122 ≤ h22.size := hk22
      have f22_3 : Keep h0 h22 [] := (Keep.ext f15_3 E22)
      have f22_4 : Old Z n0 h22 := (Old.ext f15_4 E22)
      have f22_5 : Safe Z own_EL T22.vm h22 b11 := (CHr.safe C22 (V15.lt) f15_5)
      have f22_6 : Arv Z h22 b11 k11 .char (2 : Int32) [(.int (p0 &&& (255 : Int32))), (.int (p1 &&& (255 : Int32)))] (.int (0 : Int32)) := (Arv.ext V15 E22)
      refine Go.by st22 ?_
      show Go p e below P (T22.setTop (mkF m 46 #[.val (.int p0), .val (.int p1), .val (.int p2), .val (.ref b11), .val (.int (p2 &&& (3 : Int32))), .unset, .unset] [(.ref b22)]))
      refine Go.by (fun _ => XS.astore X22.here hx rfl (hb hby at_46) rfl rfl (l' := #[.val (.int p0), .val (.int p1), .val (.int p2), .val (.ref b11), .val (.int (p2 &&& (3 : Int32))), .val (.ref b22), .unset]) rfl) ?_
      show Go p e below P (T22.setTop (mkF m 48 #[.val (.int p0), .val (.int p1), .val (.int p2), .val (.ref b11), .val (.int (p2 &&& (3 : Int32))), .val (.ref b22), .unset] []))
      refine Go.by (fun _ => XS.goto X22.here hx rfl (pc0 := 48) (pc' := 78) rfl (hb hby at_48) (by decide) (by decide)) ?_
      show Go p e below P (T22.setTop (mkF m 78 #[.val (.int p0), .val (.int p1), .val (.int p2), .val (.ref b11), .val (.int (p2 &&& (3 : Int32))), .val (.ref b22), .unset] []))
      refine Go.by (fun _ => XS.aload X22.here hx rfl (hb hby at_78) rfl rfl) ?_
      show Go p e below P (T22.setTop (mkF m 80 #[.val (.int p0), .val (.int p1), .val (.int p2), .val (.ref b11), .val (.int (p2 &&& (3 : Int32))), .val (.ref b22), .unset] [(.ref b22)]))
      obtain ⟨_, _, ⟨T23, L23, k23, n23⟩, -, X23, ⟨Lc23, hQ23, l23, y23, z23⟩, st23⟩ := Jvm.LawKit.callS X22 hx (y := (⟨"com/example/envelopa/envelopa/model/ServerStateFault", "malformed", "(Ljava/lang/String;)Lcom/example/envelopa/envelopa/model/ServerStateFault;"⟩ : MethodName)) hown22 (mvT hZ22 (tw_27 hw)) (mvT hZ22 (tw_28 hw)) (mvT hZ22 (tw_29 hw)) (mvT hZ22 (tw_30 hw)) (by decide) (backOfKL (W := 0) (rm_malf l Z a0 hw [] (.ref b22) u sn kd h22 n0 f22_0 f22_4 Su hu Ssn hsn hl rfl Skd) hZ22 (tw_30 hw) (tw_29 hw) (by decide) (by decide) (Vm.MethodsKnown.alikeC (hZs.alike.symm.trans hZ22.alike) hK.1) (Vm.FramesKnown.alikeC (hZs.alike.symm.trans hZ22.alike) hK.2)) (g := (mkF m 80 #[.val (.int p0), .val (.int p1), .val (.int p2), .val (.ref b11), .val (.int (p2 &&& (3 : Int32))), .val (.ref b22), .unset] [(.ref b22)])) rfl (by rw [hml]; rfl) (argsL := [(.ref b22)]) (rest := []) (lenOf pd__Ljava_lang_String__Lcom_example_envelopa_envelopa_model_ServerStateFault_ rfl) rfl (by show 2 * 0 + _ ≤ _; exact Nat.le_of_eq rfl) (hb hby at_80) (fun _ _ => ⟨rfl, e22, (by decide : 3 + 2 ≤ _), (by decide : 6 + 2760 ≤ _)⟩)
      dsimp only [Pt.U, Pt.locs, Pt.cells, Pt.slots] at X23 l23 y23 z23 st23 hQ23
      subst l23 y23 z23
      obtain ⟨b23, rfl, N23q, K23, Eb23, Gk23, Gr23⟩ := hQ23
      have N23 := Fr.app N15 N23q
      refine Go.by (fun t k => st23 t k) ?_
      have f23_0 : n0 ≤ T23.heap.size := (Nat.le_trans f22_0 K23.1)
      have f23_1 : CHr Z own_EL s.vm h0 T22.vm T23.heap := (CHr.trans f22_1 (CHr.keep K23 sf0 f22_1.1))
      have f23_2 : k122 ≤ T23.heap.size := (Nat.le_trans f22_2 K23.1)
      have f23_3 : Keep h0 T23.heap [] := (Keep.trans f22_3 K23 all0)
      have f23_4 : Old Z n0 T23.heap := (Old.keep f22_4 K23 all0)
      have f23_5 : Safe Z own_EL T22.vm T23.heap b11 := (Safe.keep K23 sf0 f22_1.1 f22_5)
      have f23_6 : Arv Z T23.heap b11 k11 .char (2 : Int32) [(.int (p0 &&& (255 : Int32))), (.int (p1 &&& (255 : Int32)))] (.int (0 : Int32)) := (Arv.keep f22_6 K23 nin0)
      show Go p e below P (T23.setTop (mkF m 83 #[.val (.int p0), .val (.int p1), .val (.int p2), .val (.ref b11), .val (.int (p2 &&& (3 : Int32))), .val (.ref b22), .unset] [(.ref b23)]))
      refine Go.by (fun _ => XS.astore X23.here hx rfl (hb hby at_83) rfl rfl (l' := #[.val (.int p0), .val (.int p1), .val (.int p2), .val (.ref b11), .val (.int (p2 &&& (3 : Int32))), .val (.ref b22), .val (.ref b23)]) rfl) ?_
      show Go p e below P (T23.setTop (mkF m 85 #[.val (.int p0), .val (.int p1), .val (.int p2), .val (.ref b11), .val (.int (p2 &&& (3 : Int32))), .val (.ref b22), .val (.ref b23)] []))
      refine Go.by (fun _ => XS.aload X23.here hx rfl (hb hby at_85) rfl rfl) ?_
      show Go p e below P (T23.setTop (mkF m 87 #[.val (.int p0), .val (.int p1), .val (.int p2), .val (.ref b11), .val (.int (p2 &&& (3 : Int32))), .val (.ref b22), .val (.ref b23)] [(.ref b23)]))
      refine Go.by (fun _ => XS.ifnonnullYes X23.here hx rfl (pc0 := 87) (pc' := 92) rfl (hb hby at_87) rfl (by decide) (by decide)) ?_
      show Go p e below P (T23.setTop (mkF m 92 #[.val (.int p0), .val (.int p1), .val (.int p2), .val (.ref b11), .val (.int (p2 &&& (3 : Int32))), .val (.ref b22), .val (.ref b23)] []))
      refine Go.by (fun _ => XS.aload X23.here hx rfl (hb hby at_92) rfl rfl) ?_
      show Go p e below P (T23.setTop (mkF m 94 #[.val (.int p0), .val (.int p1), .val (.int p2), .val (.ref b11), .val (.int (p2 &&& (3 : Int32))), .val (.ref b22), .val (.ref b23)] [(.ref b23)]))
      obtain ⟨cq24, kq24, q24a, q24b, q24c⟩ := isOf hZ22 rfl Eb23
      obtain ⟨_, _, ⟨T24, L24, k24, n24⟩, -, X24, ⟨Lc24, hQ24, l24, y24, z24⟩, st24⟩ := X23.virtualBack hx (y := (⟨"com/example/envelopa/envelopa/model/ServerStateFault", "kind", "()Lcom/example/envelopa/envelopa/model/ServerStateFault$Kind;"⟩ : MethodName)) (z := (⟨"com/example/envelopa/envelopa/model/ServerStateFault", "kind", "()Lcom/example/envelopa/envelopa/model/ServerStateFault$Kind;"⟩ : MethodName)) hown22 (mvT hZ22 (tw_91 hw)) (mvT hZ22 (tw_92 hw)) (notFace_of_selects (args := #[]) (mvT hZ22 (tw_94 hw))) (mvT hZ22 (tw_94 hw)) (mvT hZ22 (tw_93 hw)) (by decide) (backOf (W := 0) (rm_gKind l Z a0 hw [] b23 kd T23.heap n0 f23_0 Gk23) hZ22 (tw_95 hw) (tw_29 hw) (by decide) (by decide)) q24a q24c (g := (mkF m 94 #[.val (.int p0), .val (.int p1), .val (.int p2), .val (.ref b11), .val (.int (p2 &&& (3 : Int32))), .val (.ref b22), .val (.ref b23)] [(.ref b23)])) rfl (by rw [hml]; rfl) (Steps.refl _) (argsL := []) (rest := []) (lenOf pd___Lcom_example_envelopa_envelopa_model_ServerStateFault_Kind_ rfl) rfl (by show 2 * 0 + _ ≤ _; exact Nat.le_of_eq rfl) (hb hby at_94) (fun _ _ => ⟨rfl, rfl, (by decide : 5 + 0 ≤ _), (by decide : 2766 + 0 ≤ _)⟩)
      dsimp only [Pt.U, Pt.locs, Pt.cells, Pt.slots] at X24 l24 y24 z24 st24 hQ24
      subst l24 y24 z24
      obtain ⟨rfl, N24q, q24⟩ := hQ24
      have N24 := Fr.app N23 N24q
      refine Go.by (fun t k => st24.trans k) ?_
      show Go p e below P (T24.setTop (mkF m 97 #[.val (.int p0), .val (.int p1), .val (.int p2), .val (.ref b11), .val (.int (p2 &&& (3 : Int32))), .val (.ref b22), .val (.ref b23)] [(.ref kd)]))
      obtain ⟨T25, X25, e25, st25⟩ := getS2 X24 hx hZ22 hown22 (host := "") (Or.inl (tw_96 hw)) Via.refl q24 (Skd.ext f23_4.2) (g := (mkF m 97 #[.val (.int p0), .val (.int p1), .val (.int p2), .val (.ref b11), .val (.int (p2 &&& (3 : Int32))), .val (.ref b22), .val (.ref b23)] [(.ref kd)])) rfl (hb hby at_97)
      refine Go.by st25 ?_
      show Go p e below P (T25.setTop (mkF m 100 #[.val (.int p0), .val (.int p1), .val (.int p2), .val (.ref b11), .val (.int (p2 &&& (3 : Int32))), .val (.ref b22), .val (.ref b23)] [(.ref kd), (.ref kd)]))
      refine Go.by (fun _ => Jvm.RoadKit.acmp (g := (mkF m 100 #[.val (.int p0), .val (.int p1), .val (.int p2), .val (.ref b11), .val (.int (p2 &&& (3 : Int32))), .val (.ref b22), .val (.ref b23)] [(.ref kd), (.ref kd)])) X25 hx rfl rfl rfl (pc0 := 100) (pc' := 103) (same := true) rfl (hb hby at_100) rfl (decide_eq_true rfl) (by decide) (by decide)) ?_
      show Go p e below P (T25.setTop (mkF m 103 #[.val (.int p0), .val (.int p1), .val (.int p2), .val (.ref b11), .val (.int (p2 &&& (3 : Int32))), .val (.ref b22), .val (.ref b23)] []))
      refine Go.by (fun _ => XS.aload X25.here hx rfl (hb hby at_103) rfl rfl) ?_
      show Go p e below P (T25.setTop (mkF m 105 #[.val (.int p0), .val (.int p1), .val (.int p2), .val (.ref b11), .val (.int (p2 &&& (3 : Int32))), .val (.ref b22), .val (.ref b23)] [(.ref b23)]))
      obtain ⟨cq26, kq26, q26a, q26b, q26c⟩ := isOf hZ22 e25 Eb23
      obtain ⟨_, _, ⟨T26, L26, k26, n26⟩, -, X26, ⟨Lc26, hQ26, l26, y26, z26⟩, st26⟩ := X25.virtualBack hx (y := (⟨"com/example/envelopa/envelopa/model/ServerStateFault", "reason", "()Lcom/example/envelopa/envelopa/model/Reason;"⟩ : MethodName)) (z := (⟨"com/example/envelopa/envelopa/model/ServerStateFault", "reason", "()Lcom/example/envelopa/envelopa/model/Reason;"⟩ : MethodName)) hown22 (mvT hZ22 (tw_97 hw)) (mvT hZ22 (tw_98 hw)) (notFace_of_selects (args := #[]) (mvT hZ22 (tw_100 hw))) (mvT hZ22 (tw_100 hw)) (mvT hZ22 (tw_99 hw)) (by decide) (backOf (W := 0) (rm_gReason l Z a0 hw [] b23 T23.heap n0 f23_0 Gr23) hZ22 (tw_101 hw) (tw_29 hw) (by decide) (by decide)) q26a q26c (g := (mkF m 105 #[.val (.int p0), .val (.int p1), .val (.int p2), .val (.ref b11), .val (.int (p2 &&& (3 : Int32))), .val (.ref b22), .val (.ref b23)] [(.ref b23)])) rfl (by rw [hml]; rfl) (Steps.refl _) (argsL := []) (rest := []) (lenOf pd___Lcom_example_envelopa_envelopa_model_Reason_ rfl) rfl (by show 2 * 0 + _ ≤ _; exact Nat.le_of_eq rfl) (hb hby at_105) (fun _ _ => ⟨rfl, e25, (by decide : 5 + 0 ≤ _), (by decide : 2766 + 0 ≤ _)⟩)
      dsimp only [Pt.U, Pt.locs, Pt.cells, Pt.slots] at X26 l26 y26 z26 st26 hQ26
      subst l26 y26 z26
      obtain ⟨rfl, N26q, q26⟩ := hQ26
      have N26 := Fr.app N24 N26q
      refine Go.by (fun t k => st26.trans k) ?_
      show Go p e below P (T26.setTop (mkF m 108 #[.val (.int p0), .val (.int p1), .val (.int p2), .val (.ref b11), .val (.int (p2 &&& (3 : Int32))), .val (.ref b22), .val (.ref b23)] [.null]))
      refine Go.by (fun _ => XS.ifnonnullNo X26.here hx rfl (hb hby at_108) rfl) ?_
      show Go p e below P (T26.setTop (mkF m 111 #[.val (.int p0), .val (.int p1), .val (.int p2), .val (.ref b11), .val (.int (p2 &&& (3 : Int32))), .val (.ref b22), .val (.ref b23)] []))
      refine Go.by (fun _ => XS.iconst X26.here hx rfl (hb hby at_111)) ?_
      show Go p e below P (T26.setTop (mkF m 112 #[.val (.int p0), .val (.int p1), .val (.int p2), .val (.ref b11), .val (.int (p2 &&& (3 : Int32))), .val (.ref b22), .val (.ref b23)] [(.int (1 : Int32))]))
      refine Go.by (fun _ => XS.goto X26.here hx rfl (pc0 := 112) (pc' := 116) rfl (hb hby at_112) (by decide) (by decide)) ?_
      show Go p e below P (T26.setTop (mkF m 116 #[.val (.int p0), .val (.int p1), .val (.int p2), .val (.ref b11), .val (.int (p2 &&& (3 : Int32))), .val (.ref b22), .val (.ref b23)] [(.int (1 : Int32))]))
      refine fin X26 (v := some (.int (1 : Int32))) (fun h => by rw [Bd.returns] at h; cases h) (by decide) (by decide) q26 hS22 f23_2 hZ22 f23_1 ?_ (fun fs hr => retOut X26 hx Bd.returns rfl (Or.inl ⟨rfl, Or.inr (Or.inl rfl), _, rfl⟩) (hb hby at_116) hr)
      exact ⟨rfl, N26⟩
    · refine Go.by (fun _ => XS.icmpYes X15.here hx rfl (pc0 := 41) (pc' := 51) rfl (hb hby at_41) rfl (XT.ii_ne_t hc41_21) (by decide) (by decide)) ?_
      show Go p e below P (T15.setTop (mkF m 51 #[.val (.int p0), .val (.int p1), .val (.int p2), .val (.ref b11), .val (.int (p2 &&& (3 : Int32))), .unset, .unset] []))
      refine Go.by (fun _ => XS.iload X15.here hx rfl (hb hby at_51) rfl) ?_
      show Go p e below P (T15.setTop (mkF m 53 #[.val (.int p0), .val (.int p1), .val (.int p2), .val (.ref b11), .val (.int (p2 &&& (3 : Int32))), .unset, .unset] [(.int (p2 &&& (3 : Int32)))]))
      refine Go.by (fun _ => XS.iconst X15.here hx rfl (hb hby at_53)) ?_
      show Go p e below P (T15.setTop (mkF m 54 #[.val (.int p0), .val (.int p1), .val (.int p2), .val (.ref b11), .val (.int (p2 &&& (3 : Int32))), .unset, .unset] [(.int (2 : Int32)), (.int (p2 &&& (3 : Int32)))]))
      by_cases hc54_27 : (p2 &&& (3 : Int32)) = (2 : Int32)
      · refine Go.by (fun _ => XS.icmpNo X15.here hx rfl (hb hby at_54) rfl (XT.ii_ne_f hc54_27)) ?_
        show Go p e below P (T15.setTop (mkF m 57 #[.val (.int p0), .val (.int p1), .val (.int p2), .val (.ref b11), .val (.int (p2 &&& (3 : Int32))), .unset, .unset] []))
        refine Go.by (fun _ => XS.aloadN X15.here hx rfl (hb hby at_57) rfl rfl) ?_
        show Go p e below P (T15.setTop (mkF m 58 #[.val (.int p0), .val (.int p1), .val (.int p2), .val (.ref b11), .val (.int (p2 &&& (3 : Int32))), .unset, .unset] [(.ref b11)]))
        refine Go.by (fun _ => XS.iconst X15.here hx rfl (hb hby at_58)) ?_
        show Go p e below P (T15.setTop (mkF m 59 #[.val (.int p0), .val (.int p1), .val (.int p2), .val (.ref b11), .val (.int (p2 &&& (3 : Int32))), .unset, .unset] [(.int (0 : Int32)), (.ref b11)]))
        have av28 := V15
        obtain ⟨cl28, Ar28, -, Sz28, Nn28, Ha28, Gf28⟩ := av28
        have hin28 : ¬ ((0 : Int32) < 0 ∨ cl28.slots.size ≤ ((0 : Int32)).toNatClampNeg) := inb_of Sz28 ⟨by decide, by decide⟩
        have hat28 : cl28.slots[((0 : Int32)).toNatClampNeg]? = some (.int (p0 &&& (255 : Int32))) := Ha28.at hin28 rfl
        refine Go.by (X15.caload hx (j := (0 : Int32)) (v := (.int (p0 &&& (255 : Int32)))) (by rw [e15]; exact Ar28.1) (State.isArrayOf_alike hZ.alike Ar28.2.1) Ar28.2.2 hin28 hat28 (g := (mkF m 59 #[.val (.int p0), .val (.int p1), .val (.int p2), .val (.ref b11), .val (.int (p2 &&& (3 : Int32))), .unset, .unset] [(.int (0 : Int32)), (.ref b11)])) rfl rfl (hb hby at_59)) ?_
        show Go p e below P (T15.setTop (mkF m 60 #[.val (.int p0), .val (.int p1), .val (.int p2), .val (.ref b11), .val (.int (p2 &&& (3 : Int32))), .unset, .unset] [(.int (p0 &&& (255 : Int32)))]))
        obtain ⟨_, _, ⟨T29, L29, k29, n29⟩, -, X29, ⟨Lc29, hQ29, l29, y29, z29⟩, st29⟩ := Jvm.LawKit.callS X15 hx (y := (⟨"java/lang/String", "valueOf", "(C)Ljava/lang/String;"⟩ : MethodName)) hown (mvT hZ (tw_1 hw)) (mvT hZ (tw_2 hw)) (mvT hZ (tw_3 hw)) (mvT hZ (tw_4 hw)) (by decide) (backOf (W := 0) (rm_valueOfC l Z a0 hw [] (p0 &&& (255 : Int32)) cs h15 n0 f15_0 f15_4 Scs hcs (own_m255 _).2) hZ (tw_4 hw) (tw_3 hw) (by decide) (by decide)) (g := (mkF m 60 #[.val (.int p0), .val (.int p1), .val (.int p2), .val (.ref b11), .val (.int (p2 &&& (3 : Int32))), .unset, .unset] [(.int (p0 &&& (255 : Int32)))])) rfl (by rw [hml]; rfl) (argsL := [(.int (p0 &&& (255 : Int32)))]) (rest := []) (lenOf pd__C_Ljava_lang_String_ rfl) rfl (by show 2 * 0 + _ ≤ _; exact Nat.le_of_eq rfl) (hb hby at_60) (fun _ _ => ⟨rfl, e15, (by decide : 1 + 2 ≤ _), (by decide : 2 + 5 ≤ _)⟩)
        dsimp only [Pt.U, Pt.locs, Pt.cells, Pt.slots] at X29 l29 y29 z29 st29 hQ29
        subst l29 y29 z29
        obtain ⟨b29, rfl, N29q, K29, z29, S29⟩ := hQ29
        have N29 := Fr.app N15 N29q
        refine Go.by (fun t k => st29 t k) ?_
        have f29_0 : n0 ≤ T29.heap.size := (Nat.le_trans f15_0 K29.1)
        have f29_1 : CHr Z own_EL s.vm h0 s.vm T29.heap := (CHr.trans f15_1 (CHr.keep K29 sf0 f15_1.1))
        have f29_2 : s.heap.size ≤ T29.heap.size := (Nat.le_trans f15_2 K29.1)
        have f29_3 : Keep h0 T29.heap [] := (Keep.trans f15_3 K29 all0)
        have f29_4 : Old Z n0 T29.heap := (Old.keep f15_4 K29 all0)
        have f29_5 : Safe Z own_EL s.vm T29.heap b11 := (Safe.keep K29 sf0 f15_1.1 f15_5)
        have f29_6 : Arv Z T29.heap b11 k11 .char (2 : Int32) [(.int (p0 &&& (255 : Int32))), (.int (p1 &&& (255 : Int32)))] (.int (0 : Int32)) := (Arv.keep V15 K29 nin0)
        show Go p e below P (T29.setTop (mkF m 63 #[.val (.int p0), .val (.int p1), .val (.int p2), .val (.ref b11), .val (.int (p2 &&& (3 : Int32))), .unset, .unset] [(.ref b29)]))
        refine Go.by (fun _ => XS.astore X29.here hx rfl (hb hby at_63) rfl rfl (l' := #[.val (.int p0), .val (.int p1), .val (.int p2), .val (.ref b11), .val (.int (p2 &&& (3 : Int32))), .val (.ref b29), .unset]) rfl) ?_
        show Go p e below P (T29.setTop (mkF m 65 #[.val (.int p0), .val (.int p1), .val (.int p2), .val (.ref b11), .val (.int (p2 &&& (3 : Int32))), .val (.ref b29), .unset] []))
        refine Go.by (fun _ => XS.goto X29.here hx rfl (pc0 := 65) (pc' := 78) rfl (hb hby at_65) (by decide) (by decide)) ?_
        show Go p e below P (T29.setTop (mkF m 78 #[.val (.int p0), .val (.int p1), .val (.int p2), .val (.ref b11), .val (.int (p2 &&& (3 : Int32))), .val (.ref b29), .unset] []))
        refine Go.by (fun _ => XS.aload X29.here hx rfl (hb hby at_78) rfl rfl) ?_
        show Go p e below P (T29.setTop (mkF m 80 #[.val (.int p0), .val (.int p1), .val (.int p2), .val (.ref b11), .val (.int (p2 &&& (3 : Int32))), .val (.ref b29), .unset] [(.ref b29)]))
        obtain ⟨_, _, ⟨T30, L30, k30, n30⟩, -, X30, ⟨Lc30, hQ30, l30, y30, z30⟩, st30⟩ := Jvm.LawKit.callS X29 hx (y := (⟨"com/example/envelopa/envelopa/model/ServerStateFault", "malformed", "(Ljava/lang/String;)Lcom/example/envelopa/envelopa/model/ServerStateFault;"⟩ : MethodName)) hown (mvT hZ (tw_27 hw)) (mvT hZ (tw_28 hw)) (mvT hZ (tw_29 hw)) (mvT hZ (tw_30 hw)) (by decide) (backOfKL (W := 0) (rm_malf l Z a0 hw [] (.ref b29) u sn kd T29.heap n0 f29_0 f29_4 Su hu Ssn hsn hl rfl Skd) hZ (tw_30 hw) (tw_29 hw) (by decide) (by decide) (Vm.MethodsKnown.alikeC (hZs.alike.symm.trans hZ.alike) hK.1) (Vm.FramesKnown.alikeC (hZs.alike.symm.trans hZ.alike) hK.2)) (g := (mkF m 80 #[.val (.int p0), .val (.int p1), .val (.int p2), .val (.ref b11), .val (.int (p2 &&& (3 : Int32))), .val (.ref b29), .unset] [(.ref b29)])) rfl (by rw [hml]; rfl) (argsL := [(.ref b29)]) (rest := []) (lenOf pd__Ljava_lang_String__Lcom_example_envelopa_envelopa_model_ServerStateFault_ rfl) rfl (by show 2 * 0 + _ ≤ _; exact Nat.le_of_eq rfl) (hb hby at_80) (fun _ _ => ⟨rfl, rfl, (by decide : 3 + 2 ≤ _), (by decide : 7 + 2760 ≤ _)⟩)
        dsimp only [Pt.U, Pt.locs, Pt.cells, Pt.slots] at X30 l30 y30 z30 st30 hQ30
        subst l30 y30 z30
        obtain ⟨b30, rfl, N30q, K30, Eb30, Gk30, Gr30⟩ := hQ30
        have N30 := Fr.app N29 N30q
        refine Go.by (fun t k => st30 t k) ?_
        have f30_0 : n0 ≤ T30.heap.size := (Nat.le_trans f29_0 K30.1)
        have f30_1 : CHr Z own_EL s.vm h0 s.vm T30.heap := (CHr.trans f29_1 (CHr.keep K30 sf0 f29_1.1))
        have f30_2 : s.heap.size ≤ T30.heap.size := (Nat.le_trans f29_2 K30.1)
        have f30_3 : Keep h0 T30.heap [] := (Keep.trans f29_3 K30 all0)
        have f30_4 : Old Z n0 T30.heap := (Old.keep f29_4 K30 all0)
        have f30_5 : Safe Z own_EL s.vm T30.heap b11 := (Safe.keep K30 sf0 f29_1.1 f29_5)
        have f30_6 : Arv Z T30.heap b11 k11 .char (2 : Int32) [(.int (p0 &&& (255 : Int32))), (.int (p1 &&& (255 : Int32)))] (.int (0 : Int32)) := (Arv.keep f29_6 K30 nin0)
        show Go p e below P (T30.setTop (mkF m 83 #[.val (.int p0), .val (.int p1), .val (.int p2), .val (.ref b11), .val (.int (p2 &&& (3 : Int32))), .val (.ref b29), .unset] [(.ref b30)]))
        refine Go.by (fun _ => XS.astore X30.here hx rfl (hb hby at_83) rfl rfl (l' := #[.val (.int p0), .val (.int p1), .val (.int p2), .val (.ref b11), .val (.int (p2 &&& (3 : Int32))), .val (.ref b29), .val (.ref b30)]) rfl) ?_
        show Go p e below P (T30.setTop (mkF m 85 #[.val (.int p0), .val (.int p1), .val (.int p2), .val (.ref b11), .val (.int (p2 &&& (3 : Int32))), .val (.ref b29), .val (.ref b30)] []))
        refine Go.by (fun _ => XS.aload X30.here hx rfl (hb hby at_85) rfl rfl) ?_
        show Go p e below P (T30.setTop (mkF m 87 #[.val (.int p0), .val (.int p1), .val (.int p2), .val (.ref b11), .val (.int (p2 &&& (3 : Int32))), .val (.ref b29), .val (.ref b30)] [(.ref b30)]))
        refine Go.by (fun _ => XS.ifnonnullYes X30.here hx rfl (pc0 := 87) (pc' := 92) rfl (hb hby at_87) rfl (by decide) (by decide)) ?_
        show Go p e below P (T30.setTop (mkF m 92 #[.val (.int p0), .val (.int p1), .val (.int p2), .val (.ref b11), .val (.int (p2 &&& (3 : Int32))), .val (.ref b29), .val (.ref b30)] []))
        refine Go.by (fun _ => XS.aload X30.here hx rfl (hb hby at_92) rfl rfl) ?_
        show Go p e below P (T30.setTop (mkF m 94 #[.val (.int p0), .val (.int p1), .val (.int p2), .val (.ref b11), .val (.int (p2 &&& (3 : Int32))), .val (.ref b29), .val (.ref b30)] [(.ref b30)]))
        obtain ⟨cq31, kq31, q31a, q31b, q31c⟩ := isOf hZ rfl Eb30
        obtain ⟨_, _, ⟨T31, L31, k31, n31⟩, -, X31, ⟨Lc31, hQ31, l31, y31, z31⟩, st31⟩ := X30.virtualBack hx (y := (⟨"com/example/envelopa/envelopa/model/ServerStateFault", "kind", "()Lcom/example/envelopa/envelopa/model/ServerStateFault$Kind;"⟩ : MethodName)) (z := (⟨"com/example/envelopa/envelopa/model/ServerStateFault", "kind", "()Lcom/example/envelopa/envelopa/model/ServerStateFault$Kind;"⟩ : MethodName)) hown (mvT hZ (tw_91 hw)) (mvT hZ (tw_92 hw)) (notFace_of_selects (args := #[]) (mvT hZ (tw_94 hw))) (mvT hZ (tw_94 hw)) (mvT hZ (tw_93 hw)) (by decide) (backOf (W := 0) (rm_gKind l Z a0 hw [] b30 kd T30.heap n0 f30_0 Gk30) hZ (tw_95 hw) (tw_29 hw) (by decide) (by decide)) q31a q31c (g := (mkF m 94 #[.val (.int p0), .val (.int p1), .val (.int p2), .val (.ref b11), .val (.int (p2 &&& (3 : Int32))), .val (.ref b29), .val (.ref b30)] [(.ref b30)])) rfl (by rw [hml]; rfl) (Steps.refl _) (argsL := []) (rest := []) (lenOf pd___Lcom_example_envelopa_envelopa_model_ServerStateFault_Kind_ rfl) rfl (by show 2 * 0 + _ ≤ _; exact Nat.le_of_eq rfl) (hb hby at_94) (fun _ _ => ⟨rfl, rfl, (by decide : 5 + 0 ≤ _), (by decide : 2767 + 0 ≤ _)⟩)
        dsimp only [Pt.U, Pt.locs, Pt.cells, Pt.slots] at X31 l31 y31 z31 st31 hQ31
        subst l31 y31 z31
        obtain ⟨rfl, N31q, q31⟩ := hQ31
        have N31 := Fr.app N30 N31q
        refine Go.by (fun t k => st31.trans k) ?_
        show Go p e below P (T31.setTop (mkF m 97 #[.val (.int p0), .val (.int p1), .val (.int p2), .val (.ref b11), .val (.int (p2 &&& (3 : Int32))), .val (.ref b29), .val (.ref b30)] [(.ref kd)]))
        obtain ⟨T32, X32, e32, st32⟩ := getS2 X31 hx hZ hown (host := "") (Or.inl (tw_96 hw)) Via.refl q31 (Skd.ext f30_4.2) (g := (mkF m 97 #[.val (.int p0), .val (.int p1), .val (.int p2), .val (.ref b11), .val (.int (p2 &&& (3 : Int32))), .val (.ref b29), .val (.ref b30)] [(.ref kd)])) rfl (hb hby at_97)
        refine Go.by st32 ?_
        show Go p e below P (T32.setTop (mkF m 100 #[.val (.int p0), .val (.int p1), .val (.int p2), .val (.ref b11), .val (.int (p2 &&& (3 : Int32))), .val (.ref b29), .val (.ref b30)] [(.ref kd), (.ref kd)]))
        refine Go.by (fun _ => Jvm.RoadKit.acmp (g := (mkF m 100 #[.val (.int p0), .val (.int p1), .val (.int p2), .val (.ref b11), .val (.int (p2 &&& (3 : Int32))), .val (.ref b29), .val (.ref b30)] [(.ref kd), (.ref kd)])) X32 hx rfl rfl rfl (pc0 := 100) (pc' := 103) (same := true) rfl (hb hby at_100) rfl (decide_eq_true rfl) (by decide) (by decide)) ?_
        show Go p e below P (T32.setTop (mkF m 103 #[.val (.int p0), .val (.int p1), .val (.int p2), .val (.ref b11), .val (.int (p2 &&& (3 : Int32))), .val (.ref b29), .val (.ref b30)] []))
        refine Go.by (fun _ => XS.aload X32.here hx rfl (hb hby at_103) rfl rfl) ?_
        show Go p e below P (T32.setTop (mkF m 105 #[.val (.int p0), .val (.int p1), .val (.int p2), .val (.ref b11), .val (.int (p2 &&& (3 : Int32))), .val (.ref b29), .val (.ref b30)] [(.ref b30)]))
        obtain ⟨cq33, kq33, q33a, q33b, q33c⟩ := isOf hZ e32 Eb30
        obtain ⟨_, _, ⟨T33, L33, k33, n33⟩, -, X33, ⟨Lc33, hQ33, l33, y33, z33⟩, st33⟩ := X32.virtualBack hx (y := (⟨"com/example/envelopa/envelopa/model/ServerStateFault", "reason", "()Lcom/example/envelopa/envelopa/model/Reason;"⟩ : MethodName)) (z := (⟨"com/example/envelopa/envelopa/model/ServerStateFault", "reason", "()Lcom/example/envelopa/envelopa/model/Reason;"⟩ : MethodName)) hown (mvT hZ (tw_97 hw)) (mvT hZ (tw_98 hw)) (notFace_of_selects (args := #[]) (mvT hZ (tw_100 hw))) (mvT hZ (tw_100 hw)) (mvT hZ (tw_99 hw)) (by decide) (backOf (W := 0) (rm_gReason l Z a0 hw [] b30 T30.heap n0 f30_0 Gr30) hZ (tw_101 hw) (tw_29 hw) (by decide) (by decide)) q33a q33c (g := (mkF m 105 #[.val (.int p0), .val (.int p1), .val (.int p2), .val (.ref b11), .val (.int (p2 &&& (3 : Int32))), .val (.ref b29), .val (.ref b30)] [(.ref b30)])) rfl (by rw [hml]; rfl) (Steps.refl _) (argsL := []) (rest := []) (lenOf pd___Lcom_example_envelopa_envelopa_model_Reason_ rfl) rfl (by show 2 * 0 + _ ≤ _; exact Nat.le_of_eq rfl) (hb hby at_105) (fun _ _ => ⟨rfl, e32, (by decide : 5 + 0 ≤ _), (by decide : 2767 + 0 ≤ _)⟩)
        dsimp only [Pt.U, Pt.locs, Pt.cells, Pt.slots] at X33 l33 y33 z33 st33 hQ33
        subst l33 y33 z33
        obtain ⟨rfl, N33q, q33⟩ := hQ33
        have N33 := Fr.app N31 N33q
        refine Go.by (fun t k => st33.trans k) ?_
        show Go p e below P (T33.setTop (mkF m 108 #[.val (.int p0), .val (.int p1), .val (.int p2), .val (.ref b11), .val (.int (p2 &&& (3 : Int32))), .val (.ref b29), .val (.ref b30)] [.null]))
        refine Go.by (fun _ => XS.ifnonnullNo X33.here hx rfl (hb hby at_108) rfl) ?_
        show Go p e below P (T33.setTop (mkF m 111 #[.val (.int p0), .val (.int p1), .val (.int p2), .val (.ref b11), .val (.int (p2 &&& (3 : Int32))), .val (.ref b29), .val (.ref b30)] []))
        refine Go.by (fun _ => XS.iconst X33.here hx rfl (hb hby at_111)) ?_
        show Go p e below P (T33.setTop (mkF m 112 #[.val (.int p0), .val (.int p1), .val (.int p2), .val (.ref b11), .val (.int (p2 &&& (3 : Int32))), .val (.ref b29), .val (.ref b30)] [(.int (1 : Int32))]))
        refine Go.by (fun _ => XS.goto X33.here hx rfl (pc0 := 112) (pc' := 116) rfl (hb hby at_112) (by decide) (by decide)) ?_
        show Go p e below P (T33.setTop (mkF m 116 #[.val (.int p0), .val (.int p1), .val (.int p2), .val (.ref b11), .val (.int (p2 &&& (3 : Int32))), .val (.ref b29), .val (.ref b30)] [(.int (1 : Int32))]))
        refine fin X33 (v := some (.int (1 : Int32))) (fun h => by rw [Bd.returns] at h; cases h) (by decide) (by decide) q33 hS0 f30_2 hZ f30_1 ?_ (fun fs hr => retOut X33 hx Bd.returns rfl (Or.inl ⟨rfl, Or.inr (Or.inl rfl), _, rfl⟩) (hb hby at_116) hr)
        exact ⟨rfl, N33⟩
      · refine Go.by (fun _ => XS.icmpYes X15.here hx rfl (pc0 := 54) (pc' := 68) rfl (hb hby at_54) rfl (XT.ii_ne_t hc54_27) (by decide) (by decide)) ?_
        show Go p e below P (T15.setTop (mkF m 68 #[.val (.int p0), .val (.int p1), .val (.int p2), .val (.ref b11), .val (.int (p2 &&& (3 : Int32))), .unset, .unset] []))
        obtain ⟨T34, h34, X34, e34, E34, A34, D34, U34, st34⟩ := newO X15 hx hZ hown (tw_102 hw) (tw_11 hw) (tw_3 hw) e15 (g := (mkF m 68 #[.val (.int p0), .val (.int p1), .val (.int p2), .val (.ref b11), .val (.int (p2 &&& (3 : Int32))), .unset, .unset] [])) rfl (hb hby at_68) (by decide) (by decide)
        obtain ⟨b34, g34⟩ : ∃ z, z = h15.size := ⟨_, rfl⟩
        rw [← g34] at A34 D34 U34 st34
        have g_b34 : n0 ≤ b34 := Nat.le_trans f15_0 (Nat.le_of_eq g34.symm)
        have sz_b34 : h0.size ≤ b34 := Nat.le_trans f15_3.1 (Nat.le_of_eq g34.symm)
        have ne_b11_b34 : b11 ≠ b34 := Nat.ne_of_lt (Nat.lt_of_lt_of_le (V15.lt) (Nat.le_of_eq g34.symm))
        have sf_b34 : Safe Z own_EL s.vm h15 b34 := Safe.new (Nat.le_of_eq g34.symm)
        have f34_0 : n0 ≤ h34.size := (Nat.le_trans f15_0 E34.1)
        have f34_1 : CHr Z own_EL s.vm h0 s.vm h34 := (CHr.trans f15_1 (CHr.ext E34 f15_1.1))
        have f34_2 : s.heap.size ≤ h34.size := (Nat.le_trans f15_2 E34.1)
        have f34_3 : Keep h0 h34 [] := (Keep.ext f15_3 E34)
        have f34_4 : Old Z n0 h34 := (Old.ext f15_4 E34)
        have f34_5 : Safe Z own_EL s.vm h34 b11 := (Safe.ext E34 f15_1.1 f15_5)
        have f34_6 : Arv Z h34 b11 k11 .char (2 : Int32) [(.int (p0 &&& (255 : Int32))), (.int (p1 &&& (255 : Int32)))] (.int (0 : Int32)) := (Arv.ext V15 E34)
        have f34_7 : Safe Z own_EL s.vm h34 b34 := (Safe.ext E34 f15_1.1 sf_b34)
        refine Go.by st34 ?_
        have F34_value : Fld Z h34 b34 "java/lang/String" "value" "[B" .null := D34 (Or.inr (tw_24 hw)) (ty := (.array .byte)) (by decide)
        have F34_coder : Fld Z h34 b34 "java/lang/String" "coder" "B" (.int (0 : Int32)) := D34 (Or.inr (tw_26 hw)) (ty := .byte) (by decide)
        show Go p e below P (T34.setTop (mkF m 71 #[.val (.int p0), .val (.int p1), .val (.int p2), .val (.ref b11), .val (.int (p2 &&& (3 : Int32))), .unset, .unset] [(.ref b34)]))
        refine Go.by (fun _ => XS.dup X34.here hx rfl (hb hby at_71) rfl rfl) ?_
        show Go p e below P (T34.setTop (mkF m 72 #[.val (.int p0), .val (.int p1), .val (.int p2), .val (.ref b11), .val (.int (p2 &&& (3 : Int32))), .unset, .unset] [(.ref b34), (.ref b34)]))
        refine Go.by (fun _ => XS.aloadN X34.here hx rfl (hb hby at_72) rfl rfl) ?_
        show Go p e below P (T34.setTop (mkF m 73 #[.val (.int p0), .val (.int p1), .val (.int p2), .val (.ref b11), .val (.int (p2 &&& (3 : Int32))), .unset, .unset] [(.ref b11), (.ref b34), (.ref b34)]))
        obtain ⟨_, _, ⟨T35, L35, k35, n35⟩, -, X35, ⟨Lc35, hQ35, l35, y35, z35⟩, st35⟩ := X34.specialBack hx (y := (⟨"java/lang/String", "<init>", "([C)V"⟩ : MethodName)) rfl hown (mvT hZ (tw_103 hw)) (mvT hZ (tw_104 hw)) (mvT hZ (tw_105 hw)) (by decide) (backOf (W := 1) (rm_si1_2 l Z a0 hw [] b34 b11 k11 (p0 &&& (255 : Int32)) (p1 &&& (255 : Int32)) cs h34 n0 f34_0 f34_4 Scs hcs A34 g_b34 F34_coder F34_value f34_6 (own_m255 _).1 (own_m255 _).2 (own_m255 _).1 (own_m255 _).2) hZ (tw_105 hw) (tw_3 hw) (by decide) (by decide)) (g := (mkF m 73 #[.val (.int p0), .val (.int p1), .val (.int p2), .val (.ref b11), .val (.int (p2 &&& (3 : Int32))), .unset, .unset] [(.ref b11), (.ref b34), (.ref b34)])) rfl (by rw [hml]; rfl) (Steps.refl _) (a := b34) (argsL := [(.ref b11)]) (rest := [(.ref b34)]) (lenOf pd___C_V rfl) rfl (by show 2 * 0 + _ ≤ _; exact Nat.le_of_eq rfl) (hb hby at_73) (fun _ _ => ⟨rfl, e34, (by decide : 2 + 1 ≤ _), (by decide : 6 + 2 ≤ _)⟩)
        dsimp only [Pt.U, Pt.locs, Pt.cells, Pt.slots] at X35 l35 y35 z35 st35 hQ35
        subst l35 y35 z35
        obtain ⟨rfl, N35q, K35, Gc35, d35, kd35, z35, Gv35, V35⟩ := hQ35
        have N35 := Fr.app N15 N35q
        refine Go.by (fun t k => st35.trans k) ?_
        have f35_0 : n0 ≤ T35.heap.size := (Nat.le_trans f34_0 K35.1)
        have f35_1 : CHr Z own_EL s.vm h0 s.vm T35.heap := (CHr.trans f34_1 (CHr.keep K35 (sfS f34_7 sf0) f34_1.1))
        have f35_2 : s.heap.size ≤ T35.heap.size := (Nat.le_trans f34_2 K35.1)
        have f35_3 : Keep h0 T35.heap [] := (Keep.trans f34_3 K35 (allS (Or.inr sz_b34) all0))
        have f35_4 : Old Z n0 T35.heap := (Old.keep f34_4 K35 (allS g_b34 all0))
        have f35_5 : Safe Z own_EL s.vm T35.heap b11 := (Safe.keep K35 (sfS f34_7 sf0) f34_1.1 f34_5)
        have f35_6 : Arv Z T35.heap b11 k11 .char (2 : Int32) [(.int (p0 &&& (255 : Int32))), (.int (p1 &&& (255 : Int32)))] (.int (0 : Int32)) := (Arv.keep f34_6 K35 (ninS ne_b11_b34 nin0))
        have f35_7 : Safe Z own_EL s.vm T35.heap b34 := (Safe.keep K35 (sfS f34_7 sf0) f34_1.1 f34_7)
        have f35_8 : Exa Z T35.heap b34 "java/lang/String" := (Exa.keep A34 K35)
        have S35 : StrV Z T35.heap b34 [((p0 &&& (255 : Int32)).toInt8.toInt32), ((p1 &&& (255 : Int32)).toInt8.toInt32)] := ⟨d35, kd35, f35_8, Gc35, Gv35, V35⟩
        show Go p e below P (T35.setTop (mkF m 76 #[.val (.int p0), .val (.int p1), .val (.int p2), .val (.ref b11), .val (.int (p2 &&& (3 : Int32))), .unset, .unset] [(.ref b34)]))
        refine Go.by (fun _ => XS.astore X35.here hx rfl (hb hby at_76) rfl rfl (l' := #[.val (.int p0), .val (.int p1), .val (.int p2), .val (.ref b11), .val (.int (p2 &&& (3 : Int32))), .val (.ref b34), .unset]) rfl) ?_
        show Go p e below P (T35.setTop (mkF m 78 #[.val (.int p0), .val (.int p1), .val (.int p2), .val (.ref b11), .val (.int (p2 &&& (3 : Int32))), .val (.ref b34), .unset] []))
        refine Go.by (fun _ => XS.aload X35.here hx rfl (hb hby at_78) rfl rfl) ?_
        show Go p e below P (T35.setTop (mkF m 80 #[.val (.int p0), .val (.int p1), .val (.int p2), .val (.ref b11), .val (.int (p2 &&& (3 : Int32))), .val (.ref b34), .unset] [(.ref b34)]))
        obtain ⟨_, _, ⟨T36, L36, k36, n36⟩, -, X36, ⟨Lc36, hQ36, l36, y36, z36⟩, st36⟩ := Jvm.LawKit.callS X35 hx (y := (⟨"com/example/envelopa/envelopa/model/ServerStateFault", "malformed", "(Ljava/lang/String;)Lcom/example/envelopa/envelopa/model/ServerStateFault;"⟩ : MethodName)) hown (mvT hZ (tw_27 hw)) (mvT hZ (tw_28 hw)) (mvT hZ (tw_29 hw)) (mvT hZ (tw_30 hw)) (by decide) (backOfKL (W := 0) (rm_malf l Z a0 hw [] (.ref b34) u sn kd T35.heap n0 f35_0 f35_4 Su hu Ssn hsn hl rfl Skd) hZ (tw_30 hw) (tw_29 hw) (by decide) (by decide) (Vm.MethodsKnown.alikeC (hZs.alike.symm.trans hZ.alike) hK.1) (Vm.FramesKnown.alikeC (hZs.alike.symm.trans hZ.alike) hK.2)) (g := (mkF m 80 #[.val (.int p0), .val (.int p1), .val (.int p2), .val (.ref b11), .val (.int (p2 &&& (3 : Int32))), .val (.ref b34), .unset] [(.ref b34)])) rfl (by rw [hml]; rfl) (argsL := [(.ref b34)]) (rest := []) (lenOf pd__Ljava_lang_String__Lcom_example_envelopa_envelopa_model_ServerStateFault_ rfl) rfl (by show 2 * 0 + _ ≤ _; exact Nat.le_of_eq rfl) (hb hby at_80) (fun _ _ => ⟨rfl, rfl, (by decide : 3 + 2 ≤ _), (by decide : 8 + 2760 ≤ _)⟩)
        dsimp only [Pt.U, Pt.locs, Pt.cells, Pt.slots] at X36 l36 y36 z36 st36 hQ36
        subst l36 y36 z36
        obtain ⟨b36, rfl, N36q, K36, Eb36, Gk36, Gr36⟩ := hQ36
        have N36 := Fr.app N35 N36q
        refine Go.by (fun t k => st36 t k) ?_
        have f36_0 : n0 ≤ T36.heap.size := (Nat.le_trans f35_0 K36.1)
        have f36_1 : CHr Z own_EL s.vm h0 s.vm T36.heap := (CHr.trans f35_1 (CHr.keep K36 sf0 f35_1.1))
        have f36_2 : s.heap.size ≤ T36.heap.size := (Nat.le_trans f35_2 K36.1)
        have f36_3 : Keep h0 T36.heap [] := (Keep.trans f35_3 K36 all0)
        have f36_4 : Old Z n0 T36.heap := (Old.keep f35_4 K36 all0)
        have f36_5 : Safe Z own_EL s.vm T36.heap b11 := (Safe.keep K36 sf0 f35_1.1 f35_5)
        have f36_6 : Arv Z T36.heap b11 k11 .char (2 : Int32) [(.int (p0 &&& (255 : Int32))), (.int (p1 &&& (255 : Int32)))] (.int (0 : Int32)) := (Arv.keep f35_6 K36 nin0)
        have f36_7 : StrV Z T36.heap b34 [((p0 &&& (255 : Int32)).toInt8.toInt32), ((p1 &&& (255 : Int32)).toInt8.toInt32)] := (StrV.keep0 S35 K36)
        show Go p e below P (T36.setTop (mkF m 83 #[.val (.int p0), .val (.int p1), .val (.int p2), .val (.ref b11), .val (.int (p2 &&& (3 : Int32))), .val (.ref b34), .unset] [(.ref b36)]))
        refine Go.by (fun _ => XS.astore X36.here hx rfl (hb hby at_83) rfl rfl (l' := #[.val (.int p0), .val (.int p1), .val (.int p2), .val (.ref b11), .val (.int (p2 &&& (3 : Int32))), .val (.ref b34), .val (.ref b36)]) rfl) ?_
        show Go p e below P (T36.setTop (mkF m 85 #[.val (.int p0), .val (.int p1), .val (.int p2), .val (.ref b11), .val (.int (p2 &&& (3 : Int32))), .val (.ref b34), .val (.ref b36)] []))
        refine Go.by (fun _ => XS.aload X36.here hx rfl (hb hby at_85) rfl rfl) ?_
        show Go p e below P (T36.setTop (mkF m 87 #[.val (.int p0), .val (.int p1), .val (.int p2), .val (.ref b11), .val (.int (p2 &&& (3 : Int32))), .val (.ref b34), .val (.ref b36)] [(.ref b36)]))
        refine Go.by (fun _ => XS.ifnonnullYes X36.here hx rfl (pc0 := 87) (pc' := 92) rfl (hb hby at_87) rfl (by decide) (by decide)) ?_
        show Go p e below P (T36.setTop (mkF m 92 #[.val (.int p0), .val (.int p1), .val (.int p2), .val (.ref b11), .val (.int (p2 &&& (3 : Int32))), .val (.ref b34), .val (.ref b36)] []))
        refine Go.by (fun _ => XS.aload X36.here hx rfl (hb hby at_92) rfl rfl) ?_
        show Go p e below P (T36.setTop (mkF m 94 #[.val (.int p0), .val (.int p1), .val (.int p2), .val (.ref b11), .val (.int (p2 &&& (3 : Int32))), .val (.ref b34), .val (.ref b36)] [(.ref b36)]))
        obtain ⟨cq37, kq37, q37a, q37b, q37c⟩ := isOf hZ rfl Eb36
        obtain ⟨_, _, ⟨T37, L37, k37, n37⟩, -, X37, ⟨Lc37, hQ37, l37, y37, z37⟩, st37⟩ := X36.virtualBack hx (y := (⟨"com/example/envelopa/envelopa/model/ServerStateFault", "kind", "()Lcom/example/envelopa/envelopa/model/ServerStateFault$Kind;"⟩ : MethodName)) (z := (⟨"com/example/envelopa/envelopa/model/ServerStateFault", "kind", "()Lcom/example/envelopa/envelopa/model/ServerStateFault$Kind;"⟩ : MethodName)) hown (mvT hZ (tw_91 hw)) (mvT hZ (tw_92 hw)) (notFace_of_selects (args := #[]) (mvT hZ (tw_94 hw))) (mvT hZ (tw_94 hw)) (mvT hZ (tw_93 hw)) (by decide) (backOf (W := 0) (rm_gKind l Z a0 hw [] b36 kd T36.heap n0 f36_0 Gk36) hZ (tw_95 hw) (tw_29 hw) (by decide) (by decide)) q37a q37c (g := (mkF m 94 #[.val (.int p0), .val (.int p1), .val (.int p2), .val (.ref b11), .val (.int (p2 &&& (3 : Int32))), .val (.ref b34), .val (.ref b36)] [(.ref b36)])) rfl (by rw [hml]; rfl) (Steps.refl _) (argsL := []) (rest := []) (lenOf pd___Lcom_example_envelopa_envelopa_model_ServerStateFault_Kind_ rfl) rfl (by show 2 * 0 + _ ≤ _; exact Nat.le_of_eq rfl) (hb hby at_94) (fun _ _ => ⟨rfl, rfl, (by decide : 5 + 0 ≤ _), (by decide : 2768 + 0 ≤ _)⟩)
        dsimp only [Pt.U, Pt.locs, Pt.cells, Pt.slots] at X37 l37 y37 z37 st37 hQ37
        subst l37 y37 z37
        obtain ⟨rfl, N37q, q37⟩ := hQ37
        have N37 := Fr.app N36 N37q
        refine Go.by (fun t k => st37.trans k) ?_
        show Go p e below P (T37.setTop (mkF m 97 #[.val (.int p0), .val (.int p1), .val (.int p2), .val (.ref b11), .val (.int (p2 &&& (3 : Int32))), .val (.ref b34), .val (.ref b36)] [(.ref kd)]))
        obtain ⟨T38, X38, e38, st38⟩ := getS2 X37 hx hZ hown (host := "") (Or.inl (tw_96 hw)) Via.refl q37 (Skd.ext f36_4.2) (g := (mkF m 97 #[.val (.int p0), .val (.int p1), .val (.int p2), .val (.ref b11), .val (.int (p2 &&& (3 : Int32))), .val (.ref b34), .val (.ref b36)] [(.ref kd)])) rfl (hb hby at_97)
        refine Go.by st38 ?_
        show Go p e below P (T38.setTop (mkF m 100 #[.val (.int p0), .val (.int p1), .val (.int p2), .val (.ref b11), .val (.int (p2 &&& (3 : Int32))), .val (.ref b34), .val (.ref b36)] [(.ref kd), (.ref kd)]))
        refine Go.by (fun _ => Jvm.RoadKit.acmp (g := (mkF m 100 #[.val (.int p0), .val (.int p1), .val (.int p2), .val (.ref b11), .val (.int (p2 &&& (3 : Int32))), .val (.ref b34), .val (.ref b36)] [(.ref kd), (.ref kd)])) X38 hx rfl rfl rfl (pc0 := 100) (pc' := 103) (same := true) rfl (hb hby at_100) rfl (decide_eq_true rfl) (by decide) (by decide)) ?_
        show Go p e below P (T38.setTop (mkF m 103 #[.val (.int p0), .val (.int p1), .val (.int p2), .val (.ref b11), .val (.int (p2 &&& (3 : Int32))), .val (.ref b34), .val (.ref b36)] []))
        refine Go.by (fun _ => XS.aload X38.here hx rfl (hb hby at_103) rfl rfl) ?_
        show Go p e below P (T38.setTop (mkF m 105 #[.val (.int p0), .val (.int p1), .val (.int p2), .val (.ref b11), .val (.int (p2 &&& (3 : Int32))), .val (.ref b34), .val (.ref b36)] [(.ref b36)]))
        obtain ⟨cq39, kq39, q39a, q39b, q39c⟩ := isOf hZ e38 Eb36
        obtain ⟨_, _, ⟨T39, L39, k39, n39⟩, -, X39, ⟨Lc39, hQ39, l39, y39, z39⟩, st39⟩ := X38.virtualBack hx (y := (⟨"com/example/envelopa/envelopa/model/ServerStateFault", "reason", "()Lcom/example/envelopa/envelopa/model/Reason;"⟩ : MethodName)) (z := (⟨"com/example/envelopa/envelopa/model/ServerStateFault", "reason", "()Lcom/example/envelopa/envelopa/model/Reason;"⟩ : MethodName)) hown (mvT hZ (tw_97 hw)) (mvT hZ (tw_98 hw)) (notFace_of_selects (args := #[]) (mvT hZ (tw_100 hw))) (mvT hZ (tw_100 hw)) (mvT hZ (tw_99 hw)) (by decide) (backOf (W := 0) (rm_gReason l Z a0 hw [] b36 T36.heap n0 f36_0 Gr36) hZ (tw_101 hw) (tw_29 hw) (by decide) (by decide)) q39a q39c (g := (mkF m 105 #[.val (.int p0), .val (.int p1), .val (.int p2), .val (.ref b11), .val (.int (p2 &&& (3 : Int32))), .val (.ref b34), .val (.ref b36)] [(.ref b36)])) rfl (by rw [hml]; rfl) (Steps.refl _) (argsL := []) (rest := []) (lenOf pd___Lcom_example_envelopa_envelopa_model_Reason_ rfl) rfl (by show 2 * 0 + _ ≤ _; exact Nat.le_of_eq rfl) (hb hby at_105) (fun _ _ => ⟨rfl, e38, (by decide : 5 + 0 ≤ _), (by decide : 2768 + 0 ≤ _)⟩)
        dsimp only [Pt.U, Pt.locs, Pt.cells, Pt.slots] at X39 l39 y39 z39 st39 hQ39
        subst l39 y39 z39
        obtain ⟨rfl, N39q, q39⟩ := hQ39
        have N39 := Fr.app N37 N39q
        refine Go.by (fun t k => st39.trans k) ?_
        show Go p e below P (T39.setTop (mkF m 108 #[.val (.int p0), .val (.int p1), .val (.int p2), .val (.ref b11), .val (.int (p2 &&& (3 : Int32))), .val (.ref b34), .val (.ref b36)] [.null]))
        refine Go.by (fun _ => XS.ifnonnullNo X39.here hx rfl (hb hby at_108) rfl) ?_
        show Go p e below P (T39.setTop (mkF m 111 #[.val (.int p0), .val (.int p1), .val (.int p2), .val (.ref b11), .val (.int (p2 &&& (3 : Int32))), .val (.ref b34), .val (.ref b36)] []))
        refine Go.by (fun _ => XS.iconst X39.here hx rfl (hb hby at_111)) ?_
        show Go p e below P (T39.setTop (mkF m 112 #[.val (.int p0), .val (.int p1), .val (.int p2), .val (.ref b11), .val (.int (p2 &&& (3 : Int32))), .val (.ref b34), .val (.ref b36)] [(.int (1 : Int32))]))
        refine Go.by (fun _ => XS.goto X39.here hx rfl (pc0 := 112) (pc' := 116) rfl (hb hby at_112) (by decide) (by decide)) ?_
        show Go p e below P (T39.setTop (mkF m 116 #[.val (.int p0), .val (.int p1), .val (.int p2), .val (.ref b11), .val (.int (p2 &&& (3 : Int32))), .val (.ref b34), .val (.ref b36)] [(.int (1 : Int32))]))
        refine fin X39 (v := some (.int (1 : Int32))) (fun h => by rw [Bd.returns] at h; cases h) (by decide) (by decide) q39 hS0 f36_2 hZ f36_1 ?_ (fun fs hr => retOut X39 hx Bd.returns rfl (Or.inl ⟨rfl, Or.inr (Or.inl rfl), _, rfl⟩) (hb hby at_116) hr)
        exact ⟨rfl, N39⟩
set_option maxRecDepth 65536 in
set_option maxHeartbeats 40000000 in
theorem comes_1 {Post : Tables → Env → Array Value → State → Outcome → State → Prop} (hpost : ∀ tb e args s v u, (limb_1_1.after args s (.returned v) u = true ∧ limb_1_2.after args s (.returned v) u = true ∧ True) → ReturnedEndW s (.returned v) u (Jvm.fieldLocs frame_1_writes args s ++ Jvm.arrayLocs frame_1_arrays args s ++ Jvm.staticLocs frame_1_statics s) 24 6656 → Post tb e args s (.returned v) u) :
    ArmFor flags0 classFile x code maxLocals ret World_1 tables_1 room_1 Calls_1 rest_1 Pre_1 Post := by
  intro l hfl _ _ p e ha hc hk s m args below hf hA hF happ hP
  obtain ⟨hcalls, hrest, hpre⟩ := hP
  obtain ⟨-, -, -, hnamed, -, -, -, hat⟩ := (Spec.applies_iff hf).mp happ
  obtain ⟨hg, hn⟩ := and_e (Cond.before_iff.mp (show (Jvm.Cond.and given_1 narrow_1).before args s = true from hpre))
  obtain ⟨hg_0, hg_1⟩ := and_e hg
  obtain ⟨hg_2, hg_3⟩ := and_e hg_1
  obtain ⟨hg_4, hg_5⟩ := and_e hg_3
  obtain ⟨w0, w1, w2, rfl⟩ : ∃ w0 w1 w2 : Value, args = #[w0, w1, w2] := by
    have hs : args.size = 3 := by simpa [Cond.value, given_1] using hg_0
    obtain ⟨L⟩ := args
    match L, hs with
    | [w0, w1, w2], _ => exact ⟨w0, w1, w2, rfl⟩
  have hw := fun d (hd : d ∈ tables_1) => atoms_spec (ws := Jvm.Cond.code x code maxLocals ret :: tables_1) hat d (List.mem_cons_of_mem _ hd)
  have hfit : Fit s := fun {y c} hc i hi => by
    obtain ⟨ha, rfl⟩ := Array.getElem?_eq_some_iff.mp hc
    have q := List.all_eq_true.mp ((Array.all_eq_true_iff_forall_mem.mp hF) _ (Array.getElem_mem ha)) i (List.mem_range.mpr hi)
    simpa [Array.getElem?_eq_getElem hi] using q
  obtain ⟨i0, ei0⟩ := is_v hg_2
  obtain rfl : w0 = (.int i0) := Option.some.inj ei0
  obtain ⟨i1, ei1⟩ := is_v hg_4
  obtain rfl : w1 = (.int i1) := Option.some.inj ei1
  obtain ⟨i2, ei2⟩ := is_v hg_5
  obtain rfl : w2 = (.int i2) := Option.some.inj ei2
  obtain ⟨hsets, hown0⟩ := atoms_of _ (rest_1_c_eq ▸ (show rest_1_c.before _ s = true from hrest))
  obtain ⟨kd, evk⟩ := exa_v hn
  have Skd := Sta.start evk (Or.inr ⟨(tw_34 hw), (tw_35 hw)⟩)
  obtain ⟨cs, evc⟩ := is_v (Cond.before_iff.mp (hsets _ (List.mem_of_getElem? (i := 1) rfl)))
  have Scs := Sta.start evc (Or.inl (hsets _ (List.mem_of_getElem? (i := 0) rfl)))
  have hcw : Jvm.Lit.compactW.before _ s = true := (hsets _ (List.mem_of_getElem? (i := 2) rfl))
  have hcs : ¬ cs = (0 : Int32) := by
    intro q
    have z := Cond.before_iff.mp hcw
    rw [q] at evc
    simp [Jvm.Lit.compactW, Cond.value, evc, Term.int_eval] at z
  have hEL : EW s #[.int i0, .int i1, .int i2] own_EL := EW.nil
  have hCH : CHv s own_EL s.vm s.heap := fun _ q => nomatch q
  obtain ⟨u, evu, hu⟩ := isR_v (Cond.before_iff.mp (hsets _ (List.mem_of_getElem? (i := 16) rfl)))
  have Su := Sta.start evu (Or.inl (hsets _ (List.mem_of_getElem? (i := 15) rfl)))
  obtain ⟨sn, evsn, hsn⟩ := isR_v (Cond.before_iff.mp (hsets _ (List.mem_of_getElem? (i := 21) rfl)))
  have Ssn := Sta.start evsn (Or.inl (hsets _ (List.mem_of_getElem? (i := 20) rfl)))
  have hl : l.stackTraces = true := by unfold Launch.stackTraces; rw [hfl]; decide
  obtain ⟨n, o, h1, h2, h3, _, L, rfl, ⟨rfl, N⟩, -, hq⟩ := rm_law l s _ hw hEL tables_1 i0 i1 i2 cs u sn kd s.heap s.heap.size (Nat.le_refl _) (Old.start s) Scs hcs Su hu Ssn hsn hl Skd p e ha hc hk s m _ below hf ((Spec.applies_iff_loose hf).mp happ).1 ⟨rfl, State.Warmed39.refl s, rfl, hCH, fun _ q => nomatch q⟩ ⟨MethodsKnown_of_tablesKnown hcalls.2.1, FramesKnown_of_framesKnown hcalls.1 hf⟩
  refine ⟨n, _, h1, h2, h3, hpost _ _ _ _ _ _ ⟨Cond.after_iff.mpr rfl, Cond.after_iff.mpr (eq_i res_at (Term.int_eval (1)) rfl), trivial⟩ ⟨hq.1, hq.2.1, hq.2.2.1, (hq.2.2.2.sift fun y hy => Or.inr (N y hy)).mono (by decide) (by decide)⟩⟩
theorem main_1_1 : Claimed_1_1 := comes_1 fun _ _ _ _ _ _ h hF => ⟨h.1, hF⟩
theorem main_1_2 : Claimed_1_2 := comes_1 fun _ _ _ _ _ _ h hF => ⟨h.2.1, hF⟩
end Jvm.Pilot.@@N@@
namespace Jvm.Pilot.@@N@@
open Jvm Jvm.ClassFile Sem Op Lib Jvm.Free Jvm.Stand Jvm.Pilot.@@N@@.Jvm.D
/-! MADE BY PROGRAM (witnessworld.py) out of the Statement's table words and the real class files: 37 classes; the members and pool entries that the words name. The judged class is class 1, her method 1. -/
namespace start1
open Jvm.ClassFile
def u (s : String) : CpInfo := .utf8 (stringToUtf16 s)
/-- a pool by its gaps: so many unusable entries, then the entry; so many at the end -/
def gap : Nat → List CpInfo → List CpInfo
  | 0, r => r
  | n + 1, r => .unusable :: gap n r
def poolList (es : List (Nat × CpInfo)) (last : Nat) : List CpInfo := es.foldr (fun e r => gap e.1 (e.2 :: r)) (gap last [])
def pool (es : List (Nat × CpInfo)) (last : Nat) : Array CpInfo := ⟨poolList es last⟩
def fileOf (pool : Array CpInfo) (this : Nat) (attrs : Array Attribute := #[]) (ms : Array MethodInfo := #[]) (fl : Nat := 33) (sup : Nat := 0) (ifs : Array Nat := #[]) (fds : Array FieldInfo := #[]) : ClassFile where
  minorVersion := 0
  majorVersion := 65
  constantPool := pool
  accessFlags := fl
  thisClass := this
  superClass := sup
  interfaces := ifs
  fields := fds
  methods := ms
  attributes := attrs
def plain (name : String) (sup : Option ClassId) : Class where
  name := name
  kind := .ordinary
  loader := none
  accessFlags := 33
  super := sup
  interfaces := #[]
  cf := none
  fields := #[]
  methods := #[]
  instanceTypes := #[]
  staticTypes := #[]
  resolved := #[]
  callSites := []
  init := .initialized
  statics := none
  mirror := none

def pool0 : Array CpInfo := pool [(5, u "<init>"), (0, u "()V"), (1, .class_ 10), (1, u "java/lang/Object")] 113

def k0c0 : Code := { maxStack := 0, maxLocals := 1, code := object_method_1_code, exceptionTable := #[], attributes := #[] }
def k0m0 : Method := { name := "<init>", desc := "()V", sig := { parameters := [], returnType := none }, accessFlags := 1, code := some k0c0 }
/-- java/lang/Object -/
def k0 : Class := { plain "java/lang/Object" none with
  accessFlags := 33
  interfaces := #[]
  cf := some (fileOf pool0 8 #[] #[{ accessFlags := 1, nameIndex := 5, descriptorIndex := 6, attributes := #[] }] 33 0 #[] #[])
  fields := #[]
  methods := #[k0m0]
  instanceTypes := #[]
  staticTypes := #[]
  resolved := Array.replicate 124 none
  statics := none }

def pool1 : Array CpInfo := pool [(2, .class_ 4), (1, u "java/lang/Object"), (0, u "<init>"), (0, u "()V"), (0, .string 8), (0, u ""), (0, .methodref 10 11), (0, .class_ 12), (0, .nameAndType 13 14), (0, u "java/lang/String"), (0, u "valueOf"), (0, u "(C)Ljava/lang/String;"), (0, .methodref 10 16), (0, .nameAndType 5 17), (0, u "([C)V"), (0, .methodref 19 20), (0, .class_ 21), (0, .nameAndType 22 23), (0, u "com/example/envelopa/envelopa/model/ServerStateFault"), (0, u "malformed"), (0, u "(Ljava/lang/String;)Lcom/example/envelopa/envelopa/model/ServerStateFault;"), (0, .methodref 19 25), (0, .nameAndType 26 27), (0, u "kind"), (0, u "()Lcom/example/envelopa/envelopa/model/ServerStateFault$Kind;"), (0, .fieldref 29 30), (0, .class_ 31), (0, .nameAndType 32 33), (0, u "com/example/envelopa/envelopa/model/ServerStateFault$Kind"), (0, u "MALFORMED"), (0, u "Lcom/example/envelopa/envelopa/model/ServerStateFault$Kind;"), (0, .methodref 19 35), (0, .nameAndType 36 37), (0, u "reason"), (0, u "()Lcom/example/envelopa/envelopa/model/Reason;"), (0, .class_ 39), (0, u "com/example/envelopa/envelopa/model/ServerStateFaultMalformedPinLaw"), (2, u "law"), (0, u "(III)Z")] 7

def k1m0 : Method := { name := "<init>", desc := "()V", sig := { parameters := [], returnType := none }, accessFlags := 1, code := none }
def k1c1 : Code := { maxStack := 4, maxLocals := 7, code := code, exceptionTable := #[], attributes := #[] }
def k1m1 : Method := { name := "law", desc := "(III)Z", sig := { parameters := [.int, .int, .int], returnType := some .boolean }, accessFlags := 9, code := some k1c1 }
/-- com/example/envelopa/envelopa/model/ServerStateFaultMalformedPinLaw -/
def k1 : Class := { plain "com/example/envelopa/envelopa/model/ServerStateFaultMalformedPinLaw" (some 0) with
  accessFlags := 49
  interfaces := #[]
  cf := some (fileOf pool1 38 #[] #[{ accessFlags := 1, nameIndex := 5, descriptorIndex := 6, attributes := #[] }, { accessFlags := 9, nameIndex := 42, descriptorIndex := 43, attributes := #[] }] 49 2 #[] #[])
  fields := #[]
  methods := #[k1m0, k1m1]
  instanceTypes := #[]
  staticTypes := #[]
  resolved := Array.replicate 51 none
  statics := none }

def pool2 : Array CpInfo := pool [(1, .class_ 2), (0, u "java/io/Serializable"), (0, .class_ 4), (0, u "java/lang/Object")] 2

/-- java/io/Serializable -/
def k2 : Class := { plain "java/io/Serializable" (some 0) with
  accessFlags := 1537
  interfaces := #[]
  cf := some (fileOf pool2 1 #[] #[] 1537 3 #[] #[])
  fields := #[]
  methods := #[]
  instanceTypes := #[]
  staticTypes := #[]
  resolved := Array.replicate 7 none
  statics := none }

def pool3 : Array CpInfo := pool [(1, .class_ 2), (0, u "java/lang/Comparable"), (0, .class_ 4), (0, u "java/lang/Object")] 7

/-- java/lang/Comparable -/
def k3 : Class := { plain "java/lang/Comparable" (some 0) with
  accessFlags := 1537
  interfaces := #[]
  cf := some (fileOf pool3 1 #[] #[] 1537 3 #[] #[])
  fields := #[]
  methods := #[]
  instanceTypes := #[]
  staticTypes := #[]
  resolved := Array.replicate 12 none
  statics := none }

def pool4 : Array CpInfo := pool [(2, .class_ 4), (1, u "java/lang/CharSequence"), (42, .class_ 48), (0, u "java/lang/CharSequence$1CodePointIterator"), (10, .class_ 60), (0, u "java/lang/CharSequence$1CharIterator"), (5, .class_ 67), (0, u "java/lang/Object")] 63

/-- java/lang/CharSequence -/
def k4 : Class := { plain "java/lang/CharSequence" (some 0) with
  accessFlags := 1537
  interfaces := #[]
  cf := some (fileOf pool4 2 #[.nestMembers #[47, 59]] #[] 1537 66 #[] #[])
  fields := #[]
  methods := #[]
  instanceTypes := #[]
  staticTypes := #[]
  resolved := Array.replicate 131 none
  statics := none }

def pool5 : Array CpInfo := pool [(1, .class_ 2), (0, u "java/lang/constant/Constable"), (0, .class_ 4), (0, u "java/lang/Object")] 6

/-- java/lang/constant/Constable -/
def k5 : Class := { plain "java/lang/constant/Constable" (some 0) with
  accessFlags := 1537
  interfaces := #[]
  cf := some (fileOf pool5 1 #[] #[] 1537 3 #[] #[])
  fields := #[]
  methods := #[]
  instanceTypes := #[]
  staticTypes := #[]
  resolved := Array.replicate 11 none
  statics := none }

def pool6 : Array CpInfo := pool [(1, .class_ 2), (0, u "java/lang/constant/ConstantDesc"), (0, .class_ 4), (0, u "java/lang/Object")] 32

/-- java/lang/constant/ConstantDesc -/
def k6 : Class := { plain "java/lang/constant/ConstantDesc" (some 0) with
  accessFlags := 1537
  interfaces := #[]
  cf := some (fileOf pool6 1 #[] #[] 1537 3 #[] #[])
  fields := #[]
  methods := #[]
  instanceTypes := #[]
  staticTypes := #[]
  resolved := Array.replicate 37 none
  statics := none }

def pool7 : Array CpInfo := pool [(1, .methodref 2 3), (0, .class_ 4), (0, .nameAndType 5 6), (0, u "java/lang/Object"), (0, u "<init>"), (0, u "()V"), (2, .fieldref 10 11), (0, .class_ 12), (0, .nameAndType 13 14), (0, u "java/lang/String"), (0, u "value"), (0, u "[B"), (0, .fieldref 10 16), (0, .nameAndType 17 18), (0, u "coder"), (0, u "B"), (2, u "hash"), (0, u "I"), (2, u "hashIsZero"), (0, u "Z"), (0, .methodref 10 28), (0, .nameAndType 5 29), (0, u "([CIILjava/lang/Void;)V"), (8, .fieldref 10 39), (0, .nameAndType 40 26), (0, u "COMPACT_STRINGS"), (1, .class_ 44), (1, u "java/lang/StringUTF16"), (0, u "compress"), (1, .methodref 42 48), (0, .nameAndType 49 50), (0, u "coderFromArrayLen"), (0, u "([BI)B"), (2, u "toBytes"), (53, .class_ 109), (1, u "java/lang/StringLatin1"), (67, .methodref 42 178), (0, .nameAndType 45 179), (0, u "([CII)[B"), (29, .methodref 10 210), (0, .nameAndType 5 211), (0, u "([BB)V"), (157, u "(C)Z"), (205, .class_ 576), (0, u "java/lang/CharSequence"), (22, u "CASE_INSENSITIVE_ORDER"), (0, u "Ljava/util/Comparator;"), (181, u "valueOf"), (0, u "(C)Ljava/lang/String;"), (226, u "([C)V"), (4, .methodref 107 1016), (0, .nameAndType 1017 369), (0, u "canEncode"), (0, .methodref 107 1019), (0, .nameAndType 53 1020), (0, u "(C)[B"), (80, u "serialPersistentFields"), (0, u "[Ljava/io/ObjectStreamField;"), (0, .class_ 1104), (0, u "java/lang/String$CaseInsensitiveComparator"), (1, .class_ 1107), (0, u "java/io/Serializable"), (0, .class_ 1109), (0, u "java/lang/Comparable"), (0, .class_ 1111), (0, u "java/lang/constant/Constable"), (0, .class_ 1113), (0, u "java/lang/constant/ConstantDesc"), (2, u "serialVersionUID"), (0, u "J"), (3, u "REPL"), (0, u "C"), (2, u "LATIN1"), (1, u "UTF16")] 323

def k7m0 : Method := { name := "<init>", desc := "()V", sig := { parameters := [], returnType := none }, accessFlags := 1, code := none }
def k7c1 : Code := { maxStack := 5, maxLocals := 2, code := jdk_42_method_3_code, exceptionTable := #[], attributes := #[] }
def k7m1 : Method := { name := "<init>", desc := "([C)V", sig := { parameters := [(.array .char)], returnType := none }, accessFlags := 1, code := some k7c1 }
def k7c2 : Code := { maxStack := 4, maxLocals := 1, code := jdk_42_method_139_code, exceptionTable := #[], attributes := #[] }
def k7m2 : Method := { name := "valueOf", desc := "(C)Ljava/lang/String;", sig := { parameters := [.char], returnType := some (.object "java/lang/String") }, accessFlags := 9, code := some k7c2 }
def k7c3 : Code := { maxStack := 4, maxLocals := 6, code := jdk_42_method_149_code, exceptionTable := #[], attributes := #[] }
def k7m3 : Method := { name := "<init>", desc := "([CIILjava/lang/Void;)V", sig := { parameters := [(.array .char), .int, .int, (.object "java/lang/Void")], returnType := none }, accessFlags := 2, code := some k7c3 }
def k7c4 : Code := { maxStack := 2, maxLocals := 3, code := jdk_42_method_151_code, exceptionTable := #[], attributes := #[] }
def k7m4 : Method := { name := "<init>", desc := "([BB)V", sig := { parameters := [(.array .byte), .byte], returnType := none }, accessFlags := 0, code := some k7c4 }
/-- java/lang/String -/
def k7 : Class := { plain "java/lang/String" (some 0) with
  accessFlags := 49
  interfaces := #[2, 3, 4, 5, 6]
  cf := some (fileOf pool7 10 #[.nestMembers #[1103]] #[{ accessFlags := 1, nameIndex := 5, descriptorIndex := 6, attributes := #[] }, { accessFlags := 1, nameIndex := 5, descriptorIndex := 1010, attributes := #[] }, { accessFlags := 9, nameIndex := 782, descriptorIndex := 783, attributes := #[] }, { accessFlags := 2, nameIndex := 5, descriptorIndex := 29, attributes := #[] }, { accessFlags := 0, nameIndex := 5, descriptorIndex := 211, attributes := #[] }] 49 2 #[1106, 1108, 575, 1110, 1112] #[{ accessFlags := 18, nameIndex := 13, descriptorIndex := 14, attributes := #[] }, { accessFlags := 18, nameIndex := 17, descriptorIndex := 18, attributes := #[] }, { accessFlags := 2, nameIndex := 21, descriptorIndex := 22, attributes := #[] }, { accessFlags := 2, nameIndex := 25, descriptorIndex := 26, attributes := #[] }, { accessFlags := 26, nameIndex := 1116, descriptorIndex := 1117, attributes := #[] }, { accessFlags := 24, nameIndex := 40, descriptorIndex := 26, attributes := #[] }, { accessFlags := 26, nameIndex := 1101, descriptorIndex := 1102, attributes := #[] }, { accessFlags := 26, nameIndex := 1121, descriptorIndex := 1122, attributes := #[] }, { accessFlags := 25, nameIndex := 599, descriptorIndex := 600, attributes := #[] }, { accessFlags := 24, nameIndex := 1125, descriptorIndex := 18, attributes := #[] }, { accessFlags := 24, nameIndex := 1127, descriptorIndex := 18, attributes := #[] }])
  fields := #[{ name := "value", type := (.array .byte), accessFlags := 18, slot := 0, constantValue := 0 }, { name := "coder", type := .byte, accessFlags := 18, slot := 1, constantValue := 0 }, { name := "hash", type := .int, accessFlags := 2, slot := 2, constantValue := 0 }, { name := "hashIsZero", type := .boolean, accessFlags := 2, slot := 3, constantValue := 0 }, { name := "serialVersionUID", type := .long, accessFlags := 26, slot := 0, constantValue := 0 }, { name := "COMPACT_STRINGS", type := .boolean, accessFlags := 24, slot := 1, constantValue := 0 }, { name := "serialPersistentFields", type := (.array (.object "java/io/ObjectStreamField")), accessFlags := 26, slot := 2, constantValue := 0 }, { name := "REPL", type := .char, accessFlags := 26, slot := 3, constantValue := 0 }, { name := "CASE_INSENSITIVE_ORDER", type := (.object "java/util/Comparator"), accessFlags := 25, slot := 4, constantValue := 0 }, { name := "LATIN1", type := .byte, accessFlags := 24, slot := 5, constantValue := 0 }, { name := "UTF16", type := .byte, accessFlags := 24, slot := 6, constantValue := 0 }]
  methods := #[k7m0, k7m1, k7m2, k7m3, k7m4]
  instanceTypes := #[(.array .byte), .byte, .int, .boolean]
  staticTypes := #[.long, .boolean, (.array (.object "java/io/ObjectStreamField")), .char, (.object "java/util/Comparator"), .byte, .byte]
  resolved := Array.replicate 1451 none
  statics := some 0 }

def pool8 : Array CpInfo := pool [(4, .class_ 6), (1, u "java/lang/Object"), (0, u "<init>"), (0, u "()V"), (5, .class_ 16), (1, u "java/lang/StringLatin1"), (73, u "canEncode"), (14, u "(C)Z"), (15, u "$assertionsDisabled"), (0, u "Z"), (98, .class_ 223), (1, u "java/lang/StringLatin1$LinesSpliterator"), (156, u "toBytes"), (1, u "(C)[B"), (7, .class_ 391), (0, u "java/lang/StringLatin1$CharsSpliterator")] 3

def k8m0 : Method := { name := "<init>", desc := "()V", sig := { parameters := [], returnType := none }, accessFlags := 0, code := none }
def k8c1 : Code := { maxStack := 2, maxLocals := 1, code := jdk_43_method_3_code, exceptionTable := #[], attributes := #[] }
def k8m1 : Method := { name := "canEncode", desc := "(C)Z", sig := { parameters := [.char], returnType := some .boolean }, accessFlags := 9, code := some k8c1 }
def k8c2 : Code := { maxStack := 4, maxLocals := 1, code := jdk_43_method_46_code, exceptionTable := #[], attributes := #[] }
def k8m2 : Method := { name := "toBytes", desc := "(C)[B", sig := { parameters := [.char], returnType := some (.array .byte) }, accessFlags := 9, code := some k8c2 }
/-- java/lang/StringLatin1 -/
def k8 : Class := { plain "java/lang/StringLatin1" (some 0) with
  accessFlags := 48
  interfaces := #[]
  cf := some (fileOf pool8 14 #[.nestMembers #[390, 221]] #[{ accessFlags := 0, nameIndex := 7, descriptorIndex := 8, attributes := #[] }, { accessFlags := 9, nameIndex := 90, descriptorIndex := 105, attributes := #[] }, { accessFlags := 9, nameIndex := 380, descriptorIndex := 382, attributes := #[] }] 48 4 #[] #[{ accessFlags := 4120, nameIndex := 121, descriptorIndex := 122, attributes := #[] }])
  fields := #[{ name := "$assertionsDisabled", type := .boolean, accessFlags := 4120, slot := 0, constantValue := 0 }]
  methods := #[k8m0, k8m1, k8m2]
  instanceTypes := #[]
  staticTypes := #[.boolean]
  resolved := Array.replicate 395 none
  statics := none }

def pool9 : Array CpInfo := pool [(1, .methodref 2 3), (0, .class_ 4), (0, .nameAndType 5 6), (0, u "java/lang/Object"), (0, u "<init>"), (0, u "()V"), (0, .fieldref 8 9), (0, .class_ 10), (0, .nameAndType 11 12), (0, u "java/lang/Throwable"), (0, u "cause"), (0, u "Ljava/lang/Throwable;"), (0, .fieldref 8 14), (0, .nameAndType 15 16), (0, u "UNASSIGNED_STACK"), (0, u "[Ljava/lang/StackTraceElement;"), (0, .fieldref 8 18), (0, .nameAndType 19 16), (0, u "stackTrace"), (0, .fieldref 8 21), (0, .nameAndType 22 23), (0, u "SUPPRESSED_SENTINEL"), (0, u "Ljava/util/List;"), (0, .fieldref 8 25), (0, .nameAndType 26 23), (0, u "suppressedExceptions"), (0, .methodref 8 28), (0, .nameAndType 29 30), (0, u "fillInStackTrace"), (0, u "()Ljava/lang/Throwable;"), (0, .fieldref 8 32), (0, .nameAndType 33 34), (0, u "detailMessage"), (0, u "Ljava/lang/String;"), (58, .class_ 94), (0, u "java/lang/Throwable$WrappedPrintStream"), (6, .class_ 103), (1, u "java/lang/Throwable$PrintStreamOrWriter"), (61, u "$assertionsDisabled"), (0, u "Z"), (26, .class_ 194), (0, u "java/lang/Throwable$WrappedPrintWriter"), (3, .fieldref 8 199), (0, .nameAndType 200 201), (0, u "backtrace"), (0, u "Ljava/lang/Object;"), (0, .methodref 8 203), (0, .nameAndType 29 204), (0, u "(I)Ljava/lang/Throwable;"), (6, u "depth"), (0, u "I"), (10, u "(Ljava/lang/String;)V"), (45, .class_ 271), (1, u "java/lang/Throwable$SentinelHolder"), (32, u "EMPTY_THROWABLE_ARRAY"), (0, u "[Ljava/lang/Throwable;"), (12, .class_ 319), (0, u "java/io/Serializable"), (0, u "serialVersionUID"), (0, u "J"), (5, u "NULL_CAUSE_MESSAGE"), (0, u "SELF_SUPPRESSION_MESSAGE"), (0, u "CAUSE_CAPTION"), (0, u "SUPPRESSED_CAPTION")] 73

def k9c0 : Code := { maxStack := 2, maxLocals := 1, code := jdk_78_method_1_code, exceptionTable := #[], attributes := #[] }
def k9m0 : Method := { name := "<init>", desc := "()V", sig := { parameters := [], returnType := none }, accessFlags := 1, code := some k9c0 }
def k9c1 : Code := { maxStack := 2, maxLocals := 2, code := jdk_78_method_2_code, exceptionTable := #[], attributes := #[] }
def k9m1 : Method := { name := "<init>", desc := "(Ljava/lang/String;)V", sig := { parameters := [(.object "java/lang/String")], returnType := none }, accessFlags := 1, code := some k9c1 }
def k9c2 : Code := { maxStack := 2, maxLocals := 1, code := ⟨#[0x2a, 0xb4, 0x00, 0x11, 0xc7, 0x00, 0x0a, 0x2a, 0xb4, 0x00, 0xc6, 0xc6, 0x00, 0x10, 0x2a, 0x03, 0xb6, 0x00, 0xca, 0x57, 0x2a, 0xb2, 0x00, 0x0d, 0xb5, 0x00, 0x11, 0x2a, 0xb0]⟩, exceptionTable := #[], attributes := #[] }
def k9m2 : Method := { name := "fillInStackTrace", desc := "()Ljava/lang/Throwable;", sig := { parameters := [], returnType := some (.object "java/lang/Throwable") }, accessFlags := 33, code := some k9c2 }
def k9m3 : Method := { name := "fillInStackTrace", desc := "(I)Ljava/lang/Throwable;", sig := { parameters := [.int], returnType := some (.object "java/lang/Throwable") }, accessFlags := 258, code := none }
/-- java/lang/Throwable -/
def k9 : Class := { plain "java/lang/Throwable" (some 0) with
  accessFlags := 33
  interfaces := #[2]
  cf := some (fileOf pool9 8 #[.nestMembers #[193, 93, 101, 269]] #[{ accessFlags := 1, nameIndex := 5, descriptorIndex := 6, attributes := #[] }, { accessFlags := 1, nameIndex := 5, descriptorIndex := 223, attributes := #[] }, { accessFlags := 33, nameIndex := 29, descriptorIndex := 30, attributes := #[] }, { accessFlags := 258, nameIndex := 29, descriptorIndex := 204, attributes := #[] }] 33 2 #[318] #[{ accessFlags := 26, nameIndex := 320, descriptorIndex := 321, attributes := #[] }, { accessFlags := 130, nameIndex := 200, descriptorIndex := 201, attributes := #[] }, { accessFlags := 2, nameIndex := 33, descriptorIndex := 34, attributes := #[] }, { accessFlags := 26, nameIndex := 15, descriptorIndex := 16, attributes := #[] }, { accessFlags := 2, nameIndex := 11, descriptorIndex := 12, attributes := #[] }, { accessFlags := 2, nameIndex := 19, descriptorIndex := 16, attributes := #[] }, { accessFlags := 130, nameIndex := 211, descriptorIndex := 212, attributes := #[] }, { accessFlags := 26, nameIndex := 22, descriptorIndex := 23, attributes := #[] }, { accessFlags := 2, nameIndex := 26, descriptorIndex := 23, attributes := #[] }, { accessFlags := 26, nameIndex := 327, descriptorIndex := 34, attributes := #[] }, { accessFlags := 26, nameIndex := 328, descriptorIndex := 34, attributes := #[] }, { accessFlags := 26, nameIndex := 329, descriptorIndex := 34, attributes := #[] }, { accessFlags := 26, nameIndex := 330, descriptorIndex := 34, attributes := #[] }, { accessFlags := 26, nameIndex := 304, descriptorIndex := 305, attributes := #[] }, { accessFlags := 4120, nameIndex := 165, descriptorIndex := 166, attributes := #[] }])
  fields := #[{ name := "serialVersionUID", type := .long, accessFlags := 26, slot := 0, constantValue := 0 }, { name := "backtrace", type := (.object "java/lang/Object"), accessFlags := 130, slot := 0, constantValue := 0 }, { name := "detailMessage", type := (.object "java/lang/String"), accessFlags := 2, slot := 1, constantValue := 0 }, { name := "UNASSIGNED_STACK", type := (.array (.object "java/lang/StackTraceElement")), accessFlags := 26, slot := 1, constantValue := 0 }, { name := "cause", type := (.object "java/lang/Throwable"), accessFlags := 2, slot := 2, constantValue := 0 }, { name := "stackTrace", type := (.array (.object "java/lang/StackTraceElement")), accessFlags := 2, slot := 3, constantValue := 0 }, { name := "depth", type := .int, accessFlags := 130, slot := 4, constantValue := 0 }, { name := "SUPPRESSED_SENTINEL", type := (.object "java/util/List"), accessFlags := 26, slot := 2, constantValue := 0 }, { name := "suppressedExceptions", type := (.object "java/util/List"), accessFlags := 2, slot := 5, constantValue := 0 }, { name := "NULL_CAUSE_MESSAGE", type := (.object "java/lang/String"), accessFlags := 26, slot := 3, constantValue := 0 }, { name := "SELF_SUPPRESSION_MESSAGE", type := (.object "java/lang/String"), accessFlags := 26, slot := 4, constantValue := 0 }, { name := "CAUSE_CAPTION", type := (.object "java/lang/String"), accessFlags := 26, slot := 5, constantValue := 0 }, { name := "SUPPRESSED_CAPTION", type := (.object "java/lang/String"), accessFlags := 26, slot := 6, constantValue := 0 }, { name := "EMPTY_THROWABLE_ARRAY", type := (.array (.object "java/lang/Throwable")), accessFlags := 26, slot := 7, constantValue := 0 }, { name := "$assertionsDisabled", type := .boolean, accessFlags := 4120, slot := 8, constantValue := 0 }]
  methods := #[k9m0, k9m1, k9m2, k9m3]
  instanceTypes := #[(.object "java/lang/Object"), (.object "java/lang/String"), (.object "java/lang/Throwable"), (.array (.object "java/lang/StackTraceElement")), .int, (.object "java/util/List")]
  staticTypes := #[.long, (.array (.object "java/lang/StackTraceElement")), (.object "java/util/List"), (.object "java/lang/String"), (.object "java/lang/String"), (.object "java/lang/String"), (.object "java/lang/String"), (.array (.object "java/lang/Throwable")), .boolean]
  resolved := Array.replicate 404 none
  statics := some 1 }

def pool10 : Array CpInfo := pool [(2, .class_ 4), (1, u "java/lang/Throwable"), (0, u "<init>"), (0, u "()V"), (0, .methodref 2 8), (0, .nameAndType 5 9), (0, u "(Ljava/lang/String;)V"), (9, .class_ 20), (0, u "java/lang/Exception"), (0, u "serialVersionUID"), (0, u "J")] 17

def k10m0 : Method := { name := "<init>", desc := "()V", sig := { parameters := [], returnType := none }, accessFlags := 1, code := none }
def k10c1 : Code := { maxStack := 2, maxLocals := 2, code := jdk_59_method_2_code, exceptionTable := #[], attributes := #[] }
def k10m1 : Method := { name := "<init>", desc := "(Ljava/lang/String;)V", sig := { parameters := [(.object "java/lang/String")], returnType := none }, accessFlags := 1, code := some k10c1 }
/-- java/lang/Exception -/
def k10 : Class := { plain "java/lang/Exception" (some 9) with
  accessFlags := 33
  interfaces := #[]
  cf := some (fileOf pool10 19 #[] #[{ accessFlags := 1, nameIndex := 5, descriptorIndex := 6, attributes := #[] }, { accessFlags := 1, nameIndex := 5, descriptorIndex := 9, attributes := #[] }] 33 2 #[] #[{ accessFlags := 24, nameIndex := 21, descriptorIndex := 22, attributes := #[] }])
  fields := #[{ name := "serialVersionUID", type := .long, accessFlags := 24, slot := 0, constantValue := 0 }]
  methods := #[k10m0, k10m1]
  instanceTypes := #[(.object "java/lang/Object"), (.object "java/lang/String"), (.object "java/lang/Throwable"), (.array (.object "java/lang/StackTraceElement")), .int, (.object "java/util/List")]
  staticTypes := #[.long]
  resolved := Array.replicate 40 none
  statics := none }

def pool11 : Array CpInfo := pool [(1, .methodref 2 3), (0, .class_ 4), (0, .nameAndType 5 6), (0, u "java/lang/Exception"), (0, u "<init>"), (0, u "(Ljava/lang/String;)V"), (0, .fieldref 8 9), (0, .class_ 10), (0, .nameAndType 11 12), (0, u "com/example/envelopa/envelopa/model/ServerStateFault"), (0, u "kind"), (0, u "Lcom/example/envelopa/envelopa/model/ServerStateFault$Kind;"), (0, .fieldref 8 14), (0, .nameAndType 15 16), (0, u "reason"), (0, u "Lcom/example/envelopa/envelopa/model/Reason;"), (10, .class_ 29), (1, u "com/example/envelopa/envelopa/model/ServerStateFault$Kind"), (3, u "()Lcom/example/envelopa/envelopa/model/Reason;"), (0, .fieldref 27 35), (0, .nameAndType 36 12), (0, u "MALFORMED"), (0, .methodref 8 38), (0, .nameAndType 5 39), (0, u "(Lcom/example/envelopa/envelopa/model/ServerStateFault$Kind;Ljava/lang/String;)V"), (0, u "serialVersionUID"), (0, u "J"), (6, u "malformed"), (0, u "(Ljava/lang/String;)Lcom/example/envelopa/envelopa/model/ServerStateFault;"), (0, u "()Lcom/example/envelopa/envelopa/model/ServerStateFault$Kind;")] 5

def k11c0 : Code := { maxStack := 2, maxLocals := 3, code := prog_12_method_1_code, exceptionTable := #[], attributes := #[] }
def k11m0 : Method := { name := "<init>", desc := "(Lcom/example/envelopa/envelopa/model/ServerStateFault$Kind;Ljava/lang/String;)V", sig := { parameters := [(.object "com/example/envelopa/envelopa/model/ServerStateFault$Kind"), (.object "java/lang/String")], returnType := none }, accessFlags := 1, code := some k11c0 }
def k11c1 : Code := { maxStack := 4, maxLocals := 1, code := prog_12_method_3_code, exceptionTable := #[], attributes := #[] }
def k11m1 : Method := { name := "malformed", desc := "(Ljava/lang/String;)Lcom/example/envelopa/envelopa/model/ServerStateFault;", sig := { parameters := [(.object "java/lang/String")], returnType := some (.object "com/example/envelopa/envelopa/model/ServerStateFault") }, accessFlags := 9, code := some k11c1 }
def k11c2 : Code := { maxStack := 1, maxLocals := 1, code := prog_12_method_4_code, exceptionTable := #[], attributes := #[] }
def k11m2 : Method := { name := "kind", desc := "()Lcom/example/envelopa/envelopa/model/ServerStateFault$Kind;", sig := { parameters := [], returnType := some (.object "com/example/envelopa/envelopa/model/ServerStateFault$Kind") }, accessFlags := 1, code := some k11c2 }
def k11c3 : Code := { maxStack := 1, maxLocals := 1, code := prog_12_method_5_code, exceptionTable := #[], attributes := #[] }
def k11m3 : Method := { name := "reason", desc := "()Lcom/example/envelopa/envelopa/model/Reason;", sig := { parameters := [], returnType := some (.object "com/example/envelopa/envelopa/model/Reason") }, accessFlags := 1, code := some k11c3 }
/-- com/example/envelopa/envelopa/model/ServerStateFault -/
def k11 : Class := { plain "com/example/envelopa/envelopa/model/ServerStateFault" (some 10) with
  accessFlags := 49
  interfaces := #[]
  cf := some (fileOf pool11 8 #[.nestMembers #[27]] #[{ accessFlags := 1, nameIndex := 5, descriptorIndex := 39, attributes := #[] }, { accessFlags := 9, nameIndex := 48, descriptorIndex := 49, attributes := #[] }, { accessFlags := 1, nameIndex := 11, descriptorIndex := 50, attributes := #[] }, { accessFlags := 1, nameIndex := 15, descriptorIndex := 33, attributes := #[] }] 49 2 #[] #[{ accessFlags := 26, nameIndex := 40, descriptorIndex := 41, attributes := #[] }, { accessFlags := 18, nameIndex := 11, descriptorIndex := 12, attributes := #[] }, { accessFlags := 18, nameIndex := 15, descriptorIndex := 16, attributes := #[] }])
  fields := #[{ name := "serialVersionUID", type := .long, accessFlags := 26, slot := 0, constantValue := 0 }, { name := "kind", type := (.object "com/example/envelopa/envelopa/model/ServerStateFault$Kind"), accessFlags := 18, slot := 6, constantValue := 0 }, { name := "reason", type := (.object "com/example/envelopa/envelopa/model/Reason"), accessFlags := 18, slot := 7, constantValue := 0 }]
  methods := #[k11m0, k11m1, k11m2, k11m3]
  instanceTypes := #[(.object "java/lang/Object"), (.object "java/lang/String"), (.object "java/lang/Throwable"), (.array (.object "java/lang/StackTraceElement")), .int, (.object "java/util/List"), (.object "com/example/envelopa/envelopa/model/ServerStateFault$Kind"), (.object "com/example/envelopa/envelopa/model/Reason")]
  staticTypes := #[.long]
  resolved := Array.replicate 56 none
  statics := none }

def pool12 : Array CpInfo := pool [(2, .class_ 4), (1, u "java/lang/Enum"), (0, u "name"), (0, u "Ljava/lang/String;"), (2, u "ordinal"), (0, u "I"), (1, .class_ 14), (1, u "java/lang/Object"), (4, u "hash"), (86, .class_ 108), (1, u "java/lang/Enum$EnumDesc"), (2, .class_ 112), (0, u "java/lang/constant/Constable"), (0, .class_ 114), (0, u "java/lang/Comparable"), (0, .class_ 116), (0, u "java/io/Serializable")] 87

/-- java/lang/Enum -/
def k12 : Class := { plain "java/lang/Enum" (some 0) with
  accessFlags := 1057
  interfaces := #[5, 3, 2]
  cf := some (fileOf pool12 2 #[.nestMembers #[106]] #[] 1057 12 #[111, 113, 115] #[{ accessFlags := 18, nameIndex := 5, descriptorIndex := 6, attributes := #[] }, { accessFlags := 18, nameIndex := 9, descriptorIndex := 10, attributes := #[] }, { accessFlags := 2, nameIndex := 19, descriptorIndex := 10, attributes := #[] }])
  fields := #[{ name := "name", type := (.object "java/lang/String"), accessFlags := 18, slot := 0, constantValue := 0 }, { name := "ordinal", type := .int, accessFlags := 18, slot := 1, constantValue := 0 }, { name := "hash", type := .int, accessFlags := 2, slot := 2, constantValue := 0 }]
  methods := #[]
  instanceTypes := #[(.object "java/lang/String"), .int, .int]
  staticTypes := #[]
  resolved := Array.replicate 204 none
  statics := none }

def pool13 : Array CpInfo := pool [(1, .class_ 2), (0, u "com/example/envelopa/envelopa/model/ServerStateFault$Kind"), (2, u "MALFORMED"), (0, u "Lcom/example/envelopa/envelopa/model/ServerStateFault$Kind;"), (2, u "NOT_CACHED"), (2, u "REFUSED"), (2, u "$VALUES"), (0, u "[Lcom/example/envelopa/envelopa/model/ServerStateFault$Kind;"), (6, .class_ 25), (1, u "java/lang/Enum"), (26, .class_ 53), (0, u "com/example/envelopa/envelopa/model/ServerStateFault")] 2

/-- com/example/envelopa/envelopa/model/ServerStateFault$Kind -/
def k13 : Class := { plain "com/example/envelopa/envelopa/model/ServerStateFault$Kind" (some 12) with
  accessFlags := 16433
  interfaces := #[]
  cf := some (fileOf pool13 1 #[.nestHost 52] #[] 16433 23 #[] #[{ accessFlags := 16409, nameIndex := 5, descriptorIndex := 6, attributes := #[] }, { accessFlags := 16409, nameIndex := 9, descriptorIndex := 6, attributes := #[] }, { accessFlags := 16409, nameIndex := 12, descriptorIndex := 6, attributes := #[] }, { accessFlags := 4122, nameIndex := 15, descriptorIndex := 16, attributes := #[] }])
  fields := #[{ name := "MALFORMED", type := (.object "com/example/envelopa/envelopa/model/ServerStateFault$Kind"), accessFlags := 16409, slot := 0, constantValue := 0 }, { name := "NOT_CACHED", type := (.object "com/example/envelopa/envelopa/model/ServerStateFault$Kind"), accessFlags := 16409, slot := 1, constantValue := 0 }, { name := "REFUSED", type := (.object "com/example/envelopa/envelopa/model/ServerStateFault$Kind"), accessFlags := 16409, slot := 2, constantValue := 0 }, { name := "$VALUES", type := (.array (.object "com/example/envelopa/envelopa/model/ServerStateFault$Kind")), accessFlags := 4122, slot := 3, constantValue := 0 }]
  methods := #[]
  instanceTypes := #[(.object "java/lang/String"), .int, .int]
  staticTypes := #[(.object "com/example/envelopa/envelopa/model/ServerStateFault$Kind"), (.object "com/example/envelopa/envelopa/model/ServerStateFault$Kind"), (.object "com/example/envelopa/envelopa/model/ServerStateFault$Kind"), (.array (.object "com/example/envelopa/envelopa/model/ServerStateFault$Kind"))]
  resolved := Array.replicate 56 none
  statics := some 2 }

def pool14 : Array CpInfo := pool [(6, .class_ 8), (1, u "java/lang/Object"), (0, u "<init>"), (0, u "()V"), (1, .class_ 14), (1, u "java/lang/StringUTF16"), (31, u "$assertionsDisabled"), (0, u "Z"), (13, u "HI_BYTE_SHIFT"), (0, u "I"), (2, u "LO_BYTE_SHIFT"), (49, .methodref 12 116), (0, .nameAndType 117 118), (0, u "compress"), (0, u "([CI[BII)I"), (3, u "([CII)[B"), (138, u "coderFromArrayLen"), (0, u "([BI)B"), (106, .class_ 371), (1, u "java/lang/StringUTF16$LinesSpliterator"), (58, u "MAX_LENGTH"), (196, .class_ 628), (0, u "java/lang/StringUTF16$CodePointsSpliterator"), (0, .class_ 630), (0, u "java/lang/StringUTF16$CharsSpliterator")] 4

def k14m0 : Method := { name := "<init>", desc := "()V", sig := { parameters := [], returnType := none }, accessFlags := 0, code := none }
def k14c1 : Code := { maxStack := 2, maxLocals := 2, code := jdk_52_method_15_code, exceptionTable := #[], attributes := #[] }
def k14m1 : Method := { name := "coderFromArrayLen", desc := "([BI)B", sig := { parameters := [(.array .byte), .int], returnType := some .byte }, accessFlags := 8, code := some k14c1 }
def k14c2 : Code := { maxStack := 5, maxLocals := 6, code := jdk_52_method_16_code, exceptionTable := #[], attributes := #[] }
def k14m2 : Method := { name := "compress", desc := "([CII)[B", sig := { parameters := [(.array .char), .int, .int], returnType := some (.array .byte) }, accessFlags := 9, code := some k14c2 }
def k14c3 : Code := { maxStack := 3, maxLocals := 7, code := jdk_52_method_21_code, exceptionTable := #[], attributes := #[] }
def k14m3 : Method := { name := "compress", desc := "([CI[BII)I", sig := { parameters := [(.array .char), .int, (.array .byte), .int, .int], returnType := some .int }, accessFlags := 9, code := some k14c3 }
/-- java/lang/StringUTF16 -/
def k14 : Class := { plain "java/lang/StringUTF16" (some 0) with
  accessFlags := 48
  interfaces := #[]
  cf := some (fileOf pool14 12 #[.nestMembers #[627, 629, 369]] #[{ accessFlags := 0, nameIndex := 9, descriptorIndex := 10, attributes := #[] }, { accessFlags := 8, nameIndex := 261, descriptorIndex := 262, attributes := #[] }, { accessFlags := 9, nameIndex := 117, descriptorIndex := 122, attributes := #[] }, { accessFlags := 9, nameIndex := 117, descriptorIndex := 118, attributes := #[] }] 48 6 #[] #[{ accessFlags := 26, nameIndex := 61, descriptorIndex := 62, attributes := #[] }, { accessFlags := 26, nameIndex := 65, descriptorIndex := 62, attributes := #[] }, { accessFlags := 24, nameIndex := 430, descriptorIndex := 62, attributes := #[] }, { accessFlags := 4120, nameIndex := 46, descriptorIndex := 47, attributes := #[] }])
  fields := #[{ name := "HI_BYTE_SHIFT", type := .int, accessFlags := 26, slot := 0, constantValue := 0 }, { name := "LO_BYTE_SHIFT", type := .int, accessFlags := 26, slot := 1, constantValue := 0 }, { name := "MAX_LENGTH", type := .int, accessFlags := 24, slot := 2, constantValue := 0 }, { name := "$assertionsDisabled", type := .boolean, accessFlags := 4120, slot := 3, constantValue := 0 }]
  methods := #[k14m0, k14m1, k14m2, k14m3]
  instanceTypes := #[]
  staticTypes := #[.int, .int, .int, .boolean]
  resolved := Array.replicate 635 none
  statics := none }

def pool15 : Array CpInfo := pool [(2, .class_ 4), (1, u "java/lang/Object"), (0, u "<init>"), (0, u "()V"), (17, .class_ 26), (1, u "jdk/internal/util/Preconditions"), (28, .class_ 56), (0, u "jdk/internal/util/Preconditions$4"), (57, .class_ 115), (0, u "jdk/internal/util/Preconditions$1"), (7, u "SIOOBE_FORMATTER"), (0, u "Ljava/util/function/BiFunction;"), (0, .class_ 126), (0, u "jdk/internal/util/Preconditions$2"), (3, u "AIOOBE_FORMATTER"), (0, .class_ 132), (0, u "jdk/internal/util/Preconditions$3"), (3, u "IOOBE_FORMATTER")] 57

def k15m0 : Method := { name := "<init>", desc := "()V", sig := { parameters := [], returnType := none }, accessFlags := 1, code := none }
/-- jdk/internal/util/Preconditions -/
def k15 : Class := { plain "jdk/internal/util/Preconditions" (some 0) with
  accessFlags := 33
  interfaces := #[]
  cf := some (fileOf pool15 24 #[.nestMembers #[55, 131, 125, 114]] #[{ accessFlags := 1, nameIndex := 5, descriptorIndex := 6, attributes := #[] }] 33 2 #[] #[{ accessFlags := 25, nameIndex := 123, descriptorIndex := 124, attributes := #[] }, { accessFlags := 25, nameIndex := 130, descriptorIndex := 124, attributes := #[] }, { accessFlags := 25, nameIndex := 136, descriptorIndex := 124, attributes := #[] }])
  fields := #[{ name := "SIOOBE_FORMATTER", type := (.object "java/util/function/BiFunction"), accessFlags := 25, slot := 0, constantValue := 0 }, { name := "AIOOBE_FORMATTER", type := (.object "java/util/function/BiFunction"), accessFlags := 25, slot := 1, constantValue := 0 }, { name := "IOOBE_FORMATTER", type := (.object "java/util/function/BiFunction"), accessFlags := 25, slot := 2, constantValue := 0 }]
  methods := #[k15m0]
  instanceTypes := #[]
  staticTypes := #[(.object "java/util/function/BiFunction"), (.object "java/util/function/BiFunction"), (.object "java/util/function/BiFunction")]
  resolved := Array.replicate 194 none
  statics := some 3 }

def pool16 : Array CpInfo := pool [(9, u "<init>"), (6, .class_ 18), (1, u "java/lang/Object"), (0, u "()V"), (1, .class_ 23), (1, u "jdk/internal/util/ArraysSupport"), (0, u "LOG2_ARRAY_LONG_INDEX_SCALE"), (0, u "I"), (2, u "U"), (0, u "Ljdk/internal/misc/Unsafe;"), (8, u "BIG_ENDIAN"), (0, u "Z"), (8, u "LOG2_BYTE_BIT_SIZE"), (4, u "LOG2_ARRAY_INT_INDEX_SCALE"), (54, u "JLA"), (0, u "Ljdk/internal/access/JavaLangAccess;"), (11, u "LOG2_ARRAY_BOOLEAN_INDEX_SCALE"), (9, u "LOG2_ARRAY_BYTE_INDEX_SCALE"), (5, u "LOG2_ARRAY_CHAR_INDEX_SCALE"), (5, u "LOG2_ARRAY_SHORT_INDEX_SCALE"), (18, u "LOG2_ARRAY_FLOAT_INDEX_SCALE"), (24, u "LOG2_ARRAY_DOUBLE_INDEX_SCALE"), (89, u "T_BOOLEAN"), (2, u "T_CHAR"), (1, u "T_FLOAT"), (1, u "T_DOUBLE"), (1, u "T_BYTE"), (1, u "T_SHORT"), (1, u "T_INT"), (1, u "T_LONG"), (1, u "SOFT_MAX_ARRAY_LENGTH")] 83

def k16m0 : Method := { name := "<init>", desc := "()V", sig := { parameters := [], returnType := none }, accessFlags := 2, code := none }
/-- jdk/internal/util/ArraysSupport -/
def k16 : Class := { plain "jdk/internal/util/ArraysSupport" (some 0) with
  accessFlags := 33
  interfaces := #[]
  cf := some (fileOf pool16 21 #[] #[{ accessFlags := 2, nameIndex := 9, descriptorIndex := 19, attributes := #[] }] 33 16 #[] #[{ accessFlags := 24, nameIndex := 28, descriptorIndex := 29, attributes := #[] }, { accessFlags := 26, nameIndex := 38, descriptorIndex := 39, attributes := #[] }, { accessFlags := 25, nameIndex := 121, descriptorIndex := 25, attributes := #[] }, { accessFlags := 25, nameIndex := 131, descriptorIndex := 25, attributes := #[] }, { accessFlags := 25, nameIndex := 137, descriptorIndex := 25, attributes := #[] }, { accessFlags := 25, nameIndex := 143, descriptorIndex := 25, attributes := #[] }, { accessFlags := 25, nameIndex := 53, descriptorIndex := 25, attributes := #[] }, { accessFlags := 25, nameIndex := 24, descriptorIndex := 25, attributes := #[] }, { accessFlags := 25, nameIndex := 162, descriptorIndex := 25, attributes := #[] }, { accessFlags := 25, nameIndex := 187, descriptorIndex := 25, attributes := #[] }, { accessFlags := 26, nameIndex := 48, descriptorIndex := 25, attributes := #[] }, { accessFlags := 25, nameIndex := 277, descriptorIndex := 25, attributes := #[] }, { accessFlags := 25, nameIndex := 280, descriptorIndex := 25, attributes := #[] }, { accessFlags := 25, nameIndex := 282, descriptorIndex := 25, attributes := #[] }, { accessFlags := 25, nameIndex := 284, descriptorIndex := 25, attributes := #[] }, { accessFlags := 25, nameIndex := 286, descriptorIndex := 25, attributes := #[] }, { accessFlags := 25, nameIndex := 288, descriptorIndex := 25, attributes := #[] }, { accessFlags := 25, nameIndex := 290, descriptorIndex := 25, attributes := #[] }, { accessFlags := 25, nameIndex := 292, descriptorIndex := 25, attributes := #[] }, { accessFlags := 26, nameIndex := 108, descriptorIndex := 109, attributes := #[] }, { accessFlags := 25, nameIndex := 294, descriptorIndex := 25, attributes := #[] }])
  fields := #[{ name := "U", type := (.object "jdk/internal/misc/Unsafe"), accessFlags := 24, slot := 0, constantValue := 0 }, { name := "BIG_ENDIAN", type := .boolean, accessFlags := 26, slot := 1, constantValue := 0 }, { name := "LOG2_ARRAY_BOOLEAN_INDEX_SCALE", type := .int, accessFlags := 25, slot := 2, constantValue := 0 }, { name := "LOG2_ARRAY_BYTE_INDEX_SCALE", type := .int, accessFlags := 25, slot := 3, constantValue := 0 }, { name := "LOG2_ARRAY_CHAR_INDEX_SCALE", type := .int, accessFlags := 25, slot := 4, constantValue := 0 }, { name := "LOG2_ARRAY_SHORT_INDEX_SCALE", type := .int, accessFlags := 25, slot := 5, constantValue := 0 }, { name := "LOG2_ARRAY_INT_INDEX_SCALE", type := .int, accessFlags := 25, slot := 6, constantValue := 0 }, { name := "LOG2_ARRAY_LONG_INDEX_SCALE", type := .int, accessFlags := 25, slot := 7, constantValue := 0 }, { name := "LOG2_ARRAY_FLOAT_INDEX_SCALE", type := .int, accessFlags := 25, slot := 8, constantValue := 0 }, { name := "LOG2_ARRAY_DOUBLE_INDEX_SCALE", type := .int, accessFlags := 25, slot := 9, constantValue := 0 }, { name := "LOG2_BYTE_BIT_SIZE", type := .int, accessFlags := 26, slot := 10, constantValue := 0 }, { name := "T_BOOLEAN", type := .int, accessFlags := 25, slot := 11, constantValue := 0 }, { name := "T_CHAR", type := .int, accessFlags := 25, slot := 12, constantValue := 0 }, { name := "T_FLOAT", type := .int, accessFlags := 25, slot := 13, constantValue := 0 }, { name := "T_DOUBLE", type := .int, accessFlags := 25, slot := 14, constantValue := 0 }, { name := "T_BYTE", type := .int, accessFlags := 25, slot := 15, constantValue := 0 }, { name := "T_SHORT", type := .int, accessFlags := 25, slot := 16, constantValue := 0 }, { name := "T_INT", type := .int, accessFlags := 25, slot := 17, constantValue := 0 }, { name := "T_LONG", type := .int, accessFlags := 25, slot := 18, constantValue := 0 }, { name := "JLA", type := (.object "jdk/internal/access/JavaLangAccess"), accessFlags := 26, slot := 19, constantValue := 0 }, { name := "SOFT_MAX_ARRAY_LENGTH", type := .int, accessFlags := 25, slot := 20, constantValue := 0 }]
  methods := #[k16m0]
  instanceTypes := #[]
  staticTypes := #[(.object "jdk/internal/misc/Unsafe"), .boolean, .int, .int, .int, .int, .int, .int, .int, .int, .int, .int, .int, .int, .int, .int, .int, .int, .int, (.object "jdk/internal/access/JavaLangAccess"), .int]
  resolved := Array.replicate 378 none
  statics := none }

def pool17 : Array CpInfo := pool [(2, .class_ 4), (1, u "java/lang/Object"), (0, u "<init>"), (0, u "()V"), (12, .class_ 20), (0, u "java/util/Collections"), (63, u "r"), (0, u "Ljava/util/Random;"), (80, .class_ 167), (0, u "java/util/Collections$UnmodifiableCollection"), (6, .class_ 175), (0, u "java/util/Collections$UnmodifiableSequencedCollection"), (6, .class_ 183), (0, u "java/util/Collections$UnmodifiableSet"), (6, .class_ 191), (0, u "java/util/Collections$UnmodifiableSequencedSet"), (6, .class_ 199), (0, u "java/util/Collections$UnmodifiableSortedSet"), (6, .class_ 207), (0, u "java/util/Collections$UnmodifiableNavigableSet"), (4, .class_ 213), (0, u "java/util/Collections$UnmodifiableList"), (1, .class_ 216), (0, u "java/util/Collections$UnmodifiableRandomAccessList"), (6, .class_ 224), (0, u "java/util/Collections$UnmodifiableMap"), (6, .class_ 232), (0, u "java/util/Collections$UnmodifiableSequencedMap"), (4, .class_ 238), (0, u "java/util/Collections$UnmodifiableSortedMap"), (6, .class_ 246), (0, u "java/util/Collections$UnmodifiableNavigableMap"), (3, .class_ 251), (0, u "java/util/Collections$SynchronizedCollection"), (4, .class_ 257), (0, u "java/util/Collections$SynchronizedSet"), (4, .class_ 263), (0, u "java/util/Collections$SynchronizedSortedSet"), (1, .class_ 266), (0, u "java/util/Collections$SynchronizedNavigableSet"), (1, .class_ 269), (0, u "java/util/Collections$SynchronizedRandomAccessList"), (1, .class_ 272), (0, u "java/util/Collections$SynchronizedList"), (5, .class_ 279), (0, u "java/util/Collections$SynchronizedMap"), (1, .class_ 282), (0, u "java/util/Collections$SynchronizedSortedMap"), (1, .class_ 285), (0, u "java/util/Collections$SynchronizedNavigableMap"), (1, .class_ 288), (0, u "java/util/Collections$CheckedCollection"), (11, .class_ 301), (0, u "java/util/Collections$CheckedQueue"), (3, .class_ 306), (0, u "java/util/Collections$CheckedSet"), (3, .class_ 311), (0, u "java/util/Collections$CheckedSortedSet"), (3, .class_ 316), (0, u "java/util/Collections$CheckedNavigableSet"), (3, .class_ 321), (0, u "java/util/Collections$CheckedRandomAccessList"), (3, .class_ 326), (0, u "java/util/Collections$CheckedList"), (1, .class_ 329), (0, u "java/util/Collections$CheckedMap"), (3, .class_ 334), (0, u "java/util/Collections$CheckedSortedMap"), (3, .class_ 339), (0, u "java/util/Collections$CheckedNavigableMap"), (4, .class_ 346), (1, u "java/util/Collections$EmptyIterator"), (3, .class_ 352), (1, u "java/util/Collections$EmptyListIterator"), (2, .class_ 357), (1, u "java/util/Collections$EmptyEnumeration"), (4, u "EMPTY_SET"), (0, u "Ljava/util/Set;"), (6, u "EMPTY_LIST"), (0, u "Ljava/util/List;"), (2, u "EMPTY_MAP"), (0, u "Ljava/util/Map;"), (4, .class_ 381), (0, u "java/util/Collections$SingletonSet"), (2, .class_ 385), (0, u "java/util/Collections$1"), (1, .class_ 388), (0, u "java/util/Collections$2"), (1, .class_ 391), (0, u "java/util/Collections$SingletonList"), (1, .class_ 394), (0, u "java/util/Collections$SingletonMap"), (22, .class_ 418), (0, u "java/util/Collections$CopiesList"), (4, .class_ 425), (1, u "java/util/Collections$ReverseComparator"), (8, .class_ 435), (0, u "java/util/Collections$ReverseComparator2"), (6, .class_ 443), (0, u "java/util/Collections$3"), (25, .class_ 470), (0, u "java/util/Collections$SetFromMap"), (2, .class_ 474), (0, u "java/util/Collections$SequencedSetFromMap"), (3, .class_ 479), (0, u "java/util/Collections$AsLIFOQueue"), (11, .class_ 492), (0, u "java/util/Collections$EmptySet"), (1, .class_ 495), (0, u "java/util/Collections$EmptyList"), (1, .class_ 498), (0, u "java/util/Collections$EmptyMap"), (1, u "BINARYSEARCH_THRESHOLD"), (0, u "I"), (2, u "REVERSE_THRESHOLD"), (1, u "SHUFFLE_THRESHOLD"), (1, u "FILL_THRESHOLD"), (1, u "ROTATE_THRESHOLD"), (1, u "COPY_THRESHOLD"), (1, u "REPLACEALL_THRESHOLD"), (1, u "INDEXOFSUBLIST_THRESHOLD"), (333, .class_ 851), (0, u "java/util/Collections$CheckedMap$CheckedEntrySet"), (0, .class_ 853), (0, u "java/util/Collections$CheckedMap$CheckedEntrySet$CheckedEntry"), (0, .class_ 855), (0, u "java/util/Collections$CheckedMap$CheckedEntrySet$1"), (0, .class_ 857), (0, u "java/util/Collections$CheckedList$1"), (0, .class_ 859), (0, u "java/util/Collections$CheckedCollection$1"), (0, .class_ 861), (0, u "java/util/Collections$UnmodifiableNavigableMap$EmptyNavigableMap"), (0, .class_ 863), (0, u "java/util/Collections$UnmodifiableMap$UnmodifiableEntrySet"), (0, .class_ 865), (0, u "java/util/Collections$UnmodifiableMap$UnmodifiableEntrySet$UnmodifiableEntry"), (0, .class_ 867), (0, u "java/util/Collections$UnmodifiableMap$UnmodifiableEntrySet$UnmodifiableEntrySetSpliterator"), (0, .class_ 869), (0, u "java/util/Collections$UnmodifiableMap$UnmodifiableEntrySet$1"), (0, .class_ 871), (0, u "java/util/Collections$UnmodifiableList$1"), (0, .class_ 873), (0, u "java/util/Collections$UnmodifiableNavigableSet$EmptyNavigableSet"), (0, .class_ 875), (0, u "java/util/Collections$UnmodifiableCollection$1")] 57

def k17m0 : Method := { name := "<init>", desc := "()V", sig := { parameters := [], returnType := none }, accessFlags := 2, code := none }
/-- java/util/Collections -/
def k17 : Class := { plain "java/util/Collections" (some 0) with
  accessFlags := 33
  interfaces := #[]
  cf := some (fileOf pool17 19 #[.nestMembers #[478, 473, 469, 434, 423, 417, 393, 390, 380, 497, 494, 491, 355, 350, 344, 338, 333, 328, 850, 852, 854, 320, 325, 856, 315, 310, 305, 300, 287, 858, 284, 281, 278, 268, 271, 265, 262, 256, 250, 245, 860, 237, 231, 223, 862, 864, 866, 868, 215, 212, 870, 206, 872, 198, 190, 182, 174, 166, 874, 442, 387, 384]] #[{ accessFlags := 2, nameIndex := 5, descriptorIndex := 6, attributes := #[] }] 33 2 #[] #[{ accessFlags := 26, nameIndex := 500, descriptorIndex := 501, attributes := #[] }, { accessFlags := 26, nameIndex := 504, descriptorIndex := 501, attributes := #[] }, { accessFlags := 26, nameIndex := 506, descriptorIndex := 501, attributes := #[] }, { accessFlags := 26, nameIndex := 508, descriptorIndex := 501, attributes := #[] }, { accessFlags := 26, nameIndex := 510, descriptorIndex := 501, attributes := #[] }, { accessFlags := 26, nameIndex := 512, descriptorIndex := 501, attributes := #[] }, { accessFlags := 26, nameIndex := 514, descriptorIndex := 501, attributes := #[] }, { accessFlags := 26, nameIndex := 516, descriptorIndex := 501, attributes := #[] }, { accessFlags := 10, nameIndex := 84, descriptorIndex := 85, attributes := #[] }, { accessFlags := 25, nameIndex := 362, descriptorIndex := 363, attributes := #[] }, { accessFlags := 25, nameIndex := 370, descriptorIndex := 371, attributes := #[] }, { accessFlags := 25, nameIndex := 374, descriptorIndex := 375, attributes := #[] }])
  fields := #[{ name := "BINARYSEARCH_THRESHOLD", type := .int, accessFlags := 26, slot := 0, constantValue := 0 }, { name := "REVERSE_THRESHOLD", type := .int, accessFlags := 26, slot := 1, constantValue := 0 }, { name := "SHUFFLE_THRESHOLD", type := .int, accessFlags := 26, slot := 2, constantValue := 0 }, { name := "FILL_THRESHOLD", type := .int, accessFlags := 26, slot := 3, constantValue := 0 }, { name := "ROTATE_THRESHOLD", type := .int, accessFlags := 26, slot := 4, constantValue := 0 }, { name := "COPY_THRESHOLD", type := .int, accessFlags := 26, slot := 5, constantValue := 0 }, { name := "REPLACEALL_THRESHOLD", type := .int, accessFlags := 26, slot := 6, constantValue := 0 }, { name := "INDEXOFSUBLIST_THRESHOLD", type := .int, accessFlags := 26, slot := 7, constantValue := 0 }, { name := "r", type := (.object "java/util/Random"), accessFlags := 10, slot := 8, constantValue := 0 }, { name := "EMPTY_SET", type := (.object "java/util/Set"), accessFlags := 25, slot := 9, constantValue := 0 }, { name := "EMPTY_LIST", type := (.object "java/util/List"), accessFlags := 25, slot := 10, constantValue := 0 }, { name := "EMPTY_MAP", type := (.object "java/util/Map"), accessFlags := 25, slot := 11, constantValue := 0 }]
  methods := #[k17m0]
  instanceTypes := #[]
  staticTypes := #[.int, .int, .int, .int, .int, .int, .int, .int, (.object "java/util/Random"), (.object "java/util/Set"), (.object "java/util/List"), (.object "java/util/Map")]
  resolved := Array.replicate 933 none
  statics := some 4 }

def pool18 : Array CpInfo := pool [(8, .class_ 10), (1, u "java/lang/Iterable"), (24, .class_ 36), (0, u "java/lang/Object")] 25

/-- java/lang/Iterable -/
def k18 : Class := { plain "java/lang/Iterable" (some 0) with
  accessFlags := 1537
  interfaces := #[]
  cf := some (fileOf pool18 8 #[] #[] 1537 35 #[] #[])
  fields := #[]
  methods := #[]
  instanceTypes := #[]
  staticTypes := #[]
  resolved := Array.replicate 62 none
  statics := none }

def pool19 : Array CpInfo := pool [(10, .class_ 12), (1, u "java/util/Collection"), (47, .class_ 61), (0, u "java/lang/Object"), (0, .class_ 63), (0, u "java/lang/Iterable")] 51

/-- java/util/Collection -/
def k19 : Class := { plain "java/util/Collection" (some 0) with
  accessFlags := 1537
  interfaces := #[18]
  cf := some (fileOf pool19 10 #[] #[] 1537 60 #[62] #[])
  fields := #[]
  methods := #[]
  instanceTypes := #[]
  staticTypes := #[]
  resolved := Array.replicate 115 none
  statics := none }

def pool20 : Array CpInfo := pool [(2, .class_ 4), (1, u "java/lang/Object"), (0, u "<init>"), (0, u "()V"), (1, .class_ 10), (1, u "java/util/AbstractCollection"), (66, .class_ 78), (0, u "java/util/Collection")] 81

def k20m0 : Method := { name := "<init>", desc := "()V", sig := { parameters := [], returnType := none }, accessFlags := 4, code := none }
/-- java/util/AbstractCollection -/
def k20 : Class := { plain "java/util/AbstractCollection" (some 0) with
  accessFlags := 1057
  interfaces := #[19]
  cf := some (fileOf pool20 8 #[] #[{ accessFlags := 4, nameIndex := 5, descriptorIndex := 6, attributes := #[] }] 1057 2 #[77] #[])
  fields := #[]
  methods := #[k20m0]
  instanceTypes := #[]
  staticTypes := #[]
  resolved := Array.replicate 160 none
  statics := none }

def pool21 : Array CpInfo := pool [(8, .class_ 10), (1, u "java/util/SequencedCollection"), (15, .class_ 27), (0, u "java/lang/Object"), (0, .class_ 29), (0, u "java/util/Collection")] 27

/-- java/util/SequencedCollection -/
def k21 : Class := { plain "java/util/SequencedCollection" (some 0) with
  accessFlags := 1537
  interfaces := #[19]
  cf := some (fileOf pool21 8 #[] #[] 1537 26 #[28] #[])
  fields := #[]
  methods := #[]
  instanceTypes := #[]
  staticTypes := #[]
  resolved := Array.replicate 57 none
  statics := none }

def pool22 : Array CpInfo := pool [(8, .class_ 10), (1, u "java/util/List"), (92, .class_ 104), (0, u "java/lang/Object"), (15, .class_ 121), (0, u "java/util/SequencedCollection")] 129

/-- java/util/List -/
def k22 : Class := { plain "java/util/List" (some 0) with
  accessFlags := 1537
  interfaces := #[21]
  cf := some (fileOf pool22 8 #[] #[] 1537 103 #[120] #[])
  fields := #[]
  methods := #[]
  instanceTypes := #[]
  staticTypes := #[]
  resolved := Array.replicate 251 none
  statics := none }

def pool23 : Array CpInfo := pool [(2, .class_ 4), (1, u "java/util/AbstractCollection"), (0, u "<init>"), (0, u "()V"), (1, .class_ 10), (1, u "java/util/AbstractList"), (0, u "modCount"), (0, u "I"), (64, .class_ 78), (0, u "java/util/AbstractList$Itr"), (3, .class_ 83), (0, u "java/util/AbstractList$ListItr"), (9, .class_ 94), (0, u "java/util/AbstractList$RandomAccessSubList"), (3, .class_ 99), (0, u "java/util/AbstractList$SubList"), (33, .class_ 134), (0, u "java/util/List"), (73, .class_ 209), (0, u "java/util/AbstractList$SubList$1"), (0, .class_ 211), (0, u "java/util/AbstractList$RandomAccessSpliterator")] 6

def k23m0 : Method := { name := "<init>", desc := "()V", sig := { parameters := [], returnType := none }, accessFlags := 4, code := none }
/-- java/util/AbstractList -/
def k23 : Class := { plain "java/util/AbstractList" (some 20) with
  accessFlags := 1057
  interfaces := #[22]
  cf := some (fileOf pool23 8 #[.nestMembers #[93, 98, 208, 210, 82, 77]] #[{ accessFlags := 4, nameIndex := 5, descriptorIndex := 6, attributes := #[] }] 1057 2 #[133] #[{ accessFlags := 132, nameIndex := 11, descriptorIndex := 12, attributes := #[] }])
  fields := #[{ name := "modCount", type := .int, accessFlags := 132, slot := 0, constantValue := 0 }]
  methods := #[k23m0]
  instanceTypes := #[.int]
  staticTypes := #[]
  resolved := Array.replicate 218 none
  statics := none }

def pool24 : Array CpInfo := pool [(1, .class_ 2), (0, u "java/util/RandomAccess"), (0, .class_ 4), (0, u "java/lang/Object")] 2

/-- java/util/RandomAccess -/
def k24 : Class := { plain "java/util/RandomAccess" (some 0) with
  accessFlags := 1537
  interfaces := #[]
  cf := some (fileOf pool24 1 #[] #[] 1537 3 #[] #[])
  fields := #[]
  methods := #[]
  instanceTypes := #[]
  staticTypes := #[]
  resolved := Array.replicate 7 none
  statics := none }

def pool25 : Array CpInfo := pool [(2, .class_ 4), (1, u "java/util/AbstractList"), (0, u "<init>"), (0, u "()V"), (1, .class_ 10), (1, u "java/util/Collections"), (54, .class_ 66), (0, u "java/util/Collections$EmptyList"), (0, .class_ 68), (0, u "java/util/RandomAccess"), (0, .class_ 70), (0, u "java/io/Serializable"), (0, u "serialVersionUID"), (0, u "J")] 77

def k25m0 : Method := { name := "<init>", desc := "()V", sig := { parameters := [], returnType := none }, accessFlags := 2, code := none }
/-- java/util/Collections$EmptyList -/
def k25 : Class := { plain "java/util/Collections$EmptyList" (some 23) with
  accessFlags := 32
  interfaces := #[24, 2]
  cf := some (fileOf pool25 65 #[.nestHost 8] #[{ accessFlags := 2, nameIndex := 5, descriptorIndex := 6, attributes := #[] }] 32 2 #[67, 69] #[{ accessFlags := 26, nameIndex := 71, descriptorIndex := 72, attributes := #[] }])
  fields := #[{ name := "serialVersionUID", type := .long, accessFlags := 26, slot := 0, constantValue := 0 }]
  methods := #[k25m0]
  instanceTypes := #[.int]
  staticTypes := #[.long]
  resolved := Array.replicate 150 none
  statics := none }

def pool26 : Array CpInfo := pool [(2, .class_ 4), (1, u "java/lang/StackTraceElement"), (0, u "<init>"), (2, .class_ 10), (1, u "java/lang/Object"), (0, u "()V"), (2, u "format"), (0, u "B"), (2, u "classLoaderName"), (0, u "Ljava/lang/String;"), (2, u "moduleName"), (2, u "moduleVersion"), (12, u "declaringClass"), (4, u "methodName"), (2, u "fileName"), (2, u "lineNumber"), (0, u "I"), (65, u "declaringClassObject"), (0, u "Ljava/lang/Class;"), (33, .class_ 153), (1, u "java/lang/StackTraceElement$HashedModules"), (17, .class_ 172), (0, u "java/io/Serializable"), (0, u "NATIVE_METHOD"), (1, u "UNKNOWN_SOURCE"), (2, u "BUILTIN_CLASS_LOADER"), (1, u "JDK_NON_UPGRADEABLE_MODULE"), (1, u "serialVersionUID"), (0, u "J")] 51

def k26m0 : Method := { name := "<init>", desc := "()V", sig := { parameters := [], returnType := none }, accessFlags := 2, code := none }
/-- java/lang/StackTraceElement -/
def k26 : Class := { plain "java/lang/StackTraceElement" (some 0) with
  accessFlags := 49
  interfaces := #[2]
  cf := some (fileOf pool26 2 #[.nestMembers #[151]] #[{ accessFlags := 2, nameIndex := 5, descriptorIndex := 11, attributes := #[] }] 49 8 #[171] #[{ accessFlags := 26, nameIndex := 173, descriptorIndex := 19, attributes := #[] }, { accessFlags := 26, nameIndex := 175, descriptorIndex := 19, attributes := #[] }, { accessFlags := 130, nameIndex := 116, descriptorIndex := 117, attributes := #[] }, { accessFlags := 2, nameIndex := 18, descriptorIndex := 19, attributes := #[] }, { accessFlags := 2, nameIndex := 22, descriptorIndex := 19, attributes := #[] }, { accessFlags := 2, nameIndex := 25, descriptorIndex := 19, attributes := #[] }, { accessFlags := 2, nameIndex := 38, descriptorIndex := 19, attributes := #[] }, { accessFlags := 2, nameIndex := 43, descriptorIndex := 19, attributes := #[] }, { accessFlags := 2, nameIndex := 46, descriptorIndex := 19, attributes := #[] }, { accessFlags := 2, nameIndex := 49, descriptorIndex := 50, attributes := #[] }, { accessFlags := 2, nameIndex := 14, descriptorIndex := 15, attributes := #[] }, { accessFlags := 26, nameIndex := 178, descriptorIndex := 15, attributes := #[] }, { accessFlags := 26, nameIndex := 180, descriptorIndex := 15, attributes := #[] }, { accessFlags := 26, nameIndex := 182, descriptorIndex := 183, attributes := #[] }])
  fields := #[{ name := "NATIVE_METHOD", type := (.object "java/lang/String"), accessFlags := 26, slot := 0, constantValue := 0 }, { name := "UNKNOWN_SOURCE", type := (.object "java/lang/String"), accessFlags := 26, slot := 1, constantValue := 0 }, { name := "declaringClassObject", type := (.object "java/lang/Class"), accessFlags := 130, slot := 0, constantValue := 0 }, { name := "classLoaderName", type := (.object "java/lang/String"), accessFlags := 2, slot := 1, constantValue := 0 }, { name := "moduleName", type := (.object "java/lang/String"), accessFlags := 2, slot := 2, constantValue := 0 }, { name := "moduleVersion", type := (.object "java/lang/String"), accessFlags := 2, slot := 3, constantValue := 0 }, { name := "declaringClass", type := (.object "java/lang/String"), accessFlags := 2, slot := 4, constantValue := 0 }, { name := "methodName", type := (.object "java/lang/String"), accessFlags := 2, slot := 5, constantValue := 0 }, { name := "fileName", type := (.object "java/lang/String"), accessFlags := 2, slot := 6, constantValue := 0 }, { name := "lineNumber", type := .int, accessFlags := 2, slot := 7, constantValue := 0 }, { name := "format", type := .byte, accessFlags := 2, slot := 8, constantValue := 0 }, { name := "BUILTIN_CLASS_LOADER", type := .byte, accessFlags := 26, slot := 2, constantValue := 0 }, { name := "JDK_NON_UPGRADEABLE_MODULE", type := .byte, accessFlags := 26, slot := 3, constantValue := 0 }, { name := "serialVersionUID", type := .long, accessFlags := 26, slot := 4, constantValue := 0 }]
  methods := #[k26m0]
  instanceTypes := #[(.object "java/lang/Class"), (.object "java/lang/String"), (.object "java/lang/String"), (.object "java/lang/String"), (.object "java/lang/String"), (.object "java/lang/String"), (.object "java/lang/String"), .int, .byte]
  staticTypes := #[(.object "java/lang/String"), (.object "java/lang/String"), .byte, .byte, .long]
  resolved := Array.replicate 235 none
  statics := none }

def pool27 : Array CpInfo := pool [(1, u "java/lang/Cloneable"), (0, .class_ 1), (0, u "java/lang/Object"), (0, .class_ 3)] 3

/-- java/lang/Cloneable -/
def k27 : Class := { plain "java/lang/Cloneable" (some 0) with
  accessFlags := 1537
  interfaces := #[]
  cf := some (fileOf pool27 2 #[] #[] 1537 4 #[] #[])
  fields := #[]
  methods := #[]
  instanceTypes := #[]
  staticTypes := #[]
  resolved := Array.replicate 8 none
  statics := none }

/-- the primitive byte -/
def k28 : Class := { plain "byte" none with kind := .primitive 'B', accessFlags := 0x411 }
/-- [B -/
def k29 : Class := { plain "[B" (some 0) with kind := .array 28 .byte, interfaces := #[27, 2], accessFlags := 1041 }

/-- the primitive char -/
def k30 : Class := { plain "char" none with kind := .primitive 'C', accessFlags := 0x411 }
/-- [C -/
def k31 : Class := { plain "[C" (some 0) with kind := .array 30 .char, interfaces := #[27, 2], accessFlags := 1041 }

/-- the primitive int -/
def k32 : Class := { plain "int" none with kind := .primitive 'I', accessFlags := 0x411 }
/-- [I -/
def k33 : Class := { plain "[I" (some 0) with kind := .array 32 .int, interfaces := #[27, 2], accessFlags := 1041 }

/-- [Ljava/lang/Object; -/
def k34 : Class := { plain "[Ljava/lang/Object;" (some 0) with kind := .array 0 (.object "java/lang/Object"), interfaces := #[27, 2], accessFlags := 1041 }

/-- [Ljava/lang/StackTraceElement; -/
def k35 : Class := { plain "[Ljava/lang/StackTraceElement;" (some 0) with kind := .array 26 (.object "java/lang/StackTraceElement"), interfaces := #[27, 2], accessFlags := 1041 }

/-- [Ljava/lang/Throwable; -/
def k36 : Class := { plain "[Ljava/lang/Throwable;" (some 0) with kind := .array 9 (.object "java/lang/Throwable"), interfaces := #[27, 2], accessFlags := 1041 }

def heap : Heap := #[{ cls := 7, slots := #[.long 0, .int 1, .null, .int 0, .null, .int 0, .int 0], vm := .statics 7 },
  { cls := 9, slots := #[.long 0, .ref 6, .ref 7, .null, .null, .null, .null, .ref 8, .int 1], vm := .statics 9 },
  { cls := 13, slots := #[.ref 5, .null, .null, .null], vm := .statics 13 },
  { cls := 15, slots := #[.null, .null, .null], vm := .statics 15 },
  { cls := 17, slots := #[.int 0, .int 0, .int 0, .int 0, .int 0, .int 0, .int 0, .int 0, .null, .null, .ref 7, .null], vm := .statics 17 },
  { cls := 13, slots := #[.null, .int 0, .int 0], vm := .none },
  { cls := 35, slots := #[], vm := .none },
  { cls := 25, slots := #[.int 0], vm := .none },
  { cls := 36, slots := #[], vm := .none }]
def classes : Array Class := #[k0, k1, k2, k3, k4, k5, k6, k7, k8, k9, k10, k11, k12, k13, k14, k15, k16, k17, k18, k19, k20, k21, k22, k23, k24, k25, k26, k27, k28, k29, k30, k31, k32, k33, k34, k35, k36]
def interned : List (Array UInt16 × Addr) := []
def slotsUsed : Nat := 39
def theMethod : MethodId := ⟨1, 1⟩
def args0 : Array Value := #[.int 1, .int 2, .int 3]
def aboutOver (below : List Frame) : State where
  vm := { classes := classes, interned := interned.toArray }
  heap := heap
  slotsUsed := slotsUsed
  threads := #[{ frames := .invoking theMethod args0 :: below }]
def below0 : List Frame := [.native { method := ⟨0, 0⟩, args := #[] }]
def about1 : State := aboutOver below0
def p0 : Program := .bare "" "" ""
def e0 : Env := launch0.env 0 0 0
theorem w_frames : about1.frames = Frame.invoking theMethod args0 :: below0 := rfl
set_option maxRecDepth 65536 in
theorem w_args : argsFit about1.vm theMethod args0 = true := by decide +kernel
set_option maxRecDepth 65536 in
theorem w_heap : heapFits about1 = true := by decide +kernel
set_option maxRecDepth 65536 in
theorem w_runnable : about1.curStatus? = some .runnable := by decide +kernel
set_option maxRecDepth 65536 in
theorem w_alone : about1.alone = true := by decide +kernel
set_option maxRecDepth 65536 in
theorem w_named : about1.methodNamed? x = some theMethod := by decide +kernel
set_option maxRecDepth 65536 in
theorem w_hears : about1.hears theMethod below0 = true := by decide +kernel
set_option maxRecDepth 65536 in
theorem w_ripe : about1.ripe theMethod args0 below0 = true := by decide +kernel
theorem w_running : about1.status = .running := rfl
set_option maxRecDepth 65536 in
theorem w_room : about1.hasRoom e0.platform room_1 = true :=
  launch0.hasRoom_least _ room_1 (by decide +kernel) (by decide +kernel) (by decide +kernel) (by decide +kernel) (by decide +kernel) (by decide +kernel)
theorem allAtoms_all (ts : List Jvm.Cond) (a : Array Jvm.Value) (st : Jvm.State) : (allAtoms ts).before a st = ts.all (fun c => c.before a st) := by
  induction ts with
  | nil => rfl
  | cons c t ih =>
    show (Jvm.Cond.and c (allAtoms t)).before a st = _
    rw [Jvm.Cond.before_and, ih, List.all_cons]
def words1 : List Jvm.Cond := Jvm.Cond.code x code maxLocals ret :: tables_1
/-- a 'code' word, met by the world's own term for the bytes: nothing is compared byte by byte -/
theorem code_word {y : MethodName} {bytes : ByteArray} {mx : Nat} {rt : Option FieldType} {a : Array Value} {s : State} {m : MethodId} {meth : Method} {c : Code} (h1 : s.methodNamed? y = some m) (h2 : s.vm.method? m = some meth) (h3 : meth.code = some c) (h4 : c.code = bytes)
    (h5 : (c.maxLocals == mx && c.exceptionTable.isEmpty && decide (c.maxStack ≤ mostOperands) && decide (meth.sig.returnType = rt) && !meth.locks && decide (parseMethodDescriptor y.desc = some meth.sig)) = true) : (Jvm.Cond.code y bytes mx rt).before a s = true := by
  simp only [Bool.and_eq_true, beq_iff_eq, Bool.not_eq_true', decide_eq_true_eq] at h5
  obtain ⟨⟨⟨⟨⟨g1, g2⟩, g3⟩, g4⟩, g5⟩, g6⟩ := h5
  simp [Cond.before, Cond.holds, Cond.value, h1, h2, h3, h4, g1, g2, g3, g4, g5, g6]
def isCode : Jvm.Cond → Bool
  | .code _ _ _ _ => true
  | _ => false
theorem all_split {L : List Jvm.Cond} {P : Jvm.Cond → Bool} (h1 : L.all (fun c => isCode c || P c) = true) (h2 : ∀ c ∈ L.filter isCode, P c = true) : L.all P = true := by
  refine List.all_eq_true.mpr fun c hc => ?_
  have h := List.all_eq_true.mp h1 c hc
  rcases Bool.eq_false_or_eq_true (isCode c) with hi | hi
  · exact h2 c (List.mem_filter.mpr ⟨hc, hi⟩)
  · simpa [hi] using h
set_option maxRecDepth 65536 in
theorem w_c0 : (Jvm.Cond.code x code maxLocals ret).before args0 about1 = true := code_word (m := ⟨1, 1⟩) (meth := k1m1) (c := k1c1) (by decide +kernel) rfl rfl rfl (by decide +kernel)
set_option maxRecDepth 65536 in
theorem w_c1 : (Jvm.Cond.code ({ cls := "java/lang/String", name := "valueOf", desc := "(C)Ljava/lang/String;" } : Jvm.MethodName) jdk_42_method_139_code (1 : Nat) (Option.some (Jvm.ClassFile.FieldType.object "java/lang/String"))).before args0 about1 = true := code_word (m := ⟨7, 2⟩) (meth := k7m2) (c := k7c2) (by decide +kernel) rfl rfl rfl (by decide +kernel)
set_option maxRecDepth 65536 in
theorem w_c2 : (Jvm.Cond.code ({ cls := "java/lang/StringLatin1", name := "canEncode", desc := "(C)Z" } : Jvm.MethodName) jdk_43_method_3_code (1 : Nat) (Option.some Jvm.ClassFile.FieldType.boolean)).before args0 about1 = true := code_word (m := ⟨8, 1⟩) (meth := k8m1) (c := k8c1) (by decide +kernel) rfl rfl rfl (by decide +kernel)
set_option maxRecDepth 65536 in
theorem w_c3 : (Jvm.Cond.code ({ cls := "java/lang/StringLatin1", name := "toBytes", desc := "(C)[B" } : Jvm.MethodName) jdk_43_method_46_code (1 : Nat) (Option.some (Jvm.ClassFile.FieldType.array Jvm.ClassFile.FieldType.byte))).before args0 about1 = true := code_word (m := ⟨8, 2⟩) (meth := k8m2) (c := k8c2) (by decide +kernel) rfl rfl rfl (by decide +kernel)
set_option maxRecDepth 65536 in
theorem w_c4 : (Jvm.Cond.code ({ cls := "java/lang/String", name := "<init>", desc := "([BB)V" } : Jvm.MethodName) jdk_42_method_151_code (3 : Nat) (Option.none : Option Jvm.ClassFile.FieldType)).before args0 about1 = true := code_word (m := ⟨7, 4⟩) (meth := k7m4) (c := k7c4) (by decide +kernel) rfl rfl rfl (by decide +kernel)
set_option maxRecDepth 65536 in
theorem w_c5 : (Jvm.Cond.code ({ cls := "java/lang/Object", name := "<init>", desc := "()V" } : Jvm.MethodName) object_method_1_code (1 : Nat) (Option.none : Option Jvm.ClassFile.FieldType)).before args0 about1 = true := code_word (m := ⟨0, 0⟩) (meth := k0m0) (c := k0c0) (by decide +kernel) rfl rfl rfl (by decide +kernel)
set_option maxRecDepth 65536 in
theorem w_c6 : (Jvm.Cond.code ({ cls := "com/example/envelopa/envelopa/model/ServerStateFault", name := "malformed", desc := "(Ljava/lang/String;)Lcom/example/envelopa/envelopa/model/ServerStateFault;" } : Jvm.MethodName) prog_12_method_3_code (1 : Nat) (Option.some (Jvm.ClassFile.FieldType.object "com/example/envelopa/envelopa/model/ServerStateFault"))).before args0 about1 = true := code_word (m := ⟨11, 1⟩) (meth := k11m1) (c := k11c1) (by decide +kernel) rfl rfl rfl (by decide +kernel)
set_option maxRecDepth 65536 in
theorem w_c7 : (Jvm.Cond.code ({ cls := "com/example/envelopa/envelopa/model/ServerStateFault", name := "<init>", desc := "(Lcom/example/envelopa/envelopa/model/ServerStateFault$Kind;Ljava/lang/String;)V" } : Jvm.MethodName) prog_12_method_1_code (3 : Nat) (Option.none : Option Jvm.ClassFile.FieldType)).before args0 about1 = true := code_word (m := ⟨11, 0⟩) (meth := k11m0) (c := k11c0) (by decide +kernel) rfl rfl rfl (by decide +kernel)
set_option maxRecDepth 65536 in
theorem w_c8 : (Jvm.Cond.code ({ cls := "java/lang/Exception", name := "<init>", desc := "(Ljava/lang/String;)V" } : Jvm.MethodName) jdk_59_method_2_code (2 : Nat) (Option.none : Option Jvm.ClassFile.FieldType)).before args0 about1 = true := code_word (m := ⟨10, 1⟩) (meth := k10m1) (c := k10c1) (by decide +kernel) rfl rfl rfl (by decide +kernel)
set_option maxRecDepth 65536 in
theorem w_c9 : (Jvm.Cond.code ({ cls := "java/lang/Throwable", name := "<init>", desc := "(Ljava/lang/String;)V" } : Jvm.MethodName) jdk_78_method_2_code (2 : Nat) (Option.none : Option Jvm.ClassFile.FieldType)).before args0 about1 = true := code_word (m := ⟨9, 1⟩) (meth := k9m1) (c := k9c1) (by decide +kernel) rfl rfl rfl (by decide +kernel)
set_option maxRecDepth 65536 in
theorem w_c10 : (Jvm.Cond.code ({ cls := "java/lang/Throwable", name := "<init>", desc := "()V" } : Jvm.MethodName) jdk_78_method_1_code (1 : Nat) (Option.none : Option Jvm.ClassFile.FieldType)).before args0 about1 = true := code_word (m := ⟨9, 0⟩) (meth := k9m0) (c := k9c0) (by decide +kernel) rfl rfl rfl (by decide +kernel)
set_option maxRecDepth 65536 in
theorem w_c11 : (Jvm.Cond.code ({ cls := "com/example/envelopa/envelopa/model/ServerStateFault", name := "kind", desc := "()Lcom/example/envelopa/envelopa/model/ServerStateFault$Kind;" } : Jvm.MethodName) prog_12_method_4_code (1 : Nat) (Option.some (Jvm.ClassFile.FieldType.object "com/example/envelopa/envelopa/model/ServerStateFault$Kind"))).before args0 about1 = true := code_word (m := ⟨11, 2⟩) (meth := k11m2) (c := k11c2) (by decide +kernel) rfl rfl rfl (by decide +kernel)
set_option maxRecDepth 65536 in
theorem w_c12 : (Jvm.Cond.code ({ cls := "com/example/envelopa/envelopa/model/ServerStateFault", name := "reason", desc := "()Lcom/example/envelopa/envelopa/model/Reason;" } : Jvm.MethodName) prog_12_method_5_code (1 : Nat) (Option.some (Jvm.ClassFile.FieldType.object "com/example/envelopa/envelopa/model/Reason"))).before args0 about1 = true := code_word (m := ⟨11, 3⟩) (meth := k11m3) (c := k11c3) (by decide +kernel) rfl rfl rfl (by decide +kernel)
set_option maxRecDepth 65536 in
theorem w_c13 : (Jvm.Cond.code ({ cls := "java/lang/String", name := "<init>", desc := "([C)V" } : Jvm.MethodName) jdk_42_method_3_code (2 : Nat) (Option.none : Option Jvm.ClassFile.FieldType)).before args0 about1 = true := code_word (m := ⟨7, 1⟩) (meth := k7m1) (c := k7c1) (by decide +kernel) rfl rfl rfl (by decide +kernel)
set_option maxRecDepth 65536 in
theorem w_c14 : (Jvm.Cond.code ({ cls := "java/lang/String", name := "<init>", desc := "([CIILjava/lang/Void;)V" } : Jvm.MethodName) jdk_42_method_149_code (6 : Nat) (Option.none : Option Jvm.ClassFile.FieldType)).before args0 about1 = true := code_word (m := ⟨7, 3⟩) (meth := k7m3) (c := k7c3) (by decide +kernel) rfl rfl rfl (by decide +kernel)
set_option maxRecDepth 65536 in
theorem w_c15 : (Jvm.Cond.code ({ cls := "java/lang/StringUTF16", name := "compress", desc := "([CII)[B" } : Jvm.MethodName) jdk_52_method_16_code (6 : Nat) (Option.some (Jvm.ClassFile.FieldType.array Jvm.ClassFile.FieldType.byte))).before args0 about1 = true := code_word (m := ⟨14, 2⟩) (meth := k14m2) (c := k14c2) (by decide +kernel) rfl rfl rfl (by decide +kernel)
set_option maxRecDepth 65536 in
theorem w_c16 : (Jvm.Cond.code ({ cls := "java/lang/StringUTF16", name := "compress", desc := "([CI[BII)I" } : Jvm.MethodName) jdk_52_method_21_code (7 : Nat) (Option.some Jvm.ClassFile.FieldType.int)).before args0 about1 = true := code_word (m := ⟨14, 3⟩) (meth := k14m3) (c := k14c3) (by decide +kernel) rfl rfl rfl (by decide +kernel)
set_option maxRecDepth 65536 in
theorem w_c17 : (Jvm.Cond.code ({ cls := "java/lang/StringUTF16", name := "coderFromArrayLen", desc := "([BI)B" } : Jvm.MethodName) jdk_52_method_15_code (2 : Nat) (Option.some Jvm.ClassFile.FieldType.byte)).before args0 about1 = true := code_word (m := ⟨14, 1⟩) (meth := k14m1) (c := k14c1) (by decide +kernel) rfl rfl rfl (by decide +kernel)
def codes1 : List Jvm.Cond := [Jvm.Cond.code x code maxLocals ret, Jvm.Cond.code ({ cls := "java/lang/String", name := "valueOf", desc := "(C)Ljava/lang/String;" } : Jvm.MethodName) jdk_42_method_139_code (1 : Nat) (Option.some (Jvm.ClassFile.FieldType.object "java/lang/String")), Jvm.Cond.code ({ cls := "java/lang/StringLatin1", name := "canEncode", desc := "(C)Z" } : Jvm.MethodName) jdk_43_method_3_code (1 : Nat) (Option.some Jvm.ClassFile.FieldType.boolean), Jvm.Cond.code ({ cls := "java/lang/StringLatin1", name := "toBytes", desc := "(C)[B" } : Jvm.MethodName) jdk_43_method_46_code (1 : Nat) (Option.some (Jvm.ClassFile.FieldType.array Jvm.ClassFile.FieldType.byte)), Jvm.Cond.code ({ cls := "java/lang/String", name := "<init>", desc := "([BB)V" } : Jvm.MethodName) jdk_42_method_151_code (3 : Nat) (Option.none : Option Jvm.ClassFile.FieldType), Jvm.Cond.code ({ cls := "java/lang/Object", name := "<init>", desc := "()V" } : Jvm.MethodName) object_method_1_code (1 : Nat) (Option.none : Option Jvm.ClassFile.FieldType), Jvm.Cond.code ({ cls := "com/example/envelopa/envelopa/model/ServerStateFault", name := "malformed", desc := "(Ljava/lang/String;)Lcom/example/envelopa/envelopa/model/ServerStateFault;" } : Jvm.MethodName) prog_12_method_3_code (1 : Nat) (Option.some (Jvm.ClassFile.FieldType.object "com/example/envelopa/envelopa/model/ServerStateFault")), Jvm.Cond.code ({ cls := "com/example/envelopa/envelopa/model/ServerStateFault", name := "<init>", desc := "(Lcom/example/envelopa/envelopa/model/ServerStateFault$Kind;Ljava/lang/String;)V" } : Jvm.MethodName) prog_12_method_1_code (3 : Nat) (Option.none : Option Jvm.ClassFile.FieldType), Jvm.Cond.code ({ cls := "java/lang/Exception", name := "<init>", desc := "(Ljava/lang/String;)V" } : Jvm.MethodName) jdk_59_method_2_code (2 : Nat) (Option.none : Option Jvm.ClassFile.FieldType), Jvm.Cond.code ({ cls := "java/lang/Throwable", name := "<init>", desc := "(Ljava/lang/String;)V" } : Jvm.MethodName) jdk_78_method_2_code (2 : Nat) (Option.none : Option Jvm.ClassFile.FieldType), Jvm.Cond.code ({ cls := "java/lang/Throwable", name := "<init>", desc := "()V" } : Jvm.MethodName) jdk_78_method_1_code (1 : Nat) (Option.none : Option Jvm.ClassFile.FieldType), Jvm.Cond.code ({ cls := "com/example/envelopa/envelopa/model/ServerStateFault", name := "kind", desc := "()Lcom/example/envelopa/envelopa/model/ServerStateFault$Kind;" } : Jvm.MethodName) prog_12_method_4_code (1 : Nat) (Option.some (Jvm.ClassFile.FieldType.object "com/example/envelopa/envelopa/model/ServerStateFault$Kind")), Jvm.Cond.code ({ cls := "com/example/envelopa/envelopa/model/ServerStateFault", name := "reason", desc := "()Lcom/example/envelopa/envelopa/model/Reason;" } : Jvm.MethodName) prog_12_method_5_code (1 : Nat) (Option.some (Jvm.ClassFile.FieldType.object "com/example/envelopa/envelopa/model/Reason")), Jvm.Cond.code ({ cls := "java/lang/String", name := "<init>", desc := "([C)V" } : Jvm.MethodName) jdk_42_method_3_code (2 : Nat) (Option.none : Option Jvm.ClassFile.FieldType), Jvm.Cond.code ({ cls := "java/lang/String", name := "<init>", desc := "([CIILjava/lang/Void;)V" } : Jvm.MethodName) jdk_42_method_149_code (6 : Nat) (Option.none : Option Jvm.ClassFile.FieldType), Jvm.Cond.code ({ cls := "java/lang/StringUTF16", name := "compress", desc := "([CII)[B" } : Jvm.MethodName) jdk_52_method_16_code (6 : Nat) (Option.some (Jvm.ClassFile.FieldType.array Jvm.ClassFile.FieldType.byte)), Jvm.Cond.code ({ cls := "java/lang/StringUTF16", name := "compress", desc := "([CI[BII)I" } : Jvm.MethodName) jdk_52_method_21_code (7 : Nat) (Option.some Jvm.ClassFile.FieldType.int), Jvm.Cond.code ({ cls := "java/lang/StringUTF16", name := "coderFromArrayLen", desc := "([BI)B" } : Jvm.MethodName) jdk_52_method_15_code (2 : Nat) (Option.some Jvm.ClassFile.FieldType.byte)]
set_option maxRecDepth 65536 in
theorem codes_eq : words1.filter isCode = codes1 := rfl
theorem w_codes : ∀ c ∈ words1.filter isCode, c.before args0 about1 = true := by
  rw [codes_eq]
  intro c hc
  simp only [codes1, List.mem_cons, List.not_mem_nil, or_false] at hc
  rcases hc with rfl | rfl | rfl | rfl | rfl | rfl | rfl | rfl | rfl | rfl | rfl | rfl | rfl | rfl | rfl | rfl | rfl | rfl
  · exact w_c0
  · exact w_c1
  · exact w_c2
  · exact w_c3
  · exact w_c4
  · exact w_c5
  · exact w_c6
  · exact w_c7
  · exact w_c8
  · exact w_c9
  · exact w_c10
  · exact w_c11
  · exact w_c12
  · exact w_c13
  · exact w_c14
  · exact w_c15
  · exact w_c16
  · exact w_c17
set_option maxRecDepth 65536 in
theorem w_t1 : (words1.take 24).all (fun c => isCode c || c.before args0 about1) = true := by decide +kernel
set_option maxRecDepth 65536 in
theorem w_t2 : ((words1.drop 24).take 24).all (fun c => isCode c || c.before args0 about1) = true := by decide +kernel
set_option maxRecDepth 65536 in
theorem w_t3 : (((words1.drop 24).drop 24).take 24).all (fun c => isCode c || c.before args0 about1) = true := by decide +kernel
set_option maxRecDepth 65536 in
theorem w_t4 : ((((words1.drop 24).drop 24).drop 24).take 24).all (fun c => isCode c || c.before args0 about1) = true := by decide +kernel
set_option maxRecDepth 65536 in
theorem w_t5 : (((((words1.drop 24).drop 24).drop 24).drop 24).take 24).all (fun c => isCode c || c.before args0 about1) = true := by decide +kernel
set_option maxRecDepth 65536 in
theorem w_t6 : (((((words1.drop 24).drop 24).drop 24).drop 24).drop 24).all (fun c => isCode c || c.before args0 about1) = true := by decide +kernel
theorem w_tables : (allAtoms (Jvm.Cond.code x code maxLocals ret :: tables_1)).before args0 about1 = true := by
  rw [allAtoms_all]
  show words1.all (fun c => c.before args0 about1) = true
  refine all_split ?_ w_codes
  rw [← List.take_append_drop 24 words1, List.all_append, w_t1, ← List.take_append_drop 24 (words1.drop 24), List.all_append, w_t2, ← List.take_append_drop 24 ((words1.drop 24).drop 24), List.all_append, w_t3, ← List.take_append_drop 24 (((words1.drop 24).drop 24).drop 24), List.all_append, w_t4, ← List.take_append_drop 24 ((((words1.drop 24).drop 24).drop 24).drop 24), List.all_append, w_t5, w_t6]
  rfl
set_option maxRecDepth 65536 in
theorem w_rest : rest_1_c.before args0 about1 = true := by decide +kernel
set_option maxRecDepth 65536 in
theorem w_case : (Jvm.Cond.and given_1 narrow_1).before args0 about1 = true := by decide +kernel
theorem w_applies : (headSpec (Jvm.Cond.code x code maxLocals ret :: tables_1) room_1).applies x e0.platform about1 = true :=
  (Spec.applies_iff w_frames).mpr ⟨w_running, w_runnable, w_alone, w_named, w_hears, w_ripe, w_room, w_tables⟩
theorem atStart : AtStart classFile x code maxLocals ret World_1 tables_1 room_1 Calls_1 rest_1 Pre_1 launch0 p0 e0 about1 theMethod args0 below0 :=
  ⟨lists_1, trivial, launch0.admits_env _ _ _, launch0.least_env, fairChoices_fair.cas, fairChoices_fair.clock, w_frames, w_args, w_heap, w_applies, ⟨(by decide +kernel : framesKnown about1 = true), ⟨(by decide +kernel : tablesKnown about1 = true), trivial⟩⟩, w_rest, w_case⟩
end start1
theorem witness_1 : WitnessClaimed_1 := ⟨start1.p0, start1.e0, start1.about1, start1.theMethod, start1.args0, start1.below0, start1.atStart⟩
end Jvm.Pilot.@@N@@
