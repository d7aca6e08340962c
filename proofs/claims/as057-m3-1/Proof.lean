import JvmDerived
import JvmDerived.Pilot.@@N@@Statement
import JvmDerived.Pilot.@@N@@Code
set_option linter.unusedVariables false
set_option linter.unusedSimpArgs false
namespace Jvm.Pilot.@@N@@
open Jvm Jvm.ClassFile Sem Op Lib Jvm.Free Jvm.Stand Jvm.LawKit Jvm.RoadKit Bundle Jvm.Pilot.@@N@@.Jvm.D
/-! ### the form of my walks: what is left to do from a state -/
def Go (p : Program) (e : Env) (below : List Frame) (P : Outcome → State → Prop) (S : State) : Prop :=
  ∃ s₂ o, Steps p.tables e below S s₂ ∧ s₂.status = .running ∧ Ended s₂ below o ∧ P o s₂
def PQ (s : State) (Q : Option Value → Heap → List Loc → Prop) (C S : Nat) : Outcome → State → Prop :=
  fun o U' => ∃ v L, o = .returned v ∧ Q v U'.heap L ∧ FrameEnd s o U' L C S
theorem Go.by {p : Program} {e : Env} {below : List Frame} {P : Outcome → State → Prop} {S S' : State} (k : ∀ t, Steps p.tables e below S' t → Steps p.tables e below S t) (h : Go p e below P S') : Go p e below P S := by
  obtain ⟨t, o, h1, h2⟩ := h
  exact ⟨t, o, k t h1, h2⟩
theorem Go.fin {p : Program} {l : Launch} {e : Env} {R : Room} {s : State} {m : MethodId} {args : Array Value} {below : List Frame} {meth : Method} {c : Code} {T : State} {locs : List Loc} {k n C S : Nat} {v : Option Value} {Q : Option Value → Heap → List Loc → Prop} {S0 : State}
    (X : Stand p l e R s m args below meth c T locs k n) (hlk : meth.locks = false) (hv : meth.sig.returnType = none → v = none) (hk : k ≤ C) (hn : n ≤ S) (hQ : Q v T.heap locs)
    (hst : ∀ fs, (∀ (f : JFrame) (acts : List Action), f.method = m → f.locked = none → f.entered = [] → (doReturn e (T.setTop f) acts v).1 = T.setFrames fs) → Steps p.tables e below S0 (T.setFrames fs)) : Go p e below (PQ s Q C S) S0 := by
  obtain ⟨fs, hr, hrun, hended, hW, hsame⟩ := X.leave (v := v) hv hlk
  exact ⟨_, _, hst fs hr, hrun, hended, v, locs, rfl, hQ, ⟨_, rfl⟩, hW, hsame.mono hk hn⟩
/-! ### from a case's words to facts -/
section OwnWords
variable {args : Array Value} {s : State} {t : Term} {C n d : String} {a : Addr} {z : Int32}
theorem own_fint (hx : t.eval args s none [] s = some (.ref a)) (h : (Cond.eq (.field t C n d) (.int z)).value args s none s [] = some true) : Fld s s.heap a C n d (.int z) := by
  refine Fld.start ?_
  have e1 : (Term.field t C n d).eval args s none [] s = s.fieldOf? a C n d := fld_at hx
  cases hf : s.fieldOf? a C n d with
  | none => simp [Cond.value, e1, hf] at h
  | some v =>
    cases v <;> simp [Cond.value, e1, hf, Term.int_eval] at h
    subst h; rfl
theorem own_lenE {cl : Cell} {ty : FieldType} (ev : t.eval args s none [] s = some (.ref a)) (A : Arr s s.heap a cl ty) (h : (Cond.eq (.length t) (.int z)).value args s none s [] = some true) : cl.slots.size < 2 ^ 31 ∧ cl.slots.size.toInt32 = z := by
  have ha : s.arrayAt? a = some cl := Arr.fin (Vm.Alike.refl _) A
  by_cases hl : cl.slots.size < 2 ^ 31
  · have q := len_f (o := none) (idx := []) (first := s) ev ha hl
    simp [Cond.value, q, Term.int_eval] at h
    exact ⟨hl, h⟩
  · simp [Cond.value, Term.eval, ev, ha, hl] at h
theorem own_len {cl : Cell} {ty : FieldType} {N : Nat} (ev : t.eval args s none [] s = some (.ref a)) (A : Arr s s.heap a cl ty) (hz : z.toInt = N) (h : (Cond.eq (.length t) (.int z)).value args s none s [] = some true) : cl.slots.size = N := by
  obtain ⟨h1, h2⟩ := own_lenE ev A h
  have h3 := len_toInt h1
  rw [h2, hz] at h3
  omega
theorem own_elem {cl : Cell} {j : Int32} (ev : t.eval args s none [] s = some (.ref a)) (hc : s.heap[a]? = some cl) (h : (Cond.eq (.elem t (.int j)) (.int z)).value args s none s [] = some true) : cl.slots[j.toNatClampNeg]? = some (.int z) := by
  obtain ⟨x, y, e1, e2, -, -⟩ := cmp_v (Or.inl h)
  have q := (elem_in e1 ev rfl hc).2
  cases e2
  cases x <;> simp [Cond.value, e1, Term.int_eval] at h
  subst h; exact q
end OwnWords
/-! ### the end of a walk that may intern -/
def PQW (s Z : State) (EL : List (String × Nat)) (Q : Option Value → Heap → List Loc → Prop) (C S : Nat) : Outcome → State → Prop :=
  fun o U' => ∃ v L, o = .returned v ∧ Q v U'.heap L ∧ CHr Z EL s.vm s.heap U'.vm U'.heap ∧ ReturnedEndW s o U' L C S
theorem Go.finW {p : Program} {l : Launch} {e : Env} {R : Room} {s Z : State} {a0 : Array Value} {EL : List (String × Nat)} {vm0 : Vm} {k0 : Nat} {m : MethodId} {args : Array Value} {below : List Frame} {meth : Method} {c : Code} {T : State} {locs : List Loc} {k n C S : Nat} {v : Option Value} {Q : Option Value → Heap → List Loc → Prop} {S0 : State} {h0 H : Heap}
    (X : Stand p l e R (s.setVm vm0) m args below meth c T locs k n) (hlk : meth.locks = false) (hEL : EW Z a0 EL) (hv : meth.sig.returnType = none → v = none) (hk : k ≤ C) (hn : n ≤ S) (hh : s.heap = h0) (eT : T.heap = H) (hS : s.Since vm0 k0) (hk0 : k0 ≤ H.size) (hZ : Z.Warmed39 vm0) (hC : CHr Z EL s.vm h0 vm0 H) (hQ : Q v H locs)
    (hst : ∀ fs, (∀ (f : JFrame) (acts : List Action), f.method = m → f.locked = none → f.entered = [] → (doReturn e (T.setTop f) acts v).1 = T.setFrames fs) → Steps p.tables e below S0 (T.setFrames fs)) : Go p e below (PQW s Z EL Q C S) S0 := by
  subst eT hh
  obtain ⟨fs, hr, hrun, hended, hW1, hW2, hW3, hsame⟩ := X.leaveW hS hk0 (v := v) hv hlk
  have hc := CHr.trans hC (CHv.at X hZ hEL hC.1)
  exact ⟨_, _, hst fs hr, hrun, hended, v, locs, rfl, hQ, hc, hW1, hW2, hW3, hsame.mono hk hn⟩
/-! ### a callee that may intern and that is handed addresses which no literal bears -/
theorem own_ss0 {Z : State} {EL : List (String × Nat)} {vm : Vm} {h : Heap} : ∀ x ∈ ([] : List Addr), x < h.size ∧ Safe Z EL vm h x := fun _ q => nomatch q
theorem own_ssS {Z : State} {EL : List (String × Nat)} {vm : Vm} {h : Heap} {y : Addr} {L : List Addr} (q : Safe Z EL vm h y) (lt : y < h.size) (r : ∀ x ∈ L, x < h.size ∧ Safe Z EL vm h x) : ∀ x ∈ y :: L, x < h.size ∧ Safe Z EL vm h x := fun x hx => by
  rcases List.mem_cons.mp hx with rfl | hx
  · exact ⟨lt, q⟩
  · exact r x hx
theorem own_backC {l : Launch} {R : Room} {p : Program} {e : Env} {below : List Frame} {s Z : State} {args a0 : Array Value} {EL : List (String × Nat)} {h : Heap} {vm0 : Vm} {y : MethodName} {bytes : ByteArray} {maxL : Nat} {ret : Option FieldType} {rm : Room} {len W : Nat} {as' : Array Value} {ss : List Addr} {Q : Option Value → Heap → List Loc → Prop}
    (hM : MetFree l y (head1 [Cond.code y bytes maxL ret] rm) (fun a U => a = as' ∧ Z.Warmed39 U.vm ∧ U.heap = h ∧ CHv Z EL U.vm h ∧ ∀ x ∈ ss, Safe Z EL U.vm h x) (fun _ _ _ _ _ => True) (fun _ U o U' => ∃ v L, o = .returned v ∧ Q v U'.heap L ∧ CHr Z EL U.vm U.heap U'.vm U'.heap ∧ ReturnedEndW U o U' L rm.cells rm.slots))
    (hZ : Z.Warmed39 vm0) (wc : (Cond.code y bytes maxL ret).before a0 Z = true) (wz : (Cond.initialized y.cls).before a0 Z = true) (hf : rm.frames + 1 ≤ R.frames) (hl : W + (maxL + 11) + rm.locals ≤ R.locals) (hEL : EW Z a0 EL) (H : CHv Z EL vm0 h) (hss : ∀ x ∈ ss, x < h.size ∧ Safe Z EL vm0 h x) :
    BackS l R p e below (s.setVm vm0) args y len W (fun A a => a = as' ∧ A.U.heap = h ∧ A.cells + rm.cells ≤ R.cells ∧ A.slots + rm.slots ≤ R.slots)
      (fun A _ v B => ∃ L, Q v B.U.heap L ∧ B.locs = A.locs ++ L ∧ B.cells = A.cells + rm.cells ∧ B.slots = A.slots + rm.slots ∧ CHr Z EL vm0 h B.U.vm B.U.heap) := by
  refine BackS.of_freeW (bytes := bytes) (maxL := maxL) (ret := ret) (E := fun _ U o t L k n => k = rm.cells ∧ n = rm.slots ∧ CHr Z EL U.vm U.heap t.vm t.heap ∧ ∃ v, o = .returned v ∧ Q v t.heap L) hM hf hl ?_ ?_ (fun _ _ _ _ _ _ _ _ _ => trivial) ?_ ?_
  · intro m meth c A a Y hp
    have hU : Z.Warmed39 A.U.vm := wtrans (s := s.setVm vm0) hZ Y.warmed
    refine ⟨?_, mv hU wc, mv hU wz, hp.2.2.1, hp.2.2.2⟩
    show (Cond.and _ .tt).before a A.U = true
    rw [Cond.before_and, mv hU wc]; rfl
  · intro m meth c A a g mk Y hp
    have C := CHv.at Y hZ hEL H
    exact ⟨hp.1, wtrans (s := s.setVm vm0) hZ Y.warmed, hp.2.1, C.1, fun x hx => C.safe (hss x hx).1 (hss x hx).2⟩
  · rintro a U o t ⟨v, L, h1, h2, h3, h4⟩
    exact ⟨L, _, _, h4, rfl, rfl, h3, v, h1, h2⟩
  · rintro m meth c A a g mk v t L k n Y hp - - ⟨e1, e2, e3, v', e4, e5⟩
    cases e4
    subst e1 e2
    refine ⟨L, e5, rfl, rfl, rfl, (CHv.at Y hZ hEL H).trans ?_⟩
    rw [← hp.2.1]; exact e3
/-! ### getfield where the entry stands resolved (the word fieldRef) -/
section OwnRef
variable {p : Program} {l : Launch} {e : Env} {R : Room} {s : State} {m : MethodId} {args : Array Value} {below : List Frame} {meth : Method} {c : Code} {T : State} {locs : List Loc} {cells slots : Nat} {Z : State} {a0 : Array Value} {h : Heap}
theorem own_getR (X : Stand p l e R s m args below meth c T locs cells slots) (hx : p.tables.exec = Jvm.exec) (hZ : Z.Warmed39 s.vm) {own R0 O n d : String} {index : Nat} (hown : s.vm.findClass own = some m.cls) (w : (Cond.fieldRef own index R0 n d).before a0 Z = true) (via : Via Z R0 O n d)
    (eT : T.heap = h) {a : Addr} {v : Value} (F : Fld Z h a O n d v) {g : JFrame} (hg : g.method = m) {rest : List Value} (hs : g.stack = .ref a :: rest) (hd : decode c.code g.pc = .ok (.getfield index, 3)) : ∃ T', Stand p l e R s m args below meth c T' locs cells slots ∧ T'.heap = h ∧ ∀ target, Steps p.tables e below (T'.setTop { g with pc := g.pc + 3, stack := v :: rest }) target → Steps p.tables e below (T.setTop g) target := by
  obtain ⟨cell, cf, k, i, f, h1, h2, h3, h4, -, -, h7⟩ := F
  have hU : Z.Warmed39 T.vm := wtrans hZ X.warmed
  have w' : (Cond.fieldRef own index R0 n d).before a0 (Z.setVm T.vm) = true := Cond.fieldRef_warmed39 hU w
  have hown' : (Z.setVm T.vm).vm.findClass own = some m.cls := by
    rw [State.vm_setVm, X.warmed.alike.findClass]; exact hown
  obtain ⟨c2, k2, i2, f2, hi2, hready⟩ := Cond.fieldRef_spec (s := Z.setVm T.vm) hown' w'
  obtain ⟨k', hi', -⟩ := State.fieldFound?_setVm (s := Z) hU.alike (via _ h2)
  cases hi2.symm.trans hi'
  refine ⟨T, X, eT, fun target hrest => ?_⟩
  subst hg
  have hc : T.heap[a]? = some cell := by rw [eT]; exact h1
  jvm_step X.here [hx, hd, getfield.wp_ready (e := e) (s := T) (f := g) X.here.top hready h3 hs hc h4 h7]
  exact hrest
end OwnRef
theorem pn_com_example_verdict_verdict_ActionEqualsPinLaw : plainName "com/example/verdict/verdict/ActionEqualsPinLaw" = true := by first | (simp [plainName, overriddenIn]; done) | decide +kernel
theorem d_method_2_code_0 : decode method_2_code 0 = .ok (.iload_n 0, 1) := by decide +kernel
theorem d_method_2_code_1 : decode method_2_code 1 = .ok (.ifCond .ne 7, 3) := by decide +kernel
theorem d_method_2_code_4 : decode method_2_code 4 = .ok (.getstatic 7, 3) := by decide +kernel
theorem d_method_2_code_7 : decode method_2_code 7 = .ok (.areturn, 1) := by decide +kernel
theorem d_method_2_code_8 : decode method_2_code 8 = .ok (.iload_n 0, 1) := by decide +kernel
theorem d_method_2_code_9 : decode method_2_code 9 = .ok (.iconst 1, 1) := by decide +kernel
theorem d_method_2_code_10 : decode method_2_code 10 = .ok (.if_icmp .ne 7, 3) := by decide +kernel
theorem d_method_2_code_13 : decode method_2_code 13 = .ok (.getstatic 13, 3) := by decide +kernel
theorem d_method_2_code_16 : decode method_2_code 16 = .ok (.areturn, 1) := by decide +kernel
theorem d_method_2_code_17 : decode method_2_code 17 = .ok (.iload_n 0, 1) := by decide +kernel
theorem d_method_2_code_18 : decode method_2_code 18 = .ok (.iconst 2, 1) := by decide +kernel
theorem d_method_2_code_19 : decode method_2_code 19 = .ok (.if_icmp .ne 7, 3) := by decide +kernel
theorem d_method_2_code_22 : decode method_2_code 22 = .ok (.getstatic 16, 3) := by decide +kernel
theorem d_method_2_code_25 : decode method_2_code 25 = .ok (.areturn, 1) := by decide +kernel
theorem d_method_2_code_26 : decode method_2_code 26 = .ok (.iload_n 0, 1) := by decide +kernel
theorem d_method_2_code_27 : decode method_2_code 27 = .ok (.iconst 3, 1) := by decide +kernel
theorem d_method_2_code_28 : decode method_2_code 28 = .ok (.if_icmp .ne 7, 3) := by decide +kernel
theorem d_method_2_code_31 : decode method_2_code 31 = .ok (.getstatic 19, 3) := by decide +kernel
theorem d_method_2_code_34 : decode method_2_code 34 = .ok (.areturn, 1) := by decide +kernel
theorem d_method_2_code_35 : decode method_2_code 35 = .ok (.iload_n 0, 1) := by decide +kernel
theorem d_method_2_code_36 : decode method_2_code 36 = .ok (.iconst 4, 1) := by decide +kernel
theorem d_method_2_code_37 : decode method_2_code 37 = .ok (.if_icmp .ne 7, 3) := by decide +kernel
theorem d_method_2_code_40 : decode method_2_code 40 = .ok (.getstatic 22, 3) := by decide +kernel
theorem d_method_2_code_43 : decode method_2_code 43 = .ok (.areturn, 1) := by decide +kernel
theorem d_method_2_code_44 : decode method_2_code 44 = .ok (.iload_n 0, 1) := by decide +kernel
theorem d_method_2_code_45 : decode method_2_code 45 = .ok (.iconst 5, 1) := by decide +kernel
theorem d_method_2_code_46 : decode method_2_code 46 = .ok (.if_icmp .ne 7, 3) := by decide +kernel
theorem d_method_2_code_49 : decode method_2_code 49 = .ok (.getstatic 25, 3) := by decide +kernel
theorem d_method_2_code_52 : decode method_2_code 52 = .ok (.areturn, 1) := by decide +kernel
theorem d_method_2_code_53 : decode method_2_code 53 = .ok (.getstatic 28, 3) := by decide +kernel
theorem d_method_2_code_56 : decode method_2_code 56 = .ok (.areturn, 1) := by decide +kernel
theorem d_method_4_code_0 : decode method_4_code 0 = .ok (.iload_n 0, 1) := by decide +kernel
theorem d_method_4_code_1 : decode method_4_code 1 = .ok (.iload_n 2, 1) := by decide +kernel
theorem d_method_4_code_2 : decode method_4_code 2 = .ok (.if_icmp .eq 5, 3) := by decide +kernel
theorem d_method_4_code_7 : decode method_4_code 7 = .ok (.iload_n 0, 1) := by decide +kernel
theorem d_method_4_code_8 : decode method_4_code 8 = .ok (.iconst 1, 1) := by decide +kernel
theorem d_method_4_code_9 : decode method_4_code 9 = .ok (.if_icmp .gt 5, 3) := by decide +kernel
theorem d_method_4_code_14 : decode method_4_code 14 = .ok (.iload_n 1, 1) := by decide +kernel
theorem d_method_4_code_15 : decode method_4_code 15 = .ok (.sipush 255, 3) := by decide +kernel
theorem d_method_4_code_18 : decode method_4_code 18 = .ok (.iand, 1) := by decide +kernel
theorem d_method_4_code_19 : decode method_4_code 19 = .ok (.iload_n 3, 1) := by decide +kernel
theorem d_method_4_code_20 : decode method_4_code 20 = .ok (.sipush 255, 3) := by decide +kernel
theorem d_method_4_code_23 : decode method_4_code 23 = .ok (.iand, 1) := by decide +kernel
theorem d_method_4_code_24 : decode method_4_code 24 = .ok (.if_icmp .eq 5, 3) := by decide +kernel
theorem d_method_4_code_29 : decode method_4_code 29 = .ok (.iload_n 0, 1) := by decide +kernel
theorem d_method_4_code_30 : decode method_4_code 30 = .ok (.iconst 2, 1) := by decide +kernel
theorem d_method_4_code_31 : decode method_4_code 31 = .ok (.if_icmp .ne 5, 3) := by decide +kernel
theorem d_method_4_code_34 : decode method_4_code 34 = .ok (.iconst 1, 1) := by decide +kernel
theorem d_method_4_code_35 : decode method_4_code 35 = .ok (.ireturn, 1) := by decide +kernel
theorem d_method_4_code_36 : decode method_4_code 36 = .ok (.iload_n 1, 1) := by decide +kernel
theorem d_method_4_code_37 : decode method_4_code 37 = .ok (.bipush 8, 2) := by decide +kernel
theorem d_method_4_code_39 : decode method_4_code 39 = .ok (.iushr, 1) := by decide +kernel
theorem d_method_4_code_40 : decode method_4_code 40 = .ok (.sipush 255, 3) := by decide +kernel
theorem d_method_4_code_43 : decode method_4_code 43 = .ok (.iand, 1) := by decide +kernel
theorem d_method_4_code_44 : decode method_4_code 44 = .ok (.iload_n 3, 1) := by decide +kernel
theorem d_method_4_code_45 : decode method_4_code 45 = .ok (.bipush 8, 2) := by decide +kernel
theorem d_method_4_code_47 : decode method_4_code 47 = .ok (.iushr, 1) := by decide +kernel
theorem d_method_4_code_48 : decode method_4_code 48 = .ok (.sipush 255, 3) := by decide +kernel
theorem d_method_4_code_51 : decode method_4_code 51 = .ok (.iand, 1) := by decide +kernel
theorem d_method_4_code_52 : decode method_4_code 52 = .ok (.if_icmp .ne 7, 3) := by decide +kernel
theorem d_method_4_code_55 : decode method_4_code 55 = .ok (.iconst 1, 1) := by decide +kernel
theorem d_method_4_code_56 : decode method_4_code 56 = .ok (.goto 4, 3) := by decide +kernel
theorem d_method_4_code_60 : decode method_4_code 60 = .ok (.ireturn, 1) := by decide +kernel
theorem d_method_4_code_59 : decode method_4_code 59 = .ok (.iconst 0, 1) := by decide +kernel
theorem d_method_4_code_27 : decode method_4_code 27 = .ok (.iconst 0, 1) := by decide +kernel
theorem d_method_4_code_28 : decode method_4_code 28 = .ok (.ireturn, 1) := by decide +kernel
theorem d_method_4_code_12 : decode method_4_code 12 = .ok (.iconst 1, 1) := by decide +kernel
theorem d_method_4_code_13 : decode method_4_code 13 = .ok (.ireturn, 1) := by decide +kernel
theorem d_method_4_code_5 : decode method_4_code 5 = .ok (.iconst 0, 1) := by decide +kernel
theorem d_method_4_code_6 : decode method_4_code 6 = .ok (.ireturn, 1) := by decide +kernel
theorem pn_java_lang_StringUTF16 : plainName "java/lang/StringUTF16" = true := by first | (simp [plainName, overriddenIn]; done) | decide +kernel
theorem d_jdk_52_method_21_code_0 : decode jdk_52_method_21_code 0 = .ok (.iconst 0, 1) := by decide +kernel
theorem d_jdk_52_method_21_code_1 : decode jdk_52_method_21_code 1 = .ok (.istore 5, 2) := by decide +kernel
theorem d_jdk_52_method_21_code_3 : decode jdk_52_method_21_code 3 = .ok (.iload 5, 2) := by decide +kernel
theorem d_jdk_52_method_21_code_5 : decode jdk_52_method_21_code 5 = .ok (.iload 4, 2) := by decide +kernel
theorem d_jdk_52_method_21_code_7 : decode jdk_52_method_21_code 7 = .ok (.if_icmp .ge 37, 3) := by decide +kernel
theorem d_jdk_52_method_21_code_10 : decode jdk_52_method_21_code 10 = .ok (.aload_n 0, 1) := by decide +kernel
theorem d_jdk_52_method_21_code_11 : decode jdk_52_method_21_code 11 = .ok (.iload_n 1, 1) := by decide +kernel
theorem d_jdk_52_method_21_code_12 : decode jdk_52_method_21_code 12 = .ok (.caload, 1) := by decide +kernel
theorem d_jdk_52_method_21_code_13 : decode jdk_52_method_21_code 13 = .ok (.istore 6, 2) := by decide +kernel
theorem d_jdk_52_method_21_code_15 : decode jdk_52_method_21_code 15 = .ok (.iload 6, 2) := by decide +kernel
theorem d_jdk_52_method_21_code_17 : decode jdk_52_method_21_code 17 = .ok (.sipush 255, 3) := by decide +kernel
theorem d_jdk_52_method_21_code_20 : decode jdk_52_method_21_code 20 = .ok (.if_icmp .le 6, 3) := by decide +kernel
theorem d_jdk_52_method_21_code_26 : decode jdk_52_method_21_code 26 = .ok (.aload_n 2, 1) := by decide +kernel
theorem d_jdk_52_method_21_code_27 : decode jdk_52_method_21_code 27 = .ok (.iload_n 3, 1) := by decide +kernel
theorem d_jdk_52_method_21_code_28 : decode jdk_52_method_21_code 28 = .ok (.iload 6, 2) := by decide +kernel
theorem d_jdk_52_method_21_code_30 : decode jdk_52_method_21_code 30 = .ok (.i2b, 1) := by decide +kernel
theorem d_jdk_52_method_21_code_31 : decode jdk_52_method_21_code 31 = .ok (.bastore, 1) := by decide +kernel
theorem d_jdk_52_method_21_code_32 : decode jdk_52_method_21_code 32 = .ok (.iinc 1 1, 3) := by decide +kernel
theorem d_jdk_52_method_21_code_35 : decode jdk_52_method_21_code 35 = .ok (.iinc 3 1, 3) := by decide +kernel
theorem d_jdk_52_method_21_code_38 : decode jdk_52_method_21_code 38 = .ok (.iinc 5 1, 3) := by decide +kernel
theorem d_jdk_52_method_21_code_41 : decode jdk_52_method_21_code 41 = .ok (.goto (-38), 3) := by decide +kernel
theorem d_jdk_52_method_21_code_44 : decode jdk_52_method_21_code 44 = .ok (.iload 4, 2) := by decide +kernel
theorem d_jdk_52_method_21_code_46 : decode jdk_52_method_21_code 46 = .ok (.ireturn, 1) := by decide +kernel
theorem d_jdk_52_method_16_code_0 : decode jdk_52_method_16_code 0 = .ok (.iload_n 2, 1) := by decide +kernel
theorem d_jdk_52_method_16_code_1 : decode jdk_52_method_16_code 1 = .ok (.newarray .byte, 2) := by decide +kernel
theorem d_jdk_52_method_16_code_3 : decode jdk_52_method_16_code 3 = .ok (.astore_n 3, 1) := by decide +kernel
theorem d_jdk_52_method_16_code_4 : decode jdk_52_method_16_code 4 = .ok (.aload_n 0, 1) := by decide +kernel
theorem d_jdk_52_method_16_code_5 : decode jdk_52_method_16_code 5 = .ok (.iload_n 1, 1) := by decide +kernel
theorem d_jdk_52_method_16_code_6 : decode jdk_52_method_16_code 6 = .ok (.aload_n 3, 1) := by decide +kernel
theorem d_jdk_52_method_16_code_7 : decode jdk_52_method_16_code 7 = .ok (.iconst 0, 1) := by decide +kernel
theorem d_jdk_52_method_16_code_8 : decode jdk_52_method_16_code 8 = .ok (.iload_n 2, 1) := by decide +kernel
theorem pd___CI_BII_I : parseMethodDescriptor "([CI[BII)I" = some ⟨[(.array .char), .int, (.array .byte), .int, .int], some .int⟩ := by decide +kernel
theorem d_jdk_52_method_16_code_9 : decode jdk_52_method_16_code 9 = .ok (.invokestatic 115, 3) := by decide +kernel
theorem d_jdk_52_method_16_code_12 : decode jdk_52_method_16_code 12 = .ok (.istore 4, 2) := by decide +kernel
theorem d_jdk_52_method_16_code_14 : decode jdk_52_method_16_code 14 = .ok (.iload 4, 2) := by decide +kernel
theorem d_jdk_52_method_16_code_16 : decode jdk_52_method_16_code 16 = .ok (.iload_n 2, 1) := by decide +kernel
theorem d_jdk_52_method_16_code_17 : decode jdk_52_method_16_code 17 = .ok (.if_icmp .eq 40, 3) := by decide +kernel
theorem d_jdk_52_method_16_code_57 : decode jdk_52_method_16_code 57 = .ok (.aload_n 3, 1) := by decide +kernel
theorem d_jdk_52_method_16_code_58 : decode jdk_52_method_16_code 58 = .ok (.areturn, 1) := by decide +kernel
theorem d_jdk_52_method_15_code_0 : decode jdk_52_method_15_code 0 = .ok (.iload_n 1, 1) := by decide +kernel
theorem d_jdk_52_method_15_code_1 : decode jdk_52_method_15_code 1 = .ok (.aload_n 0, 1) := by decide +kernel
theorem d_jdk_52_method_15_code_2 : decode jdk_52_method_15_code 2 = .ok (.arraylength, 1) := by decide +kernel
theorem d_jdk_52_method_15_code_3 : decode jdk_52_method_15_code 3 = .ok (.isub, 1) := by decide +kernel
theorem d_jdk_52_method_15_code_4 : decode jdk_52_method_15_code 4 = .ok (.bipush 31, 2) := by decide +kernel
theorem d_jdk_52_method_15_code_6 : decode jdk_52_method_15_code 6 = .ok (.iushr, 1) := by decide +kernel
theorem d_jdk_52_method_15_code_7 : decode jdk_52_method_15_code 7 = .ok (.i2b, 1) := by decide +kernel
theorem d_jdk_52_method_15_code_8 : decode jdk_52_method_15_code 8 = .ok (.ireturn, 1) := by decide +kernel
theorem pn_java_lang_String : plainName "java/lang/String" = true := by first | (simp [plainName, overriddenIn]; done) | decide +kernel
theorem d_jdk_42_method_149_code_0 : decode jdk_42_method_149_code 0 = .ok (.aload_n 0, 1) := by decide +kernel
theorem d_jdk_42_method_149_code_1 : decode jdk_42_method_149_code 1 = .ok (.invokespecial 1, 3) := by decide +kernel
theorem d_jdk_42_method_149_code_4 : decode jdk_42_method_149_code 4 = .ok (.iload_n 3, 1) := by decide +kernel
theorem d_jdk_42_method_149_code_5 : decode jdk_42_method_149_code 5 = .ok (.ifCond .ne 22, 3) := by decide +kernel
theorem d_jdk_42_method_149_code_27 : decode jdk_42_method_149_code 27 = .ok (.getstatic 38, 3) := by decide +kernel
theorem d_jdk_42_method_149_code_30 : decode jdk_42_method_149_code 30 = .ok (.ifCond .eq 28, 3) := by decide +kernel
theorem d_jdk_42_method_149_code_33 : decode jdk_42_method_149_code 33 = .ok (.aload_n 1, 1) := by decide +kernel
theorem d_jdk_42_method_149_code_34 : decode jdk_42_method_149_code 34 = .ok (.iload_n 2, 1) := by decide +kernel
theorem d_jdk_42_method_149_code_35 : decode jdk_42_method_149_code 35 = .ok (.iload_n 3, 1) := by decide +kernel
theorem pd___CII__B : parseMethodDescriptor "([CII)[B" = some ⟨[(.array .char), .int, .int], some (.array .byte)⟩ := by decide +kernel
theorem d_jdk_42_method_149_code_36 : decode jdk_42_method_149_code 36 = .ok (.invokestatic 177, 3) := by decide +kernel
theorem d_jdk_42_method_149_code_39 : decode jdk_42_method_149_code 39 = .ok (.astore 5, 2) := by decide +kernel
theorem d_jdk_42_method_149_code_41 : decode jdk_42_method_149_code 41 = .ok (.aload_n 0, 1) := by decide +kernel
theorem d_jdk_42_method_149_code_42 : decode jdk_42_method_149_code 42 = .ok (.aload 5, 2) := by decide +kernel
theorem d_jdk_42_method_149_code_44 : decode jdk_42_method_149_code 44 = .ok (.iload_n 3, 1) := by decide +kernel
theorem pd___BI_B : parseMethodDescriptor "([BI)B" = some ⟨[(.array .byte), .int], some .byte⟩ := by decide +kernel
theorem d_jdk_42_method_149_code_45 : decode jdk_42_method_149_code 45 = .ok (.invokestatic 47, 3) := by decide +kernel
theorem d_jdk_42_method_149_code_48 : decode jdk_42_method_149_code 48 = .ok (.putfield 15, 3) := by decide +kernel
theorem d_jdk_42_method_149_code_51 : decode jdk_42_method_149_code 51 = .ok (.aload_n 0, 1) := by decide +kernel
theorem d_jdk_42_method_149_code_52 : decode jdk_42_method_149_code 52 = .ok (.aload 5, 2) := by decide +kernel
theorem d_jdk_42_method_149_code_54 : decode jdk_42_method_149_code 54 = .ok (.putfield 9, 3) := by decide +kernel
theorem d_jdk_42_method_149_code_57 : decode jdk_42_method_149_code 57 = .ok (.return_, 1) := by decide +kernel
theorem d_jdk_42_method_3_code_0 : decode jdk_42_method_3_code 0 = .ok (.aload_n 0, 1) := by decide +kernel
theorem d_jdk_42_method_3_code_1 : decode jdk_42_method_3_code 1 = .ok (.aload_n 1, 1) := by decide +kernel
theorem d_jdk_42_method_3_code_2 : decode jdk_42_method_3_code 2 = .ok (.iconst 0, 1) := by decide +kernel
theorem d_jdk_42_method_3_code_3 : decode jdk_42_method_3_code 3 = .ok (.aload_n 1, 1) := by decide +kernel
theorem d_jdk_42_method_3_code_4 : decode jdk_42_method_3_code 4 = .ok (.arraylength, 1) := by decide +kernel
theorem d_jdk_42_method_3_code_5 : decode jdk_42_method_3_code 5 = .ok (.aconst_null, 1) := by decide +kernel
theorem pd___CIILjava_lang_Void__V : parseMethodDescriptor "([CIILjava/lang/Void;)V" = some ⟨[(.array .char), .int, .int, (.object "java/lang/Void")], none⟩ := by decide +kernel
theorem d_jdk_42_method_3_code_6 : decode jdk_42_method_3_code 6 = .ok (.invokespecial 27, 3) := by decide +kernel
theorem d_jdk_42_method_3_code_9 : decode jdk_42_method_3_code 9 = .ok (.return_, 1) := by decide +kernel
theorem pn_java_lang_StringLatin1 : plainName "java/lang/StringLatin1" = true := by first | (simp [plainName, overriddenIn]; done) | decide +kernel
theorem d_jdk_43_method_3_code_0 : decode jdk_43_method_3_code 0 = .ok (.iload_n 0, 1) := by decide +kernel
theorem d_jdk_43_method_3_code_1 : decode jdk_43_method_3_code 1 = .ok (.sipush 255, 3) := by decide +kernel
theorem d_jdk_43_method_3_code_4 : decode jdk_43_method_3_code 4 = .ok (.if_icmp .gt 7, 3) := by decide +kernel
theorem d_jdk_43_method_3_code_7 : decode jdk_43_method_3_code 7 = .ok (.iconst 1, 1) := by decide +kernel
theorem d_jdk_43_method_3_code_8 : decode jdk_43_method_3_code 8 = .ok (.goto 4, 3) := by decide +kernel
theorem d_jdk_43_method_3_code_12 : decode jdk_43_method_3_code 12 = .ok (.ireturn, 1) := by decide +kernel
theorem d_jdk_43_method_46_code_0 : decode jdk_43_method_46_code 0 = .ok (.iconst 1, 1) := by decide +kernel
theorem d_jdk_43_method_46_code_1 : decode jdk_43_method_46_code 1 = .ok (.newarray .byte, 2) := by decide +kernel
theorem d_jdk_43_method_46_code_3 : decode jdk_43_method_46_code 3 = .ok (.dup, 1) := by decide +kernel
theorem d_jdk_43_method_46_code_4 : decode jdk_43_method_46_code 4 = .ok (.iconst 0, 1) := by decide +kernel
theorem d_jdk_43_method_46_code_5 : decode jdk_43_method_46_code 5 = .ok (.iload_n 0, 1) := by decide +kernel
theorem d_jdk_43_method_46_code_6 : decode jdk_43_method_46_code 6 = .ok (.i2b, 1) := by decide +kernel
theorem d_jdk_43_method_46_code_7 : decode jdk_43_method_46_code 7 = .ok (.bastore, 1) := by decide +kernel
theorem d_jdk_43_method_46_code_8 : decode jdk_43_method_46_code 8 = .ok (.areturn, 1) := by decide +kernel
theorem d_jdk_42_method_151_code_0 : decode jdk_42_method_151_code 0 = .ok (.aload_n 0, 1) := by decide +kernel
theorem d_jdk_42_method_151_code_1 : decode jdk_42_method_151_code 1 = .ok (.invokespecial 1, 3) := by decide +kernel
theorem d_jdk_42_method_151_code_4 : decode jdk_42_method_151_code 4 = .ok (.aload_n 0, 1) := by decide +kernel
theorem d_jdk_42_method_151_code_5 : decode jdk_42_method_151_code 5 = .ok (.aload_n 1, 1) := by decide +kernel
theorem d_jdk_42_method_151_code_6 : decode jdk_42_method_151_code 6 = .ok (.putfield 9, 3) := by decide +kernel
theorem d_jdk_42_method_151_code_9 : decode jdk_42_method_151_code 9 = .ok (.aload_n 0, 1) := by decide +kernel
theorem d_jdk_42_method_151_code_10 : decode jdk_42_method_151_code 10 = .ok (.iload_n 2, 1) := by decide +kernel
theorem d_jdk_42_method_151_code_11 : decode jdk_42_method_151_code 11 = .ok (.putfield 15, 3) := by decide +kernel
theorem d_jdk_42_method_151_code_14 : decode jdk_42_method_151_code 14 = .ok (.return_, 1) := by decide +kernel
theorem d_jdk_42_method_139_code_0 : decode jdk_42_method_139_code 0 = .ok (.getstatic 38, 3) := by decide +kernel
theorem d_jdk_42_method_139_code_3 : decode jdk_42_method_139_code 3 = .ok (.ifCond .eq 23, 3) := by decide +kernel
theorem d_jdk_42_method_139_code_6 : decode jdk_42_method_139_code 6 = .ok (.iload_n 0, 1) := by decide +kernel
theorem pd__C_Z : parseMethodDescriptor "(C)Z" = some ⟨[.char], some .boolean⟩ := by decide +kernel
theorem d_jdk_42_method_139_code_7 : decode jdk_42_method_139_code 7 = .ok (.invokestatic 1015, 3) := by decide +kernel
theorem d_jdk_42_method_139_code_10 : decode jdk_42_method_139_code 10 = .ok (.ifCond .eq 16, 3) := by decide +kernel
theorem d_jdk_42_method_139_code_13 : decode jdk_42_method_139_code 13 = .ok (.new 10, 3) := by decide +kernel
theorem d_jdk_42_method_139_code_16 : decode jdk_42_method_139_code 16 = .ok (.dup, 1) := by decide +kernel
theorem d_jdk_42_method_139_code_17 : decode jdk_42_method_139_code 17 = .ok (.iload_n 0, 1) := by decide +kernel
theorem pd__C__B : parseMethodDescriptor "(C)[B" = some ⟨[.char], some (.array .byte)⟩ := by decide +kernel
theorem d_jdk_42_method_139_code_18 : decode jdk_42_method_139_code 18 = .ok (.invokestatic 1018, 3) := by decide +kernel
theorem d_jdk_42_method_139_code_21 : decode jdk_42_method_139_code 21 = .ok (.iconst 0, 1) := by decide +kernel
theorem pd___BB_V : parseMethodDescriptor "([BB)V" = some ⟨[(.array .byte), .byte], none⟩ := by decide +kernel
theorem d_jdk_42_method_139_code_22 : decode jdk_42_method_139_code 22 = .ok (.invokespecial 209, 3) := by decide +kernel
theorem d_jdk_42_method_139_code_25 : decode jdk_42_method_139_code 25 = .ok (.areturn, 1) := by decide +kernel
theorem d_jdk_42_method_149_code_8 : decode jdk_42_method_149_code 8 = .ok (.aload_n 0, 1) := by decide +kernel
theorem d_jdk_42_method_149_code_9 : decode jdk_42_method_149_code 9 = .ok (.ldc 7, 2) := by decide +kernel
theorem d_jdk_42_method_149_code_11 : decode jdk_42_method_149_code 11 = .ok (.getfield 9, 3) := by decide +kernel
theorem d_jdk_42_method_149_code_14 : decode jdk_42_method_149_code 14 = .ok (.putfield 9, 3) := by decide +kernel
theorem d_jdk_42_method_149_code_17 : decode jdk_42_method_149_code 17 = .ok (.aload_n 0, 1) := by decide +kernel
theorem d_jdk_42_method_149_code_18 : decode jdk_42_method_149_code 18 = .ok (.ldc 7, 2) := by decide +kernel
theorem d_jdk_42_method_149_code_20 : decode jdk_42_method_149_code 20 = .ok (.getfield 15, 3) := by decide +kernel
theorem d_jdk_42_method_149_code_23 : decode jdk_42_method_149_code 23 = .ok (.putfield 15, 3) := by decide +kernel
theorem d_jdk_42_method_149_code_26 : decode jdk_42_method_149_code 26 = .ok (.return_, 1) := by decide +kernel
theorem d_method_3_code_0 : decode method_3_code 0 = .ok (.iload_n 0, 1) := by decide +kernel
theorem d_method_3_code_1 : decode method_3_code 1 = .ok (.ifCond .ne 5, 3) := by decide +kernel
theorem d_method_3_code_4 : decode method_3_code 4 = .ok (.aconst_null, 1) := by decide +kernel
theorem d_method_3_code_5 : decode method_3_code 5 = .ok (.areturn, 1) := by decide +kernel
theorem d_method_3_code_6 : decode method_3_code 6 = .ok (.iload_n 0, 1) := by decide +kernel
theorem d_method_3_code_7 : decode method_3_code 7 = .ok (.iconst 1, 1) := by decide +kernel
theorem d_method_3_code_8 : decode method_3_code 8 = .ok (.if_icmp .ne 14, 3) := by decide +kernel
theorem d_method_3_code_11 : decode method_3_code 11 = .ok (.new 31, 3) := by decide +kernel
theorem d_method_3_code_14 : decode method_3_code 14 = .ok (.dup, 1) := by decide +kernel
theorem d_method_3_code_15 : decode method_3_code 15 = .ok (.iconst 0, 1) := by decide +kernel
theorem d_method_3_code_16 : decode method_3_code 16 = .ok (.newarray .char, 2) := by decide +kernel
theorem pd___C_V : parseMethodDescriptor "([C)V" = some ⟨[(.array .char)], none⟩ := by decide +kernel
theorem d_method_3_code_18 : decode method_3_code 18 = .ok (.invokespecial 33, 3) := by decide +kernel
theorem d_method_3_code_21 : decode method_3_code 21 = .ok (.areturn, 1) := by decide +kernel
theorem d_method_3_code_22 : decode method_3_code 22 = .ok (.iload_n 0, 1) := by decide +kernel
theorem d_method_3_code_23 : decode method_3_code 23 = .ok (.iconst 2, 1) := by decide +kernel
theorem d_method_3_code_24 : decode method_3_code 24 = .ok (.if_icmp .ne 13, 3) := by decide +kernel
theorem d_method_3_code_27 : decode method_3_code 27 = .ok (.iload_n 1, 1) := by decide +kernel
theorem d_method_3_code_28 : decode method_3_code 28 = .ok (.sipush 255, 3) := by decide +kernel
theorem d_method_3_code_31 : decode method_3_code 31 = .ok (.iand, 1) := by decide +kernel
theorem d_method_3_code_32 : decode method_3_code 32 = .ok (.i2c, 1) := by decide +kernel
theorem pd__C_Ljava_lang_String_ : parseMethodDescriptor "(C)Ljava/lang/String;" = some ⟨[.char], some (.object "java/lang/String")⟩ := by decide +kernel
theorem d_method_3_code_33 : decode method_3_code 33 = .ok (.invokestatic 36, 3) := by decide +kernel
theorem d_method_3_code_36 : decode method_3_code 36 = .ok (.areturn, 1) := by decide +kernel
theorem d_method_3_code_37 : decode method_3_code 37 = .ok (.iconst 2, 1) := by decide +kernel
theorem d_method_3_code_38 : decode method_3_code 38 = .ok (.newarray .char, 2) := by decide +kernel
theorem d_method_3_code_40 : decode method_3_code 40 = .ok (.astore_n 2, 1) := by decide +kernel
theorem d_method_3_code_41 : decode method_3_code 41 = .ok (.aload_n 2, 1) := by decide +kernel
theorem d_method_3_code_42 : decode method_3_code 42 = .ok (.iconst 0, 1) := by decide +kernel
theorem d_method_3_code_43 : decode method_3_code 43 = .ok (.iload_n 1, 1) := by decide +kernel
theorem d_method_3_code_44 : decode method_3_code 44 = .ok (.sipush 255, 3) := by decide +kernel
theorem d_method_3_code_47 : decode method_3_code 47 = .ok (.iand, 1) := by decide +kernel
theorem d_method_3_code_48 : decode method_3_code 48 = .ok (.i2c, 1) := by decide +kernel
theorem d_method_3_code_49 : decode method_3_code 49 = .ok (.castore, 1) := by decide +kernel
theorem d_method_3_code_50 : decode method_3_code 50 = .ok (.aload_n 2, 1) := by decide +kernel
theorem d_method_3_code_51 : decode method_3_code 51 = .ok (.iconst 1, 1) := by decide +kernel
theorem d_method_3_code_52 : decode method_3_code 52 = .ok (.iload_n 1, 1) := by decide +kernel
theorem d_method_3_code_53 : decode method_3_code 53 = .ok (.bipush 8, 2) := by decide +kernel
theorem d_method_3_code_55 : decode method_3_code 55 = .ok (.iushr, 1) := by decide +kernel
theorem d_method_3_code_56 : decode method_3_code 56 = .ok (.sipush 255, 3) := by decide +kernel
theorem d_method_3_code_59 : decode method_3_code 59 = .ok (.iand, 1) := by decide +kernel
theorem d_method_3_code_60 : decode method_3_code 60 = .ok (.i2c, 1) := by decide +kernel
theorem d_method_3_code_61 : decode method_3_code 61 = .ok (.castore, 1) := by decide +kernel
theorem d_method_3_code_62 : decode method_3_code 62 = .ok (.new 31, 3) := by decide +kernel
theorem d_method_3_code_65 : decode method_3_code 65 = .ok (.dup, 1) := by decide +kernel
theorem d_method_3_code_66 : decode method_3_code 66 = .ok (.aload_n 2, 1) := by decide +kernel
theorem d_method_3_code_67 : decode method_3_code 67 = .ok (.invokespecial 33, 3) := by decide +kernel
theorem d_method_3_code_70 : decode method_3_code 70 = .ok (.areturn, 1) := by decide +kernel
theorem d_jdk_43_method_13_code_0 : decode jdk_43_method_13_code 0 = .ok (.aload_n 0, 1) := by decide +kernel
theorem d_jdk_43_method_13_code_1 : decode jdk_43_method_13_code 1 = .ok (.arraylength, 1) := by decide +kernel
theorem d_jdk_43_method_13_code_2 : decode jdk_43_method_13_code 2 = .ok (.aload_n 1, 1) := by decide +kernel
theorem d_jdk_43_method_13_code_3 : decode jdk_43_method_13_code 3 = .ok (.arraylength, 1) := by decide +kernel
theorem d_jdk_43_method_13_code_4 : decode jdk_43_method_13_code 4 = .ok (.if_icmp .ne 30, 3) := by decide +kernel
theorem d_jdk_43_method_13_code_7 : decode jdk_43_method_13_code 7 = .ok (.iconst 0, 1) := by decide +kernel
theorem d_jdk_43_method_13_code_8 : decode jdk_43_method_13_code 8 = .ok (.istore_n 2, 1) := by decide +kernel
theorem d_jdk_43_method_13_code_9 : decode jdk_43_method_13_code 9 = .ok (.iload_n 2, 1) := by decide +kernel
theorem d_jdk_43_method_13_code_10 : decode jdk_43_method_13_code 10 = .ok (.aload_n 0, 1) := by decide +kernel
theorem d_jdk_43_method_13_code_11 : decode jdk_43_method_13_code 11 = .ok (.arraylength, 1) := by decide +kernel
theorem d_jdk_43_method_13_code_12 : decode jdk_43_method_13_code 12 = .ok (.if_icmp .ge 20, 3) := by decide +kernel
theorem d_jdk_43_method_13_code_32 : decode jdk_43_method_13_code 32 = .ok (.iconst 1, 1) := by decide +kernel
theorem d_jdk_43_method_13_code_33 : decode jdk_43_method_13_code 33 = .ok (.ireturn, 1) := by decide +kernel
theorem d_jdk_43_method_13_code_34 : decode jdk_43_method_13_code 34 = .ok (.iconst 0, 1) := by decide +kernel
theorem d_jdk_43_method_13_code_35 : decode jdk_43_method_13_code 35 = .ok (.ireturn, 1) := by decide +kernel
theorem d_jdk_43_method_13_code_15 : decode jdk_43_method_13_code 15 = .ok (.aload_n 0, 1) := by decide +kernel
theorem d_jdk_43_method_13_code_16 : decode jdk_43_method_13_code 16 = .ok (.iload_n 2, 1) := by decide +kernel
theorem d_jdk_43_method_13_code_17 : decode jdk_43_method_13_code 17 = .ok (.baload, 1) := by decide +kernel
theorem d_jdk_43_method_13_code_18 : decode jdk_43_method_13_code 18 = .ok (.aload_n 1, 1) := by decide +kernel
theorem d_jdk_43_method_13_code_19 : decode jdk_43_method_13_code 19 = .ok (.iload_n 2, 1) := by decide +kernel
theorem d_jdk_43_method_13_code_20 : decode jdk_43_method_13_code 20 = .ok (.baload, 1) := by decide +kernel
theorem d_jdk_43_method_13_code_21 : decode jdk_43_method_13_code 21 = .ok (.if_icmp .eq 5, 3) := by decide +kernel
theorem d_jdk_43_method_13_code_26 : decode jdk_43_method_13_code 26 = .ok (.iinc 2 1, 3) := by decide +kernel
theorem d_jdk_43_method_13_code_29 : decode jdk_43_method_13_code 29 = .ok (.goto (-20), 3) := by decide +kernel
theorem d_jdk_43_method_13_code_24 : decode jdk_43_method_13_code 24 = .ok (.iconst 0, 1) := by decide +kernel
theorem d_jdk_43_method_13_code_25 : decode jdk_43_method_13_code 25 = .ok (.ireturn, 1) := by decide +kernel
theorem d_jdk_42_method_66_code_0 : decode jdk_42_method_66_code 0 = .ok (.aload_n 0, 1) := by decide +kernel
theorem d_jdk_42_method_66_code_1 : decode jdk_42_method_66_code 1 = .ok (.aload_n 1, 1) := by decide +kernel
theorem d_jdk_42_method_66_code_2 : decode jdk_42_method_66_code 2 = .ok (.if_acmp .ne 5, 3) := by decide +kernel
theorem d_jdk_42_method_66_code_5 : decode jdk_42_method_66_code 5 = .ok (.iconst 1, 1) := by decide +kernel
theorem d_jdk_42_method_66_code_6 : decode jdk_42_method_66_code 6 = .ok (.ireturn, 1) := by decide +kernel
theorem d_jdk_42_method_66_code_7 : decode jdk_42_method_66_code 7 = .ok (.aload_n 1, 1) := by decide +kernel
theorem d_jdk_42_method_66_code_8 : decode jdk_42_method_66_code 8 = .ok (.instanceof 10, 3) := by decide +kernel
theorem d_jdk_42_method_66_code_11 : decode jdk_42_method_66_code 11 = .ok (.ifCond .eq 43, 3) := by decide +kernel
theorem d_jdk_42_method_66_code_14 : decode jdk_42_method_66_code 14 = .ok (.aload_n 1, 1) := by decide +kernel
theorem d_jdk_42_method_66_code_15 : decode jdk_42_method_66_code 15 = .ok (.checkcast 10, 3) := by decide +kernel
theorem d_jdk_42_method_66_code_18 : decode jdk_42_method_66_code 18 = .ok (.astore_n 2, 1) := by decide +kernel
theorem d_jdk_42_method_66_code_19 : decode jdk_42_method_66_code 19 = .ok (.getstatic 38, 3) := by decide +kernel
theorem d_jdk_42_method_66_code_22 : decode jdk_42_method_66_code 22 = .ok (.ifCond .eq 14, 3) := by decide +kernel
theorem d_jdk_42_method_66_code_25 : decode jdk_42_method_66_code 25 = .ok (.aload_n 0, 1) := by decide +kernel
theorem d_jdk_42_method_66_code_26 : decode jdk_42_method_66_code 26 = .ok (.getfield 15, 3) := by decide +kernel
theorem d_jdk_42_method_66_code_29 : decode jdk_42_method_66_code 29 = .ok (.aload_n 2, 1) := by decide +kernel
theorem d_jdk_42_method_66_code_30 : decode jdk_42_method_66_code 30 = .ok (.getfield 15, 3) := by decide +kernel
theorem d_jdk_42_method_66_code_33 : decode jdk_42_method_66_code 33 = .ok (.if_icmp .ne 21, 3) := by decide +kernel
theorem d_jdk_42_method_66_code_36 : decode jdk_42_method_66_code 36 = .ok (.aload_n 0, 1) := by decide +kernel
theorem d_jdk_42_method_66_code_37 : decode jdk_42_method_66_code 37 = .ok (.getfield 9, 3) := by decide +kernel
theorem d_jdk_42_method_66_code_40 : decode jdk_42_method_66_code 40 = .ok (.aload_n 2, 1) := by decide +kernel
theorem d_jdk_42_method_66_code_41 : decode jdk_42_method_66_code 41 = .ok (.getfield 9, 3) := by decide +kernel
theorem pd___B_B_Z : parseMethodDescriptor "([B[B)Z" = some ⟨[(.array .byte), (.array .byte)], some .boolean⟩ := by decide +kernel
theorem d_jdk_42_method_66_code_44 : decode jdk_42_method_66_code 44 = .ok (.invokestatic 541, 3) := by decide +kernel
theorem d_jdk_42_method_66_code_47 : decode jdk_42_method_66_code 47 = .ok (.ifCond .eq 7, 3) := by decide +kernel
theorem d_jdk_42_method_66_code_54 : decode jdk_42_method_66_code 54 = .ok (.iconst 0, 1) := by decide +kernel
theorem d_jdk_42_method_66_code_55 : decode jdk_42_method_66_code 55 = .ok (.ireturn, 1) := by decide +kernel
theorem d_jdk_42_method_66_code_50 : decode jdk_42_method_66_code 50 = .ok (.iconst 1, 1) := by decide +kernel
theorem d_jdk_42_method_66_code_51 : decode jdk_42_method_66_code 51 = .ok (.goto 4, 3) := by decide +kernel
theorem pn_java_util_Objects : plainName "java/util/Objects" = true := by first | (simp [plainName, overriddenIn]; done) | decide +kernel
theorem d_jdk_31_method_2_code_0 : decode jdk_31_method_2_code 0 = .ok (.aload_n 0, 1) := by decide +kernel
theorem d_jdk_31_method_2_code_1 : decode jdk_31_method_2_code 1 = .ok (.aload_n 1, 1) := by decide +kernel
theorem d_jdk_31_method_2_code_2 : decode jdk_31_method_2_code 2 = .ok (.if_acmp .eq 15, 3) := by decide +kernel
theorem d_jdk_31_method_2_code_17 : decode jdk_31_method_2_code 17 = .ok (.iconst 1, 1) := by decide +kernel
theorem d_jdk_31_method_2_code_18 : decode jdk_31_method_2_code 18 = .ok (.goto 4, 3) := by decide +kernel
theorem d_jdk_31_method_2_code_22 : decode jdk_31_method_2_code 22 = .ok (.ireturn, 1) := by decide +kernel
theorem d_jdk_31_method_2_code_5 : decode jdk_31_method_2_code 5 = .ok (.aload_n 0, 1) := by decide +kernel
theorem d_jdk_31_method_2_code_6 : decode jdk_31_method_2_code 6 = .ok (.ifnull 15, 3) := by decide +kernel
theorem d_jdk_31_method_2_code_21 : decode jdk_31_method_2_code 21 = .ok (.iconst 0, 1) := by decide +kernel
theorem d_jdk_31_method_2_code_9 : decode jdk_31_method_2_code 9 = .ok (.aload_n 0, 1) := by decide +kernel
theorem d_jdk_31_method_2_code_10 : decode jdk_31_method_2_code 10 = .ok (.aload_n 1, 1) := by decide +kernel
theorem pd__Ljava_lang_Object__Z : parseMethodDescriptor "(Ljava/lang/Object;)Z" = some ⟨[(.object "java/lang/Object")], some .boolean⟩ := by decide +kernel
theorem d_jdk_31_method_2_code_11 : decode jdk_31_method_2_code 11 = .ok (.invokevirtual 14, 3) := by decide +kernel
theorem d_jdk_31_method_2_code_14 : decode jdk_31_method_2_code 14 = .ok (.ifCond .eq 7, 3) := by decide +kernel
theorem pn_com_example_verdict_verdict_Action : plainName "com/example/verdict/verdict/Action" = true := by first | (simp [plainName, overriddenIn]; done) | decide +kernel
theorem d_prog_1_method_1_code_0 : decode prog_1_method_1_code 0 = .ok (.aload_n 0, 1) := by decide +kernel
theorem d_prog_1_method_1_code_1 : decode prog_1_method_1_code 1 = .ok (.invokespecial 1, 3) := by decide +kernel
theorem d_prog_1_method_1_code_4 : decode prog_1_method_1_code 4 = .ok (.aload_n 0, 1) := by decide +kernel
theorem d_prog_1_method_1_code_5 : decode prog_1_method_1_code 5 = .ok (.aload_n 1, 1) := by decide +kernel
theorem d_prog_1_method_1_code_6 : decode prog_1_method_1_code 6 = .ok (.putfield 7, 3) := by decide +kernel
theorem d_prog_1_method_1_code_9 : decode prog_1_method_1_code 9 = .ok (.aload_n 0, 1) := by decide +kernel
theorem d_prog_1_method_1_code_10 : decode prog_1_method_1_code 10 = .ok (.aload_n 2, 1) := by decide +kernel
theorem d_prog_1_method_1_code_11 : decode prog_1_method_1_code 11 = .ok (.putfield 13, 3) := by decide +kernel
theorem d_prog_1_method_1_code_14 : decode prog_1_method_1_code 14 = .ok (.return_, 1) := by decide +kernel
theorem d_prog_1_method_5_code_0 : decode prog_1_method_5_code 0 = .ok (.aload_n 1, 1) := by decide +kernel
theorem d_prog_1_method_5_code_1 : decode prog_1_method_5_code 1 = .ok (.instanceof 8, 3) := by decide +kernel
theorem d_prog_1_method_5_code_4 : decode prog_1_method_5_code 4 = .ok (.ifCond .eq 37, 3) := by decide +kernel
theorem d_prog_1_method_5_code_7 : decode prog_1_method_5_code 7 = .ok (.aload_n 1, 1) := by decide +kernel
theorem d_prog_1_method_5_code_8 : decode prog_1_method_5_code 8 = .ok (.checkcast 8, 3) := by decide +kernel
theorem d_prog_1_method_5_code_11 : decode prog_1_method_5_code 11 = .ok (.astore_n 2, 1) := by decide +kernel
theorem d_prog_1_method_5_code_12 : decode prog_1_method_5_code 12 = .ok (.aload_n 0, 1) := by decide +kernel
theorem d_prog_1_method_5_code_13 : decode prog_1_method_5_code 13 = .ok (.getfield 7, 3) := by decide +kernel
theorem d_prog_1_method_5_code_16 : decode prog_1_method_5_code 16 = .ok (.aload_n 2, 1) := by decide +kernel
theorem d_prog_1_method_5_code_17 : decode prog_1_method_5_code 17 = .ok (.getfield 7, 3) := by decide +kernel
theorem d_prog_1_method_5_code_20 : decode prog_1_method_5_code 20 = .ok (.if_acmp .ne 21, 3) := by decide +kernel
theorem d_prog_1_method_5_code_23 : decode prog_1_method_5_code 23 = .ok (.aload_n 0, 1) := by decide +kernel
theorem d_prog_1_method_5_code_24 : decode prog_1_method_5_code 24 = .ok (.getfield 13, 3) := by decide +kernel
theorem d_prog_1_method_5_code_27 : decode prog_1_method_5_code 27 = .ok (.aload_n 2, 1) := by decide +kernel
theorem d_prog_1_method_5_code_28 : decode prog_1_method_5_code 28 = .ok (.getfield 13, 3) := by decide +kernel
theorem pd__Ljava_lang_Object_Ljava_lang_Object__Z : parseMethodDescriptor "(Ljava/lang/Object;Ljava/lang/Object;)Z" = some ⟨[(.object "java/lang/Object"), (.object "java/lang/Object")], some .boolean⟩ := by decide +kernel
theorem d_prog_1_method_5_code_31 : decode prog_1_method_5_code 31 = .ok (.invokestatic 41, 3) := by decide +kernel
theorem d_prog_1_method_5_code_34 : decode prog_1_method_5_code 34 = .ok (.ifCond .eq 7, 3) := by decide +kernel
theorem d_prog_1_method_5_code_41 : decode prog_1_method_5_code 41 = .ok (.iconst 0, 1) := by decide +kernel
theorem d_prog_1_method_5_code_42 : decode prog_1_method_5_code 42 = .ok (.ireturn, 1) := by decide +kernel
theorem d_prog_1_method_5_code_37 : decode prog_1_method_5_code 37 = .ok (.iconst 1, 1) := by decide +kernel
theorem d_prog_1_method_5_code_38 : decode prog_1_method_5_code 38 = .ok (.goto 4, 3) := by decide +kernel
theorem pd__I_Lcom_example_verdict_verdict_Action_Kind_ : parseMethodDescriptor "(I)Lcom/example/verdict/verdict/Action$Kind;" = some ⟨[.int], some (.object "com/example/verdict/verdict/Action$Kind")⟩ := by decide +kernel
theorem pd__II_Ljava_lang_String_ : parseMethodDescriptor "(II)Ljava/lang/String;" = some ⟨[.int, .int], some (.object "java/lang/String")⟩ := by decide +kernel
theorem pd__Lcom_example_verdict_verdict_Action_Kind_Ljava_lang_String__V : parseMethodDescriptor "(Lcom/example/verdict/verdict/Action$Kind;Ljava/lang/String;)V" = some ⟨[(.object "com/example/verdict/verdict/Action$Kind"), (.object "java/lang/String")], none⟩ := by decide +kernel
theorem pd__IIII_Z : parseMethodDescriptor "(IIII)Z" = some ⟨[.int, .int, .int, .int], some .boolean⟩ := by decide +kernel
theorem tw_0 {Z : State} {a0 : Array Value} (hw : ∀ d ∈ tables_1, d.before a0 Z = true) : (Jvm.Cond.constant "com/example/verdict/verdict/ActionEqualsPinLaw" (40 : Nat) (2147483647 : Int32) : Jvm.Cond).before a0 Z = true := hw _ (List.mem_of_getElem? (i := 0) rfl)
theorem tw_1 {Z : State} {a0 : Array Value} (hw : ∀ d ∈ tables_1, d.before a0 Z = true) : (Jvm.Cond.classLink "com/example/verdict/verdict/ActionEqualsPinLaw" (41 : Nat) "com/example/verdict/verdict/Action" : Jvm.Cond).before a0 Z = true := hw _ (List.mem_of_getElem? (i := 1) rfl)
theorem tw_2 {Z : State} {a0 : Array Value} (hw : ∀ d ∈ tables_1, d.before a0 Z = true) : (Jvm.Cond.instantiable "com/example/verdict/verdict/Action" (2 : Nat) : Jvm.Cond).before a0 Z = true := hw _ (List.mem_of_getElem? (i := 2) rfl)
theorem tw_3 {Z : State} {a0 : Array Value} (hw : ∀ d ∈ tables_1, d.before a0 Z = true) : (Jvm.Cond.initialized "com/example/verdict/verdict/Action" : Jvm.Cond).before a0 Z = true := hw _ (List.mem_of_getElem? (i := 3) rfl)
theorem tw_4 {Z : State} {a0 : Array Value} (hw : ∀ d ∈ tables_1, d.before a0 Z = true) : (Jvm.Cond.methodLink "com/example/verdict/verdict/ActionEqualsPinLaw" (43 : Nat) ({ cls := "com/example/verdict/verdict/ActionEqualsPinLaw", name := "kindOf", desc := "(I)Lcom/example/verdict/verdict/Action$Kind;" } : Jvm.MethodName) : Jvm.Cond).before a0 Z = true := hw _ (List.mem_of_getElem? (i := 4) rfl)
theorem tw_5 {Z : State} {a0 : Array Value} (hw : ∀ d ∈ tables_1, d.before a0 Z = true) : (Jvm.Cond.static ({ cls := "com/example/verdict/verdict/ActionEqualsPinLaw", name := "kindOf", desc := "(I)Lcom/example/verdict/verdict/Action$Kind;" } : Jvm.MethodName) : Jvm.Cond).before a0 Z = true := hw _ (List.mem_of_getElem? (i := 5) rfl)
theorem tw_6 {Z : State} {a0 : Array Value} (hw : ∀ d ∈ tables_1, d.before a0 Z = true) : (Jvm.Cond.initialized "com/example/verdict/verdict/ActionEqualsPinLaw" : Jvm.Cond).before a0 Z = true := hw _ (List.mem_of_getElem? (i := 6) rfl)
theorem tw_7 {Z : State} {a0 : Array Value} (hw : ∀ d ∈ tables_1, d.before a0 Z = true) : (Jvm.Cond.code ({ cls := "com/example/verdict/verdict/ActionEqualsPinLaw", name := "kindOf", desc := "(I)Lcom/example/verdict/verdict/Action$Kind;" } : Jvm.MethodName) method_2_code (1 : Nat) (Option.some (Jvm.ClassFile.FieldType.object "com/example/verdict/verdict/Action$Kind")) : Jvm.Cond).before a0 Z = true := hw _ (List.mem_of_getElem? (i := 7) rfl)
theorem tw_8 {Z : State} {a0 : Array Value} (hw : ∀ d ∈ tables_1, d.before a0 Z = true) : (Jvm.Cond.fieldLink "com/example/verdict/verdict/ActionEqualsPinLaw" (7 : Nat) "com/example/verdict/verdict/Action$Kind" "KEEP" "Lcom/example/verdict/verdict/Action$Kind;" : Jvm.Cond).before a0 Z = true := hw _ (List.mem_of_getElem? (i := 8) rfl)
theorem tw_9 {Z : State} {a0 : Array Value} (hw : ∀ d ∈ tables_1, d.before a0 Z = true) : (Jvm.Cond.initialized "com/example/verdict/verdict/Action$Kind" : Jvm.Cond).before a0 Z = true := hw _ (List.mem_of_getElem? (i := 9) rfl)
theorem tw_10 {Z : State} {a0 : Array Value} (hw : ∀ d ∈ tables_1, d.before a0 Z = true) : (Jvm.Cond.laysStatic "com/example/verdict/verdict/Action$Kind" "KEEP" "Lcom/example/verdict/verdict/Action$Kind;" : Jvm.Cond).before a0 Z = true := hw _ (List.mem_of_getElem? (i := 10) rfl)
theorem tw_11 {Z : State} {a0 : Array Value} (hw : ∀ d ∈ tables_1, d.before a0 Z = true) : (Jvm.Cond.methodLink "com/example/verdict/verdict/ActionEqualsPinLaw" (49 : Nat) ({ cls := "com/example/verdict/verdict/ActionEqualsPinLaw", name := "arg", desc := "(II)Ljava/lang/String;" } : Jvm.MethodName) : Jvm.Cond).before a0 Z = true := hw _ (List.mem_of_getElem? (i := 11) rfl)
theorem tw_12 {Z : State} {a0 : Array Value} (hw : ∀ d ∈ tables_1, d.before a0 Z = true) : (Jvm.Cond.static ({ cls := "com/example/verdict/verdict/ActionEqualsPinLaw", name := "arg", desc := "(II)Ljava/lang/String;" } : Jvm.MethodName) : Jvm.Cond).before a0 Z = true := hw _ (List.mem_of_getElem? (i := 12) rfl)
theorem tw_13 {Z : State} {a0 : Array Value} (hw : ∀ d ∈ tables_1, d.before a0 Z = true) : (Jvm.Cond.code ({ cls := "com/example/verdict/verdict/ActionEqualsPinLaw", name := "arg", desc := "(II)Ljava/lang/String;" } : Jvm.MethodName) method_3_code (3 : Nat) (Option.some (Jvm.ClassFile.FieldType.object "java/lang/String")) : Jvm.Cond).before a0 Z = true := hw _ (List.mem_of_getElem? (i := 13) rfl)
theorem tw_14 {Z : State} {a0 : Array Value} (hw : ∀ d ∈ tables_1, d.before a0 Z = true) : (Jvm.Cond.arrayClass Jvm.ClassFile.FieldType.char : Jvm.Cond).before a0 Z = true := hw _ (List.mem_of_getElem? (i := 14) rfl)
theorem tw_15 {Z : State} {a0 : Array Value} (hw : ∀ d ∈ tables_1, d.before a0 Z = true) : (Jvm.Cond.classLink "com/example/verdict/verdict/ActionEqualsPinLaw" (31 : Nat) "java/lang/String" : Jvm.Cond).before a0 Z = true := hw _ (List.mem_of_getElem? (i := 15) rfl)
theorem tw_16 {Z : State} {a0 : Array Value} (hw : ∀ d ∈ tables_1, d.before a0 Z = true) : (Jvm.Cond.instantiable "java/lang/String" (4 : Nat) : Jvm.Cond).before a0 Z = true := hw _ (List.mem_of_getElem? (i := 16) rfl)
theorem tw_17 {Z : State} {a0 : Array Value} (hw : ∀ d ∈ tables_1, d.before a0 Z = true) : (Jvm.Cond.initialized "java/lang/String" : Jvm.Cond).before a0 Z = true := hw _ (List.mem_of_getElem? (i := 17) rfl)
theorem tw_18 {Z : State} {a0 : Array Value} (hw : ∀ d ∈ tables_1, d.before a0 Z = true) : (Jvm.Cond.methodLink "com/example/verdict/verdict/ActionEqualsPinLaw" (33 : Nat) ({ cls := "java/lang/String", name := "<init>", desc := "([C)V" } : Jvm.MethodName) : Jvm.Cond).before a0 Z = true := hw _ (List.mem_of_getElem? (i := 18) rfl)
theorem tw_19 {Z : State} {a0 : Array Value} (hw : ∀ d ∈ tables_1, d.before a0 Z = true) : (Jvm.Cond.instanceMethod ({ cls := "java/lang/String", name := "<init>", desc := "([C)V" } : Jvm.MethodName) : Jvm.Cond).before a0 Z = true := hw _ (List.mem_of_getElem? (i := 19) rfl)
theorem tw_20 {Z : State} {a0 : Array Value} (hw : ∀ d ∈ tables_1, d.before a0 Z = true) : (Jvm.Cond.code ({ cls := "java/lang/String", name := "<init>", desc := "([C)V" } : Jvm.MethodName) jdk_42_method_3_code (2 : Nat) (Option.none : Option Jvm.ClassFile.FieldType) : Jvm.Cond).before a0 Z = true := hw _ (List.mem_of_getElem? (i := 20) rfl)
theorem tw_21 {Z : State} {a0 : Array Value} (hw : ∀ d ∈ tables_1, d.before a0 Z = true) : (Jvm.Cond.methodLink "java/lang/String" (27 : Nat) ({ cls := "java/lang/String", name := "<init>", desc := "([CIILjava/lang/Void;)V" } : Jvm.MethodName) : Jvm.Cond).before a0 Z = true := hw _ (List.mem_of_getElem? (i := 21) rfl)
theorem tw_22 {Z : State} {a0 : Array Value} (hw : ∀ d ∈ tables_1, d.before a0 Z = true) : (Jvm.Cond.instanceMethod ({ cls := "java/lang/String", name := "<init>", desc := "([CIILjava/lang/Void;)V" } : Jvm.MethodName) : Jvm.Cond).before a0 Z = true := hw _ (List.mem_of_getElem? (i := 22) rfl)
theorem tw_24 {Z : State} {a0 : Array Value} (hw : ∀ d ∈ tables_1, d.before a0 Z = true) : (Jvm.Cond.code ({ cls := "java/lang/String", name := "<init>", desc := "([CIILjava/lang/Void;)V" } : Jvm.MethodName) jdk_42_method_149_code (6 : Nat) (Option.none : Option Jvm.ClassFile.FieldType) : Jvm.Cond).before a0 Z = true := hw _ (List.mem_of_getElem? (i := 24) rfl)
theorem tw_25 {Z : State} {a0 : Array Value} (hw : ∀ d ∈ tables_1, d.before a0 Z = true) : (Jvm.Cond.methodLink "java/lang/String" (1 : Nat) ({ cls := "java/lang/Object", name := "<init>", desc := "()V" } : Jvm.MethodName) : Jvm.Cond).before a0 Z = true := hw _ (List.mem_of_getElem? (i := 25) rfl)
theorem tw_26 {Z : State} {a0 : Array Value} (hw : ∀ d ∈ tables_1, d.before a0 Z = true) : (Jvm.Cond.instanceMethod ({ cls := "java/lang/Object", name := "<init>", desc := "()V" } : Jvm.MethodName) : Jvm.Cond).before a0 Z = true := hw _ (List.mem_of_getElem? (i := 26) rfl)
theorem tw_27 {Z : State} {a0 : Array Value} (hw : ∀ d ∈ tables_1, d.before a0 Z = true) : (Jvm.Cond.code ({ cls := "java/lang/Object", name := "<init>", desc := "()V" } : Jvm.MethodName) object_method_1_code (1 : Nat) (Option.none : Option Jvm.ClassFile.FieldType) : Jvm.Cond).before a0 Z = true := hw _ (List.mem_of_getElem? (i := 27) rfl)
theorem tw_28 {Z : State} {a0 : Array Value} (hw : ∀ d ∈ tables_1, d.before a0 Z = true) : (Jvm.Cond.fieldLink "java/lang/String" (38 : Nat) "java/lang/String" "COMPACT_STRINGS" "Z" : Jvm.Cond).before a0 Z = true := hw _ (List.mem_of_getElem? (i := 28) rfl)
theorem tw_29 {Z : State} {a0 : Array Value} (hw : ∀ d ∈ tables_1, d.before a0 Z = true) : (Jvm.Cond.methodLink "java/lang/String" (177 : Nat) ({ cls := "java/lang/StringUTF16", name := "compress", desc := "([CII)[B" } : Jvm.MethodName) : Jvm.Cond).before a0 Z = true := hw _ (List.mem_of_getElem? (i := 29) rfl)
theorem tw_30 {Z : State} {a0 : Array Value} (hw : ∀ d ∈ tables_1, d.before a0 Z = true) : (Jvm.Cond.static ({ cls := "java/lang/StringUTF16", name := "compress", desc := "([CII)[B" } : Jvm.MethodName) : Jvm.Cond).before a0 Z = true := hw _ (List.mem_of_getElem? (i := 30) rfl)
theorem tw_31 {Z : State} {a0 : Array Value} (hw : ∀ d ∈ tables_1, d.before a0 Z = true) : (Jvm.Cond.initialized "java/lang/StringUTF16" : Jvm.Cond).before a0 Z = true := hw _ (List.mem_of_getElem? (i := 31) rfl)
theorem tw_32 {Z : State} {a0 : Array Value} (hw : ∀ d ∈ tables_1, d.before a0 Z = true) : (Jvm.Cond.code ({ cls := "java/lang/StringUTF16", name := "compress", desc := "([CII)[B" } : Jvm.MethodName) jdk_52_method_16_code (6 : Nat) (Option.some (Jvm.ClassFile.FieldType.array Jvm.ClassFile.FieldType.byte)) : Jvm.Cond).before a0 Z = true := hw _ (List.mem_of_getElem? (i := 32) rfl)
theorem tw_33 {Z : State} {a0 : Array Value} (hw : ∀ d ∈ tables_1, d.before a0 Z = true) : (Jvm.Cond.arrayClass Jvm.ClassFile.FieldType.byte : Jvm.Cond).before a0 Z = true := hw _ (List.mem_of_getElem? (i := 33) rfl)
theorem tw_34 {Z : State} {a0 : Array Value} (hw : ∀ d ∈ tables_1, d.before a0 Z = true) : (Jvm.Cond.methodLink "java/lang/StringUTF16" (115 : Nat) ({ cls := "java/lang/StringUTF16", name := "compress", desc := "([CI[BII)I" } : Jvm.MethodName) : Jvm.Cond).before a0 Z = true := hw _ (List.mem_of_getElem? (i := 34) rfl)
theorem tw_35 {Z : State} {a0 : Array Value} (hw : ∀ d ∈ tables_1, d.before a0 Z = true) : (Jvm.Cond.static ({ cls := "java/lang/StringUTF16", name := "compress", desc := "([CI[BII)I" } : Jvm.MethodName) : Jvm.Cond).before a0 Z = true := hw _ (List.mem_of_getElem? (i := 35) rfl)
theorem tw_36 {Z : State} {a0 : Array Value} (hw : ∀ d ∈ tables_1, d.before a0 Z = true) : (Jvm.Cond.code ({ cls := "java/lang/StringUTF16", name := "compress", desc := "([CI[BII)I" } : Jvm.MethodName) jdk_52_method_21_code (7 : Nat) (Option.some Jvm.ClassFile.FieldType.int) : Jvm.Cond).before a0 Z = true := hw _ (List.mem_of_getElem? (i := 36) rfl)
theorem tw_37 {Z : State} {a0 : Array Value} (hw : ∀ d ∈ tables_1, d.before a0 Z = true) : (Jvm.Cond.methodLink "java/lang/String" (47 : Nat) ({ cls := "java/lang/StringUTF16", name := "coderFromArrayLen", desc := "([BI)B" } : Jvm.MethodName) : Jvm.Cond).before a0 Z = true := hw _ (List.mem_of_getElem? (i := 37) rfl)
theorem tw_38 {Z : State} {a0 : Array Value} (hw : ∀ d ∈ tables_1, d.before a0 Z = true) : (Jvm.Cond.static ({ cls := "java/lang/StringUTF16", name := "coderFromArrayLen", desc := "([BI)B" } : Jvm.MethodName) : Jvm.Cond).before a0 Z = true := hw _ (List.mem_of_getElem? (i := 38) rfl)
theorem tw_39 {Z : State} {a0 : Array Value} (hw : ∀ d ∈ tables_1, d.before a0 Z = true) : (Jvm.Cond.code ({ cls := "java/lang/StringUTF16", name := "coderFromArrayLen", desc := "([BI)B" } : Jvm.MethodName) jdk_52_method_15_code (2 : Nat) (Option.some Jvm.ClassFile.FieldType.byte) : Jvm.Cond).before a0 Z = true := hw _ (List.mem_of_getElem? (i := 39) rfl)
theorem tw_40 {Z : State} {a0 : Array Value} (hw : ∀ d ∈ tables_1, d.before a0 Z = true) : (Jvm.Cond.fieldLink "java/lang/String" (15 : Nat) "java/lang/String" "coder" "B" : Jvm.Cond).before a0 Z = true := hw _ (List.mem_of_getElem? (i := 40) rfl)
theorem tw_41 {Z : State} {a0 : Array Value} (hw : ∀ d ∈ tables_1, d.before a0 Z = true) : (Jvm.Cond.laysFinal "java/lang/String" "java/lang/String" "coder" "B" : Jvm.Cond).before a0 Z = true := hw _ (List.mem_of_getElem? (i := 41) rfl)
theorem tw_42 {Z : State} {a0 : Array Value} (hw : ∀ d ∈ tables_1, d.before a0 Z = true) : (Jvm.Cond.fieldLink "java/lang/String" (9 : Nat) "java/lang/String" "value" "[B" : Jvm.Cond).before a0 Z = true := hw _ (List.mem_of_getElem? (i := 42) rfl)
theorem tw_43 {Z : State} {a0 : Array Value} (hw : ∀ d ∈ tables_1, d.before a0 Z = true) : (Jvm.Cond.laysFinal "java/lang/String" "java/lang/String" "value" "[B" : Jvm.Cond).before a0 Z = true := hw _ (List.mem_of_getElem? (i := 43) rfl)
theorem tw_44 {Z : State} {a0 : Array Value} (hw : ∀ d ∈ tables_1, d.before a0 Z = true) : (Jvm.Cond.methodLink "com/example/verdict/verdict/ActionEqualsPinLaw" (53 : Nat) ({ cls := "com/example/verdict/verdict/Action", name := "<init>", desc := "(Lcom/example/verdict/verdict/Action$Kind;Ljava/lang/String;)V" } : Jvm.MethodName) : Jvm.Cond).before a0 Z = true := hw _ (List.mem_of_getElem? (i := 44) rfl)
theorem tw_45 {Z : State} {a0 : Array Value} (hw : ∀ d ∈ tables_1, d.before a0 Z = true) : (Jvm.Cond.instanceMethod ({ cls := "com/example/verdict/verdict/Action", name := "<init>", desc := "(Lcom/example/verdict/verdict/Action$Kind;Ljava/lang/String;)V" } : Jvm.MethodName) : Jvm.Cond).before a0 Z = true := hw _ (List.mem_of_getElem? (i := 45) rfl)
theorem tw_46 {Z : State} {a0 : Array Value} (hw : ∀ d ∈ tables_1, d.before a0 Z = true) : (Jvm.Cond.code ({ cls := "com/example/verdict/verdict/Action", name := "<init>", desc := "(Lcom/example/verdict/verdict/Action$Kind;Ljava/lang/String;)V" } : Jvm.MethodName) prog_1_method_1_code (3 : Nat) (Option.none : Option Jvm.ClassFile.FieldType) : Jvm.Cond).before a0 Z = true := hw _ (List.mem_of_getElem? (i := 46) rfl)
theorem tw_47 {Z : State} {a0 : Array Value} (hw : ∀ d ∈ tables_1, d.before a0 Z = true) : (Jvm.Cond.methodLink "com/example/verdict/verdict/Action" (1 : Nat) ({ cls := "java/lang/Object", name := "<init>", desc := "()V" } : Jvm.MethodName) : Jvm.Cond).before a0 Z = true := hw _ (List.mem_of_getElem? (i := 47) rfl)
theorem tw_48 {Z : State} {a0 : Array Value} (hw : ∀ d ∈ tables_1, d.before a0 Z = true) : (Jvm.Cond.fieldLink "com/example/verdict/verdict/Action" (7 : Nat) "com/example/verdict/verdict/Action" "kind" "Lcom/example/verdict/verdict/Action$Kind;" : Jvm.Cond).before a0 Z = true := hw _ (List.mem_of_getElem? (i := 48) rfl)
theorem tw_49 {Z : State} {a0 : Array Value} (hw : ∀ d ∈ tables_1, d.before a0 Z = true) : (Jvm.Cond.laysFinal "com/example/verdict/verdict/Action" "com/example/verdict/verdict/Action" "kind" "Lcom/example/verdict/verdict/Action$Kind;" : Jvm.Cond).before a0 Z = true := hw _ (List.mem_of_getElem? (i := 49) rfl)
theorem tw_50 {Z : State} {a0 : Array Value} (hw : ∀ d ∈ tables_1, d.before a0 Z = true) : (Jvm.Cond.fieldLink "com/example/verdict/verdict/Action" (13 : Nat) "com/example/verdict/verdict/Action" "argument" "Ljava/lang/String;" : Jvm.Cond).before a0 Z = true := hw _ (List.mem_of_getElem? (i := 50) rfl)
theorem tw_51 {Z : State} {a0 : Array Value} (hw : ∀ d ∈ tables_1, d.before a0 Z = true) : (Jvm.Cond.laysFinal "com/example/verdict/verdict/Action" "com/example/verdict/verdict/Action" "argument" "Ljava/lang/String;" : Jvm.Cond).before a0 Z = true := hw _ (List.mem_of_getElem? (i := 51) rfl)
theorem tw_52 {Z : State} {a0 : Array Value} (hw : ∀ d ∈ tables_1, d.before a0 Z = true) : (Jvm.Cond.fieldLink "com/example/verdict/verdict/ActionEqualsPinLaw" (13 : Nat) "com/example/verdict/verdict/Action$Kind" "DISCARD" "Lcom/example/verdict/verdict/Action$Kind;" : Jvm.Cond).before a0 Z = true := hw _ (List.mem_of_getElem? (i := 52) rfl)
theorem tw_53 {Z : State} {a0 : Array Value} (hw : ∀ d ∈ tables_1, d.before a0 Z = true) : (Jvm.Cond.laysStatic "com/example/verdict/verdict/Action$Kind" "DISCARD" "Lcom/example/verdict/verdict/Action$Kind;" : Jvm.Cond).before a0 Z = true := hw _ (List.mem_of_getElem? (i := 53) rfl)
theorem tw_54 {Z : State} {a0 : Array Value} (hw : ∀ d ∈ tables_1, d.before a0 Z = true) : (Jvm.Cond.methodLink "com/example/verdict/verdict/ActionEqualsPinLaw" (56 : Nat) ({ cls := "com/example/verdict/verdict/Action", name := "equals", desc := "(Ljava/lang/Object;)Z" } : Jvm.MethodName) : Jvm.Cond).before a0 Z = true := hw _ (List.mem_of_getElem? (i := 54) rfl)
theorem tw_55 {Z : State} {a0 : Array Value} (hw : ∀ d ∈ tables_1, d.before a0 Z = true) : (Jvm.Cond.declares ({ cls := "com/example/verdict/verdict/Action", name := "equals", desc := "(Ljava/lang/Object;)Z" } : Jvm.MethodName) : Jvm.Cond).before a0 Z = true := hw _ (List.mem_of_getElem? (i := 55) rfl)
theorem tw_56 {Z : State} {a0 : Array Value} (hw : ∀ d ∈ tables_1, d.before a0 Z = true) : (Jvm.Cond.instanceMethod ({ cls := "com/example/verdict/verdict/Action", name := "equals", desc := "(Ljava/lang/Object;)Z" } : Jvm.MethodName) : Jvm.Cond).before a0 Z = true := hw _ (List.mem_of_getElem? (i := 56) rfl)
theorem tw_57 {Z : State} {a0 : Array Value} (hw : ∀ d ∈ tables_1, d.before a0 Z = true) : (Jvm.Cond.selects "com/example/verdict/verdict/Action" ({ cls := "com/example/verdict/verdict/Action", name := "equals", desc := "(Ljava/lang/Object;)Z" } : Jvm.MethodName) ({ cls := "com/example/verdict/verdict/Action", name := "equals", desc := "(Ljava/lang/Object;)Z" } : Jvm.MethodName) : Jvm.Cond).before a0 Z = true := hw _ (List.mem_of_getElem? (i := 57) rfl)
theorem tw_58 {Z : State} {a0 : Array Value} (hw : ∀ d ∈ tables_1, d.before a0 Z = true) : (Jvm.Cond.code ({ cls := "com/example/verdict/verdict/Action", name := "equals", desc := "(Ljava/lang/Object;)Z" } : Jvm.MethodName) prog_1_method_5_code (3 : Nat) (Option.some Jvm.ClassFile.FieldType.boolean) : Jvm.Cond).before a0 Z = true := hw _ (List.mem_of_getElem? (i := 58) rfl)
theorem tw_59 {Z : State} {a0 : Array Value} (hw : ∀ d ∈ tables_1, d.before a0 Z = true) : (Jvm.Cond.classLink "com/example/verdict/verdict/Action" (8 : Nat) "com/example/verdict/verdict/Action" : Jvm.Cond).before a0 Z = true := hw _ (List.mem_of_getElem? (i := 59) rfl)
theorem tw_61 {Z : State} {a0 : Array Value} (hw : ∀ d ∈ tables_1, d.before a0 Z = true) : (Jvm.Cond.fieldLink "com/example/verdict/verdict/ActionEqualsPinLaw" (22 : Nat) "com/example/verdict/verdict/Action$Kind" "CHALLENGE" "Lcom/example/verdict/verdict/Action$Kind;" : Jvm.Cond).before a0 Z = true := hw _ (List.mem_of_getElem? (i := 61) rfl)
theorem tw_62 {Z : State} {a0 : Array Value} (hw : ∀ d ∈ tables_1, d.before a0 Z = true) : (Jvm.Cond.laysStatic "com/example/verdict/verdict/Action$Kind" "CHALLENGE" "Lcom/example/verdict/verdict/Action$Kind;" : Jvm.Cond).before a0 Z = true := hw _ (List.mem_of_getElem? (i := 62) rfl)
theorem tw_63 {Z : State} {a0 : Array Value} (hw : ∀ d ∈ tables_1, d.before a0 Z = true) : (Jvm.Cond.methodLink "com/example/verdict/verdict/ActionEqualsPinLaw" (36 : Nat) ({ cls := "java/lang/String", name := "valueOf", desc := "(C)Ljava/lang/String;" } : Jvm.MethodName) : Jvm.Cond).before a0 Z = true := hw _ (List.mem_of_getElem? (i := 63) rfl)
theorem tw_64 {Z : State} {a0 : Array Value} (hw : ∀ d ∈ tables_1, d.before a0 Z = true) : (Jvm.Cond.static ({ cls := "java/lang/String", name := "valueOf", desc := "(C)Ljava/lang/String;" } : Jvm.MethodName) : Jvm.Cond).before a0 Z = true := hw _ (List.mem_of_getElem? (i := 64) rfl)
theorem tw_65 {Z : State} {a0 : Array Value} (hw : ∀ d ∈ tables_1, d.before a0 Z = true) : (Jvm.Cond.code ({ cls := "java/lang/String", name := "valueOf", desc := "(C)Ljava/lang/String;" } : Jvm.MethodName) jdk_42_method_139_code (1 : Nat) (Option.some (Jvm.ClassFile.FieldType.object "java/lang/String")) : Jvm.Cond).before a0 Z = true := hw _ (List.mem_of_getElem? (i := 65) rfl)
theorem tw_66 {Z : State} {a0 : Array Value} (hw : ∀ d ∈ tables_1, d.before a0 Z = true) : (Jvm.Cond.methodLink "java/lang/String" (1015 : Nat) ({ cls := "java/lang/StringLatin1", name := "canEncode", desc := "(C)Z" } : Jvm.MethodName) : Jvm.Cond).before a0 Z = true := hw _ (List.mem_of_getElem? (i := 66) rfl)
theorem tw_67 {Z : State} {a0 : Array Value} (hw : ∀ d ∈ tables_1, d.before a0 Z = true) : (Jvm.Cond.static ({ cls := "java/lang/StringLatin1", name := "canEncode", desc := "(C)Z" } : Jvm.MethodName) : Jvm.Cond).before a0 Z = true := hw _ (List.mem_of_getElem? (i := 67) rfl)
theorem tw_68 {Z : State} {a0 : Array Value} (hw : ∀ d ∈ tables_1, d.before a0 Z = true) : (Jvm.Cond.initialized "java/lang/StringLatin1" : Jvm.Cond).before a0 Z = true := hw _ (List.mem_of_getElem? (i := 68) rfl)
theorem tw_69 {Z : State} {a0 : Array Value} (hw : ∀ d ∈ tables_1, d.before a0 Z = true) : (Jvm.Cond.code ({ cls := "java/lang/StringLatin1", name := "canEncode", desc := "(C)Z" } : Jvm.MethodName) jdk_43_method_3_code (1 : Nat) (Option.some Jvm.ClassFile.FieldType.boolean) : Jvm.Cond).before a0 Z = true := hw _ (List.mem_of_getElem? (i := 69) rfl)
theorem tw_70 {Z : State} {a0 : Array Value} (hw : ∀ d ∈ tables_1, d.before a0 Z = true) : (Jvm.Cond.classLink "java/lang/String" (10 : Nat) "java/lang/String" : Jvm.Cond).before a0 Z = true := hw _ (List.mem_of_getElem? (i := 70) rfl)
theorem tw_71 {Z : State} {a0 : Array Value} (hw : ∀ d ∈ tables_1, d.before a0 Z = true) : (Jvm.Cond.methodLink "java/lang/String" (1018 : Nat) ({ cls := "java/lang/StringLatin1", name := "toBytes", desc := "(C)[B" } : Jvm.MethodName) : Jvm.Cond).before a0 Z = true := hw _ (List.mem_of_getElem? (i := 71) rfl)
theorem tw_72 {Z : State} {a0 : Array Value} (hw : ∀ d ∈ tables_1, d.before a0 Z = true) : (Jvm.Cond.static ({ cls := "java/lang/StringLatin1", name := "toBytes", desc := "(C)[B" } : Jvm.MethodName) : Jvm.Cond).before a0 Z = true := hw _ (List.mem_of_getElem? (i := 72) rfl)
theorem tw_73 {Z : State} {a0 : Array Value} (hw : ∀ d ∈ tables_1, d.before a0 Z = true) : (Jvm.Cond.code ({ cls := "java/lang/StringLatin1", name := "toBytes", desc := "(C)[B" } : Jvm.MethodName) jdk_43_method_46_code (1 : Nat) (Option.some (Jvm.ClassFile.FieldType.array Jvm.ClassFile.FieldType.byte)) : Jvm.Cond).before a0 Z = true := hw _ (List.mem_of_getElem? (i := 73) rfl)
theorem tw_74 {Z : State} {a0 : Array Value} (hw : ∀ d ∈ tables_1, d.before a0 Z = true) : (Jvm.Cond.methodLink "java/lang/String" (209 : Nat) ({ cls := "java/lang/String", name := "<init>", desc := "([BB)V" } : Jvm.MethodName) : Jvm.Cond).before a0 Z = true := hw _ (List.mem_of_getElem? (i := 74) rfl)
theorem tw_75 {Z : State} {a0 : Array Value} (hw : ∀ d ∈ tables_1, d.before a0 Z = true) : (Jvm.Cond.instanceMethod ({ cls := "java/lang/String", name := "<init>", desc := "([BB)V" } : Jvm.MethodName) : Jvm.Cond).before a0 Z = true := hw _ (List.mem_of_getElem? (i := 75) rfl)
theorem tw_76 {Z : State} {a0 : Array Value} (hw : ∀ d ∈ tables_1, d.before a0 Z = true) : (Jvm.Cond.code ({ cls := "java/lang/String", name := "<init>", desc := "([BB)V" } : Jvm.MethodName) jdk_42_method_151_code (3 : Nat) (Option.none : Option Jvm.ClassFile.FieldType) : Jvm.Cond).before a0 Z = true := hw _ (List.mem_of_getElem? (i := 76) rfl)
theorem tw_77 {Z : State} {a0 : Array Value} (hw : ∀ d ∈ tables_1, d.before a0 Z = true) : (Jvm.Cond.superclass "java/lang/String" "java/lang/Object" : Jvm.Cond).before a0 Z = true := hw _ (List.mem_of_getElem? (i := 77) rfl)
theorem tw_78 {Z : State} {a0 : Array Value} (hw : ∀ d ∈ tables_1, d.before a0 Z = true) : (Jvm.Cond.noSuperclass "java/lang/Object" : Jvm.Cond).before a0 Z = true := hw _ (List.mem_of_getElem? (i := 78) rfl)
theorem tw_79 {Z : State} {a0 : Array Value} (hw : ∀ d ∈ tables_1, d.before a0 Z = true) : (Jvm.Cond.fieldLink "com/example/verdict/verdict/ActionEqualsPinLaw" (16 : Nat) "com/example/verdict/verdict/Action$Kind" "BOUNCE" "Lcom/example/verdict/verdict/Action$Kind;" : Jvm.Cond).before a0 Z = true := hw _ (List.mem_of_getElem? (i := 79) rfl)
theorem tw_80 {Z : State} {a0 : Array Value} (hw : ∀ d ∈ tables_1, d.before a0 Z = true) : (Jvm.Cond.laysStatic "com/example/verdict/verdict/Action$Kind" "BOUNCE" "Lcom/example/verdict/verdict/Action$Kind;" : Jvm.Cond).before a0 Z = true := hw _ (List.mem_of_getElem? (i := 80) rfl)
theorem tw_81 {Z : State} {a0 : Array Value} (hw : ∀ d ∈ tables_1, d.before a0 Z = true) : (Jvm.Cond.fieldLink "com/example/verdict/verdict/ActionEqualsPinLaw" (19 : Nat) "com/example/verdict/verdict/Action$Kind" "REDIRECT" "Lcom/example/verdict/verdict/Action$Kind;" : Jvm.Cond).before a0 Z = true := hw _ (List.mem_of_getElem? (i := 81) rfl)
theorem tw_82 {Z : State} {a0 : Array Value} (hw : ∀ d ∈ tables_1, d.before a0 Z = true) : (Jvm.Cond.laysStatic "com/example/verdict/verdict/Action$Kind" "REDIRECT" "Lcom/example/verdict/verdict/Action$Kind;" : Jvm.Cond).before a0 Z = true := hw _ (List.mem_of_getElem? (i := 82) rfl)
theorem tw_83 {Z : State} {a0 : Array Value} (hw : ∀ d ∈ tables_1, d.before a0 Z = true) : (Jvm.Cond.fieldLink "com/example/verdict/verdict/ActionEqualsPinLaw" (28 : Nat) "com/example/verdict/verdict/Action$Kind" "INOCULATE" "Lcom/example/verdict/verdict/Action$Kind;" : Jvm.Cond).before a0 Z = true := hw _ (List.mem_of_getElem? (i := 83) rfl)
theorem tw_84 {Z : State} {a0 : Array Value} (hw : ∀ d ∈ tables_1, d.before a0 Z = true) : (Jvm.Cond.laysStatic "com/example/verdict/verdict/Action$Kind" "INOCULATE" "Lcom/example/verdict/verdict/Action$Kind;" : Jvm.Cond).before a0 Z = true := hw _ (List.mem_of_getElem? (i := 84) rfl)
theorem tw_85 {Z : State} {a0 : Array Value} (hw : ∀ d ∈ tables_1, d.before a0 Z = true) : (Jvm.Cond.methodLink "com/example/verdict/verdict/Action" (41 : Nat) ({ cls := "java/util/Objects", name := "equals", desc := "(Ljava/lang/Object;Ljava/lang/Object;)Z" } : Jvm.MethodName) : Jvm.Cond).before a0 Z = true := hw _ (List.mem_of_getElem? (i := 85) rfl)
theorem tw_86 {Z : State} {a0 : Array Value} (hw : ∀ d ∈ tables_1, d.before a0 Z = true) : (Jvm.Cond.static ({ cls := "java/util/Objects", name := "equals", desc := "(Ljava/lang/Object;Ljava/lang/Object;)Z" } : Jvm.MethodName) : Jvm.Cond).before a0 Z = true := hw _ (List.mem_of_getElem? (i := 86) rfl)
theorem tw_87 {Z : State} {a0 : Array Value} (hw : ∀ d ∈ tables_1, d.before a0 Z = true) : (Jvm.Cond.initialized "java/util/Objects" : Jvm.Cond).before a0 Z = true := hw _ (List.mem_of_getElem? (i := 87) rfl)
theorem tw_88 {Z : State} {a0 : Array Value} (hw : ∀ d ∈ tables_1, d.before a0 Z = true) : (Jvm.Cond.code ({ cls := "java/util/Objects", name := "equals", desc := "(Ljava/lang/Object;Ljava/lang/Object;)Z" } : Jvm.MethodName) jdk_31_method_2_code (2 : Nat) (Option.some Jvm.ClassFile.FieldType.boolean) : Jvm.Cond).before a0 Z = true := hw _ (List.mem_of_getElem? (i := 88) rfl)
theorem tw_89 {Z : State} {a0 : Array Value} (hw : ∀ d ∈ tables_1, d.before a0 Z = true) : (Jvm.Cond.fieldLink "com/example/verdict/verdict/ActionEqualsPinLaw" (25 : Nat) "com/example/verdict/verdict/Action$Kind" "LEARN_KEY" "Lcom/example/verdict/verdict/Action$Kind;" : Jvm.Cond).before a0 Z = true := hw _ (List.mem_of_getElem? (i := 89) rfl)
theorem tw_90 {Z : State} {a0 : Array Value} (hw : ∀ d ∈ tables_1, d.before a0 Z = true) : (Jvm.Cond.laysStatic "com/example/verdict/verdict/Action$Kind" "LEARN_KEY" "Lcom/example/verdict/verdict/Action$Kind;" : Jvm.Cond).before a0 Z = true := hw _ (List.mem_of_getElem? (i := 90) rfl)
theorem tw_91 {Z : State} {a0 : Array Value} (hw : ∀ d ∈ tables_1, d.before a0 Z = true) : (Jvm.Cond.stringLink "java/lang/String" (7 : Nat) "" : Jvm.Cond).before a0 Z = true := hw _ (List.mem_of_getElem? (i := 91) rfl)
theorem tw_92 {Z : State} {a0 : Array Value} (hw : ∀ d ∈ tables_1, d.before a0 Z = true) : (Jvm.Cond.soleField "java/lang/String" "value" : Jvm.Cond).before a0 Z = true := hw _ (List.mem_of_getElem? (i := 92) rfl)
theorem tw_93 {Z : State} {a0 : Array Value} (hw : ∀ d ∈ tables_1, d.before a0 Z = true) : (Jvm.Cond.soleField "java/lang/String" "coder" : Jvm.Cond).before a0 Z = true := hw _ (List.mem_of_getElem? (i := 93) rfl)
theorem tw_94 {Z : State} {a0 : Array Value} (hw : ∀ d ∈ tables_1, d.before a0 Z = true) : (Jvm.Cond.methodLink "java/util/Objects" (14 : Nat) ({ cls := "java/lang/Object", name := "equals", desc := "(Ljava/lang/Object;)Z" } : Jvm.MethodName) : Jvm.Cond).before a0 Z = true := hw _ (List.mem_of_getElem? (i := 94) rfl)
theorem tw_95 {Z : State} {a0 : Array Value} (hw : ∀ d ∈ tables_1, d.before a0 Z = true) : (Jvm.Cond.declares ({ cls := "java/lang/Object", name := "equals", desc := "(Ljava/lang/Object;)Z" } : Jvm.MethodName) : Jvm.Cond).before a0 Z = true := hw _ (List.mem_of_getElem? (i := 95) rfl)
theorem tw_97 {Z : State} {a0 : Array Value} (hw : ∀ d ∈ tables_1, d.before a0 Z = true) : (Jvm.Cond.selects "java/lang/String" ({ cls := "java/lang/Object", name := "equals", desc := "(Ljava/lang/Object;)Z" } : Jvm.MethodName) ({ cls := "java/lang/String", name := "equals", desc := "(Ljava/lang/Object;)Z" } : Jvm.MethodName) : Jvm.Cond).before a0 Z = true := hw _ (List.mem_of_getElem? (i := 97) rfl)
theorem tw_98 {Z : State} {a0 : Array Value} (hw : ∀ d ∈ tables_1, d.before a0 Z = true) : (Jvm.Cond.instanceMethod ({ cls := "java/lang/String", name := "equals", desc := "(Ljava/lang/Object;)Z" } : Jvm.MethodName) : Jvm.Cond).before a0 Z = true := hw _ (List.mem_of_getElem? (i := 98) rfl)
theorem tw_99 {Z : State} {a0 : Array Value} (hw : ∀ d ∈ tables_1, d.before a0 Z = true) : (Jvm.Cond.code ({ cls := "java/lang/String", name := "equals", desc := "(Ljava/lang/Object;)Z" } : Jvm.MethodName) jdk_42_method_66_code (3 : Nat) (Option.some Jvm.ClassFile.FieldType.boolean) : Jvm.Cond).before a0 Z = true := hw _ (List.mem_of_getElem? (i := 99) rfl)
theorem tw_100 {Z : State} {a0 : Array Value} (hw : ∀ d ∈ tables_1, d.before a0 Z = true) : (Jvm.Cond.methodLink "java/lang/String" (541 : Nat) ({ cls := "java/lang/StringLatin1", name := "equals", desc := "([B[B)Z" } : Jvm.MethodName) : Jvm.Cond).before a0 Z = true := hw _ (List.mem_of_getElem? (i := 100) rfl)
theorem tw_101 {Z : State} {a0 : Array Value} (hw : ∀ d ∈ tables_1, d.before a0 Z = true) : (Jvm.Cond.static ({ cls := "java/lang/StringLatin1", name := "equals", desc := "([B[B)Z" } : Jvm.MethodName) : Jvm.Cond).before a0 Z = true := hw _ (List.mem_of_getElem? (i := 101) rfl)
theorem tw_102 {Z : State} {a0 : Array Value} (hw : ∀ d ∈ tables_1, d.before a0 Z = true) : (Jvm.Cond.code ({ cls := "java/lang/StringLatin1", name := "equals", desc := "([B[B)Z" } : Jvm.MethodName) jdk_43_method_13_code (3 : Nat) (Option.some Jvm.ClassFile.FieldType.boolean) : Jvm.Cond).before a0 Z = true := hw _ (List.mem_of_getElem? (i := 102) rfl)
theorem tw_103 {Z : State} {a0 : Array Value} (hw : ∀ d ∈ tables_1, d.before a0 Z = true) : (Jvm.Cond.methodLink "com/example/verdict/verdict/ActionEqualsPinLaw" (60 : Nat) ({ cls := "com/example/verdict/verdict/ActionEqualsPinLaw", name := "sameArg", desc := "(IIII)Z" } : Jvm.MethodName) : Jvm.Cond).before a0 Z = true := hw _ (List.mem_of_getElem? (i := 103) rfl)
theorem tw_104 {Z : State} {a0 : Array Value} (hw : ∀ d ∈ tables_1, d.before a0 Z = true) : (Jvm.Cond.static ({ cls := "com/example/verdict/verdict/ActionEqualsPinLaw", name := "sameArg", desc := "(IIII)Z" } : Jvm.MethodName) : Jvm.Cond).before a0 Z = true := hw _ (List.mem_of_getElem? (i := 104) rfl)
theorem tw_105 {Z : State} {a0 : Array Value} (hw : ∀ d ∈ tables_1, d.before a0 Z = true) : (Jvm.Cond.code ({ cls := "com/example/verdict/verdict/ActionEqualsPinLaw", name := "sameArg", desc := "(IIII)Z" } : Jvm.MethodName) method_4_code (4 : Nat) (Option.some Jvm.ClassFile.FieldType.boolean) : Jvm.Cond).before a0 Z = true := hw _ (List.mem_of_getElem? (i := 105) rfl)
def own_EL : List (String × Nat) := [("java/lang/String", 7)]
def own_kind (i : Int32) (ea eb ec ed ee ef eg : Addr) : Addr := if i = (0 : Int32) then ea else if i = (1 : Int32) then eb else if i = (2 : Int32) then ec else if i = (3 : Int32) then ed else if i = (4 : Int32) then ee else if i = (5 : Int32) then ef else eg
def own_ord (i : Int32) : Int32 := if i = (0 : Int32) then 0 else if i = (1 : Int32) then 1 else if i = (2 : Int32) then 2 else if i = (3 : Int32) then 3 else if i = (4 : Int32) then 4 else if i = (5 : Int32) then 5 else 6
def own_argV (m c : Int32) : Option (List Int32) := if m = (0 : Int32) then none else if m = (1 : Int32) then some [] else if m = (2 : Int32) then some [((c &&& (255 : Int32)).toInt8.toInt32)] else some [((c &&& (255 : Int32)).toInt8.toInt32), ((((c.toUInt32 >>> ((8 : Int32) &&& 31).toUInt32).toInt32) &&& (255 : Int32)).toInt8.toInt32)]
def own_same (m1 c1 m2 c2 : Int32) : Int32 := if m1 = m2 then (if (1 : Int32) < m1 then (if (c1 &&& (255 : Int32)) = (c2 &&& (255 : Int32)) then (if m1 = (2 : Int32) then 1 else if (((c1.toUInt32 >>> ((8 : Int32) &&& 31).toUInt32).toInt32) &&& (255 : Int32)) = (((c2.toUInt32 >>> ((8 : Int32) &&& 31).toUInt32).toInt32) &&& (255 : Int32)) then 1 else 0) else 0) else 1) else 0
theorem own_bb {x : Int32} : (x.toInt8.toInt32).toInt8.toInt32 = x.toInt8.toInt32 := by simp
/-! ### Strings with known bytes -/
theorem own_narR {v : Value} {C : String} (h : v.isRef = true) : narrow (.object C) v = v := by cases v <;> first | rfl | (cases h)
theorem own_fitR {v : Value} {C : String} (h : v.isRef = true) : fits (.object C) v = true := by cases v <;> first | rfl | (cases h)
theorem own_chr (x : Int32) (h : ¬ x < 0) (h2 : ¬ (255 : Int32) < x) : nar .char x = x := by
  have e := c_i2c x
  show x.toUInt32.toUInt16.toUInt32.toInt32 = x
  rw [Int32.lt_iff_toInt_lt] at h h2
  have z0 : (0 : Int32).toInt = 0 := rfl
  have z1 : (255 : Int32).toInt = 255 := rfl
  apply Int32.toInt_inj.mp
  omega
theorem own_chf (x : Int32) (h : ¬ x < 0) (h2 : ¬ (255 : Int32) < x) : fits .char (.int x) = true := by
  have e := fits_nar_char x
  rw [own_chr x h h2] at e; exact e
theorem own_m255 (c : Int32) : ¬ (c &&& (255 : Int32)) < 0 ∧ ¬ (255 : Int32) < (c &&& (255 : Int32)) := by
  have h := c_mask c 255 8 (by decide) (by decide)
  rw [Int32.lt_iff_toInt_lt, Int32.lt_iff_toInt_lt]
  have z0 : (0 : Int32).toInt = 0 := rfl
  have z1 : (255 : Int32).toInt = 255 := rfl
  omega
theorem own_cod {z : Int32} : ((((z - z) : Int32).toUInt32 >>> ((31 : Int32) &&& 31).toUInt32).toInt32).toInt8.toInt32 = 0 := by
  rw [Int32.sub_self]; decide
def StrV (Z : State) (h : Heap) (a : Addr) (bs : List Int32) : Prop := ∃ (d : Addr) (k : ClassId), Exa Z h a "java/lang/String" ∧ Fld Z h a "java/lang/String" "coder" "B" (.int (0 : Int32)) ∧ Fld Z h a "java/lang/String" "value" "[B" (.ref d) ∧ Arv Z h d k .byte (Int32.ofNat bs.length) (bs.map Value.int) (.int (0 : Int32))
theorem StrV.lt {Z : State} {h : Heap} {a : Addr} {bs : List Int32} (S : StrV Z h a bs) : a < h.size := by obtain ⟨_, _, E, _⟩ := S; exact E.lt
theorem StrV.ext {Z : State} {h h' : Heap} {a : Addr} {bs : List Int32} (S : StrV Z h a bs) (X : Ext h h') : StrV Z h' a bs := by
  obtain ⟨d, k, E, C, V, A⟩ := S; exact ⟨d, k, Exa.ext X E, Fld.ext X C, Fld.ext X V, Arv.ext A X⟩
theorem StrV.keep {Z : State} {h h' : Heap} {a : Addr} {bs : List Int32} {ws : List Addr} (S : StrV Z h a bs) (K : Keep h h' ws) (hd : ∀ (d : Addr) (k : ClassId) (z : Int32) (vs : List Value) (dv : Value), Arv Z h d k .byte z vs dv → d ∉ ws) (ha : ∀ b, Exa Z h b "java/lang/String" → b ∉ ws) : StrV Z h' a bs := by
  obtain ⟨d, k, E, C, V, A⟩ := S
  exact ⟨d, k, Exa.keep E K, Fld.keep C K (ha a E), Fld.keep V K (ha a E), Arv.keep A K (hd _ _ _ _ _ A)⟩
theorem StrV.keep0 {Z : State} {h h' : Heap} {a : Addr} {bs : List Int32} (S : StrV Z h a bs) (K : Keep h h' []) : StrV Z h' a bs := S.keep K (fun _ _ _ _ _ _ => nin0) (fun _ _ => nin0)
theorem StrV.keep1 {Z : State} {h h' : Heap} {a x : Addr} {bs : List Int32} {a0 : Array Value} {C : String} {kI : Nat} (S : StrV Z h a bs) (K : Keep h h' [x]) (E : Exa Z h x C) (wi : (Cond.instantiable C kI).before a0 Z = true) (hC : C ≠ "java/lang/String") : StrV Z h' a bs :=
  S.keep K (fun d _ _ _ _ A => ninS (fun q => by obtain ⟨c, Ar, -⟩ := A; exact ne_arr E wi Ar q.symm) nin0) (fun b F => ninS (fun q => ne_exa E F hC q.symm) nin0)
/-- null, or a String -/
def StrO (Z : State) (h : Heap) (r : Value) (o : Option (List Int32)) : Prop := (r = .null ∧ o = none) ∨ ∃ a bs, r = .ref a ∧ o = some bs ∧ StrV Z h a bs
theorem StrO.isRef {Z : State} {h : Heap} {r : Value} {o : Option (List Int32)} (S : StrO Z h r o) : r.isRef = true := by rcases S with ⟨rfl, -⟩ | ⟨a, bs, rfl, -⟩ <;> rfl
theorem StrO.ext {Z : State} {h h' : Heap} {r : Value} {o : Option (List Int32)} (S : StrO Z h r o) (X : Ext h h') : StrO Z h' r o := S.imp id fun ⟨a, bs, e1, e2, T⟩ => ⟨a, bs, e1, e2, T.ext X⟩
theorem StrO.keep0 {Z : State} {h h' : Heap} {r : Value} {o : Option (List Int32)} (S : StrO Z h r o) (K : Keep h h' []) : StrO Z h' r o := S.imp id fun ⟨a, bs, e1, e2, T⟩ => ⟨a, bs, e1, e2, T.keep0 K⟩
theorem StrO.keep1 {Z : State} {h h' : Heap} {r : Value} {o : Option (List Int32)} {x : Addr} {a0 : Array Value} {C : String} {kI : Nat} (S : StrO Z h r o) (K : Keep h h' [x]) (E : Exa Z h x C) (wi : (Cond.instantiable C kI).before a0 Z = true) (hC : C ≠ "java/lang/String") : StrO Z h' r o := S.imp id fun ⟨a, bs, e1, e2, T⟩ => ⟨a, bs, e1, e2, T.keep1 K E wi hC⟩
theorem own_if1 {p : Prop} [Decidable p] (h : ¬ (if p then (1 : Int32) else 0) = 0) : (if p then (1 : Int32) else 0) = 1 := by
  by_cases q : p
  · rw [if_pos q]
  · rw [if_neg q] at h; exact absurd rfl h
theorem own_len2 {bs : List Int32} (h : bs.length ≤ 2) : bs = [] ∨ (∃ x, bs = [x]) ∨ ∃ x y, bs = [x, y] := by
  match bs, h with
  | [], _ => exact Or.inl rfl
  | [x], _ => exact Or.inr (Or.inl ⟨x, rfl⟩)
  | [x, y], _ => exact Or.inr (Or.inr ⟨x, y, rfl⟩)
  | _ :: _ :: _ :: _, h => exact absurd h (by simp)
theorem own_wS {Z : State} {a0 : Array Value} (hw : ∀ d ∈ tables_1, d.before a0 Z = true) : ∀ a ∈ Bundle.stringAtoms, a.before a0 Z = true := by
  intro d hd
  simp only [Bundle.stringAtoms, List.mem_cons, List.not_mem_nil, or_false] at hd
  rcases hd with rfl | rfl | rfl | rfl | rfl | rfl | rfl
  · exact (tw_17 hw)
  · exact (tw_16 hw)
  · exact (tw_33 hw)
  · exact (tw_43 hw)
  · exact (tw_41 hw)
  · exact (tw_92 hw)
  · exact (tw_93 hw)
theorem own_hEL {Z : State} {a0 : Array Value} (hw : ∀ d ∈ tables_1, d.before a0 Z = true) : EW Z a0 own_EL := EW.cons (tw_91 hw) (by decide) EW.nil
theorem own_noact {Z : State} {a0 : Array Value} (hw : ∀ d ∈ tables_1, d.before a0 Z = true) : ∃ c t, Z.vm.findClass "java/lang/String" = some c ∧ Z.vm.findClass "com/example/verdict/verdict/Action" = some t ∧ Z.vm.assignable c t = false := by
  obtain ⟨t, kt, t1, t2, t3, t4, -⟩ := Cond.instantiable_spec (tw_2 hw)
  obtain ⟨o, ko, o1, o2, o3, -, -⟩ := Cond.noSuperclass_spec (tw_78 hw)
  obtain ⟨c, c0⟩ := found_sup (tw_77 hw)
  obtain ⟨q, k, kq, h1, h2, h3, h4, h5, -, h7⟩ := Cond.superclass_spec c0 (tw_77 hw)
  cases o1.symm.trans h1
  have n1 : c ≠ t := ids_ne c0 t1 (by decide)
  have n2 : o ≠ t := ids_ne o1 t1 (by decide)
  have t5 : kt.isInterface = false := (Bool.or_eq_false_iff.mp t4).1
  have hs : ∀ f, Z.vm.isSubclassAux f c t = false := fun f => by
    cases f with
    | zero => rfl
    | succ f =>
      cases f with
      | zero => simp [Vm.isSubclassAux, n1, h2, h4]
      | succ f => simp [Vm.isSubclassAux, n1, n2, h2, h4, o2, o3]
  refine ⟨c, t, c0, t1, ?_⟩
  show Z.vm.assignableAux (255 + 1) c t = false
  simp [Vm.assignableAux, n1, h2, t2, h5, t3, t5, Vm.isSubclass, hs]
theorem own_some (b0 b1 : List Int32) : (if (some b0) = (some b1) then (1 : Int32) else 0) = (if b0 = b1 then (1 : Int32) else 0) := by
  by_cases q : b0 = b1
  · rw [if_pos q, if_pos (congrArg some q)]
  · rw [if_neg q, if_neg (fun r => q (Option.some.inj r))]
theorem own_andif {k0 k1 : Addr} {p : Prop} [Decidable p] (h : k0 = k1) : (if k0 = k1 ∧ p then (1 : Int32) else 0) = (if p then (1 : Int32) else 0) := by
  by_cases q : p
  · rw [if_pos q, if_pos ⟨h, q⟩]
  · rw [if_neg q, if_neg (fun r => q r.2)]
theorem own_ne0 {x : Int32} (h : x = 1) : ¬ x = (0 : Int32) := fun q => by rw [h] at q; exact absurd q (by decide)
theorem own_argl (m c : Int32) : ∀ b, own_argV m c = some b → b.length ≤ 2 := by
  intro b h
  unfold own_argV at h
  split at h
  · cases h
  · split at h
    · cases h; simp
    · split at h <;> (cases h; simp)
theorem own_str3 {Z : State} {h : Heap} {r : Value} {c : Int32} (T : StrO Z h r (own_argV (3 : Int32) c)) : ∃ a bs, r = .ref a ∧ own_argV (3 : Int32) c = some bs ∧ StrV Z h a bs := by
  rcases T with ⟨-, q⟩ | T
  · unfold own_argV at q
    rw [if_neg (by decide), if_neg (by decide), if_neg (by decide)] at q
    cases q
  · exact T
theorem own_apart {Z : State} {h h' : Heap} {r r' : Value} {o o' : Option (List Int32)} (T : StrO Z h r o) (T' : StrO Z h' r' o') (fr : ∀ a, r' = .ref a → h.size ≤ a) : r = r' → o = o' := by
  intro e
  subst e
  rcases T with ⟨rfl, rfl⟩ | ⟨a, bs, rfl, rfl, S⟩
  · rcases T' with ⟨-, rfl⟩ | ⟨a, bs, q, -⟩
    · rfl
    · cases q
  · exact absurd (fr a rfl) (Nat.not_le.mpr S.lt)
theorem own_i7 (p : Int32) : 0 ≤ ((p &&& (2147483647 : Int32)) % (7 : Int32)).toInt ∧ ((p &&& (2147483647 : Int32)) % (7 : Int32)).toInt < 7 := by
  have h := c_mask p 2147483647 31 (by decide) (by decide)
  have h2 := (c_irem (p &&& (2147483647 : Int32)) 7 7 (by decide)).1 (by omega)
  omega
theorem own_lit {i : Int32} {k : Int} (z : Int32) (hz : z.toInt = k) : i = z ↔ i.toInt = k := by rw [← hz]; exact Int32.toInt_inj.symm
theorem own_ordi {i : Int32} (h0 : 0 ≤ i.toInt) (h1 : i.toInt < 7) : own_ord i = i := by
  unfold own_ord
  by_cases e0 : i = (0 : Int32)
  · rw [if_pos e0, e0]
  by_cases e1 : i = (1 : Int32)
  · rw [if_neg e0, if_pos e1, e1]
  by_cases e2 : i = (2 : Int32)
  · rw [if_neg e0, if_neg e1, if_pos e2, e2]
  by_cases e3 : i = (3 : Int32)
  · rw [if_neg e0, if_neg e1, if_neg e2, if_pos e3, e3]
  by_cases e4 : i = (4 : Int32)
  · rw [if_neg e0, if_neg e1, if_neg e2, if_neg e3, if_pos e4, e4]
  by_cases e5 : i = (5 : Int32)
  · rw [if_neg e0, if_neg e1, if_neg e2, if_neg e3, if_neg e4, if_pos e5, e5]
  rw [if_neg e0, if_neg e1, if_neg e2, if_neg e3, if_neg e4, if_neg e5]
  apply Int32.toInt_inj.mp
  rw [own_lit (k := 0) 0 (by decide)] at e0
  rw [own_lit (k := 1) 1 (by decide)] at e1
  rw [own_lit (k := 2) 2 (by decide)] at e2
  rw [own_lit (k := 3) 3 (by decide)] at e3
  rw [own_lit (k := 4) 4 (by decide)] at e4
  rw [own_lit (k := 5) 5 (by decide)] at e5
  have z : (6 : Int32).toInt = 6 := rfl
  omega
theorem own_kfld {Z : State} {h : Heap} {C n d : String} {ea eb ec ed ee ef eg : Addr} (i : Int32) (F0 : Fld Z h ea C n d (.int (0 : Int32))) (F1 : Fld Z h eb C n d (.int (1 : Int32))) (F2 : Fld Z h ec C n d (.int (2 : Int32))) (F3 : Fld Z h ed C n d (.int (3 : Int32))) (F4 : Fld Z h ee C n d (.int (4 : Int32))) (F5 : Fld Z h ef C n d (.int (5 : Int32))) (F6 : Fld Z h eg C n d (.int (6 : Int32))) : Fld Z h (own_kind i ea eb ec ed ee ef eg) C n d (.int (own_ord i)) := by
  unfold own_kind own_ord
  by_cases e0 : i = (0 : Int32)
  · rw [if_pos e0, if_pos e0]; exact F0
  rw [if_neg e0, if_neg e0]
  by_cases e1 : i = (1 : Int32)
  · rw [if_pos e1, if_pos e1]; exact F1
  rw [if_neg e1, if_neg e1]
  by_cases e2 : i = (2 : Int32)
  · rw [if_pos e2, if_pos e2]; exact F2
  rw [if_neg e2, if_neg e2]
  by_cases e3 : i = (3 : Int32)
  · rw [if_pos e3, if_pos e3]; exact F3
  rw [if_neg e3, if_neg e3]
  by_cases e4 : i = (4 : Int32)
  · rw [if_pos e4, if_pos e4]; exact F4
  rw [if_neg e4, if_neg e4]
  by_cases e5 : i = (5 : Int32)
  · rw [if_pos e5, if_pos e5]; exact F5
  rw [if_neg e5, if_neg e5]; exact F6
theorem own_kinj {Z : State} {h : Heap} {C n d : String} {ea eb ec ed ee ef eg : Addr} (p q : Int32) (F0 : Fld Z h ea C n d (.int (0 : Int32))) (F1 : Fld Z h eb C n d (.int (1 : Int32))) (F2 : Fld Z h ec C n d (.int (2 : Int32))) (F3 : Fld Z h ed C n d (.int (3 : Int32))) (F4 : Fld Z h ee C n d (.int (4 : Int32))) (F5 : Fld Z h ef C n d (.int (5 : Int32))) (F6 : Fld Z h eg C n d (.int (6 : Int32))) (e : own_kind ((p &&& (2147483647 : Int32)) % (7 : Int32)) ea eb ec ed ee ef eg = own_kind ((q &&& (2147483647 : Int32)) % (7 : Int32)) ea eb ec ed ee ef eg) : ((p &&& (2147483647 : Int32)) % (7 : Int32)) = ((q &&& (2147483647 : Int32)) % (7 : Int32)) := by
  have A := own_kfld ((p &&& (2147483647 : Int32)) % (7 : Int32)) F0 F1 F2 F3 F4 F5 F6
  have B := own_kfld ((q &&& (2147483647 : Int32)) % (7 : Int32)) F0 F1 F2 F3 F4 F5 F6
  rw [own_ordi (own_i7 p).1 (own_i7 p).2] at A
  rw [own_ordi (own_i7 q).1 (own_i7 q).2] at B
  by_cases k : ((p &&& (2147483647 : Int32)) % (7 : Int32)) = ((q &&& (2147483647 : Int32)) % (7 : Int32))
  · exact k
  · exact absurd e (A.ne B (fun r => k (Value.int.inj r)))
theorem own_binj {x y : Int32} (h0 : ¬ x < 0) (h1 : ¬ (255 : Int32) < x) (g0 : ¬ y < 0) (g1 : ¬ (255 : Int32) < y) (e : x.toInt8.toInt32 = y.toInt8.toInt32) : x = y := by
  have a := c_i2b x
  have b := c_i2b y
  rw [e] at a
  rw [Int32.lt_iff_toInt_lt] at h0 h1 g0 g1
  have z0 : (0 : Int32).toInt = 0 := rfl
  have z1 : (255 : Int32).toInt = 255 := rfl
  apply Int32.toInt_inj.mp
  omega
theorem own_m3 (p : Int32) : (p &&& (3 : Int32)) = 0 ∨ (p &&& (3 : Int32)) = 1 ∨ (p &&& (3 : Int32)) = 2 ∨ (p &&& (3 : Int32)) = 3 := by
  have h := c_mask p 3 2 (by decide) (by decide)
  rw [own_lit (k := 0) 0 (by decide), own_lit (k := 1) 1 (by decide), own_lit (k := 2) 2 (by decide), own_lit (k := 3) 3 (by decide)]
  omega
theorem own_sam0 (m1 c1 m2 c2 : Int32) (h1 : m1 = 0 ∨ m1 = 1 ∨ m1 = 2 ∨ m1 = 3) (h2 : m2 = 0 ∨ m2 = 1 ∨ m2 = 2 ∨ m2 = 3) : ¬ own_same m1 c1 m2 c2 = (0 : Int32) ↔ own_argV m1 c1 = own_argV m2 c2 := by
  have i1 : ∀ {u v : Int32}, ((u &&& (255 : Int32)).toInt8.toInt32 = (v &&& (255 : Int32)).toInt8.toInt32) ↔ (u &&& (255 : Int32)) = (v &&& (255 : Int32)) := fun {u v} => ⟨own_binj (own_m255 u).1 (own_m255 u).2 (own_m255 v).1 (own_m255 v).2, fun e => by rw [e]⟩
  have hA := i1 (u := c1) (v := c2)
  have hB := i1 (u := (c1.toUInt32 >>> ((8 : Int32) &&& 31).toUInt32).toInt32) (v := (c2.toUInt32 >>> ((8 : Int32) &&& 31).toUInt32).toInt32)
  unfold own_same own_argV
  generalize ((c1.toUInt32 >>> ((8 : Int32) &&& 31).toUInt32).toInt32 &&& (255 : Int32)).toInt8.toInt32 = z1 at hB ⊢
  generalize ((c2.toUInt32 >>> ((8 : Int32) &&& 31).toUInt32).toInt32 &&& (255 : Int32)).toInt8.toInt32 = z2 at hB ⊢
  generalize ((c1.toUInt32 >>> ((8 : Int32) &&& 31).toUInt32).toInt32 &&& (255 : Int32)) = w1 at hB ⊢
  generalize ((c2.toUInt32 >>> ((8 : Int32) &&& 31).toUInt32).toInt32 &&& (255 : Int32)) = w2 at hB ⊢
  generalize (c1 &&& (255 : Int32)).toInt8.toInt32 = y1 at hA ⊢
  generalize (c2 &&& (255 : Int32)).toInt8.toInt32 = y2 at hA ⊢
  generalize (c1 &&& (255 : Int32)) = x1 at hA ⊢
  generalize (c2 &&& (255 : Int32)) = x2 at hA ⊢
  rcases h1 with rfl | rfl | rfl | rfl <;> rcases h2 with rfl | rfl | rfl | rfl <;> simp [hA, hB]
theorem own_sam (p1 p2 p4 p5 : Int32) : ¬ own_same (p1 &&& (3 : Int32)) p2 (p4 &&& (3 : Int32)) p5 = (0 : Int32) ↔ own_argV (p1 &&& (3 : Int32)) p2 = own_argV (p4 &&& (3 : Int32)) p5 := own_sam0 _ _ _ _ (own_m3 p1) (own_m3 p4)
def Q_kindOf (Z : State) (i : Int32) (ea : Addr) (eb : Addr) (ec : Addr) (ed : Addr) (ee : Addr) (ef : Addr) (eg : Addr) (h0 : Heap) (n0 : Nat) (v : Option Value) (h : Heap) (L : List Loc) : Prop := v = some (.ref (own_kind i ea eb ec ed ee ef eg)) ∧ Fr n0 L ∧ h = h0
theorem ef_kindOf (m : MethodId) (i : Int32) (ea : Addr) (eb : Addr) (ec : Addr) (ed : Addr) (ee : Addr) (ef : Addr) (eg : Addr) : entryFrame m #[(.int i)] 1 = mkF m 0 #[.val (.int i)] [] := by first | (simp [entryFrame, mkF, argsToLocals, Value.category]; done) | rfl
set_option maxRecDepth 65536 in
set_option maxHeartbeats 40000000 in
theorem rm_kindOf (l : Launch) (Z : State) (a0 : Array Value) (hw : ∀ d ∈ tables_1, d.before a0 Z = true) (ws : List Jvm.Cond) (i : Int32) (ea : Addr) (eb : Addr) (ec : Addr) (ed : Addr) (ee : Addr) (ef : Addr) (eg : Addr) (h0 : Heap) (n0 : Nat) (Z0 : n0 ≤ h0.size) (O0 : Old Z n0 h0) (Sea : Sta Z Z.heap "com/example/verdict/verdict/Action$Kind" "KEEP" "Lcom/example/verdict/verdict/Action$Kind;" (.ref ea)) (Seb : Sta Z Z.heap "com/example/verdict/verdict/Action$Kind" "DISCARD" "Lcom/example/verdict/verdict/Action$Kind;" (.ref eb)) (Sec : Sta Z Z.heap "com/example/verdict/verdict/Action$Kind" "BOUNCE" "Lcom/example/verdict/verdict/Action$Kind;" (.ref ec)) (Sed : Sta Z Z.heap "com/example/verdict/verdict/Action$Kind" "REDIRECT" "Lcom/example/verdict/verdict/Action$Kind;" (.ref ed)) (See : Sta Z Z.heap "com/example/verdict/verdict/Action$Kind" "CHALLENGE" "Lcom/example/verdict/verdict/Action$Kind;" (.ref ee)) (Sef : Sta Z Z.heap "com/example/verdict/verdict/Action$Kind" "LEARN_KEY" "Lcom/example/verdict/verdict/Action$Kind;" (.ref ef)) (Seg : Sta Z Z.heap "com/example/verdict/verdict/Action$Kind" "INOCULATE" "Lcom/example/verdict/verdict/Action$Kind;" (.ref eg)) :
    MetFree l (⟨"com/example/verdict/verdict/ActionEqualsPinLaw", "kindOf", "(I)Lcom/example/verdict/verdict/Action$Kind;"⟩ : MethodName) (head1 (Jvm.Cond.code (⟨"com/example/verdict/verdict/ActionEqualsPinLaw", "kindOf", "(I)Lcom/example/verdict/verdict/Action$Kind;"⟩ : MethodName) method_2_code 1 (some (.object "com/example/verdict/verdict/Action$Kind")) :: ws) ({ frames := 0, cells := 0, slots := 0, locals := 0 } : Room)) (fun a U => a = #[(.int i)] ∧ Z.Warmed39 U.vm ∧ U.heap = h0) (fun _ _ _ _ _ => True) (fun _ U o U' => ∃ v L, o = .returned v ∧ Q_kindOf Z i ea eb ec ed ee ef eg h0 n0 v U'.heap L ∧ FrameEnd U o U' L ({ frames := 0, cells := 0, slots := 0, locals := 0 } : Room).cells ({ frames := 0, cells := 0, slots := 0, locals := 0 } : Room).slots) := by
  refine MetFree.of_bodySF (plainFor_of_name pn_com_example_verdict_verdict_ActionEqualsPinLaw) hisR ?_
  intro p e s m args below meth c s₁ Bd hml0 hP hK
  obtain ⟨rfl, hZ, hh⟩ := hP
  have hx := Bd.exec
  have hby := Bd.bytes
  have hml : c.maxLocals = 1 := hml0
  have hown : s.vm.findClass "com/example/verdict/verdict/ActionEqualsPinLaw" = some m.cls := findClass_of_methodNamed Bd.named
  have hnm := (name_of_methodNamed Bd.named Bd.method).1
  have X0 : Stand p l e ({ frames := 0, cells := 0, slots := 0, locals := 0 } : Room) s m #[(.int i)] below meth c s₁ [] 0 0 := Stand.of_body Bd
  have e0 : s₁.heap = h0 := by rw [← hh, Bd.state]; rfl
  have N0 := Fr.nil n0
  have hlk : meth.locks = false := Bd.notSynchronized
  obtain ⟨P, hP⟩ : ∃ P : Outcome → State → Prop, P = PQ s (Q_kindOf Z i ea eb ec ed ee ef eg h0 n0) ({ frames := 0, cells := 0, slots := 0, locals := 0 } : Room).cells ({ frames := 0, cells := 0, slots := 0, locals := 0 } : Room).slots := ⟨_, rfl⟩
  have fin : ∀ {T : State} {locs : List Loc} {k n : Nat} {v : Option Value} {S0 : State}, Stand p l e ({ frames := 0, cells := 0, slots := 0, locals := 0 } : Room) s m #[(.int i)] below meth c T locs k n → (meth.sig.returnType = none → v = none) → k ≤ ({ frames := 0, cells := 0, slots := 0, locals := 0 } : Room).cells → n ≤ ({ frames := 0, cells := 0, slots := 0, locals := 0 } : Room).slots → Q_kindOf Z i ea eb ec ed ee ef eg h0 n0 v T.heap locs → (∀ fs, (∀ (f : JFrame) (acts : List Action), f.method = m → f.locked = none → f.entered = [] → (doReturn e (T.setTop f) acts v).1 = T.setFrames fs) → Steps p.tables e below S0 (T.setFrames fs)) → Go p e below P S0 := fun X hv hk hn hQ hst => hP ▸ Go.fin X hlk hv hk hn hQ hst
  suffices hgo : Go p e below P (s₁.setTop (mkF m 0 #[.val (.int i)] [])) by
    rw [hP] at hgo
    exact Go.by (fun t k => castTop (ef_kindOf m i ea eb ec ed ee ef eg) k) hgo
  show Go p e below P (s₁.setTop (mkF m 0 #[.val (.int i)] []))
  refine Go.by (fun _ => XS.iloadN X0.here hx rfl (hb hby d_method_2_code_0) rfl) ?_
  show Go p e below P (s₁.setTop (mkF m 1 #[.val (.int i)] [(.int i)]))
  by_cases hc1_11 : i = (0 : Int32)
  · refine Go.by (fun _ => XS.ifNo X0.here hx rfl (hb hby d_method_2_code_1) rfl (XT.i0_ne_f hc1_11)) ?_
    show Go p e below P (s₁.setTop (mkF m 4 #[.val (.int i)] []))
    obtain ⟨T12, X12, e12, st12⟩ := getS2 X0 hx hZ hown (host := "") (Or.inl (tw_8 hw)) Via.refl e0 (Sea.ext O0.2) (g := (mkF m 4 #[.val (.int i)] [])) rfl (hb hby d_method_2_code_4)
    refine Go.by st12 ?_
    show Go p e below P (T12.setTop (mkF m 7 #[.val (.int i)] [(.ref ea)]))
    refine fin X12 (v := some (.ref ea)) (fun h => by rw [Bd.returns] at h; cases h) (by decide) (by decide) ?_ (fun fs hr => retOut X12 hx Bd.returns rfl (Or.inr (Or.inr (Or.inr (Or.inr ⟨rfl, rfl, rfl⟩)))) (hb hby d_method_2_code_7) hr)
    rw [e12]
    exact ⟨by unfold own_kind; rw [if_pos hc1_11], N0, rfl⟩
  · refine Go.by (fun _ => XS.ifYes X0.here hx rfl (pc0 := 1) (pc' := 8) rfl (hb hby d_method_2_code_1) rfl (XT.i0_ne_t hc1_11) (by decide) (by decide)) ?_
    show Go p e below P (s₁.setTop (mkF m 8 #[.val (.int i)] []))
    refine Go.by (fun _ => XS.iloadN X0.here hx rfl (hb hby d_method_2_code_8) rfl) ?_
    show Go p e below P (s₁.setTop (mkF m 9 #[.val (.int i)] [(.int i)]))
    refine Go.by (fun _ => XS.iconst X0.here hx rfl (hb hby d_method_2_code_9)) ?_
    show Go p e below P (s₁.setTop (mkF m 10 #[.val (.int i)] [(.int (1 : Int32)), (.int i)]))
    by_cases hc10_13 : i = (1 : Int32)
    · refine Go.by (fun _ => XS.icmpNo X0.here hx rfl (hb hby d_method_2_code_10) rfl (XT.ii_ne_f hc10_13)) ?_
      show Go p e below P (s₁.setTop (mkF m 13 #[.val (.int i)] []))
      obtain ⟨T14, X14, e14, st14⟩ := getS2 X0 hx hZ hown (host := "") (Or.inl (tw_52 hw)) Via.refl e0 (Seb.ext O0.2) (g := (mkF m 13 #[.val (.int i)] [])) rfl (hb hby d_method_2_code_13)
      refine Go.by st14 ?_
      show Go p e below P (T14.setTop (mkF m 16 #[.val (.int i)] [(.ref eb)]))
      refine fin X14 (v := some (.ref eb)) (fun h => by rw [Bd.returns] at h; cases h) (by decide) (by decide) ?_ (fun fs hr => retOut X14 hx Bd.returns rfl (Or.inr (Or.inr (Or.inr (Or.inr ⟨rfl, rfl, rfl⟩)))) (hb hby d_method_2_code_16) hr)
      rw [e14]
      exact ⟨by unfold own_kind; rw [if_neg hc1_11, if_pos hc10_13], N0, rfl⟩
    · refine Go.by (fun _ => XS.icmpYes X0.here hx rfl (pc0 := 10) (pc' := 17) rfl (hb hby d_method_2_code_10) rfl (XT.ii_ne_t hc10_13) (by decide) (by decide)) ?_
      show Go p e below P (s₁.setTop (mkF m 17 #[.val (.int i)] []))
      refine Go.by (fun _ => XS.iloadN X0.here hx rfl (hb hby d_method_2_code_17) rfl) ?_
      show Go p e below P (s₁.setTop (mkF m 18 #[.val (.int i)] [(.int i)]))
      refine Go.by (fun _ => XS.iconst X0.here hx rfl (hb hby d_method_2_code_18)) ?_
      show Go p e below P (s₁.setTop (mkF m 19 #[.val (.int i)] [(.int (2 : Int32)), (.int i)]))
      by_cases hc19_15 : i = (2 : Int32)
      · refine Go.by (fun _ => XS.icmpNo X0.here hx rfl (hb hby d_method_2_code_19) rfl (XT.ii_ne_f hc19_15)) ?_
        show Go p e below P (s₁.setTop (mkF m 22 #[.val (.int i)] []))
        obtain ⟨T16, X16, e16, st16⟩ := getS2 X0 hx hZ hown (host := "") (Or.inl (tw_79 hw)) Via.refl e0 (Sec.ext O0.2) (g := (mkF m 22 #[.val (.int i)] [])) rfl (hb hby d_method_2_code_22)
        refine Go.by st16 ?_
        show Go p e below P (T16.setTop (mkF m 25 #[.val (.int i)] [(.ref ec)]))
        refine fin X16 (v := some (.ref ec)) (fun h => by rw [Bd.returns] at h; cases h) (by decide) (by decide) ?_ (fun fs hr => retOut X16 hx Bd.returns rfl (Or.inr (Or.inr (Or.inr (Or.inr ⟨rfl, rfl, rfl⟩)))) (hb hby d_method_2_code_25) hr)
        rw [e16]
        exact ⟨by unfold own_kind; rw [if_neg hc1_11, if_neg hc10_13, if_pos hc19_15], N0, rfl⟩
      · refine Go.by (fun _ => XS.icmpYes X0.here hx rfl (pc0 := 19) (pc' := 26) rfl (hb hby d_method_2_code_19) rfl (XT.ii_ne_t hc19_15) (by decide) (by decide)) ?_
        show Go p e below P (s₁.setTop (mkF m 26 #[.val (.int i)] []))
        refine Go.by (fun _ => XS.iloadN X0.here hx rfl (hb hby d_method_2_code_26) rfl) ?_
        show Go p e below P (s₁.setTop (mkF m 27 #[.val (.int i)] [(.int i)]))
        refine Go.by (fun _ => XS.iconst X0.here hx rfl (hb hby d_method_2_code_27)) ?_
        show Go p e below P (s₁.setTop (mkF m 28 #[.val (.int i)] [(.int (3 : Int32)), (.int i)]))
        by_cases hc28_17 : i = (3 : Int32)
        · refine Go.by (fun _ => XS.icmpNo X0.here hx rfl (hb hby d_method_2_code_28) rfl (XT.ii_ne_f hc28_17)) ?_
          show Go p e below P (s₁.setTop (mkF m 31 #[.val (.int i)] []))
          obtain ⟨T18, X18, e18, st18⟩ := getS2 X0 hx hZ hown (host := "") (Or.inl (tw_81 hw)) Via.refl e0 (Sed.ext O0.2) (g := (mkF m 31 #[.val (.int i)] [])) rfl (hb hby d_method_2_code_31)
          refine Go.by st18 ?_
          show Go p e below P (T18.setTop (mkF m 34 #[.val (.int i)] [(.ref ed)]))
          refine fin X18 (v := some (.ref ed)) (fun h => by rw [Bd.returns] at h; cases h) (by decide) (by decide) ?_ (fun fs hr => retOut X18 hx Bd.returns rfl (Or.inr (Or.inr (Or.inr (Or.inr ⟨rfl, rfl, rfl⟩)))) (hb hby d_method_2_code_34) hr)
          rw [e18]
          exact ⟨by unfold own_kind; rw [if_neg hc1_11, if_neg hc10_13, if_neg hc19_15, if_pos hc28_17], N0, rfl⟩
        · refine Go.by (fun _ => XS.icmpYes X0.here hx rfl (pc0 := 28) (pc' := 35) rfl (hb hby d_method_2_code_28) rfl (XT.ii_ne_t hc28_17) (by decide) (by decide)) ?_
          show Go p e below P (s₁.setTop (mkF m 35 #[.val (.int i)] []))
          refine Go.by (fun _ => XS.iloadN X0.here hx rfl (hb hby d_method_2_code_35) rfl) ?_
          show Go p e below P (s₁.setTop (mkF m 36 #[.val (.int i)] [(.int i)]))
          refine Go.by (fun _ => XS.iconst X0.here hx rfl (hb hby d_method_2_code_36)) ?_
          show Go p e below P (s₁.setTop (mkF m 37 #[.val (.int i)] [(.int (4 : Int32)), (.int i)]))
          by_cases hc37_19 : i = (4 : Int32)
          · refine Go.by (fun _ => XS.icmpNo X0.here hx rfl (hb hby d_method_2_code_37) rfl (XT.ii_ne_f hc37_19)) ?_
            show Go p e below P (s₁.setTop (mkF m 40 #[.val (.int i)] []))
            obtain ⟨T20, X20, e20, st20⟩ := getS2 X0 hx hZ hown (host := "") (Or.inl (tw_61 hw)) Via.refl e0 (See.ext O0.2) (g := (mkF m 40 #[.val (.int i)] [])) rfl (hb hby d_method_2_code_40)
            refine Go.by st20 ?_
            show Go p e below P (T20.setTop (mkF m 43 #[.val (.int i)] [(.ref ee)]))
            refine fin X20 (v := some (.ref ee)) (fun h => by rw [Bd.returns] at h; cases h) (by decide) (by decide) ?_ (fun fs hr => retOut X20 hx Bd.returns rfl (Or.inr (Or.inr (Or.inr (Or.inr ⟨rfl, rfl, rfl⟩)))) (hb hby d_method_2_code_43) hr)
            rw [e20]
            exact ⟨by unfold own_kind; rw [if_neg hc1_11, if_neg hc10_13, if_neg hc19_15, if_neg hc28_17, if_pos hc37_19], N0, rfl⟩
          · refine Go.by (fun _ => XS.icmpYes X0.here hx rfl (pc0 := 37) (pc' := 44) rfl (hb hby d_method_2_code_37) rfl (XT.ii_ne_t hc37_19) (by decide) (by decide)) ?_
            show Go p e below P (s₁.setTop (mkF m 44 #[.val (.int i)] []))
            refine Go.by (fun _ => XS.iloadN X0.here hx rfl (hb hby d_method_2_code_44) rfl) ?_
            show Go p e below P (s₁.setTop (mkF m 45 #[.val (.int i)] [(.int i)]))
            refine Go.by (fun _ => XS.iconst X0.here hx rfl (hb hby d_method_2_code_45)) ?_
            show Go p e below P (s₁.setTop (mkF m 46 #[.val (.int i)] [(.int (5 : Int32)), (.int i)]))
            by_cases hc46_21 : i = (5 : Int32)
            · refine Go.by (fun _ => XS.icmpNo X0.here hx rfl (hb hby d_method_2_code_46) rfl (XT.ii_ne_f hc46_21)) ?_
              show Go p e below P (s₁.setTop (mkF m 49 #[.val (.int i)] []))
              obtain ⟨T22, X22, e22, st22⟩ := getS2 X0 hx hZ hown (host := "") (Or.inl (tw_89 hw)) Via.refl e0 (Sef.ext O0.2) (g := (mkF m 49 #[.val (.int i)] [])) rfl (hb hby d_method_2_code_49)
              refine Go.by st22 ?_
              show Go p e below P (T22.setTop (mkF m 52 #[.val (.int i)] [(.ref ef)]))
              refine fin X22 (v := some (.ref ef)) (fun h => by rw [Bd.returns] at h; cases h) (by decide) (by decide) ?_ (fun fs hr => retOut X22 hx Bd.returns rfl (Or.inr (Or.inr (Or.inr (Or.inr ⟨rfl, rfl, rfl⟩)))) (hb hby d_method_2_code_52) hr)
              rw [e22]
              exact ⟨by unfold own_kind; rw [if_neg hc1_11, if_neg hc10_13, if_neg hc19_15, if_neg hc28_17, if_neg hc37_19, if_pos hc46_21], N0, rfl⟩
            · refine Go.by (fun _ => XS.icmpYes X0.here hx rfl (pc0 := 46) (pc' := 53) rfl (hb hby d_method_2_code_46) rfl (XT.ii_ne_t hc46_21) (by decide) (by decide)) ?_
              show Go p e below P (s₁.setTop (mkF m 53 #[.val (.int i)] []))
              obtain ⟨T23, X23, e23, st23⟩ := getS2 X0 hx hZ hown (host := "") (Or.inl (tw_83 hw)) Via.refl e0 (Seg.ext O0.2) (g := (mkF m 53 #[.val (.int i)] [])) rfl (hb hby d_method_2_code_53)
              refine Go.by st23 ?_
              show Go p e below P (T23.setTop (mkF m 56 #[.val (.int i)] [(.ref eg)]))
              refine fin X23 (v := some (.ref eg)) (fun h => by rw [Bd.returns] at h; cases h) (by decide) (by decide) ?_ (fun fs hr => retOut X23 hx Bd.returns rfl (Or.inr (Or.inr (Or.inr (Or.inr ⟨rfl, rfl, rfl⟩)))) (hb hby d_method_2_code_56) hr)
              rw [e23]
              exact ⟨by unfold own_kind; rw [if_neg hc1_11, if_neg hc10_13, if_neg hc19_15, if_neg hc28_17, if_neg hc37_19, if_neg hc46_21], N0, rfl⟩
def Q_sameArg (Z : State) (m1 : Int32) (c1 : Int32) (m2 : Int32) (c2 : Int32) (h0 : Heap) (n0 : Nat) (v : Option Value) (h : Heap) (L : List Loc) : Prop := v = some (.int (own_same m1 c1 m2 c2)) ∧ Fr n0 L ∧ h = h0
theorem ef_sameArg (m : MethodId) (m1 : Int32) (c1 : Int32) (m2 : Int32) (c2 : Int32) : entryFrame m #[(.int m1), (.int c1), (.int m2), (.int c2)] 4 = mkF m 0 #[.val (.int m1), .val (.int c1), .val (.int m2), .val (.int c2)] [] := by first | (simp [entryFrame, mkF, argsToLocals, Value.category]; done) | rfl
set_option maxRecDepth 65536 in
set_option maxHeartbeats 40000000 in
theorem rm_sameArg (l : Launch) (Z : State) (a0 : Array Value) (hw : ∀ d ∈ tables_1, d.before a0 Z = true) (ws : List Jvm.Cond) (m1 : Int32) (c1 : Int32) (m2 : Int32) (c2 : Int32) (h0 : Heap) (n0 : Nat) (Z0 : n0 ≤ h0.size) :
    MetFree l (⟨"com/example/verdict/verdict/ActionEqualsPinLaw", "sameArg", "(IIII)Z"⟩ : MethodName) (head1 (Jvm.Cond.code (⟨"com/example/verdict/verdict/ActionEqualsPinLaw", "sameArg", "(IIII)Z"⟩ : MethodName) method_4_code 4 (some .boolean) :: ws) ({ frames := 0, cells := 0, slots := 0, locals := 0 } : Room)) (fun a U => a = #[(.int m1), (.int c1), (.int m2), (.int c2)] ∧ Z.Warmed39 U.vm ∧ U.heap = h0) (fun _ _ _ _ _ => True) (fun _ U o U' => ∃ v L, o = .returned v ∧ Q_sameArg Z m1 c1 m2 c2 h0 n0 v U'.heap L ∧ FrameEnd U o U' L ({ frames := 0, cells := 0, slots := 0, locals := 0 } : Room).cells ({ frames := 0, cells := 0, slots := 0, locals := 0 } : Room).slots) := by
  refine MetFree.of_bodySF (plainFor_of_name pn_com_example_verdict_verdict_ActionEqualsPinLaw) hisR ?_
  intro p e s m args below meth c s₁ Bd hml0 hP hK
  obtain ⟨rfl, hZ, hh⟩ := hP
  have hx := Bd.exec
  have hby := Bd.bytes
  have hml : c.maxLocals = 4 := hml0
  have hown : s.vm.findClass "com/example/verdict/verdict/ActionEqualsPinLaw" = some m.cls := findClass_of_methodNamed Bd.named
  have hnm := (name_of_methodNamed Bd.named Bd.method).1
  have X0 : Stand p l e ({ frames := 0, cells := 0, slots := 0, locals := 0 } : Room) s m #[(.int m1), (.int c1), (.int m2), (.int c2)] below meth c s₁ [] 0 0 := Stand.of_body Bd
  have e0 : s₁.heap = h0 := by rw [← hh, Bd.state]; rfl
  have N0 := Fr.nil n0
  have hlk : meth.locks = false := Bd.notSynchronized
  obtain ⟨P, hP⟩ : ∃ P : Outcome → State → Prop, P = PQ s (Q_sameArg Z m1 c1 m2 c2 h0 n0) ({ frames := 0, cells := 0, slots := 0, locals := 0 } : Room).cells ({ frames := 0, cells := 0, slots := 0, locals := 0 } : Room).slots := ⟨_, rfl⟩
  have fin : ∀ {T : State} {locs : List Loc} {k n : Nat} {v : Option Value} {S0 : State}, Stand p l e ({ frames := 0, cells := 0, slots := 0, locals := 0 } : Room) s m #[(.int m1), (.int c1), (.int m2), (.int c2)] below meth c T locs k n → (meth.sig.returnType = none → v = none) → k ≤ ({ frames := 0, cells := 0, slots := 0, locals := 0 } : Room).cells → n ≤ ({ frames := 0, cells := 0, slots := 0, locals := 0 } : Room).slots → Q_sameArg Z m1 c1 m2 c2 h0 n0 v T.heap locs → (∀ fs, (∀ (f : JFrame) (acts : List Action), f.method = m → f.locked = none → f.entered = [] → (doReturn e (T.setTop f) acts v).1 = T.setFrames fs) → Steps p.tables e below S0 (T.setFrames fs)) → Go p e below P S0 := fun X hv hk hn hQ hst => hP ▸ Go.fin X hlk hv hk hn hQ hst
  suffices hgo : Go p e below P (s₁.setTop (mkF m 0 #[.val (.int m1), .val (.int c1), .val (.int m2), .val (.int c2)] [])) by
    rw [hP] at hgo
    exact Go.by (fun t k => castTop (ef_sameArg m m1 c1 m2 c2) k) hgo
  show Go p e below P (s₁.setTop (mkF m 0 #[.val (.int m1), .val (.int c1), .val (.int m2), .val (.int c2)] []))
  refine Go.by (fun _ => XS.iloadN X0.here hx rfl (hb hby d_method_4_code_0) rfl) ?_
  show Go p e below P (s₁.setTop (mkF m 1 #[.val (.int m1), .val (.int c1), .val (.int m2), .val (.int c2)] [(.int m1)]))
  refine Go.by (fun _ => XS.iloadN X0.here hx rfl (hb hby d_method_4_code_1) rfl) ?_
  show Go p e below P (s₁.setTop (mkF m 2 #[.val (.int m1), .val (.int c1), .val (.int m2), .val (.int c2)] [(.int m2), (.int m1)]))
  by_cases hc2_11 : m1 = m2
  · refine Go.by (fun _ => XS.icmpYes X0.here hx rfl (pc0 := 2) (pc' := 7) rfl (hb hby d_method_4_code_2) rfl (XT.ii_eq_t hc2_11) (by decide) (by decide)) ?_
    show Go p e below P (s₁.setTop (mkF m 7 #[.val (.int m1), .val (.int c1), .val (.int m2), .val (.int c2)] []))
    refine Go.by (fun _ => XS.iloadN X0.here hx rfl (hb hby d_method_4_code_7) rfl) ?_
    show Go p e below P (s₁.setTop (mkF m 8 #[.val (.int m1), .val (.int c1), .val (.int m2), .val (.int c2)] [(.int m1)]))
    refine Go.by (fun _ => XS.iconst X0.here hx rfl (hb hby d_method_4_code_8)) ?_
    show Go p e below P (s₁.setTop (mkF m 9 #[.val (.int m1), .val (.int c1), .val (.int m2), .val (.int c2)] [(.int (1 : Int32)), (.int m1)]))
    by_cases hc9_12 : (1 : Int32) < m1
    · refine Go.by (fun _ => XS.icmpYes X0.here hx rfl (pc0 := 9) (pc' := 14) rfl (hb hby d_method_4_code_9) rfl (XT.ii_gt_t hc9_12) (by decide) (by decide)) ?_
      show Go p e below P (s₁.setTop (mkF m 14 #[.val (.int m1), .val (.int c1), .val (.int m2), .val (.int c2)] []))
      refine Go.by (fun _ => XS.iloadN X0.here hx rfl (hb hby d_method_4_code_14) rfl) ?_
      show Go p e below P (s₁.setTop (mkF m 15 #[.val (.int m1), .val (.int c1), .val (.int m2), .val (.int c2)] [(.int c1)]))
      refine Go.by (fun _ => XS.sipush X0.here hx rfl (hb hby d_method_4_code_15)) ?_
      show Go p e below P (s₁.setTop (mkF m 18 #[.val (.int m1), .val (.int c1), .val (.int m2), .val (.int c2)] [(.int (255 : Int32)), (.int c1)]))
      refine Go.by (fun _ => XS.iand X0.here hx rfl (hb hby d_method_4_code_18) rfl) ?_
      show Go p e below P (s₁.setTop (mkF m 19 #[.val (.int m1), .val (.int c1), .val (.int m2), .val (.int c2)] [(.int (c1 &&& (255 : Int32)))]))
      refine Go.by (fun _ => XS.iloadN X0.here hx rfl (hb hby d_method_4_code_19) rfl) ?_
      show Go p e below P (s₁.setTop (mkF m 20 #[.val (.int m1), .val (.int c1), .val (.int m2), .val (.int c2)] [(.int c2), (.int (c1 &&& (255 : Int32)))]))
      refine Go.by (fun _ => XS.sipush X0.here hx rfl (hb hby d_method_4_code_20)) ?_
      show Go p e below P (s₁.setTop (mkF m 23 #[.val (.int m1), .val (.int c1), .val (.int m2), .val (.int c2)] [(.int (255 : Int32)), (.int c2), (.int (c1 &&& (255 : Int32)))]))
      refine Go.by (fun _ => XS.iand X0.here hx rfl (hb hby d_method_4_code_23) rfl) ?_
      show Go p e below P (s₁.setTop (mkF m 24 #[.val (.int m1), .val (.int c1), .val (.int m2), .val (.int c2)] [(.int (c2 &&& (255 : Int32))), (.int (c1 &&& (255 : Int32)))]))
      by_cases hc24_13 : (c1 &&& (255 : Int32)) = (c2 &&& (255 : Int32))
      · refine Go.by (fun _ => XS.icmpYes X0.here hx rfl (pc0 := 24) (pc' := 29) rfl (hb hby d_method_4_code_24) rfl (XT.ii_eq_t hc24_13) (by decide) (by decide)) ?_
        show Go p e below P (s₁.setTop (mkF m 29 #[.val (.int m1), .val (.int c1), .val (.int m2), .val (.int c2)] []))
        refine Go.by (fun _ => XS.iloadN X0.here hx rfl (hb hby d_method_4_code_29) rfl) ?_
        show Go p e below P (s₁.setTop (mkF m 30 #[.val (.int m1), .val (.int c1), .val (.int m2), .val (.int c2)] [(.int m1)]))
        refine Go.by (fun _ => XS.iconst X0.here hx rfl (hb hby d_method_4_code_30)) ?_
        show Go p e below P (s₁.setTop (mkF m 31 #[.val (.int m1), .val (.int c1), .val (.int m2), .val (.int c2)] [(.int (2 : Int32)), (.int m1)]))
        by_cases hc31_14 : m1 = (2 : Int32)
        · refine Go.by (fun _ => XS.icmpNo X0.here hx rfl (hb hby d_method_4_code_31) rfl (XT.ii_ne_f hc31_14)) ?_
          show Go p e below P (s₁.setTop (mkF m 34 #[.val (.int m1), .val (.int c1), .val (.int m2), .val (.int c2)] []))
          refine Go.by (fun _ => XS.iconst X0.here hx rfl (hb hby d_method_4_code_34)) ?_
          show Go p e below P (s₁.setTop (mkF m 35 #[.val (.int m1), .val (.int c1), .val (.int m2), .val (.int c2)] [(.int (1 : Int32))]))
          refine fin X0 (v := some (.int (1 : Int32))) (fun h => by rw [Bd.returns] at h; cases h) (by decide) (by decide) ?_ (fun fs hr => retOut X0 hx Bd.returns rfl (Or.inl ⟨rfl, Or.inr (Or.inl rfl), _, rfl⟩) (hb hby d_method_4_code_35) hr)
          rw [e0]
          exact ⟨by unfold own_same; rw [if_pos hc2_11, if_pos hc9_12, if_pos hc24_13, if_pos hc31_14], N0, rfl⟩
        · refine Go.by (fun _ => XS.icmpYes X0.here hx rfl (pc0 := 31) (pc' := 36) rfl (hb hby d_method_4_code_31) rfl (XT.ii_ne_t hc31_14) (by decide) (by decide)) ?_
          show Go p e below P (s₁.setTop (mkF m 36 #[.val (.int m1), .val (.int c1), .val (.int m2), .val (.int c2)] []))
          refine Go.by (fun _ => XS.iloadN X0.here hx rfl (hb hby d_method_4_code_36) rfl) ?_
          show Go p e below P (s₁.setTop (mkF m 37 #[.val (.int m1), .val (.int c1), .val (.int m2), .val (.int c2)] [(.int c1)]))
          refine Go.by (fun _ => XS.bipush X0.here hx rfl (hb hby d_method_4_code_37)) ?_
          show Go p e below P (s₁.setTop (mkF m 39 #[.val (.int m1), .val (.int c1), .val (.int m2), .val (.int c2)] [(.int (8 : Int32)), (.int c1)]))
          refine Go.by (fun _ => XS.iushr X0.here hx rfl (hb hby d_method_4_code_39) rfl) ?_
          show Go p e below P (s₁.setTop (mkF m 40 #[.val (.int m1), .val (.int c1), .val (.int m2), .val (.int c2)] [(.int ((c1.toUInt32 >>> ((8 : Int32) &&& 31).toUInt32).toInt32))]))
          refine Go.by (fun _ => XS.sipush X0.here hx rfl (hb hby d_method_4_code_40)) ?_
          show Go p e below P (s₁.setTop (mkF m 43 #[.val (.int m1), .val (.int c1), .val (.int m2), .val (.int c2)] [(.int (255 : Int32)), (.int ((c1.toUInt32 >>> ((8 : Int32) &&& 31).toUInt32).toInt32))]))
          refine Go.by (fun _ => XS.iand X0.here hx rfl (hb hby d_method_4_code_43) rfl) ?_
          show Go p e below P (s₁.setTop (mkF m 44 #[.val (.int m1), .val (.int c1), .val (.int m2), .val (.int c2)] [(.int (((c1.toUInt32 >>> ((8 : Int32) &&& 31).toUInt32).toInt32) &&& (255 : Int32)))]))
          refine Go.by (fun _ => XS.iloadN X0.here hx rfl (hb hby d_method_4_code_44) rfl) ?_
          show Go p e below P (s₁.setTop (mkF m 45 #[.val (.int m1), .val (.int c1), .val (.int m2), .val (.int c2)] [(.int c2), (.int (((c1.toUInt32 >>> ((8 : Int32) &&& 31).toUInt32).toInt32) &&& (255 : Int32)))]))
          refine Go.by (fun _ => XS.bipush X0.here hx rfl (hb hby d_method_4_code_45)) ?_
          show Go p e below P (s₁.setTop (mkF m 47 #[.val (.int m1), .val (.int c1), .val (.int m2), .val (.int c2)] [(.int (8 : Int32)), (.int c2), (.int (((c1.toUInt32 >>> ((8 : Int32) &&& 31).toUInt32).toInt32) &&& (255 : Int32)))]))
          refine Go.by (fun _ => XS.iushr X0.here hx rfl (hb hby d_method_4_code_47) rfl) ?_
          show Go p e below P (s₁.setTop (mkF m 48 #[.val (.int m1), .val (.int c1), .val (.int m2), .val (.int c2)] [(.int ((c2.toUInt32 >>> ((8 : Int32) &&& 31).toUInt32).toInt32)), (.int (((c1.toUInt32 >>> ((8 : Int32) &&& 31).toUInt32).toInt32) &&& (255 : Int32)))]))
          refine Go.by (fun _ => XS.sipush X0.here hx rfl (hb hby d_method_4_code_48)) ?_
          show Go p e below P (s₁.setTop (mkF m 51 #[.val (.int m1), .val (.int c1), .val (.int m2), .val (.int c2)] [(.int (255 : Int32)), (.int ((c2.toUInt32 >>> ((8 : Int32) &&& 31).toUInt32).toInt32)), (.int (((c1.toUInt32 >>> ((8 : Int32) &&& 31).toUInt32).toInt32) &&& (255 : Int32)))]))
          refine Go.by (fun _ => XS.iand X0.here hx rfl (hb hby d_method_4_code_51) rfl) ?_
          show Go p e below P (s₁.setTop (mkF m 52 #[.val (.int m1), .val (.int c1), .val (.int m2), .val (.int c2)] [(.int (((c2.toUInt32 >>> ((8 : Int32) &&& 31).toUInt32).toInt32) &&& (255 : Int32))), (.int (((c1.toUInt32 >>> ((8 : Int32) &&& 31).toUInt32).toInt32) &&& (255 : Int32)))]))
          by_cases hc52_15 : (((c1.toUInt32 >>> ((8 : Int32) &&& 31).toUInt32).toInt32) &&& (255 : Int32)) = (((c2.toUInt32 >>> ((8 : Int32) &&& 31).toUInt32).toInt32) &&& (255 : Int32))
          · refine Go.by (fun _ => XS.icmpNo X0.here hx rfl (hb hby d_method_4_code_52) rfl (XT.ii_ne_f hc52_15)) ?_
            show Go p e below P (s₁.setTop (mkF m 55 #[.val (.int m1), .val (.int c1), .val (.int m2), .val (.int c2)] []))
            refine Go.by (fun _ => XS.iconst X0.here hx rfl (hb hby d_method_4_code_55)) ?_
            show Go p e below P (s₁.setTop (mkF m 56 #[.val (.int m1), .val (.int c1), .val (.int m2), .val (.int c2)] [(.int (1 : Int32))]))
            refine Go.by (fun _ => XS.goto X0.here hx rfl (pc0 := 56) (pc' := 60) rfl (hb hby d_method_4_code_56) (by decide) (by decide)) ?_
            show Go p e below P (s₁.setTop (mkF m 60 #[.val (.int m1), .val (.int c1), .val (.int m2), .val (.int c2)] [(.int (1 : Int32))]))
            refine fin X0 (v := some (.int (1 : Int32))) (fun h => by rw [Bd.returns] at h; cases h) (by decide) (by decide) ?_ (fun fs hr => retOut X0 hx Bd.returns rfl (Or.inl ⟨rfl, Or.inr (Or.inl rfl), _, rfl⟩) (hb hby d_method_4_code_60) hr)
            rw [e0]
            exact ⟨by unfold own_same; rw [if_pos hc2_11, if_pos hc9_12, if_pos hc24_13, if_neg hc31_14, if_pos hc52_15], N0, rfl⟩
          · refine Go.by (fun _ => XS.icmpYes X0.here hx rfl (pc0 := 52) (pc' := 59) rfl (hb hby d_method_4_code_52) rfl (XT.ii_ne_t hc52_15) (by decide) (by decide)) ?_
            show Go p e below P (s₁.setTop (mkF m 59 #[.val (.int m1), .val (.int c1), .val (.int m2), .val (.int c2)] []))
            refine Go.by (fun _ => XS.iconst X0.here hx rfl (hb hby d_method_4_code_59)) ?_
            show Go p e below P (s₁.setTop (mkF m 60 #[.val (.int m1), .val (.int c1), .val (.int m2), .val (.int c2)] [(.int (0 : Int32))]))
            refine fin X0 (v := some (.int (0 : Int32))) (fun h => by rw [Bd.returns] at h; cases h) (by decide) (by decide) ?_ (fun fs hr => retOut X0 hx Bd.returns rfl (Or.inl ⟨rfl, Or.inr (Or.inl rfl), _, rfl⟩) (hb hby d_method_4_code_60) hr)
            rw [e0]
            exact ⟨by unfold own_same; rw [if_pos hc2_11, if_pos hc9_12, if_pos hc24_13, if_neg hc31_14, if_neg hc52_15], N0, rfl⟩
      · refine Go.by (fun _ => XS.icmpNo X0.here hx rfl (hb hby d_method_4_code_24) rfl (XT.ii_eq_f hc24_13)) ?_
        show Go p e below P (s₁.setTop (mkF m 27 #[.val (.int m1), .val (.int c1), .val (.int m2), .val (.int c2)] []))
        refine Go.by (fun _ => XS.iconst X0.here hx rfl (hb hby d_method_4_code_27)) ?_
        show Go p e below P (s₁.setTop (mkF m 28 #[.val (.int m1), .val (.int c1), .val (.int m2), .val (.int c2)] [(.int (0 : Int32))]))
        refine fin X0 (v := some (.int (0 : Int32))) (fun h => by rw [Bd.returns] at h; cases h) (by decide) (by decide) ?_ (fun fs hr => retOut X0 hx Bd.returns rfl (Or.inl ⟨rfl, Or.inr (Or.inl rfl), _, rfl⟩) (hb hby d_method_4_code_28) hr)
        rw [e0]
        exact ⟨by unfold own_same; rw [if_pos hc2_11, if_pos hc9_12, if_neg hc24_13], N0, rfl⟩
    · refine Go.by (fun _ => XS.icmpNo X0.here hx rfl (hb hby d_method_4_code_9) rfl (XT.ii_gt_f hc9_12)) ?_
      show Go p e below P (s₁.setTop (mkF m 12 #[.val (.int m1), .val (.int c1), .val (.int m2), .val (.int c2)] []))
      refine Go.by (fun _ => XS.iconst X0.here hx rfl (hb hby d_method_4_code_12)) ?_
      show Go p e below P (s₁.setTop (mkF m 13 #[.val (.int m1), .val (.int c1), .val (.int m2), .val (.int c2)] [(.int (1 : Int32))]))
      refine fin X0 (v := some (.int (1 : Int32))) (fun h => by rw [Bd.returns] at h; cases h) (by decide) (by decide) ?_ (fun fs hr => retOut X0 hx Bd.returns rfl (Or.inl ⟨rfl, Or.inr (Or.inl rfl), _, rfl⟩) (hb hby d_method_4_code_13) hr)
      rw [e0]
      exact ⟨by unfold own_same; rw [if_pos hc2_11, if_neg hc9_12], N0, rfl⟩
  · refine Go.by (fun _ => XS.icmpNo X0.here hx rfl (hb hby d_method_4_code_2) rfl (XT.ii_eq_f hc2_11)) ?_
    show Go p e below P (s₁.setTop (mkF m 5 #[.val (.int m1), .val (.int c1), .val (.int m2), .val (.int c2)] []))
    refine Go.by (fun _ => XS.iconst X0.here hx rfl (hb hby d_method_4_code_5)) ?_
    show Go p e below P (s₁.setTop (mkF m 6 #[.val (.int m1), .val (.int c1), .val (.int m2), .val (.int c2)] [(.int (0 : Int32))]))
    refine fin X0 (v := some (.int (0 : Int32))) (fun h => by rw [Bd.returns] at h; cases h) (by decide) (by decide) ?_ (fun fs hr => retOut X0 hx Bd.returns rfl (Or.inl ⟨rfl, Or.inr (Or.inl rfl), _, rfl⟩) (hb hby d_method_4_code_6) hr)
    rw [e0]
    exact ⟨by unfold own_same; rw [if_neg hc2_11], N0, rfl⟩
def Q_cmp5_2 (Z : State) (a1 : Addr) (k1 : ClassId) (a2 : Addr) (k2 : ClassId) (x0 : Int32) (x1 : Int32) (h0 : Heap) (n0 : Nat) (v : Option Value) (h : Heap) (L : List Loc) : Prop := v = some (.int (2 : Int32)) ∧ Fr n0 L ∧ Keep h0 h [a2] ∧ Arv Z h a2 k2 .byte (2 : Int32) [(.int (x0.toInt8.toInt32)), (.int (x1.toInt8.toInt32))] (.int (0 : Int32))
theorem ef_cmp5_2 (m : MethodId) (a1 : Addr) (k1 : ClassId) (a2 : Addr) (k2 : ClassId) (x0 : Int32) (x1 : Int32) : entryFrame m #[(.ref a1), (.int (0 : Int32)), (.ref a2), (.int (0 : Int32)), (.int (2 : Int32))] 7 = mkF m 0 #[.val (.ref a1), .val (.int (0 : Int32)), .val (.ref a2), .val (.int (0 : Int32)), .val (.int (2 : Int32)), .unset, .unset] [] := by first | (simp [entryFrame, mkF, argsToLocals, Value.category]; done) | rfl
set_option maxRecDepth 65536 in
set_option maxHeartbeats 40000000 in
theorem rm_cmp5_2 (l : Launch) (Z : State) (a0 : Array Value) (hw : ∀ d ∈ tables_1, d.before a0 Z = true) (ws : List Jvm.Cond) (a1 : Addr) (k1 : ClassId) (a2 : Addr) (k2 : ClassId) (x0 : Int32) (x1 : Int32) (h0 : Heap) (n0 : Nat) (Z0 : n0 ≤ h0.size) (V1 : Arv Z h0 a1 k1 .char (2 : Int32) [(.int x0), (.int x1)] (.int (0 : Int32))) (V2 : Arv Z h0 a2 k2 .byte (2 : Int32) [(.int (0 : Int32)), (.int (0 : Int32))] (.int (0 : Int32))) (ne12 : a1 ≠ a2) (g_a2 : n0 ≤ a2) (hx0a : ¬ x0 < 0) (hx0b : ¬ (255 : Int32) < x0) (hx1a : ¬ x1 < 0) (hx1b : ¬ (255 : Int32) < x1) :
    MetFree l (⟨"java/lang/StringUTF16", "compress", "([CI[BII)I"⟩ : MethodName) (head1 (Jvm.Cond.code (⟨"java/lang/StringUTF16", "compress", "([CI[BII)I"⟩ : MethodName) jdk_52_method_21_code 7 (some .int) :: ws) ({ frames := 0, cells := 0, slots := 0, locals := 0 } : Room)) (fun a U => a = #[(.ref a1), (.int (0 : Int32)), (.ref a2), (.int (0 : Int32)), (.int (2 : Int32))] ∧ Z.Warmed39 U.vm ∧ U.heap = h0) (fun _ _ _ _ _ => True) (fun _ U o U' => ∃ v L, o = .returned v ∧ Q_cmp5_2 Z a1 k1 a2 k2 x0 x1 h0 n0 v U'.heap L ∧ FrameEnd U o U' L ({ frames := 0, cells := 0, slots := 0, locals := 0 } : Room).cells ({ frames := 0, cells := 0, slots := 0, locals := 0 } : Room).slots) := by
  refine MetFree.of_bodySF (plainFor_of_name pn_java_lang_StringUTF16) hisR ?_
  intro p e s m args below meth c s₁ Bd hml0 hP hK
  obtain ⟨rfl, hZ, hh⟩ := hP
  have hx := Bd.exec
  have hby := Bd.bytes
  have hml : c.maxLocals = 7 := hml0
  have hown : s.vm.findClass "java/lang/StringUTF16" = some m.cls := findClass_of_methodNamed Bd.named
  have hnm := (name_of_methodNamed Bd.named Bd.method).1
  have X0 : Stand p l e ({ frames := 0, cells := 0, slots := 0, locals := 0 } : Room) s m #[(.ref a1), (.int (0 : Int32)), (.ref a2), (.int (0 : Int32)), (.int (2 : Int32))] below meth c s₁ [] 0 0 := Stand.of_body Bd
  have e0 : s₁.heap = h0 := by rw [← hh, Bd.state]; rfl
  have N0 := Fr.nil n0
  have hlk : meth.locks = false := Bd.notSynchronized
  obtain ⟨P, hP⟩ : ∃ P : Outcome → State → Prop, P = PQ s (Q_cmp5_2 Z a1 k1 a2 k2 x0 x1 h0 n0) ({ frames := 0, cells := 0, slots := 0, locals := 0 } : Room).cells ({ frames := 0, cells := 0, slots := 0, locals := 0 } : Room).slots := ⟨_, rfl⟩
  have fin : ∀ {T : State} {locs : List Loc} {k n : Nat} {v : Option Value} {S0 : State}, Stand p l e ({ frames := 0, cells := 0, slots := 0, locals := 0 } : Room) s m #[(.ref a1), (.int (0 : Int32)), (.ref a2), (.int (0 : Int32)), (.int (2 : Int32))] below meth c T locs k n → (meth.sig.returnType = none → v = none) → k ≤ ({ frames := 0, cells := 0, slots := 0, locals := 0 } : Room).cells → n ≤ ({ frames := 0, cells := 0, slots := 0, locals := 0 } : Room).slots → Q_cmp5_2 Z a1 k1 a2 k2 x0 x1 h0 n0 v T.heap locs → (∀ fs, (∀ (f : JFrame) (acts : List Action), f.method = m → f.locked = none → f.entered = [] → (doReturn e (T.setTop f) acts v).1 = T.setFrames fs) → Steps p.tables e below S0 (T.setFrames fs)) → Go p e below P S0 := fun X hv hk hn hQ hst => hP ▸ Go.fin X hlk hv hk hn hQ hst
  suffices hgo : Go p e below P (s₁.setTop (mkF m 0 #[.val (.ref a1), .val (.int (0 : Int32)), .val (.ref a2), .val (.int (0 : Int32)), .val (.int (2 : Int32)), .unset, .unset] [])) by
    rw [hP] at hgo
    exact Go.by (fun t k => castTop (ef_cmp5_2 m a1 k1 a2 k2 x0 x1) k) hgo
  show Go p e below P (s₁.setTop (mkF m 0 #[.val (.ref a1), .val (.int (0 : Int32)), .val (.ref a2), .val (.int (0 : Int32)), .val (.int (2 : Int32)), .unset, .unset] []))
  refine Go.by (fun _ => XS.iconst X0.here hx rfl (hb hby d_jdk_52_method_21_code_0)) ?_
  show Go p e below P (s₁.setTop (mkF m 1 #[.val (.ref a1), .val (.int (0 : Int32)), .val (.ref a2), .val (.int (0 : Int32)), .val (.int (2 : Int32)), .unset, .unset] [(.int (0 : Int32))]))
  refine Go.by (fun _ => XS.istore X0.here hx rfl (hb hby d_jdk_52_method_21_code_1) rfl (l' := #[.val (.ref a1), .val (.int (0 : Int32)), .val (.ref a2), .val (.int (0 : Int32)), .val (.int (2 : Int32)), .val (.int (0 : Int32)), .unset]) rfl) ?_
  show Go p e below P (s₁.setTop (mkF m 3 #[.val (.ref a1), .val (.int (0 : Int32)), .val (.ref a2), .val (.int (0 : Int32)), .val (.int (2 : Int32)), .val (.int (0 : Int32)), .unset] []))
  refine Go.by (fun _ => XS.iload X0.here hx rfl (hb hby d_jdk_52_method_21_code_3) rfl) ?_
  show Go p e below P (s₁.setTop (mkF m 5 #[.val (.ref a1), .val (.int (0 : Int32)), .val (.ref a2), .val (.int (0 : Int32)), .val (.int (2 : Int32)), .val (.int (0 : Int32)), .unset] [(.int (0 : Int32))]))
  refine Go.by (fun _ => XS.iload X0.here hx rfl (hb hby d_jdk_52_method_21_code_5) rfl) ?_
  show Go p e below P (s₁.setTop (mkF m 7 #[.val (.ref a1), .val (.int (0 : Int32)), .val (.ref a2), .val (.int (0 : Int32)), .val (.int (2 : Int32)), .val (.int (0 : Int32)), .unset] [(.int (2 : Int32)), (.int (0 : Int32))]))
  refine Go.by (fun _ => XS.icmpNo X0.here hx rfl (hb hby d_jdk_52_method_21_code_7) rfl (XT.ii_ge_f (by decide : (0 : Int32) < (2 : Int32)))) ?_
  show Go p e below P (s₁.setTop (mkF m 10 #[.val (.ref a1), .val (.int (0 : Int32)), .val (.ref a2), .val (.int (0 : Int32)), .val (.int (2 : Int32)), .val (.int (0 : Int32)), .unset] []))
  refine Go.by (fun _ => XS.aloadN X0.here hx rfl (hb hby d_jdk_52_method_21_code_10) rfl rfl) ?_
  show Go p e below P (s₁.setTop (mkF m 11 #[.val (.ref a1), .val (.int (0 : Int32)), .val (.ref a2), .val (.int (0 : Int32)), .val (.int (2 : Int32)), .val (.int (0 : Int32)), .unset] [(.ref a1)]))
  refine Go.by (fun _ => XS.iloadN X0.here hx rfl (hb hby d_jdk_52_method_21_code_11) rfl) ?_
  show Go p e below P (s₁.setTop (mkF m 12 #[.val (.ref a1), .val (.int (0 : Int32)), .val (.ref a2), .val (.int (0 : Int32)), .val (.int (2 : Int32)), .val (.int (0 : Int32)), .unset] [(.int (0 : Int32)), (.ref a1)]))
  have av11 := V1
  obtain ⟨cl11, Ar11, -, Sz11, Nn11, Ha11, Gf11⟩ := av11
  have hin11 : ¬ ((0 : Int32) < 0 ∨ cl11.slots.size ≤ ((0 : Int32)).toNatClampNeg) := inb_of Sz11 ⟨by decide, by decide⟩
  have hat11 : cl11.slots[((0 : Int32)).toNatClampNeg]? = some (.int x0) := Ha11.at hin11 rfl
  refine Go.by (X0.caload hx (j := (0 : Int32)) (v := (.int x0)) (by rw [e0]; exact Ar11.1) (State.isArrayOf_alike hZ.alike Ar11.2.1) Ar11.2.2 hin11 hat11 (g := (mkF m 12 #[.val (.ref a1), .val (.int (0 : Int32)), .val (.ref a2), .val (.int (0 : Int32)), .val (.int (2 : Int32)), .val (.int (0 : Int32)), .unset] [(.int (0 : Int32)), (.ref a1)])) rfl rfl (hb hby d_jdk_52_method_21_code_12)) ?_
  show Go p e below P (s₁.setTop (mkF m 13 #[.val (.ref a1), .val (.int (0 : Int32)), .val (.ref a2), .val (.int (0 : Int32)), .val (.int (2 : Int32)), .val (.int (0 : Int32)), .unset] [(.int x0)]))
  refine Go.by (fun _ => XS.istore X0.here hx rfl (hb hby d_jdk_52_method_21_code_13) rfl (l' := #[.val (.ref a1), .val (.int (0 : Int32)), .val (.ref a2), .val (.int (0 : Int32)), .val (.int (2 : Int32)), .val (.int (0 : Int32)), .val (.int x0)]) rfl) ?_
  show Go p e below P (s₁.setTop (mkF m 15 #[.val (.ref a1), .val (.int (0 : Int32)), .val (.ref a2), .val (.int (0 : Int32)), .val (.int (2 : Int32)), .val (.int (0 : Int32)), .val (.int x0)] []))
  refine Go.by (fun _ => XS.iload X0.here hx rfl (hb hby d_jdk_52_method_21_code_15) rfl) ?_
  show Go p e below P (s₁.setTop (mkF m 17 #[.val (.ref a1), .val (.int (0 : Int32)), .val (.ref a2), .val (.int (0 : Int32)), .val (.int (2 : Int32)), .val (.int (0 : Int32)), .val (.int x0)] [(.int x0)]))
  refine Go.by (fun _ => XS.sipush X0.here hx rfl (hb hby d_jdk_52_method_21_code_17)) ?_
  show Go p e below P (s₁.setTop (mkF m 20 #[.val (.ref a1), .val (.int (0 : Int32)), .val (.ref a2), .val (.int (0 : Int32)), .val (.int (2 : Int32)), .val (.int (0 : Int32)), .val (.int x0)] [(.int (255 : Int32)), (.int x0)]))
  refine Go.by (fun _ => XS.icmpYes X0.here hx rfl (pc0 := 20) (pc' := 26) rfl (hb hby d_jdk_52_method_21_code_20) rfl (XT.ii_le_t hx0b) (by decide) (by decide)) ?_
  show Go p e below P (s₁.setTop (mkF m 26 #[.val (.ref a1), .val (.int (0 : Int32)), .val (.ref a2), .val (.int (0 : Int32)), .val (.int (2 : Int32)), .val (.int (0 : Int32)), .val (.int x0)] []))
  refine Go.by (fun _ => XS.aloadN X0.here hx rfl (hb hby d_jdk_52_method_21_code_26) rfl rfl) ?_
  show Go p e below P (s₁.setTop (mkF m 27 #[.val (.ref a1), .val (.int (0 : Int32)), .val (.ref a2), .val (.int (0 : Int32)), .val (.int (2 : Int32)), .val (.int (0 : Int32)), .val (.int x0)] [(.ref a2)]))
  refine Go.by (fun _ => XS.iloadN X0.here hx rfl (hb hby d_jdk_52_method_21_code_27) rfl) ?_
  show Go p e below P (s₁.setTop (mkF m 28 #[.val (.ref a1), .val (.int (0 : Int32)), .val (.ref a2), .val (.int (0 : Int32)), .val (.int (2 : Int32)), .val (.int (0 : Int32)), .val (.int x0)] [(.int (0 : Int32)), (.ref a2)]))
  refine Go.by (fun _ => XS.iload X0.here hx rfl (hb hby d_jdk_52_method_21_code_28) rfl) ?_
  show Go p e below P (s₁.setTop (mkF m 30 #[.val (.ref a1), .val (.int (0 : Int32)), .val (.ref a2), .val (.int (0 : Int32)), .val (.int (2 : Int32)), .val (.int (0 : Int32)), .val (.int x0)] [(.int x0), (.int (0 : Int32)), (.ref a2)]))
  refine Go.by (fun _ => XS.i2b X0.here hx rfl (hb hby d_jdk_52_method_21_code_30) rfl) ?_
  show Go p e below P (s₁.setTop (mkF m 31 #[.val (.ref a1), .val (.int (0 : Int32)), .val (.ref a2), .val (.int (0 : Int32)), .val (.int (2 : Int32)), .val (.int (0 : Int32)), .val (.int x0)] [(.int (x0.toInt8.toInt32)), (.int (0 : Int32)), (.ref a2)]))
  have av12 := V2
  obtain ⟨cl12, Ar12, q12, Sz12, Nn12, Ha12, Gf12⟩ := av12
  have hin12 : ¬ ((0 : Int32) < 0 ∨ cl12.slots.size ≤ ((0 : Int32)).toNatClampNeg) := inb_of Sz12 ⟨by decide, by decide⟩
  obtain ⟨T13, h13, X13, e13, W13, st13⟩ := stB X0 hx hZ e0 Ar12 (j := (0 : Int32)) hin12 (g := (mkF m 31 #[.val (.ref a1), .val (.int (0 : Int32)), .val (.ref a2), .val (.int (0 : Int32)), .val (.int (2 : Int32)), .val (.int (0 : Int32)), .val (.int x0)] [(.int (x0.toInt8.toInt32)), (.int (0 : Int32)), (.ref a2)])) rfl rfl (hb hby d_jdk_52_method_21_code_31)
  have W13' : Wr h0 h13 a2 ((0 : Int32)).toNatClampNeg (.int (x0.toInt8.toInt32)) := (by have q : Wr h0 h13 a2 ((0 : Int32)).toNatClampNeg (.int ((x0.toInt8.toInt32)).toInt8.toInt32) := W13; rw [own_bb] at q; exact q)
  have V13 : Arv Z h13 a2 k2 .byte (2 : Int32) [(.int (x0.toInt8.toInt32)), (.int (0 : Int32))] (.int (0 : Int32)) := Arv.set Ar12 q12 Sz12 Nn12 Ha12 Gf12 (fits_nar_byte _) W13' 0 rfl (Nat.le_of_ble_eq_true rfl)
  have N13 := Fr.snoc X13 N0 g_a2
  have f13_0 : n0 ≤ h13.size := (Nat.le_trans Z0 (Keep.of_wr W13).1)
  have f13_1 : Keep h0 h13 [a2] := (Keep.wr (Keep.refl h0 [a2]) W13 (Or.inl (List.mem_of_getElem? (i := 0) rfl)))
  have f13_2 : Arv Z h13 a1 k1 .char (2 : Int32) [(.int x0), (.int x1)] (.int (0 : Int32)) := (Arv.other V1 W13 ne12)
  refine Go.by st13 ?_
  show Go p e below P (T13.setTop (mkF m 32 #[.val (.ref a1), .val (.int (0 : Int32)), .val (.ref a2), .val (.int (0 : Int32)), .val (.int (2 : Int32)), .val (.int (0 : Int32)), .val (.int x0)] []))
  refine Go.by (fun _ => XS.iinc X13.here hx rfl (hb hby d_jdk_52_method_21_code_32) rfl (l' := #[.val (.ref a1), .val (.int (1 : Int32)), .val (.ref a2), .val (.int (0 : Int32)), .val (.int (2 : Int32)), .val (.int (0 : Int32)), .val (.int x0)]) rfl) ?_
  show Go p e below P (T13.setTop (mkF m 35 #[.val (.ref a1), .val (.int (1 : Int32)), .val (.ref a2), .val (.int (0 : Int32)), .val (.int (2 : Int32)), .val (.int (0 : Int32)), .val (.int x0)] []))
  refine Go.by (fun _ => XS.iinc X13.here hx rfl (hb hby d_jdk_52_method_21_code_35) rfl (l' := #[.val (.ref a1), .val (.int (1 : Int32)), .val (.ref a2), .val (.int (1 : Int32)), .val (.int (2 : Int32)), .val (.int (0 : Int32)), .val (.int x0)]) rfl) ?_
  show Go p e below P (T13.setTop (mkF m 38 #[.val (.ref a1), .val (.int (1 : Int32)), .val (.ref a2), .val (.int (1 : Int32)), .val (.int (2 : Int32)), .val (.int (0 : Int32)), .val (.int x0)] []))
  refine Go.by (fun _ => XS.iinc X13.here hx rfl (hb hby d_jdk_52_method_21_code_38) rfl (l' := #[.val (.ref a1), .val (.int (1 : Int32)), .val (.ref a2), .val (.int (1 : Int32)), .val (.int (2 : Int32)), .val (.int (1 : Int32)), .val (.int x0)]) rfl) ?_
  show Go p e below P (T13.setTop (mkF m 41 #[.val (.ref a1), .val (.int (1 : Int32)), .val (.ref a2), .val (.int (1 : Int32)), .val (.int (2 : Int32)), .val (.int (1 : Int32)), .val (.int x0)] []))
  refine Go.by (fun _ => XS.goto X13.here hx rfl (pc0 := 41) (pc' := 3) rfl (hb hby d_jdk_52_method_21_code_41) (by decide) (by decide)) ?_
  show Go p e below P (T13.setTop (mkF m 3 #[.val (.ref a1), .val (.int (1 : Int32)), .val (.ref a2), .val (.int (1 : Int32)), .val (.int (2 : Int32)), .val (.int (1 : Int32)), .val (.int x0)] []))
  refine Go.by (fun _ => XS.iload X13.here hx rfl (hb hby d_jdk_52_method_21_code_3) rfl) ?_
  show Go p e below P (T13.setTop (mkF m 5 #[.val (.ref a1), .val (.int (1 : Int32)), .val (.ref a2), .val (.int (1 : Int32)), .val (.int (2 : Int32)), .val (.int (1 : Int32)), .val (.int x0)] [(.int (1 : Int32))]))
  refine Go.by (fun _ => XS.iload X13.here hx rfl (hb hby d_jdk_52_method_21_code_5) rfl) ?_
  show Go p e below P (T13.setTop (mkF m 7 #[.val (.ref a1), .val (.int (1 : Int32)), .val (.ref a2), .val (.int (1 : Int32)), .val (.int (2 : Int32)), .val (.int (1 : Int32)), .val (.int x0)] [(.int (2 : Int32)), (.int (1 : Int32))]))
  refine Go.by (fun _ => XS.icmpNo X13.here hx rfl (hb hby d_jdk_52_method_21_code_7) rfl (XT.ii_ge_f (by decide : (1 : Int32) < (2 : Int32)))) ?_
  show Go p e below P (T13.setTop (mkF m 10 #[.val (.ref a1), .val (.int (1 : Int32)), .val (.ref a2), .val (.int (1 : Int32)), .val (.int (2 : Int32)), .val (.int (1 : Int32)), .val (.int x0)] []))
  refine Go.by (fun _ => XS.aloadN X13.here hx rfl (hb hby d_jdk_52_method_21_code_10) rfl rfl) ?_
  show Go p e below P (T13.setTop (mkF m 11 #[.val (.ref a1), .val (.int (1 : Int32)), .val (.ref a2), .val (.int (1 : Int32)), .val (.int (2 : Int32)), .val (.int (1 : Int32)), .val (.int x0)] [(.ref a1)]))
  refine Go.by (fun _ => XS.iloadN X13.here hx rfl (hb hby d_jdk_52_method_21_code_11) rfl) ?_
  show Go p e below P (T13.setTop (mkF m 12 #[.val (.ref a1), .val (.int (1 : Int32)), .val (.ref a2), .val (.int (1 : Int32)), .val (.int (2 : Int32)), .val (.int (1 : Int32)), .val (.int x0)] [(.int (1 : Int32)), (.ref a1)]))
  have av14 := f13_2
  obtain ⟨cl14, Ar14, -, Sz14, Nn14, Ha14, Gf14⟩ := av14
  have hin14 : ¬ ((1 : Int32) < 0 ∨ cl14.slots.size ≤ ((1 : Int32)).toNatClampNeg) := inb_of Sz14 ⟨by decide, by decide⟩
  have hat14 : cl14.slots[((1 : Int32)).toNatClampNeg]? = some (.int x1) := Ha14.at hin14 rfl
  refine Go.by (X13.caload hx (j := (1 : Int32)) (v := (.int x1)) (by rw [e13]; exact Ar14.1) (State.isArrayOf_alike hZ.alike Ar14.2.1) Ar14.2.2 hin14 hat14 (g := (mkF m 12 #[.val (.ref a1), .val (.int (1 : Int32)), .val (.ref a2), .val (.int (1 : Int32)), .val (.int (2 : Int32)), .val (.int (1 : Int32)), .val (.int x0)] [(.int (1 : Int32)), (.ref a1)])) rfl rfl (hb hby d_jdk_52_method_21_code_12)) ?_
  show Go p e below P (T13.setTop (mkF m 13 #[.val (.ref a1), .val (.int (1 : Int32)), .val (.ref a2), .val (.int (1 : Int32)), .val (.int (2 : Int32)), .val (.int (1 : Int32)), .val (.int x0)] [(.int x1)]))
  refine Go.by (fun _ => XS.istore X13.here hx rfl (hb hby d_jdk_52_method_21_code_13) rfl (l' := #[.val (.ref a1), .val (.int (1 : Int32)), .val (.ref a2), .val (.int (1 : Int32)), .val (.int (2 : Int32)), .val (.int (1 : Int32)), .val (.int x1)]) rfl) ?_
  show Go p e below P (T13.setTop (mkF m 15 #[.val (.ref a1), .val (.int (1 : Int32)), .val (.ref a2), .val (.int (1 : Int32)), .val (.int (2 : Int32)), .val (.int (1 : Int32)), .val (.int x1)] []))
  refine Go.by (fun _ => XS.iload X13.here hx rfl (hb hby d_jdk_52_method_21_code_15) rfl) ?_
  show Go p e below P (T13.setTop (mkF m 17 #[.val (.ref a1), .val (.int (1 : Int32)), .val (.ref a2), .val (.int (1 : Int32)), .val (.int (2 : Int32)), .val (.int (1 : Int32)), .val (.int x1)] [(.int x1)]))
  refine Go.by (fun _ => XS.sipush X13.here hx rfl (hb hby d_jdk_52_method_21_code_17)) ?_
  show Go p e below P (T13.setTop (mkF m 20 #[.val (.ref a1), .val (.int (1 : Int32)), .val (.ref a2), .val (.int (1 : Int32)), .val (.int (2 : Int32)), .val (.int (1 : Int32)), .val (.int x1)] [(.int (255 : Int32)), (.int x1)]))
  refine Go.by (fun _ => XS.icmpYes X13.here hx rfl (pc0 := 20) (pc' := 26) rfl (hb hby d_jdk_52_method_21_code_20) rfl (XT.ii_le_t hx1b) (by decide) (by decide)) ?_
  show Go p e below P (T13.setTop (mkF m 26 #[.val (.ref a1), .val (.int (1 : Int32)), .val (.ref a2), .val (.int (1 : Int32)), .val (.int (2 : Int32)), .val (.int (1 : Int32)), .val (.int x1)] []))
  refine Go.by (fun _ => XS.aloadN X13.here hx rfl (hb hby d_jdk_52_method_21_code_26) rfl rfl) ?_
  show Go p e below P (T13.setTop (mkF m 27 #[.val (.ref a1), .val (.int (1 : Int32)), .val (.ref a2), .val (.int (1 : Int32)), .val (.int (2 : Int32)), .val (.int (1 : Int32)), .val (.int x1)] [(.ref a2)]))
  refine Go.by (fun _ => XS.iloadN X13.here hx rfl (hb hby d_jdk_52_method_21_code_27) rfl) ?_
  show Go p e below P (T13.setTop (mkF m 28 #[.val (.ref a1), .val (.int (1 : Int32)), .val (.ref a2), .val (.int (1 : Int32)), .val (.int (2 : Int32)), .val (.int (1 : Int32)), .val (.int x1)] [(.int (1 : Int32)), (.ref a2)]))
  refine Go.by (fun _ => XS.iload X13.here hx rfl (hb hby d_jdk_52_method_21_code_28) rfl) ?_
  show Go p e below P (T13.setTop (mkF m 30 #[.val (.ref a1), .val (.int (1 : Int32)), .val (.ref a2), .val (.int (1 : Int32)), .val (.int (2 : Int32)), .val (.int (1 : Int32)), .val (.int x1)] [(.int x1), (.int (1 : Int32)), (.ref a2)]))
  refine Go.by (fun _ => XS.i2b X13.here hx rfl (hb hby d_jdk_52_method_21_code_30) rfl) ?_
  show Go p e below P (T13.setTop (mkF m 31 #[.val (.ref a1), .val (.int (1 : Int32)), .val (.ref a2), .val (.int (1 : Int32)), .val (.int (2 : Int32)), .val (.int (1 : Int32)), .val (.int x1)] [(.int (x1.toInt8.toInt32)), (.int (1 : Int32)), (.ref a2)]))
  have av15 := V13
  obtain ⟨cl15, Ar15, q15, Sz15, Nn15, Ha15, Gf15⟩ := av15
  have hin15 : ¬ ((1 : Int32) < 0 ∨ cl15.slots.size ≤ ((1 : Int32)).toNatClampNeg) := inb_of Sz15 ⟨by decide, by decide⟩
  obtain ⟨T16, h16, X16, e16, W16, st16⟩ := stB X13 hx hZ e13 Ar15 (j := (1 : Int32)) hin15 (g := (mkF m 31 #[.val (.ref a1), .val (.int (1 : Int32)), .val (.ref a2), .val (.int (1 : Int32)), .val (.int (2 : Int32)), .val (.int (1 : Int32)), .val (.int x1)] [(.int (x1.toInt8.toInt32)), (.int (1 : Int32)), (.ref a2)])) rfl rfl (hb hby d_jdk_52_method_21_code_31)
  have W16' : Wr h13 h16 a2 ((1 : Int32)).toNatClampNeg (.int (x1.toInt8.toInt32)) := (by have q : Wr h13 h16 a2 ((1 : Int32)).toNatClampNeg (.int ((x1.toInt8.toInt32)).toInt8.toInt32) := W16; rw [own_bb] at q; exact q)
  have V16 : Arv Z h16 a2 k2 .byte (2 : Int32) [(.int (x0.toInt8.toInt32)), (.int (x1.toInt8.toInt32))] (.int (0 : Int32)) := Arv.set Ar15 q15 Sz15 Nn15 Ha15 Gf15 (fits_nar_byte _) W16' 1 rfl (Nat.le_of_ble_eq_true rfl)
  have N16 := Fr.snoc X16 N13 g_a2
  have f16_0 : n0 ≤ h16.size := (Nat.le_trans f13_0 (Keep.of_wr W16).1)
  have f16_1 : Keep h0 h16 [a2] := (Keep.wr f13_1 W16 (Or.inl (List.mem_of_getElem? (i := 0) rfl)))
  have f16_2 : Arv Z h16 a1 k1 .char (2 : Int32) [(.int x0), (.int x1)] (.int (0 : Int32)) := (Arv.other f13_2 W16 ne12)
  refine Go.by st16 ?_
  show Go p e below P (T16.setTop (mkF m 32 #[.val (.ref a1), .val (.int (1 : Int32)), .val (.ref a2), .val (.int (1 : Int32)), .val (.int (2 : Int32)), .val (.int (1 : Int32)), .val (.int x1)] []))
  refine Go.by (fun _ => XS.iinc X16.here hx rfl (hb hby d_jdk_52_method_21_code_32) rfl (l' := #[.val (.ref a1), .val (.int (2 : Int32)), .val (.ref a2), .val (.int (1 : Int32)), .val (.int (2 : Int32)), .val (.int (1 : Int32)), .val (.int x1)]) rfl) ?_
  show Go p e below P (T16.setTop (mkF m 35 #[.val (.ref a1), .val (.int (2 : Int32)), .val (.ref a2), .val (.int (1 : Int32)), .val (.int (2 : Int32)), .val (.int (1 : Int32)), .val (.int x1)] []))
  refine Go.by (fun _ => XS.iinc X16.here hx rfl (hb hby d_jdk_52_method_21_code_35) rfl (l' := #[.val (.ref a1), .val (.int (2 : Int32)), .val (.ref a2), .val (.int (2 : Int32)), .val (.int (2 : Int32)), .val (.int (1 : Int32)), .val (.int x1)]) rfl) ?_
  show Go p e below P (T16.setTop (mkF m 38 #[.val (.ref a1), .val (.int (2 : Int32)), .val (.ref a2), .val (.int (2 : Int32)), .val (.int (2 : Int32)), .val (.int (1 : Int32)), .val (.int x1)] []))
  refine Go.by (fun _ => XS.iinc X16.here hx rfl (hb hby d_jdk_52_method_21_code_38) rfl (l' := #[.val (.ref a1), .val (.int (2 : Int32)), .val (.ref a2), .val (.int (2 : Int32)), .val (.int (2 : Int32)), .val (.int (2 : Int32)), .val (.int x1)]) rfl) ?_
  show Go p e below P (T16.setTop (mkF m 41 #[.val (.ref a1), .val (.int (2 : Int32)), .val (.ref a2), .val (.int (2 : Int32)), .val (.int (2 : Int32)), .val (.int (2 : Int32)), .val (.int x1)] []))
  refine Go.by (fun _ => XS.goto X16.here hx rfl (pc0 := 41) (pc' := 3) rfl (hb hby d_jdk_52_method_21_code_41) (by decide) (by decide)) ?_
  show Go p e below P (T16.setTop (mkF m 3 #[.val (.ref a1), .val (.int (2 : Int32)), .val (.ref a2), .val (.int (2 : Int32)), .val (.int (2 : Int32)), .val (.int (2 : Int32)), .val (.int x1)] []))
  refine Go.by (fun _ => XS.iload X16.here hx rfl (hb hby d_jdk_52_method_21_code_3) rfl) ?_
  show Go p e below P (T16.setTop (mkF m 5 #[.val (.ref a1), .val (.int (2 : Int32)), .val (.ref a2), .val (.int (2 : Int32)), .val (.int (2 : Int32)), .val (.int (2 : Int32)), .val (.int x1)] [(.int (2 : Int32))]))
  refine Go.by (fun _ => XS.iload X16.here hx rfl (hb hby d_jdk_52_method_21_code_5) rfl) ?_
  show Go p e below P (T16.setTop (mkF m 7 #[.val (.ref a1), .val (.int (2 : Int32)), .val (.ref a2), .val (.int (2 : Int32)), .val (.int (2 : Int32)), .val (.int (2 : Int32)), .val (.int x1)] [(.int (2 : Int32)), (.int (2 : Int32))]))
  refine Go.by (fun _ => XS.icmpYes X16.here hx rfl (pc0 := 7) (pc' := 44) rfl (hb hby d_jdk_52_method_21_code_7) rfl (XT.ii_ge_t (by decide : ¬ (2 : Int32) < (2 : Int32))) (by decide) (by decide)) ?_
  show Go p e below P (T16.setTop (mkF m 44 #[.val (.ref a1), .val (.int (2 : Int32)), .val (.ref a2), .val (.int (2 : Int32)), .val (.int (2 : Int32)), .val (.int (2 : Int32)), .val (.int x1)] []))
  refine Go.by (fun _ => XS.iload X16.here hx rfl (hb hby d_jdk_52_method_21_code_44) rfl) ?_
  show Go p e below P (T16.setTop (mkF m 46 #[.val (.ref a1), .val (.int (2 : Int32)), .val (.ref a2), .val (.int (2 : Int32)), .val (.int (2 : Int32)), .val (.int (2 : Int32)), .val (.int x1)] [(.int (2 : Int32))]))
  refine fin X16 (v := some (.int (2 : Int32))) (fun h => by rw [Bd.returns] at h; cases h) (by decide) (by decide) ?_ (fun fs hr => retOut X16 hx Bd.returns rfl (Or.inl ⟨rfl, Or.inl rfl, _, rfl⟩) (hb hby d_jdk_52_method_21_code_46) hr)
  rw [e16]
  exact ⟨rfl, N16, f16_1, V16⟩
def Q_cmp3_2 (Z : State) (a1 : Addr) (k1 : ClassId) (x0 : Int32) (x1 : Int32) (h0 : Heap) (n0 : Nat) (v : Option Value) (h : Heap) (L : List Loc) : Prop := ∃ d k, v = some (.ref d) ∧ Fr n0 L ∧ Keep h0 h [] ∧ h0.size ≤ d ∧ Arv Z h d k .byte (2 : Int32) [(.int (x0.toInt8.toInt32)), (.int (x1.toInt8.toInt32))] (.int (0 : Int32))
theorem ef_cmp3_2 (m : MethodId) (a1 : Addr) (k1 : ClassId) (x0 : Int32) (x1 : Int32) : entryFrame m #[(.ref a1), (.int (0 : Int32)), (.int (2 : Int32))] 6 = mkF m 0 #[.val (.ref a1), .val (.int (0 : Int32)), .val (.int (2 : Int32)), .unset, .unset, .unset] [] := by first | (simp [entryFrame, mkF, argsToLocals, Value.category]; done) | rfl
set_option maxRecDepth 65536 in
set_option maxHeartbeats 40000000 in
theorem rm_cmp3_2 (l : Launch) (Z : State) (a0 : Array Value) (hw : ∀ d ∈ tables_1, d.before a0 Z = true) (ws : List Jvm.Cond) (a1 : Addr) (k1 : ClassId) (x0 : Int32) (x1 : Int32) (h0 : Heap) (n0 : Nat) (Z0 : n0 ≤ h0.size) (V1 : Arv Z h0 a1 k1 .char (2 : Int32) [(.int x0), (.int x1)] (.int (0 : Int32))) (hx0a : ¬ x0 < 0) (hx0b : ¬ (255 : Int32) < x0) (hx1a : ¬ x1 < 0) (hx1b : ¬ (255 : Int32) < x1) :
    MetFree l (⟨"java/lang/StringUTF16", "compress", "([CII)[B"⟩ : MethodName) (head1 (Jvm.Cond.code (⟨"java/lang/StringUTF16", "compress", "([CII)[B"⟩ : MethodName) jdk_52_method_16_code 6 (some (.array .byte)) :: ws) ({ frames := 1, cells := 1, slots := 2, locals := 30 } : Room)) (fun a U => a = #[(.ref a1), (.int (0 : Int32)), (.int (2 : Int32))] ∧ Z.Warmed39 U.vm ∧ U.heap = h0) (fun _ _ _ _ _ => True) (fun _ U o U' => ∃ v L, o = .returned v ∧ Q_cmp3_2 Z a1 k1 x0 x1 h0 n0 v U'.heap L ∧ FrameEnd U o U' L ({ frames := 1, cells := 1, slots := 2, locals := 30 } : Room).cells ({ frames := 1, cells := 1, slots := 2, locals := 30 } : Room).slots) := by
  refine MetFree.of_bodySF (plainFor_of_name pn_java_lang_StringUTF16) hisR ?_
  intro p e s m args below meth c s₁ Bd hml0 hP hK
  obtain ⟨rfl, hZ, hh⟩ := hP
  have hx := Bd.exec
  have hby := Bd.bytes
  have hml : c.maxLocals = 6 := hml0
  have hown : s.vm.findClass "java/lang/StringUTF16" = some m.cls := findClass_of_methodNamed Bd.named
  have hnm := (name_of_methodNamed Bd.named Bd.method).1
  have X0 : Stand p l e ({ frames := 1, cells := 1, slots := 2, locals := 30 } : Room) s m #[(.ref a1), (.int (0 : Int32)), (.int (2 : Int32))] below meth c s₁ [] 0 0 := Stand.of_body Bd
  have e0 : s₁.heap = h0 := by rw [← hh, Bd.state]; rfl
  have N0 := Fr.nil n0
  have hlk : meth.locks = false := Bd.notSynchronized
  obtain ⟨P, hP⟩ : ∃ P : Outcome → State → Prop, P = PQ s (Q_cmp3_2 Z a1 k1 x0 x1 h0 n0) ({ frames := 1, cells := 1, slots := 2, locals := 30 } : Room).cells ({ frames := 1, cells := 1, slots := 2, locals := 30 } : Room).slots := ⟨_, rfl⟩
  have fin : ∀ {T : State} {locs : List Loc} {k n : Nat} {v : Option Value} {S0 : State}, Stand p l e ({ frames := 1, cells := 1, slots := 2, locals := 30 } : Room) s m #[(.ref a1), (.int (0 : Int32)), (.int (2 : Int32))] below meth c T locs k n → (meth.sig.returnType = none → v = none) → k ≤ ({ frames := 1, cells := 1, slots := 2, locals := 30 } : Room).cells → n ≤ ({ frames := 1, cells := 1, slots := 2, locals := 30 } : Room).slots → Q_cmp3_2 Z a1 k1 x0 x1 h0 n0 v T.heap locs → (∀ fs, (∀ (f : JFrame) (acts : List Action), f.method = m → f.locked = none → f.entered = [] → (doReturn e (T.setTop f) acts v).1 = T.setFrames fs) → Steps p.tables e below S0 (T.setFrames fs)) → Go p e below P S0 := fun X hv hk hn hQ hst => hP ▸ Go.fin X hlk hv hk hn hQ hst
  suffices hgo : Go p e below P (s₁.setTop (mkF m 0 #[.val (.ref a1), .val (.int (0 : Int32)), .val (.int (2 : Int32)), .unset, .unset, .unset] [])) by
    rw [hP] at hgo
    exact Go.by (fun t k => castTop (ef_cmp3_2 m a1 k1 x0 x1) k) hgo
  show Go p e below P (s₁.setTop (mkF m 0 #[.val (.ref a1), .val (.int (0 : Int32)), .val (.int (2 : Int32)), .unset, .unset, .unset] []))
  refine Go.by (fun _ => XS.iloadN X0.here hx rfl (hb hby d_jdk_52_method_16_code_0) rfl) ?_
  show Go p e below P (s₁.setTop (mkF m 1 #[.val (.ref a1), .val (.int (0 : Int32)), .val (.int (2 : Int32)), .unset, .unset, .unset] [(.int (2 : Int32))]))
  obtain ⟨T11, h11, k11, X11, e11, E11, A11, st11⟩ := newP X0 hx hZ (aty := .byte) (tw_33 hw) e0 (g := (mkF m 1 #[.val (.ref a1), .val (.int (0 : Int32)), .val (.int (2 : Int32)), .unset, .unset, .unset] [(.int (2 : Int32))])) rfl (hb hby d_jdk_52_method_16_code_1) rfl (by decide) (cap := 2) (by decide) (by decide) (by decide) (by decide)
  obtain ⟨b11, g11⟩ : ∃ z, z = h0.size := ⟨_, rfl⟩
  rw [← g11] at A11 st11
  have g_b11 : n0 ≤ b11 := Nat.le_trans Z0 (Nat.le_of_eq g11.symm)
  have sz_b11 : h0.size ≤ b11 := Nat.le_trans (Keep.refl h0 []).1 (Nat.le_of_eq g11.symm)
  have ne_a1_b11 : a1 ≠ b11 := Nat.ne_of_lt (Nat.lt_of_lt_of_le (V1.lt) (Nat.le_of_eq g11.symm))
  have f11_0 : n0 ≤ h11.size := (Nat.le_trans Z0 E11.1)
  have f11_1 : Keep h0 h11 [] := (Keep.ext (Keep.refl h0 []) E11)
  have f11_2 : Arv Z h11 a1 k1 .char (2 : Int32) [(.int x0), (.int x1)] (.int (0 : Int32)) := (Arv.ext V1 E11)
  refine Go.by st11 ?_
  have V11 : Arv Z h11 b11 k11 .byte (2 : Int32) [(.int (0 : Int32)), (.int (0 : Int32))] (.int (0 : Int32)) := (Arv.new A11 (by decide)).pad (pad_rep [] (.int (0 : Int32)) 2)
  show Go p e below P (T11.setTop (mkF m 3 #[.val (.ref a1), .val (.int (0 : Int32)), .val (.int (2 : Int32)), .unset, .unset, .unset] [(.ref b11)]))
  refine Go.by (fun _ => XS.astoreN X11.here hx rfl (hb hby d_jdk_52_method_16_code_3) rfl rfl (l' := #[.val (.ref a1), .val (.int (0 : Int32)), .val (.int (2 : Int32)), .val (.ref b11), .unset, .unset]) rfl) ?_
  show Go p e below P (T11.setTop (mkF m 4 #[.val (.ref a1), .val (.int (0 : Int32)), .val (.int (2 : Int32)), .val (.ref b11), .unset, .unset] []))
  refine Go.by (fun _ => XS.aloadN X11.here hx rfl (hb hby d_jdk_52_method_16_code_4) rfl rfl) ?_
  show Go p e below P (T11.setTop (mkF m 5 #[.val (.ref a1), .val (.int (0 : Int32)), .val (.int (2 : Int32)), .val (.ref b11), .unset, .unset] [(.ref a1)]))
  refine Go.by (fun _ => XS.iloadN X11.here hx rfl (hb hby d_jdk_52_method_16_code_5) rfl) ?_
  show Go p e below P (T11.setTop (mkF m 6 #[.val (.ref a1), .val (.int (0 : Int32)), .val (.int (2 : Int32)), .val (.ref b11), .unset, .unset] [(.int (0 : Int32)), (.ref a1)]))
  refine Go.by (fun _ => XS.aloadN X11.here hx rfl (hb hby d_jdk_52_method_16_code_6) rfl rfl) ?_
  show Go p e below P (T11.setTop (mkF m 7 #[.val (.ref a1), .val (.int (0 : Int32)), .val (.int (2 : Int32)), .val (.ref b11), .unset, .unset] [(.ref b11), (.int (0 : Int32)), (.ref a1)]))
  refine Go.by (fun _ => XS.iconst X11.here hx rfl (hb hby d_jdk_52_method_16_code_7)) ?_
  show Go p e below P (T11.setTop (mkF m 8 #[.val (.ref a1), .val (.int (0 : Int32)), .val (.int (2 : Int32)), .val (.ref b11), .unset, .unset] [(.int (0 : Int32)), (.ref b11), (.int (0 : Int32)), (.ref a1)]))
  refine Go.by (fun _ => XS.iloadN X11.here hx rfl (hb hby d_jdk_52_method_16_code_8) rfl) ?_
  show Go p e below P (T11.setTop (mkF m 9 #[.val (.ref a1), .val (.int (0 : Int32)), .val (.int (2 : Int32)), .val (.ref b11), .unset, .unset] [(.int (2 : Int32)), (.int (0 : Int32)), (.ref b11), (.int (0 : Int32)), (.ref a1)]))
  obtain ⟨_, _, ⟨T12, L12, k12, n12⟩, -, X12, ⟨Lc12, hQ12, l12, y12, z12⟩, st12⟩ := Jvm.LawKit.callS X11 hx (y := (⟨"java/lang/StringUTF16", "compress", "([CI[BII)I"⟩ : MethodName)) hown (mvT hZ (tw_34 hw)) (mvT hZ (tw_35 hw)) (mvT hZ (tw_31 hw)) (mvT hZ (tw_36 hw)) (by decide) (backOf (W := 0) (rm_cmp5_2 l Z a0 hw [] a1 k1 b11 k11 x0 x1 h11 n0 f11_0 f11_2 V11 ne_a1_b11 g_b11 hx0a hx0b hx1a hx1b) hZ (tw_36 hw) (tw_31 hw) (by decide) (by decide)) (g := (mkF m 9 #[.val (.ref a1), .val (.int (0 : Int32)), .val (.int (2 : Int32)), .val (.ref b11), .unset, .unset] [(.int (2 : Int32)), (.int (0 : Int32)), (.ref b11), (.int (0 : Int32)), (.ref a1)])) rfl (by rw [hml]; rfl) (argsL := [(.ref a1), (.int (0 : Int32)), (.ref b11), (.int (0 : Int32)), (.int (2 : Int32))]) (rest := []) (lenOf pd___CI_BII_I rfl) rfl (by show 2 * 0 + _ ≤ _; exact Nat.le_of_eq rfl) (hb hby d_jdk_52_method_16_code_9) (fun _ _ => ⟨rfl, e11, (by decide : 1 + 0 ≤ _), (by decide : 2 + 0 ≤ _)⟩)
  dsimp only [Pt.U, Pt.locs, Pt.cells, Pt.slots] at X12 l12 y12 z12 st12 hQ12
  subst l12 y12 z12
  obtain ⟨rfl, N12q, K12, V12⟩ := hQ12
  have N12 := Fr.app N0 N12q
  refine Go.by (fun t k => st12 t k) ?_
  have f12_0 : n0 ≤ T12.heap.size := (Nat.le_trans f11_0 K12.1)
  have f12_1 : Keep h0 T12.heap [] := (Keep.trans f11_1 K12 (allS (Or.inr sz_b11) all0))
  have f12_2 : Arv Z T12.heap a1 k1 .char (2 : Int32) [(.int x0), (.int x1)] (.int (0 : Int32)) := (Arv.keep f11_2 K12 (ninS ne_a1_b11 nin0))
  show Go p e below P (T12.setTop (mkF m 12 #[.val (.ref a1), .val (.int (0 : Int32)), .val (.int (2 : Int32)), .val (.ref b11), .unset, .unset] [(.int (2 : Int32))]))
  refine Go.by (fun _ => XS.istore X12.here hx rfl (hb hby d_jdk_52_method_16_code_12) rfl (l' := #[.val (.ref a1), .val (.int (0 : Int32)), .val (.int (2 : Int32)), .val (.ref b11), .val (.int (2 : Int32)), .unset]) rfl) ?_
  show Go p e below P (T12.setTop (mkF m 14 #[.val (.ref a1), .val (.int (0 : Int32)), .val (.int (2 : Int32)), .val (.ref b11), .val (.int (2 : Int32)), .unset] []))
  refine Go.by (fun _ => XS.iload X12.here hx rfl (hb hby d_jdk_52_method_16_code_14) rfl) ?_
  show Go p e below P (T12.setTop (mkF m 16 #[.val (.ref a1), .val (.int (0 : Int32)), .val (.int (2 : Int32)), .val (.ref b11), .val (.int (2 : Int32)), .unset] [(.int (2 : Int32))]))
  refine Go.by (fun _ => XS.iloadN X12.here hx rfl (hb hby d_jdk_52_method_16_code_16) rfl) ?_
  show Go p e below P (T12.setTop (mkF m 17 #[.val (.ref a1), .val (.int (0 : Int32)), .val (.int (2 : Int32)), .val (.ref b11), .val (.int (2 : Int32)), .unset] [(.int (2 : Int32)), (.int (2 : Int32))]))
  refine Go.by (fun _ => XS.icmpYes X12.here hx rfl (pc0 := 17) (pc' := 57) rfl (hb hby d_jdk_52_method_16_code_17) rfl (XT.ii_eq_t (by decide : (2 : Int32) = (2 : Int32))) (by decide) (by decide)) ?_
  show Go p e below P (T12.setTop (mkF m 57 #[.val (.ref a1), .val (.int (0 : Int32)), .val (.int (2 : Int32)), .val (.ref b11), .val (.int (2 : Int32)), .unset] []))
  refine Go.by (fun _ => XS.aloadN X12.here hx rfl (hb hby d_jdk_52_method_16_code_57) rfl rfl) ?_
  show Go p e below P (T12.setTop (mkF m 58 #[.val (.ref a1), .val (.int (0 : Int32)), .val (.int (2 : Int32)), .val (.ref b11), .val (.int (2 : Int32)), .unset] [(.ref b11)]))
  refine fin X12 (v := some (.ref b11)) (fun h => by rw [Bd.returns] at h; cases h) (by decide) (by decide) ?_ (fun fs hr => retOut X12 hx Bd.returns rfl (Or.inr (Or.inr (Or.inr (Or.inr ⟨rfl, rfl, rfl⟩)))) (hb hby d_jdk_52_method_16_code_58) hr)
  exact ⟨b11, k11, rfl, N12, f12_1, sz_b11, V12⟩
def Q_cfal_2 (Z : State) (a1 : Addr) (k1 : ClassId) (x0 : Int32) (x1 : Int32) (h0 : Heap) (n0 : Nat) (v : Option Value) (h : Heap) (L : List Loc) : Prop := v = some (.int (0 : Int32)) ∧ Fr n0 L ∧ h = h0
theorem ef_cfal_2 (m : MethodId) (a1 : Addr) (k1 : ClassId) (x0 : Int32) (x1 : Int32) : entryFrame m #[(.ref a1), (.int (2 : Int32))] 2 = mkF m 0 #[.val (.ref a1), .val (.int (2 : Int32))] [] := by first | (simp [entryFrame, mkF, argsToLocals, Value.category]; done) | rfl
set_option maxRecDepth 65536 in
set_option maxHeartbeats 40000000 in
theorem rm_cfal_2 (l : Launch) (Z : State) (a0 : Array Value) (hw : ∀ d ∈ tables_1, d.before a0 Z = true) (ws : List Jvm.Cond) (a1 : Addr) (k1 : ClassId) (x0 : Int32) (x1 : Int32) (h0 : Heap) (n0 : Nat) (Z0 : n0 ≤ h0.size) (V1 : Arv Z h0 a1 k1 .byte (2 : Int32) [(.int (x0.toInt8.toInt32)), (.int (x1.toInt8.toInt32))] (.int (0 : Int32))) :
    MetFree l (⟨"java/lang/StringUTF16", "coderFromArrayLen", "([BI)B"⟩ : MethodName) (head1 (Jvm.Cond.code (⟨"java/lang/StringUTF16", "coderFromArrayLen", "([BI)B"⟩ : MethodName) jdk_52_method_15_code 2 (some .byte) :: ws) ({ frames := 0, cells := 0, slots := 0, locals := 0 } : Room)) (fun a U => a = #[(.ref a1), (.int (2 : Int32))] ∧ Z.Warmed39 U.vm ∧ U.heap = h0) (fun _ _ _ _ _ => True) (fun _ U o U' => ∃ v L, o = .returned v ∧ Q_cfal_2 Z a1 k1 x0 x1 h0 n0 v U'.heap L ∧ FrameEnd U o U' L ({ frames := 0, cells := 0, slots := 0, locals := 0 } : Room).cells ({ frames := 0, cells := 0, slots := 0, locals := 0 } : Room).slots) := by
  refine MetFree.of_bodySF (plainFor_of_name pn_java_lang_StringUTF16) hisR ?_
  intro p e s m args below meth c s₁ Bd hml0 hP hK
  obtain ⟨rfl, hZ, hh⟩ := hP
  have hx := Bd.exec
  have hby := Bd.bytes
  have hml : c.maxLocals = 2 := hml0
  have hown : s.vm.findClass "java/lang/StringUTF16" = some m.cls := findClass_of_methodNamed Bd.named
  have hnm := (name_of_methodNamed Bd.named Bd.method).1
  have X0 : Stand p l e ({ frames := 0, cells := 0, slots := 0, locals := 0 } : Room) s m #[(.ref a1), (.int (2 : Int32))] below meth c s₁ [] 0 0 := Stand.of_body Bd
  have e0 : s₁.heap = h0 := by rw [← hh, Bd.state]; rfl
  have N0 := Fr.nil n0
  have hlk : meth.locks = false := Bd.notSynchronized
  obtain ⟨P, hP⟩ : ∃ P : Outcome → State → Prop, P = PQ s (Q_cfal_2 Z a1 k1 x0 x1 h0 n0) ({ frames := 0, cells := 0, slots := 0, locals := 0 } : Room).cells ({ frames := 0, cells := 0, slots := 0, locals := 0 } : Room).slots := ⟨_, rfl⟩
  have fin : ∀ {T : State} {locs : List Loc} {k n : Nat} {v : Option Value} {S0 : State}, Stand p l e ({ frames := 0, cells := 0, slots := 0, locals := 0 } : Room) s m #[(.ref a1), (.int (2 : Int32))] below meth c T locs k n → (meth.sig.returnType = none → v = none) → k ≤ ({ frames := 0, cells := 0, slots := 0, locals := 0 } : Room).cells → n ≤ ({ frames := 0, cells := 0, slots := 0, locals := 0 } : Room).slots → Q_cfal_2 Z a1 k1 x0 x1 h0 n0 v T.heap locs → (∀ fs, (∀ (f : JFrame) (acts : List Action), f.method = m → f.locked = none → f.entered = [] → (doReturn e (T.setTop f) acts v).1 = T.setFrames fs) → Steps p.tables e below S0 (T.setFrames fs)) → Go p e below P S0 := fun X hv hk hn hQ hst => hP ▸ Go.fin X hlk hv hk hn hQ hst
  suffices hgo : Go p e below P (s₁.setTop (mkF m 0 #[.val (.ref a1), .val (.int (2 : Int32))] [])) by
    rw [hP] at hgo
    exact Go.by (fun t k => castTop (ef_cfal_2 m a1 k1 x0 x1) k) hgo
  show Go p e below P (s₁.setTop (mkF m 0 #[.val (.ref a1), .val (.int (2 : Int32))] []))
  refine Go.by (fun _ => XS.iloadN X0.here hx rfl (hb hby d_jdk_52_method_15_code_0) rfl) ?_
  show Go p e below P (s₁.setTop (mkF m 1 #[.val (.ref a1), .val (.int (2 : Int32))] [(.int (2 : Int32))]))
  refine Go.by (fun _ => XS.aloadN X0.here hx rfl (hb hby d_jdk_52_method_15_code_1) rfl rfl) ?_
  show Go p e below P (s₁.setTop (mkF m 2 #[.val (.ref a1), .val (.int (2 : Int32))] [(.ref a1), (.int (2 : Int32))]))
  have av11 := V1
  obtain ⟨cl11, Ar11, -, Sz11, Nn11, -, -⟩ := av11
  refine Go.by (X0.arraylength hx (by rw [e0]; exact Ar11.1) (State.isArrayOf_alike hZ.alike Ar11.2.1) (g := (mkF m 2 #[.val (.ref a1), .val (.int (2 : Int32))] [(.ref a1), (.int (2 : Int32))])) rfl rfl (hb hby d_jdk_52_method_15_code_2)) ?_
  rw [len_of Sz11 Nn11]
  show Go p e below P (s₁.setTop (mkF m 3 #[.val (.ref a1), .val (.int (2 : Int32))] [(.int (2 : Int32)), (.int (2 : Int32))]))
  refine Go.by (fun _ => XS.isub X0.here hx rfl (hb hby d_jdk_52_method_15_code_3) rfl) ?_
  show Go p e below P (s₁.setTop (mkF m 4 #[.val (.ref a1), .val (.int (2 : Int32))] [(.int (0 : Int32))]))
  refine Go.by (fun _ => XS.bipush X0.here hx rfl (hb hby d_jdk_52_method_15_code_4)) ?_
  show Go p e below P (s₁.setTop (mkF m 6 #[.val (.ref a1), .val (.int (2 : Int32))] [(.int (31 : Int32)), (.int (0 : Int32))]))
  refine Go.by (fun _ => XS.iushr X0.here hx rfl (hb hby d_jdk_52_method_15_code_6) rfl) ?_
  show Go p e below P (s₁.setTop (mkF m 7 #[.val (.ref a1), .val (.int (2 : Int32))] [(.int (((0 : Int32).toUInt32 >>> ((31 : Int32) &&& 31).toUInt32).toInt32))]))
  refine Go.by (fun _ => XS.i2b X0.here hx rfl (hb hby d_jdk_52_method_15_code_7) rfl) ?_
  show Go p e below P (s₁.setTop (mkF m 8 #[.val (.ref a1), .val (.int (2 : Int32))] [(.int ((((0 : Int32).toUInt32 >>> ((31 : Int32) &&& 31).toUInt32).toInt32).toInt8.toInt32))]))
  show Go p e below P (s₁.setTop (mkF m 8 #[.val (.ref a1), .val (.int (2 : Int32))] [(.int (0 : Int32))]))
  refine fin X0 (v := some (.int (0 : Int32))) (fun h => by rw [Bd.returns] at h; cases h) (by decide) (by decide) ?_ (fun fs hr => retOut X0 hx Bd.returns rfl (Or.inl ⟨rfl, Or.inr (Or.inr (Or.inl rfl)), _, rfl⟩) (hb hby d_jdk_52_method_15_code_8) hr)
  rw [e0]
  exact ⟨rfl, N0, rfl⟩
def Q_si4_2 (Z : State) (a0_ : Addr) (a1 : Addr) (k1 : ClassId) (x0 : Int32) (x1 : Int32) (cs : Int32) (h0 : Heap) (n0 : Nat) (v : Option Value) (h : Heap) (L : List Loc) : Prop := v = none ∧ Fr n0 L ∧ Keep h0 h [a0_] ∧ Fld Z h a0_ "java/lang/String" "coder" "B" (.int (0 : Int32)) ∧ ∃ d k, h0.size ≤ d ∧ Fld Z h a0_ "java/lang/String" "value" "[B" (.ref d) ∧ Arv Z h d k .byte (2 : Int32) [(.int (x0.toInt8.toInt32)), (.int (x1.toInt8.toInt32))] (.int (0 : Int32))
theorem ef_si4_2 (m : MethodId) (a0_ : Addr) (a1 : Addr) (k1 : ClassId) (x0 : Int32) (x1 : Int32) (cs : Int32) : entryFrame m #[(.ref a0_), (.ref a1), (.int (0 : Int32)), (.int (2 : Int32)), .null] 6 = mkF m 0 #[.val (.ref a0_), .val (.ref a1), .val (.int (0 : Int32)), .val (.int (2 : Int32)), .val .null, .unset] [] := by first | (simp [entryFrame, mkF, argsToLocals, Value.category]; done) | rfl
set_option maxRecDepth 65536 in
set_option maxHeartbeats 40000000 in
theorem rm_si4_2 (l : Launch) (Z : State) (a0 : Array Value) (hw : ∀ d ∈ tables_1, d.before a0 Z = true) (ws : List Jvm.Cond) (a0_ : Addr) (a1 : Addr) (k1 : ClassId) (x0 : Int32) (x1 : Int32) (cs : Int32) (h0 : Heap) (n0 : Nat) (Z0 : n0 ≤ h0.size) (O0 : Old Z n0 h0) (Scs : Sta Z Z.heap "java/lang/String" "COMPACT_STRINGS" "Z" (.int cs)) (hcs : ¬ cs = (0 : Int32)) (E0 : Exa Z h0 a0_ "java/lang/String") (g_a0_ : n0 ≤ a0_) (F0c : Fld Z h0 a0_ "java/lang/String" "coder" "B" (.int (0 : Int32))) (F0v : Fld Z h0 a0_ "java/lang/String" "value" "[B" .null) (V1 : Arv Z h0 a1 k1 .char (2 : Int32) [(.int x0), (.int x1)] (.int (0 : Int32))) (hx0a : ¬ x0 < 0) (hx0b : ¬ (255 : Int32) < x0) (hx1a : ¬ x1 < 0) (hx1b : ¬ (255 : Int32) < x1) :
    MetFree l (⟨"java/lang/String", "<init>", "([CIILjava/lang/Void;)V"⟩ : MethodName) (head1 (Jvm.Cond.code (⟨"java/lang/String", "<init>", "([CIILjava/lang/Void;)V"⟩ : MethodName) jdk_42_method_149_code 6 none :: ws) ({ frames := 2, cells := 1, slots := 2, locals := 50 } : Room)) (fun a U => a = #[(.ref a0_), (.ref a1), (.int (0 : Int32)), (.int (2 : Int32)), .null] ∧ Z.Warmed39 U.vm ∧ U.heap = h0) (fun _ _ _ _ _ => True) (fun _ U o U' => ∃ v L, o = .returned v ∧ Q_si4_2 Z a0_ a1 k1 x0 x1 cs h0 n0 v U'.heap L ∧ FrameEnd U o U' L ({ frames := 2, cells := 1, slots := 2, locals := 50 } : Room).cells ({ frames := 2, cells := 1, slots := 2, locals := 50 } : Room).slots) := by
  refine MetFree.of_bodySF (plainFor_of_name pn_java_lang_String) hisR ?_
  intro p e s m args below meth c s₁ Bd hml0 hP hK
  obtain ⟨rfl, hZ, hh⟩ := hP
  have hx := Bd.exec
  have hby := Bd.bytes
  have hml : c.maxLocals = 6 := hml0
  have hown : s.vm.findClass "java/lang/String" = some m.cls := findClass_of_methodNamed Bd.named
  have hnm := (name_of_methodNamed Bd.named Bd.method).1
  have X0 : Stand p l e ({ frames := 2, cells := 1, slots := 2, locals := 50 } : Room) s m #[(.ref a0_), (.ref a1), (.int (0 : Int32)), (.int (2 : Int32)), .null] below meth c s₁ [] 0 0 := Stand.of_body Bd
  have e0 : s₁.heap = h0 := by rw [← hh, Bd.state]; rfl
  have N0 := Fr.nil n0
  have hlk : meth.locks = false := Bd.notSynchronized
  obtain ⟨P, hP⟩ : ∃ P : Outcome → State → Prop, P = PQ s (Q_si4_2 Z a0_ a1 k1 x0 x1 cs h0 n0) ({ frames := 2, cells := 1, slots := 2, locals := 50 } : Room).cells ({ frames := 2, cells := 1, slots := 2, locals := 50 } : Room).slots := ⟨_, rfl⟩
  have fin : ∀ {T : State} {locs : List Loc} {k n : Nat} {v : Option Value} {S0 : State}, Stand p l e ({ frames := 2, cells := 1, slots := 2, locals := 50 } : Room) s m #[(.ref a0_), (.ref a1), (.int (0 : Int32)), (.int (2 : Int32)), .null] below meth c T locs k n → (meth.sig.returnType = none → v = none) → k ≤ ({ frames := 2, cells := 1, slots := 2, locals := 50 } : Room).cells → n ≤ ({ frames := 2, cells := 1, slots := 2, locals := 50 } : Room).slots → Q_si4_2 Z a0_ a1 k1 x0 x1 cs h0 n0 v T.heap locs → (∀ fs, (∀ (f : JFrame) (acts : List Action), f.method = m → f.locked = none → f.entered = [] → (doReturn e (T.setTop f) acts v).1 = T.setFrames fs) → Steps p.tables e below S0 (T.setFrames fs)) → Go p e below P S0 := fun X hv hk hn hQ hst => hP ▸ Go.fin X hlk hv hk hn hQ hst
  suffices hgo : Go p e below P (s₁.setTop (mkF m 0 #[.val (.ref a0_), .val (.ref a1), .val (.int (0 : Int32)), .val (.int (2 : Int32)), .val .null, .unset] [])) by
    rw [hP] at hgo
    exact Go.by (fun t k => castTop (ef_si4_2 m a0_ a1 k1 x0 x1 cs) k) hgo
  have ne01 : a0_ ≠ a1 := fun q => by obtain ⟨c, Ar, -⟩ := V1; exact ne_arr E0 (tw_16 hw) Ar q
  show Go p e below P (s₁.setTop (mkF m 0 #[.val (.ref a0_), .val (.ref a1), .val (.int (0 : Int32)), .val (.int (2 : Int32)), .val .null, .unset] []))
  refine Go.by (fun _ => XS.aloadN X0.here hx rfl (hb hby d_jdk_42_method_149_code_0) rfl rfl) ?_
  show Go p e below P (s₁.setTop (mkF m 1 #[.val (.ref a0_), .val (.ref a1), .val (.int (0 : Int32)), .val (.int (2 : Int32)), .val .null, .unset] [(.ref a0_)]))
  obtain ⟨T11, X11, e11, st11⟩ := initO X0 hx hZ hown (tw_25 hw) (tw_26 hw) (tw_27 hw) e0 (g := (mkF m 1 #[.val (.ref a0_), .val (.ref a1), .val (.int (0 : Int32)), .val (.int (2 : Int32)), .val .null, .unset] [(.ref a0_)])) rfl (by rw [hml]; rfl) rfl (hb hby d_jdk_42_method_149_code_1) (by decide) (W := 0) (by show 2 * 0 + _ ≤ _; exact Nat.le_of_eq rfl) (by decide)
  refine Go.by st11 ?_
  show Go p e below P (T11.setTop (mkF m 4 #[.val (.ref a0_), .val (.ref a1), .val (.int (0 : Int32)), .val (.int (2 : Int32)), .val .null, .unset] []))
  refine Go.by (fun _ => XS.iloadN X11.here hx rfl (hb hby d_jdk_42_method_149_code_4) rfl) ?_
  show Go p e below P (T11.setTop (mkF m 5 #[.val (.ref a0_), .val (.ref a1), .val (.int (0 : Int32)), .val (.int (2 : Int32)), .val .null, .unset] [(.int (2 : Int32))]))
  refine Go.by (fun _ => XS.ifYes X11.here hx rfl (pc0 := 5) (pc' := 27) rfl (hb hby d_jdk_42_method_149_code_5) rfl (XT.i0_ne_t (by decide : ¬ (2 : Int32) = (0 : Int32))) (by decide) (by decide)) ?_
  show Go p e below P (T11.setTop (mkF m 27 #[.val (.ref a0_), .val (.ref a1), .val (.int (0 : Int32)), .val (.int (2 : Int32)), .val .null, .unset] []))
  obtain ⟨T12, X12, e12, st12⟩ := getS2 X11 hx hZ hown (host := "") (Or.inl (tw_28 hw)) Via.refl e11 (Scs.ext O0.2) (g := (mkF m 27 #[.val (.ref a0_), .val (.ref a1), .val (.int (0 : Int32)), .val (.int (2 : Int32)), .val .null, .unset] [])) rfl (hb hby d_jdk_42_method_149_code_27)
  refine Go.by st12 ?_
  show Go p e below P (T12.setTop (mkF m 30 #[.val (.ref a0_), .val (.ref a1), .val (.int (0 : Int32)), .val (.int (2 : Int32)), .val .null, .unset] [(.int cs)]))
  refine Go.by (fun _ => XS.ifNo X12.here hx rfl (hb hby d_jdk_42_method_149_code_30) rfl (XT.i0_eq_f hcs)) ?_
  show Go p e below P (T12.setTop (mkF m 33 #[.val (.ref a0_), .val (.ref a1), .val (.int (0 : Int32)), .val (.int (2 : Int32)), .val .null, .unset] []))
  refine Go.by (fun _ => XS.aloadN X12.here hx rfl (hb hby d_jdk_42_method_149_code_33) rfl rfl) ?_
  show Go p e below P (T12.setTop (mkF m 34 #[.val (.ref a0_), .val (.ref a1), .val (.int (0 : Int32)), .val (.int (2 : Int32)), .val .null, .unset] [(.ref a1)]))
  refine Go.by (fun _ => XS.iloadN X12.here hx rfl (hb hby d_jdk_42_method_149_code_34) rfl) ?_
  show Go p e below P (T12.setTop (mkF m 35 #[.val (.ref a0_), .val (.ref a1), .val (.int (0 : Int32)), .val (.int (2 : Int32)), .val .null, .unset] [(.int (0 : Int32)), (.ref a1)]))
  refine Go.by (fun _ => XS.iloadN X12.here hx rfl (hb hby d_jdk_42_method_149_code_35) rfl) ?_
  show Go p e below P (T12.setTop (mkF m 36 #[.val (.ref a0_), .val (.ref a1), .val (.int (0 : Int32)), .val (.int (2 : Int32)), .val .null, .unset] [(.int (2 : Int32)), (.int (0 : Int32)), (.ref a1)]))
  obtain ⟨_, _, ⟨T13, L13, k13, n13⟩, -, X13, ⟨Lc13, hQ13, l13, y13, z13⟩, st13⟩ := Jvm.LawKit.callS X12 hx (y := (⟨"java/lang/StringUTF16", "compress", "([CII)[B"⟩ : MethodName)) hown (mvT hZ (tw_29 hw)) (mvT hZ (tw_30 hw)) (mvT hZ (tw_31 hw)) (mvT hZ (tw_32 hw)) (by decide) (backOf (W := 0) (rm_cmp3_2 l Z a0 hw [] a1 k1 x0 x1 h0 n0 Z0 V1 hx0a hx0b hx1a hx1b) hZ (tw_32 hw) (tw_31 hw) (by decide) (by decide)) (g := (mkF m 36 #[.val (.ref a0_), .val (.ref a1), .val (.int (0 : Int32)), .val (.int (2 : Int32)), .val .null, .unset] [(.int (2 : Int32)), (.int (0 : Int32)), (.ref a1)])) rfl (by rw [hml]; rfl) (argsL := [(.ref a1), (.int (0 : Int32)), (.int (2 : Int32))]) (rest := []) (lenOf pd___CII__B rfl) rfl (by show 2 * 0 + _ ≤ _; exact Nat.le_of_eq rfl) (hb hby d_jdk_42_method_149_code_36) (fun _ _ => ⟨rfl, e12, (by decide : 0 + 1 ≤ _), (by decide : 0 + 2 ≤ _)⟩)
  dsimp only [Pt.U, Pt.locs, Pt.cells, Pt.slots] at X13 l13 y13 z13 st13 hQ13
  subst l13 y13 z13
  obtain ⟨d13, kd13, rfl, N13q, K13, z13, V13⟩ := hQ13
  have N13 := Fr.app N0 N13q
  refine Go.by (fun t k => st13 t k) ?_
  have f13_0 : n0 ≤ T13.heap.size := (Nat.le_trans Z0 K13.1)
  have f13_1 : Keep h0 T13.heap [a0_] := (Keep.trans (Keep.refl h0 [a0_]) K13 all0)
  have f13_2 : Old Z n0 T13.heap := (Old.keep O0 K13 all0)
  have f13_3 : Exa Z T13.heap a0_ "java/lang/String" := (Exa.keep E0 K13)
  have f13_4 : Fld Z T13.heap a0_ "java/lang/String" "coder" "B" (.int (0 : Int32)) := (Fld.keep F0c K13 nin0)
  have f13_5 : Fld Z T13.heap a0_ "java/lang/String" "value" "[B" .null := (Fld.keep F0v K13 nin0)
  have f13_6 : Arv Z T13.heap a1 k1 .char (2 : Int32) [(.int x0), (.int x1)] (.int (0 : Int32)) := (Arv.keep V1 K13 nin0)
  have g_d13 : n0 ≤ d13 := Nat.le_trans Z0 z13
  have sz_d13 : h0.size ≤ d13 := z13
  have ne0d13 : a0_ ≠ d13 := Nat.ne_of_lt (Nat.lt_of_lt_of_le E0.lt z13)
  show Go p e below P (T13.setTop (mkF m 39 #[.val (.ref a0_), .val (.ref a1), .val (.int (0 : Int32)), .val (.int (2 : Int32)), .val .null, .unset] [(.ref d13)]))
  refine Go.by (fun _ => XS.astore X13.here hx rfl (hb hby d_jdk_42_method_149_code_39) rfl rfl (l' := #[.val (.ref a0_), .val (.ref a1), .val (.int (0 : Int32)), .val (.int (2 : Int32)), .val .null, .val (.ref d13)]) rfl) ?_
  show Go p e below P (T13.setTop (mkF m 41 #[.val (.ref a0_), .val (.ref a1), .val (.int (0 : Int32)), .val (.int (2 : Int32)), .val .null, .val (.ref d13)] []))
  refine Go.by (fun _ => XS.aloadN X13.here hx rfl (hb hby d_jdk_42_method_149_code_41) rfl rfl) ?_
  show Go p e below P (T13.setTop (mkF m 42 #[.val (.ref a0_), .val (.ref a1), .val (.int (0 : Int32)), .val (.int (2 : Int32)), .val .null, .val (.ref d13)] [(.ref a0_)]))
  refine Go.by (fun _ => XS.aload X13.here hx rfl (hb hby d_jdk_42_method_149_code_42) rfl rfl) ?_
  show Go p e below P (T13.setTop (mkF m 44 #[.val (.ref a0_), .val (.ref a1), .val (.int (0 : Int32)), .val (.int (2 : Int32)), .val .null, .val (.ref d13)] [(.ref d13), (.ref a0_)]))
  refine Go.by (fun _ => XS.iloadN X13.here hx rfl (hb hby d_jdk_42_method_149_code_44) rfl) ?_
  show Go p e below P (T13.setTop (mkF m 45 #[.val (.ref a0_), .val (.ref a1), .val (.int (0 : Int32)), .val (.int (2 : Int32)), .val .null, .val (.ref d13)] [(.int (2 : Int32)), (.ref d13), (.ref a0_)]))
  obtain ⟨_, _, ⟨T14, L14, k14, n14⟩, -, X14, ⟨Lc14, hQ14, l14, y14, z14⟩, st14⟩ := Jvm.LawKit.callS X13 hx (y := (⟨"java/lang/StringUTF16", "coderFromArrayLen", "([BI)B"⟩ : MethodName)) hown (mvT hZ (tw_37 hw)) (mvT hZ (tw_38 hw)) (mvT hZ (tw_31 hw)) (mvT hZ (tw_39 hw)) (by decide) (backOf (W := 1) (rm_cfal_2 l Z a0 hw [] d13 kd13 x0 x1 T13.heap n0 f13_0 V13) hZ (tw_39 hw) (tw_31 hw) (by decide) (by decide)) (g := (mkF m 45 #[.val (.ref a0_), .val (.ref a1), .val (.int (0 : Int32)), .val (.int (2 : Int32)), .val .null, .val (.ref d13)] [(.int (2 : Int32)), (.ref d13), (.ref a0_)])) rfl (by rw [hml]; rfl) (argsL := [(.ref d13), (.int (2 : Int32))]) (rest := [(.ref a0_)]) (lenOf pd___BI_B rfl) rfl (by show 2 * 0 + _ ≤ _; exact Nat.le_of_eq rfl) (hb hby d_jdk_42_method_149_code_45) (fun _ _ => ⟨rfl, rfl, (by decide : 1 + 0 ≤ _), (by decide : 2 + 0 ≤ _)⟩)
  dsimp only [Pt.U, Pt.locs, Pt.cells, Pt.slots] at X14 l14 y14 z14 st14 hQ14
  subst l14 y14 z14
  obtain ⟨rfl, N14q, q14⟩ := hQ14
  have N14 := Fr.app N13 N14q
  refine Go.by (fun t k => st14 t k) ?_
  show Go p e below P (T14.setTop (mkF m 48 #[.val (.ref a0_), .val (.ref a1), .val (.int (0 : Int32)), .val (.int (2 : Int32)), .val .null, .val (.ref d13)] [(.int (0 : Int32)), (.ref a0_)]))
  obtain ⟨T15, h15, X15, e15, W15, st15⟩ := putFN X14 hx hZ hown (tw_40 hw) Via.refl q14 f13_4 f13_3 (Or.inr ⟨(tw_41 hw), rfl, hnm⟩) (tw_16 hw) (ty := .byte) (v' := (.int (0 : Int32))) (by decide) rfl rfl (g := (mkF m 48 #[.val (.ref a0_), .val (.ref a1), .val (.int (0 : Int32)), .val (.int (2 : Int32)), .val .null, .val (.ref d13)] [(.int (0 : Int32)), (.ref a0_)])) rfl rfl (hb hby d_jdk_42_method_149_code_48)
  refine Go.by st15 ?_
  have N15 := Fr.snoc X15 N14 g_a0_
  have f15_0 : n0 ≤ h15.size := (Nat.le_trans f13_0 (Keep.of_wr W15).1)
  have f15_1 : Keep h0 h15 [a0_] := (Keep.wr f13_1 W15 (Or.inl (List.mem_of_getElem? (i := 0) rfl)))
  have f15_2 : Old Z n0 h15 := (Old.wr f13_2 W15 g_a0_)
  have f15_3 : Exa Z h15 a0_ "java/lang/String" := (Exa.wr W15 f13_3)
  have f15_4 : Fld Z h15 a0_ "java/lang/String" "coder" "B" (.int (0 : Int32)) := (Fld.same W15 f13_4)
  have f15_5 : Fld Z h15 a0_ "java/lang/String" "value" "[B" .null := (Fld.other W15 f13_5 (Or.inr (slot_ne (Or.inr (tw_43 hw)) (Or.inr (tw_41 hw)) (by decide) (t := (.array .byte)) (t' := .byte) (by decide) (by decide))))
  have f15_6 : Arv Z h15 a1 k1 .char (2 : Int32) [(.int x0), (.int x1)] (.int (0 : Int32)) := (Arv.other f13_6 W15 (Ne.symm ne01))
  have f15_7 : Arv Z h15 d13 kd13 .byte (2 : Int32) [(.int (x0.toInt8.toInt32)), (.int (x1.toInt8.toInt32))] (.int (0 : Int32)) := (Arv.other V13 W15 (Ne.symm ne0d13))
  show Go p e below P (T15.setTop (mkF m 51 #[.val (.ref a0_), .val (.ref a1), .val (.int (0 : Int32)), .val (.int (2 : Int32)), .val .null, .val (.ref d13)] []))
  refine Go.by (fun _ => XS.aloadN X15.here hx rfl (hb hby d_jdk_42_method_149_code_51) rfl rfl) ?_
  show Go p e below P (T15.setTop (mkF m 52 #[.val (.ref a0_), .val (.ref a1), .val (.int (0 : Int32)), .val (.int (2 : Int32)), .val .null, .val (.ref d13)] [(.ref a0_)]))
  refine Go.by (fun _ => XS.aload X15.here hx rfl (hb hby d_jdk_42_method_149_code_52) rfl rfl) ?_
  show Go p e below P (T15.setTop (mkF m 54 #[.val (.ref a0_), .val (.ref a1), .val (.int (0 : Int32)), .val (.int (2 : Int32)), .val .null, .val (.ref d13)] [(.ref d13), (.ref a0_)]))
  obtain ⟨T16, h16, X16, e16, W16, st16⟩ := putF X15 hx hZ hown (host := "") (Or.inl (tw_42 hw)) Via.refl e15 f15_5 f15_3 (Or.inr ⟨(tw_43 hw), rfl, hnm⟩) (tw_16 hw) (ty := (.array .byte)) (by decide) rfl rfl (g := (mkF m 54 #[.val (.ref a0_), .val (.ref a1), .val (.int (0 : Int32)), .val (.int (2 : Int32)), .val .null, .val (.ref d13)] [(.ref d13), (.ref a0_)])) rfl rfl (hb hby d_jdk_42_method_149_code_54)
  refine Go.by st16 ?_
  have N16 := Fr.snoc X16 N15 g_a0_
  have f16_0 : n0 ≤ h16.size := (Nat.le_trans f15_0 (Keep.of_wr W16).1)
  have f16_1 : Keep h0 h16 [a0_] := (Keep.wr f15_1 W16 (Or.inl (List.mem_of_getElem? (i := 0) rfl)))
  have f16_2 : Old Z n0 h16 := (Old.wr f15_2 W16 g_a0_)
  have f16_3 : Exa Z h16 a0_ "java/lang/String" := (Exa.wr W16 f15_3)
  have f16_4 : Fld Z h16 a0_ "java/lang/String" "coder" "B" (.int (0 : Int32)) := (Fld.other W16 f15_4 (Or.inr (slot_ne (Or.inr (tw_41 hw)) (Or.inr (tw_43 hw)) (by decide) (t := .byte) (t' := (.array .byte)) (by decide) (by decide))))
  have f16_5 : Fld Z h16 a0_ "java/lang/String" "value" "[B" (.ref d13) := (Fld.same W16 f15_5)
  have f16_6 : Arv Z h16 a1 k1 .char (2 : Int32) [(.int x0), (.int x1)] (.int (0 : Int32)) := (Arv.other f15_6 W16 (Ne.symm ne01))
  have f16_7 : Arv Z h16 d13 kd13 .byte (2 : Int32) [(.int (x0.toInt8.toInt32)), (.int (x1.toInt8.toInt32))] (.int (0 : Int32)) := (Arv.other f15_7 W16 (Ne.symm ne0d13))
  show Go p e below P (T16.setTop (mkF m 57 #[.val (.ref a0_), .val (.ref a1), .val (.int (0 : Int32)), .val (.int (2 : Int32)), .val .null, .val (.ref d13)] []))
  refine fin X16 (v := none) (fun _ => rfl) (by decide) (by decide) ?_ (fun fs hr => X16.returnOut hx Bd.returns (hb hby d_jdk_42_method_149_code_57) hr)
  rw [e16]
  exact ⟨rfl, N16, f16_1, f16_4, d13, kd13, sz_d13, f16_5, f16_7⟩
def Q_si1_2 (Z : State) (a0_ : Addr) (a1 : Addr) (k1 : ClassId) (x0 : Int32) (x1 : Int32) (cs : Int32) (h0 : Heap) (n0 : Nat) (v : Option Value) (h : Heap) (L : List Loc) : Prop := v = none ∧ Fr n0 L ∧ Keep h0 h [a0_] ∧ Fld Z h a0_ "java/lang/String" "coder" "B" (.int (0 : Int32)) ∧ ∃ d k, h0.size ≤ d ∧ Fld Z h a0_ "java/lang/String" "value" "[B" (.ref d) ∧ Arv Z h d k .byte (2 : Int32) [(.int (x0.toInt8.toInt32)), (.int (x1.toInt8.toInt32))] (.int (0 : Int32))
theorem ef_si1_2 (m : MethodId) (a0_ : Addr) (a1 : Addr) (k1 : ClassId) (x0 : Int32) (x1 : Int32) (cs : Int32) : entryFrame m #[(.ref a0_), (.ref a1)] 2 = mkF m 0 #[.val (.ref a0_), .val (.ref a1)] [] := by first | (simp [entryFrame, mkF, argsToLocals, Value.category]; done) | rfl
set_option maxRecDepth 65536 in
set_option maxHeartbeats 40000000 in
theorem rm_si1_2 (l : Launch) (Z : State) (a0 : Array Value) (hw : ∀ d ∈ tables_1, d.before a0 Z = true) (ws : List Jvm.Cond) (a0_ : Addr) (a1 : Addr) (k1 : ClassId) (x0 : Int32) (x1 : Int32) (cs : Int32) (h0 : Heap) (n0 : Nat) (Z0 : n0 ≤ h0.size) (O0 : Old Z n0 h0) (Scs : Sta Z Z.heap "java/lang/String" "COMPACT_STRINGS" "Z" (.int cs)) (hcs : ¬ cs = (0 : Int32)) (E0 : Exa Z h0 a0_ "java/lang/String") (g_a0_ : n0 ≤ a0_) (F0c : Fld Z h0 a0_ "java/lang/String" "coder" "B" (.int (0 : Int32))) (F0v : Fld Z h0 a0_ "java/lang/String" "value" "[B" .null) (V1 : Arv Z h0 a1 k1 .char (2 : Int32) [(.int x0), (.int x1)] (.int (0 : Int32))) (hx0a : ¬ x0 < 0) (hx0b : ¬ (255 : Int32) < x0) (hx1a : ¬ x1 < 0) (hx1b : ¬ (255 : Int32) < x1) :
    MetFree l (⟨"java/lang/String", "<init>", "([C)V"⟩ : MethodName) (head1 (Jvm.Cond.code (⟨"java/lang/String", "<init>", "([C)V"⟩ : MethodName) jdk_42_method_3_code 2 none :: ws) ({ frames := 3, cells := 1, slots := 2, locals := 75 } : Room)) (fun a U => a = #[(.ref a0_), (.ref a1)] ∧ Z.Warmed39 U.vm ∧ U.heap = h0) (fun _ _ _ _ _ => True) (fun _ U o U' => ∃ v L, o = .returned v ∧ Q_si1_2 Z a0_ a1 k1 x0 x1 cs h0 n0 v U'.heap L ∧ FrameEnd U o U' L ({ frames := 3, cells := 1, slots := 2, locals := 75 } : Room).cells ({ frames := 3, cells := 1, slots := 2, locals := 75 } : Room).slots) := by
  refine MetFree.of_bodySF (plainFor_of_name pn_java_lang_String) hisR ?_
  intro p e s m args below meth c s₁ Bd hml0 hP hK
  obtain ⟨rfl, hZ, hh⟩ := hP
  have hx := Bd.exec
  have hby := Bd.bytes
  have hml : c.maxLocals = 2 := hml0
  have hown : s.vm.findClass "java/lang/String" = some m.cls := findClass_of_methodNamed Bd.named
  have hnm := (name_of_methodNamed Bd.named Bd.method).1
  have X0 : Stand p l e ({ frames := 3, cells := 1, slots := 2, locals := 75 } : Room) s m #[(.ref a0_), (.ref a1)] below meth c s₁ [] 0 0 := Stand.of_body Bd
  have e0 : s₁.heap = h0 := by rw [← hh, Bd.state]; rfl
  have N0 := Fr.nil n0
  have hlk : meth.locks = false := Bd.notSynchronized
  obtain ⟨P, hP⟩ : ∃ P : Outcome → State → Prop, P = PQ s (Q_si1_2 Z a0_ a1 k1 x0 x1 cs h0 n0) ({ frames := 3, cells := 1, slots := 2, locals := 75 } : Room).cells ({ frames := 3, cells := 1, slots := 2, locals := 75 } : Room).slots := ⟨_, rfl⟩
  have fin : ∀ {T : State} {locs : List Loc} {k n : Nat} {v : Option Value} {S0 : State}, Stand p l e ({ frames := 3, cells := 1, slots := 2, locals := 75 } : Room) s m #[(.ref a0_), (.ref a1)] below meth c T locs k n → (meth.sig.returnType = none → v = none) → k ≤ ({ frames := 3, cells := 1, slots := 2, locals := 75 } : Room).cells → n ≤ ({ frames := 3, cells := 1, slots := 2, locals := 75 } : Room).slots → Q_si1_2 Z a0_ a1 k1 x0 x1 cs h0 n0 v T.heap locs → (∀ fs, (∀ (f : JFrame) (acts : List Action), f.method = m → f.locked = none → f.entered = [] → (doReturn e (T.setTop f) acts v).1 = T.setFrames fs) → Steps p.tables e below S0 (T.setFrames fs)) → Go p e below P S0 := fun X hv hk hn hQ hst => hP ▸ Go.fin X hlk hv hk hn hQ hst
  suffices hgo : Go p e below P (s₁.setTop (mkF m 0 #[.val (.ref a0_), .val (.ref a1)] [])) by
    rw [hP] at hgo
    exact Go.by (fun t k => castTop (ef_si1_2 m a0_ a1 k1 x0 x1 cs) k) hgo
  have ne01 : a0_ ≠ a1 := fun q => by obtain ⟨c, Ar, -⟩ := V1; exact ne_arr E0 (tw_16 hw) Ar q
  show Go p e below P (s₁.setTop (mkF m 0 #[.val (.ref a0_), .val (.ref a1)] []))
  refine Go.by (fun _ => XS.aloadN X0.here hx rfl (hb hby d_jdk_42_method_3_code_0) rfl rfl) ?_
  show Go p e below P (s₁.setTop (mkF m 1 #[.val (.ref a0_), .val (.ref a1)] [(.ref a0_)]))
  refine Go.by (fun _ => XS.aloadN X0.here hx rfl (hb hby d_jdk_42_method_3_code_1) rfl rfl) ?_
  show Go p e below P (s₁.setTop (mkF m 2 #[.val (.ref a0_), .val (.ref a1)] [(.ref a1), (.ref a0_)]))
  refine Go.by (fun _ => XS.iconst X0.here hx rfl (hb hby d_jdk_42_method_3_code_2)) ?_
  show Go p e below P (s₁.setTop (mkF m 3 #[.val (.ref a0_), .val (.ref a1)] [(.int (0 : Int32)), (.ref a1), (.ref a0_)]))
  refine Go.by (fun _ => XS.aloadN X0.here hx rfl (hb hby d_jdk_42_method_3_code_3) rfl rfl) ?_
  show Go p e below P (s₁.setTop (mkF m 4 #[.val (.ref a0_), .val (.ref a1)] [(.ref a1), (.int (0 : Int32)), (.ref a1), (.ref a0_)]))
  have av3 := V1
  obtain ⟨cl3, Ar3, -, Sz3, Nn3, -, -⟩ := av3
  refine Go.by (X0.arraylength hx (by rw [e0]; exact Ar3.1) (State.isArrayOf_alike hZ.alike Ar3.2.1) (g := (mkF m 4 #[.val (.ref a0_), .val (.ref a1)] [(.ref a1), (.int (0 : Int32)), (.ref a1), (.ref a0_)])) rfl rfl (hb hby d_jdk_42_method_3_code_4)) ?_
  rw [len_of Sz3 Nn3]
  show Go p e below P (s₁.setTop (mkF m 5 #[.val (.ref a0_), .val (.ref a1)] [(.int (2 : Int32)), (.int (0 : Int32)), (.ref a1), (.ref a0_)]))
  refine Go.by (fun _ => XS.aconstNull X0.here hx rfl (hb hby d_jdk_42_method_3_code_5)) ?_
  show Go p e below P (s₁.setTop (mkF m 6 #[.val (.ref a0_), .val (.ref a1)] [.null, (.int (2 : Int32)), (.int (0 : Int32)), (.ref a1), (.ref a0_)]))
  obtain ⟨_, _, ⟨T4, L4, k4, n4⟩, -, X4, ⟨Lc4, hQ4, l4, y4, z4⟩, st4⟩ := X0.specialBack hx (y := (⟨"java/lang/String", "<init>", "([CIILjava/lang/Void;)V"⟩ : MethodName)) rfl hown (mvT hZ (tw_21 hw)) (mvT hZ (tw_22 hw)) (mvT hZ (tw_24 hw)) (by decide) (backOf (W := 0) (rm_si4_2 l Z a0 hw [] a0_ a1 k1 x0 x1 cs h0 n0 Z0 O0 Scs hcs E0 g_a0_ F0c F0v V1 hx0a hx0b hx1a hx1b) hZ (tw_24 hw) (tw_17 hw) (by decide) (by decide)) (g := (mkF m 6 #[.val (.ref a0_), .val (.ref a1)] [.null, (.int (2 : Int32)), (.int (0 : Int32)), (.ref a1), (.ref a0_)])) rfl (by rw [hml]; rfl) (Steps.refl _) (a := a0_) (argsL := [(.ref a1), (.int (0 : Int32)), (.int (2 : Int32)), .null]) (rest := []) (lenOf pd___CIILjava_lang_Void__V rfl) rfl (by show 2 * 0 + _ ≤ _; exact Nat.le_of_eq rfl) (hb hby d_jdk_42_method_3_code_6) (fun _ _ => ⟨rfl, e0, (by decide : 0 + 1 ≤ _), (by decide : 0 + 2 ≤ _)⟩)
  dsimp only [Pt.U, Pt.locs, Pt.cells, Pt.slots] at X4 l4 y4 z4 st4 hQ4
  subst l4 y4 z4
  obtain ⟨rfl, N4q, K4, Gc4, d4, kd4, z4, Gv4, V4⟩ := hQ4
  have N4 := Fr.app N0 N4q
  refine Go.by (fun t k => st4.trans k) ?_
  have f4_0 : n0 ≤ T4.heap.size := (Nat.le_trans Z0 K4.1)
  have f4_1 : Keep h0 T4.heap [a0_] := (Keep.trans (Keep.refl h0 [a0_]) K4 (allS (Or.inl (List.mem_of_getElem? (i := 0) rfl)) all0))
  have f4_2 : Old Z n0 T4.heap := (Old.keep O0 K4 (allS g_a0_ all0))
  have f4_3 : Exa Z T4.heap a0_ "java/lang/String" := (Exa.keep E0 K4)
  have f4_4 : Arv Z T4.heap a1 k1 .char (2 : Int32) [(.int x0), (.int x1)] (.int (0 : Int32)) := (Arv.keep V1 K4 (ninS (Ne.symm ne01) nin0))
  show Go p e below P (T4.setTop (mkF m 9 #[.val (.ref a0_), .val (.ref a1)] []))
  refine fin X4 (v := none) (fun _ => rfl) (by decide) (by decide) ?_ (fun fs hr => X4.returnOut hx Bd.returns (hb hby d_jdk_42_method_3_code_9) hr)
  exact ⟨rfl, N4, f4_1, Gc4, d4, kd4, z4, Gv4, V4⟩
def Q_canEncC (Z : State) (x0 : Int32) (h0 : Heap) (n0 : Nat) (v : Option Value) (h : Heap) (L : List Loc) : Prop := v = some (.int (1 : Int32)) ∧ Fr n0 L ∧ h = h0
theorem ef_canEncC (m : MethodId) (x0 : Int32) : entryFrame m #[(.int x0)] 1 = mkF m 0 #[.val (.int x0)] [] := by first | (simp [entryFrame, mkF, argsToLocals, Value.category]; done) | rfl
set_option maxRecDepth 65536 in
set_option maxHeartbeats 40000000 in
theorem rm_canEncC (l : Launch) (Z : State) (a0 : Array Value) (hw : ∀ d ∈ tables_1, d.before a0 Z = true) (ws : List Jvm.Cond) (x0 : Int32) (h0 : Heap) (n0 : Nat) (Z0 : n0 ≤ h0.size) (hxb : ¬ (255 : Int32) < x0) :
    MetFree l (⟨"java/lang/StringLatin1", "canEncode", "(C)Z"⟩ : MethodName) (head1 (Jvm.Cond.code (⟨"java/lang/StringLatin1", "canEncode", "(C)Z"⟩ : MethodName) jdk_43_method_3_code 1 (some .boolean) :: ws) ({ frames := 0, cells := 0, slots := 0, locals := 0 } : Room)) (fun a U => a = #[(.int x0)] ∧ Z.Warmed39 U.vm ∧ U.heap = h0) (fun _ _ _ _ _ => True) (fun _ U o U' => ∃ v L, o = .returned v ∧ Q_canEncC Z x0 h0 n0 v U'.heap L ∧ FrameEnd U o U' L ({ frames := 0, cells := 0, slots := 0, locals := 0 } : Room).cells ({ frames := 0, cells := 0, slots := 0, locals := 0 } : Room).slots) := by
  refine MetFree.of_bodySF (plainFor_of_name pn_java_lang_StringLatin1) hisR ?_
  intro p e s m args below meth c s₁ Bd hml0 hP hK
  obtain ⟨rfl, hZ, hh⟩ := hP
  have hx := Bd.exec
  have hby := Bd.bytes
  have hml : c.maxLocals = 1 := hml0
  have hown : s.vm.findClass "java/lang/StringLatin1" = some m.cls := findClass_of_methodNamed Bd.named
  have hnm := (name_of_methodNamed Bd.named Bd.method).1
  have X0 : Stand p l e ({ frames := 0, cells := 0, slots := 0, locals := 0 } : Room) s m #[(.int x0)] below meth c s₁ [] 0 0 := Stand.of_body Bd
  have e0 : s₁.heap = h0 := by rw [← hh, Bd.state]; rfl
  have N0 := Fr.nil n0
  have hlk : meth.locks = false := Bd.notSynchronized
  obtain ⟨P, hP⟩ : ∃ P : Outcome → State → Prop, P = PQ s (Q_canEncC Z x0 h0 n0) ({ frames := 0, cells := 0, slots := 0, locals := 0 } : Room).cells ({ frames := 0, cells := 0, slots := 0, locals := 0 } : Room).slots := ⟨_, rfl⟩
  have fin : ∀ {T : State} {locs : List Loc} {k n : Nat} {v : Option Value} {S0 : State}, Stand p l e ({ frames := 0, cells := 0, slots := 0, locals := 0 } : Room) s m #[(.int x0)] below meth c T locs k n → (meth.sig.returnType = none → v = none) → k ≤ ({ frames := 0, cells := 0, slots := 0, locals := 0 } : Room).cells → n ≤ ({ frames := 0, cells := 0, slots := 0, locals := 0 } : Room).slots → Q_canEncC Z x0 h0 n0 v T.heap locs → (∀ fs, (∀ (f : JFrame) (acts : List Action), f.method = m → f.locked = none → f.entered = [] → (doReturn e (T.setTop f) acts v).1 = T.setFrames fs) → Steps p.tables e below S0 (T.setFrames fs)) → Go p e below P S0 := fun X hv hk hn hQ hst => hP ▸ Go.fin X hlk hv hk hn hQ hst
  suffices hgo : Go p e below P (s₁.setTop (mkF m 0 #[.val (.int x0)] [])) by
    rw [hP] at hgo
    exact Go.by (fun t k => castTop (ef_canEncC m x0) k) hgo
  show Go p e below P (s₁.setTop (mkF m 0 #[.val (.int x0)] []))
  refine Go.by (fun _ => XS.iloadN X0.here hx rfl (hb hby d_jdk_43_method_3_code_0) rfl) ?_
  show Go p e below P (s₁.setTop (mkF m 1 #[.val (.int x0)] [(.int x0)]))
  refine Go.by (fun _ => XS.sipush X0.here hx rfl (hb hby d_jdk_43_method_3_code_1)) ?_
  show Go p e below P (s₁.setTop (mkF m 4 #[.val (.int x0)] [(.int (255 : Int32)), (.int x0)]))
  refine Go.by (fun _ => XS.icmpNo X0.here hx rfl (hb hby d_jdk_43_method_3_code_4) rfl (XT.ii_gt_f hxb)) ?_
  show Go p e below P (s₁.setTop (mkF m 7 #[.val (.int x0)] []))
  refine Go.by (fun _ => XS.iconst X0.here hx rfl (hb hby d_jdk_43_method_3_code_7)) ?_
  show Go p e below P (s₁.setTop (mkF m 8 #[.val (.int x0)] [(.int (1 : Int32))]))
  refine Go.by (fun _ => XS.goto X0.here hx rfl (pc0 := 8) (pc' := 12) rfl (hb hby d_jdk_43_method_3_code_8) (by decide) (by decide)) ?_
  show Go p e below P (s₁.setTop (mkF m 12 #[.val (.int x0)] [(.int (1 : Int32))]))
  refine fin X0 (v := some (.int (1 : Int32))) (fun h => by rw [Bd.returns] at h; cases h) (by decide) (by decide) ?_ (fun fs hr => retOut X0 hx Bd.returns rfl (Or.inl ⟨rfl, Or.inr (Or.inl rfl), _, rfl⟩) (hb hby d_jdk_43_method_3_code_12) hr)
  rw [e0]
  exact ⟨rfl, N0, rfl⟩
def Q_toBytes (Z : State) (x0 : Int32) (h0 : Heap) (n0 : Nat) (v : Option Value) (h : Heap) (L : List Loc) : Prop := ∃ d k, v = some (.ref d) ∧ Fr n0 L ∧ Keep h0 h [] ∧ h0.size ≤ d ∧ Arv Z h d k .byte (1 : Int32) [(.int (x0.toInt8.toInt32))] (.int (0 : Int32))
theorem ef_toBytes (m : MethodId) (x0 : Int32) : entryFrame m #[(.int x0)] 1 = mkF m 0 #[.val (.int x0)] [] := by first | (simp [entryFrame, mkF, argsToLocals, Value.category]; done) | rfl
set_option maxRecDepth 65536 in
set_option maxHeartbeats 40000000 in
theorem rm_toBytes (l : Launch) (Z : State) (a0 : Array Value) (hw : ∀ d ∈ tables_1, d.before a0 Z = true) (ws : List Jvm.Cond) (x0 : Int32) (h0 : Heap) (n0 : Nat) (Z0 : n0 ≤ h0.size) :
    MetFree l (⟨"java/lang/StringLatin1", "toBytes", "(C)[B"⟩ : MethodName) (head1 (Jvm.Cond.code (⟨"java/lang/StringLatin1", "toBytes", "(C)[B"⟩ : MethodName) jdk_43_method_46_code 1 (some (.array .byte)) :: ws) ({ frames := 0, cells := 1, slots := 1, locals := 0 } : Room)) (fun a U => a = #[(.int x0)] ∧ Z.Warmed39 U.vm ∧ U.heap = h0) (fun _ _ _ _ _ => True) (fun _ U o U' => ∃ v L, o = .returned v ∧ Q_toBytes Z x0 h0 n0 v U'.heap L ∧ FrameEnd U o U' L ({ frames := 0, cells := 1, slots := 1, locals := 0 } : Room).cells ({ frames := 0, cells := 1, slots := 1, locals := 0 } : Room).slots) := by
  refine MetFree.of_bodySF (plainFor_of_name pn_java_lang_StringLatin1) hisR ?_
  intro p e s m args below meth c s₁ Bd hml0 hP hK
  obtain ⟨rfl, hZ, hh⟩ := hP
  have hx := Bd.exec
  have hby := Bd.bytes
  have hml : c.maxLocals = 1 := hml0
  have hown : s.vm.findClass "java/lang/StringLatin1" = some m.cls := findClass_of_methodNamed Bd.named
  have hnm := (name_of_methodNamed Bd.named Bd.method).1
  have X0 : Stand p l e ({ frames := 0, cells := 1, slots := 1, locals := 0 } : Room) s m #[(.int x0)] below meth c s₁ [] 0 0 := Stand.of_body Bd
  have e0 : s₁.heap = h0 := by rw [← hh, Bd.state]; rfl
  have N0 := Fr.nil n0
  have hlk : meth.locks = false := Bd.notSynchronized
  obtain ⟨P, hP⟩ : ∃ P : Outcome → State → Prop, P = PQ s (Q_toBytes Z x0 h0 n0) ({ frames := 0, cells := 1, slots := 1, locals := 0 } : Room).cells ({ frames := 0, cells := 1, slots := 1, locals := 0 } : Room).slots := ⟨_, rfl⟩
  have fin : ∀ {T : State} {locs : List Loc} {k n : Nat} {v : Option Value} {S0 : State}, Stand p l e ({ frames := 0, cells := 1, slots := 1, locals := 0 } : Room) s m #[(.int x0)] below meth c T locs k n → (meth.sig.returnType = none → v = none) → k ≤ ({ frames := 0, cells := 1, slots := 1, locals := 0 } : Room).cells → n ≤ ({ frames := 0, cells := 1, slots := 1, locals := 0 } : Room).slots → Q_toBytes Z x0 h0 n0 v T.heap locs → (∀ fs, (∀ (f : JFrame) (acts : List Action), f.method = m → f.locked = none → f.entered = [] → (doReturn e (T.setTop f) acts v).1 = T.setFrames fs) → Steps p.tables e below S0 (T.setFrames fs)) → Go p e below P S0 := fun X hv hk hn hQ hst => hP ▸ Go.fin X hlk hv hk hn hQ hst
  suffices hgo : Go p e below P (s₁.setTop (mkF m 0 #[.val (.int x0)] [])) by
    rw [hP] at hgo
    exact Go.by (fun t k => castTop (ef_toBytes m x0) k) hgo
  show Go p e below P (s₁.setTop (mkF m 0 #[.val (.int x0)] []))
  refine Go.by (fun _ => XS.iconst X0.here hx rfl (hb hby d_jdk_43_method_46_code_0)) ?_
  show Go p e below P (s₁.setTop (mkF m 1 #[.val (.int x0)] [(.int (1 : Int32))]))
  obtain ⟨T11, h11, k11, X11, e11, E11, A11, st11⟩ := newP X0 hx hZ (aty := .byte) (tw_33 hw) e0 (g := (mkF m 1 #[.val (.int x0)] [(.int (1 : Int32))])) rfl (hb hby d_jdk_43_method_46_code_1) rfl (by decide) (cap := 1) (by decide) (by decide) (by decide) (by decide)
  obtain ⟨b11, g11⟩ : ∃ z, z = h0.size := ⟨_, rfl⟩
  rw [← g11] at A11 st11
  have g_b11 : n0 ≤ b11 := Nat.le_trans Z0 (Nat.le_of_eq g11.symm)
  have sz_b11 : h0.size ≤ b11 := Nat.le_trans (Keep.refl h0 []).1 (Nat.le_of_eq g11.symm)
  have f11_0 : n0 ≤ h11.size := (Nat.le_trans Z0 E11.1)
  have f11_1 : Keep h0 h11 [] := (Keep.ext (Keep.refl h0 []) E11)
  refine Go.by st11 ?_
  have V11 : Arv Z h11 b11 k11 .byte (1 : Int32) [(.int (0 : Int32))] (.int (0 : Int32)) := (Arv.new A11 (by decide)).pad (pad_rep [] (.int (0 : Int32)) 1)
  show Go p e below P (T11.setTop (mkF m 3 #[.val (.int x0)] [(.ref b11)]))
  refine Go.by (fun _ => XS.dup X11.here hx rfl (hb hby d_jdk_43_method_46_code_3) rfl rfl) ?_
  show Go p e below P (T11.setTop (mkF m 4 #[.val (.int x0)] [(.ref b11), (.ref b11)]))
  refine Go.by (fun _ => XS.iconst X11.here hx rfl (hb hby d_jdk_43_method_46_code_4)) ?_
  show Go p e below P (T11.setTop (mkF m 5 #[.val (.int x0)] [(.int (0 : Int32)), (.ref b11), (.ref b11)]))
  refine Go.by (fun _ => XS.iloadN X11.here hx rfl (hb hby d_jdk_43_method_46_code_5) rfl) ?_
  show Go p e below P (T11.setTop (mkF m 6 #[.val (.int x0)] [(.int x0), (.int (0 : Int32)), (.ref b11), (.ref b11)]))
  refine Go.by (fun _ => XS.i2b X11.here hx rfl (hb hby d_jdk_43_method_46_code_6) rfl) ?_
  show Go p e below P (T11.setTop (mkF m 7 #[.val (.int x0)] [(.int (x0.toInt8.toInt32)), (.int (0 : Int32)), (.ref b11), (.ref b11)]))
  have av12 := V11
  obtain ⟨cl12, Ar12, q12, Sz12, Nn12, Ha12, Gf12⟩ := av12
  have hin12 : ¬ ((0 : Int32) < 0 ∨ cl12.slots.size ≤ ((0 : Int32)).toNatClampNeg) := inb_of Sz12 ⟨by decide, by decide⟩
  obtain ⟨T13, h13, X13, e13, W13, st13⟩ := stB X11 hx hZ e11 Ar12 (j := (0 : Int32)) hin12 (g := (mkF m 7 #[.val (.int x0)] [(.int (x0.toInt8.toInt32)), (.int (0 : Int32)), (.ref b11), (.ref b11)])) rfl rfl (hb hby d_jdk_43_method_46_code_7)
  have W13' : Wr h11 h13 b11 ((0 : Int32)).toNatClampNeg (.int (x0.toInt8.toInt32)) := (by have q : Wr h11 h13 b11 ((0 : Int32)).toNatClampNeg (.int ((x0.toInt8.toInt32)).toInt8.toInt32) := W13; rw [own_bb] at q; exact q)
  have V13 : Arv Z h13 b11 k11 .byte (1 : Int32) [(.int (x0.toInt8.toInt32))] (.int (0 : Int32)) := Arv.set Ar12 q12 Sz12 Nn12 Ha12 Gf12 (fits_nar_byte _) W13' 0 rfl (Nat.le_of_ble_eq_true rfl)
  have N13 := Fr.snoc X13 N0 g_b11
  have f13_0 : n0 ≤ h13.size := (Nat.le_trans f11_0 (Keep.of_wr W13).1)
  have f13_1 : Keep h0 h13 [] := (Keep.wr f11_1 W13 (Or.inr sz_b11))
  refine Go.by st13 ?_
  show Go p e below P (T13.setTop (mkF m 8 #[.val (.int x0)] [(.ref b11)]))
  refine fin X13 (v := some (.ref b11)) (fun h => by rw [Bd.returns] at h; cases h) (by decide) (by decide) ?_ (fun fs hr => retOut X13 hx Bd.returns rfl (Or.inr (Or.inr (Or.inr (Or.inr ⟨rfl, rfl, rfl⟩)))) (hb hby d_jdk_43_method_46_code_8) hr)
  rw [e13]
  exact ⟨b11, k11, rfl, N13, f13_1, sz_b11, V13⟩
def Q_siBB (Z : State) (a0_ : Addr) (a1 : Addr) (h0 : Heap) (n0 : Nat) (v : Option Value) (h : Heap) (L : List Loc) : Prop := v = none ∧ Fr n0 L ∧ Keep h0 h [a0_] ∧ Fld Z h a0_ "java/lang/String" "coder" "B" (.int (0 : Int32)) ∧ Fld Z h a0_ "java/lang/String" "value" "[B" (.ref a1)
theorem ef_siBB (m : MethodId) (a0_ : Addr) (a1 : Addr) : entryFrame m #[(.ref a0_), (.ref a1), (.int (0 : Int32))] 3 = mkF m 0 #[.val (.ref a0_), .val (.ref a1), .val (.int (0 : Int32))] [] := by first | (simp [entryFrame, mkF, argsToLocals, Value.category]; done) | rfl
set_option maxRecDepth 65536 in
set_option maxHeartbeats 40000000 in
theorem rm_siBB (l : Launch) (Z : State) (a0 : Array Value) (hw : ∀ d ∈ tables_1, d.before a0 Z = true) (ws : List Jvm.Cond) (a0_ : Addr) (a1 : Addr) (h0 : Heap) (n0 : Nat) (Z0 : n0 ≤ h0.size) (E0 : Exa Z h0 a0_ "java/lang/String") (g_a0_ : n0 ≤ a0_) (F0_coder : Fld Z h0 a0_ "java/lang/String" "coder" "B" (.int (0 : Int32))) (F0_value : Fld Z h0 a0_ "java/lang/String" "value" "[B" .null) :
    MetFree l (⟨"java/lang/String", "<init>", "([BB)V"⟩ : MethodName) (head1 (Jvm.Cond.code (⟨"java/lang/String", "<init>", "([BB)V"⟩ : MethodName) jdk_42_method_151_code 3 none :: ws) ({ frames := 1, cells := 0, slots := 0, locals := 12 } : Room)) (fun a U => a = #[(.ref a0_), (.ref a1), (.int (0 : Int32))] ∧ Z.Warmed39 U.vm ∧ U.heap = h0) (fun _ _ _ _ _ => True) (fun _ U o U' => ∃ v L, o = .returned v ∧ Q_siBB Z a0_ a1 h0 n0 v U'.heap L ∧ FrameEnd U o U' L ({ frames := 1, cells := 0, slots := 0, locals := 12 } : Room).cells ({ frames := 1, cells := 0, slots := 0, locals := 12 } : Room).slots) := by
  refine MetFree.of_bodySF (plainFor_of_name pn_java_lang_String) hisR ?_
  intro p e s m args below meth c s₁ Bd hml0 hP hK
  obtain ⟨rfl, hZ, hh⟩ := hP
  have hx := Bd.exec
  have hby := Bd.bytes
  have hml : c.maxLocals = 3 := hml0
  have hown : s.vm.findClass "java/lang/String" = some m.cls := findClass_of_methodNamed Bd.named
  have hnm := (name_of_methodNamed Bd.named Bd.method).1
  have X0 : Stand p l e ({ frames := 1, cells := 0, slots := 0, locals := 12 } : Room) s m #[(.ref a0_), (.ref a1), (.int (0 : Int32))] below meth c s₁ [] 0 0 := Stand.of_body Bd
  have e0 : s₁.heap = h0 := by rw [← hh, Bd.state]; rfl
  have N0 := Fr.nil n0
  have hlk : meth.locks = false := Bd.notSynchronized
  obtain ⟨P, hP⟩ : ∃ P : Outcome → State → Prop, P = PQ s (Q_siBB Z a0_ a1 h0 n0) ({ frames := 1, cells := 0, slots := 0, locals := 12 } : Room).cells ({ frames := 1, cells := 0, slots := 0, locals := 12 } : Room).slots := ⟨_, rfl⟩
  have fin : ∀ {T : State} {locs : List Loc} {k n : Nat} {v : Option Value} {S0 : State}, Stand p l e ({ frames := 1, cells := 0, slots := 0, locals := 12 } : Room) s m #[(.ref a0_), (.ref a1), (.int (0 : Int32))] below meth c T locs k n → (meth.sig.returnType = none → v = none) → k ≤ ({ frames := 1, cells := 0, slots := 0, locals := 12 } : Room).cells → n ≤ ({ frames := 1, cells := 0, slots := 0, locals := 12 } : Room).slots → Q_siBB Z a0_ a1 h0 n0 v T.heap locs → (∀ fs, (∀ (f : JFrame) (acts : List Action), f.method = m → f.locked = none → f.entered = [] → (doReturn e (T.setTop f) acts v).1 = T.setFrames fs) → Steps p.tables e below S0 (T.setFrames fs)) → Go p e below P S0 := fun X hv hk hn hQ hst => hP ▸ Go.fin X hlk hv hk hn hQ hst
  suffices hgo : Go p e below P (s₁.setTop (mkF m 0 #[.val (.ref a0_), .val (.ref a1), .val (.int (0 : Int32))] [])) by
    rw [hP] at hgo
    exact Go.by (fun t k => castTop (ef_siBB m a0_ a1) k) hgo
  show Go p e below P (s₁.setTop (mkF m 0 #[.val (.ref a0_), .val (.ref a1), .val (.int (0 : Int32))] []))
  refine Go.by (fun _ => XS.aloadN X0.here hx rfl (hb hby d_jdk_42_method_151_code_0) rfl rfl) ?_
  show Go p e below P (s₁.setTop (mkF m 1 #[.val (.ref a0_), .val (.ref a1), .val (.int (0 : Int32))] [(.ref a0_)]))
  obtain ⟨T11, X11, e11, st11⟩ := initO X0 hx hZ hown (tw_25 hw) (tw_26 hw) (tw_27 hw) e0 (g := (mkF m 1 #[.val (.ref a0_), .val (.ref a1), .val (.int (0 : Int32))] [(.ref a0_)])) rfl (by rw [hml]; rfl) rfl (hb hby d_jdk_42_method_151_code_1) (by decide) (W := 0) (by show 2 * 0 + _ ≤ _; exact Nat.le_of_eq rfl) (by decide)
  refine Go.by st11 ?_
  show Go p e below P (T11.setTop (mkF m 4 #[.val (.ref a0_), .val (.ref a1), .val (.int (0 : Int32))] []))
  refine Go.by (fun _ => XS.aloadN X11.here hx rfl (hb hby d_jdk_42_method_151_code_4) rfl rfl) ?_
  show Go p e below P (T11.setTop (mkF m 5 #[.val (.ref a0_), .val (.ref a1), .val (.int (0 : Int32))] [(.ref a0_)]))
  refine Go.by (fun _ => XS.aloadN X11.here hx rfl (hb hby d_jdk_42_method_151_code_5) rfl rfl) ?_
  show Go p e below P (T11.setTop (mkF m 6 #[.val (.ref a0_), .val (.ref a1), .val (.int (0 : Int32))] [(.ref a1), (.ref a0_)]))
  obtain ⟨T12, h12, X12, e12, W12, st12⟩ := putF X11 hx hZ hown (host := "") (Or.inl (tw_42 hw)) Via.refl e11 F0_value E0 (Or.inr ⟨(tw_43 hw), rfl, hnm⟩) (tw_16 hw) (ty := (.array .byte)) (by decide) rfl rfl (g := (mkF m 6 #[.val (.ref a0_), .val (.ref a1), .val (.int (0 : Int32))] [(.ref a1), (.ref a0_)])) rfl rfl (hb hby d_jdk_42_method_151_code_6)
  refine Go.by st12 ?_
  have N12 := Fr.snoc X12 N0 g_a0_
  have f12_0 : n0 ≤ h12.size := (Nat.le_trans Z0 (Keep.of_wr W12).1)
  have f12_1 : Keep h0 h12 [a0_] := (Keep.wr (Keep.refl h0 [a0_]) W12 (Or.inl (List.mem_of_getElem? (i := 0) rfl)))
  have f12_2 : Exa Z h12 a0_ "java/lang/String" := (Exa.wr W12 E0)
  have f12_3 : Fld Z h12 a0_ "java/lang/String" "coder" "B" (.int (0 : Int32)) := (Fld.other W12 F0_coder (Or.inr (slot_ne (Or.inr (tw_41 hw)) (Or.inr (tw_43 hw)) (by decide) (t := .byte) (t' := (.array .byte)) (by decide) (by decide))))
  have f12_4 : Fld Z h12 a0_ "java/lang/String" "value" "[B" (.ref a1) := (Fld.same W12 F0_value)
  show Go p e below P (T12.setTop (mkF m 9 #[.val (.ref a0_), .val (.ref a1), .val (.int (0 : Int32))] []))
  refine Go.by (fun _ => XS.aloadN X12.here hx rfl (hb hby d_jdk_42_method_151_code_9) rfl rfl) ?_
  show Go p e below P (T12.setTop (mkF m 10 #[.val (.ref a0_), .val (.ref a1), .val (.int (0 : Int32))] [(.ref a0_)]))
  refine Go.by (fun _ => XS.iloadN X12.here hx rfl (hb hby d_jdk_42_method_151_code_10) rfl) ?_
  show Go p e below P (T12.setTop (mkF m 11 #[.val (.ref a0_), .val (.ref a1), .val (.int (0 : Int32))] [(.int (0 : Int32)), (.ref a0_)]))
  obtain ⟨T13, h13, X13, e13, W13, st13⟩ := putFN X12 hx hZ hown (tw_40 hw) Via.refl e12 f12_3 f12_2 (Or.inr ⟨(tw_41 hw), rfl, hnm⟩) (tw_16 hw) (ty := .byte) (v' := (.int (0 : Int32))) (by decide) rfl rfl (g := (mkF m 11 #[.val (.ref a0_), .val (.ref a1), .val (.int (0 : Int32))] [(.int (0 : Int32)), (.ref a0_)])) rfl rfl (hb hby d_jdk_42_method_151_code_11)
  refine Go.by st13 ?_
  have N13 := Fr.snoc X13 N12 g_a0_
  have f13_0 : n0 ≤ h13.size := (Nat.le_trans f12_0 (Keep.of_wr W13).1)
  have f13_1 : Keep h0 h13 [a0_] := (Keep.wr f12_1 W13 (Or.inl (List.mem_of_getElem? (i := 0) rfl)))
  have f13_2 : Exa Z h13 a0_ "java/lang/String" := (Exa.wr W13 f12_2)
  have f13_3 : Fld Z h13 a0_ "java/lang/String" "coder" "B" (.int (0 : Int32)) := (Fld.same W13 f12_3)
  have f13_4 : Fld Z h13 a0_ "java/lang/String" "value" "[B" (.ref a1) := (Fld.other W13 f12_4 (Or.inr (slot_ne (Or.inr (tw_43 hw)) (Or.inr (tw_41 hw)) (by decide) (t := (.array .byte)) (t' := .byte) (by decide) (by decide))))
  show Go p e below P (T13.setTop (mkF m 14 #[.val (.ref a0_), .val (.ref a1), .val (.int (0 : Int32))] []))
  refine fin X13 (v := none) (fun _ => rfl) (by decide) (by decide) ?_ (fun fs hr => X13.returnOut hx Bd.returns (hb hby d_jdk_42_method_151_code_14) hr)
  rw [e13]
  exact ⟨rfl, N13, f13_1, f13_3, f13_4⟩
def Q_valueOfC (Z : State) (x0 : Int32) (cs : Int32) (h0 : Heap) (n0 : Nat) (v : Option Value) (h : Heap) (L : List Loc) : Prop := ∃ b, v = some (.ref b) ∧ Fr n0 L ∧ Keep h0 h [] ∧ h0.size ≤ b ∧ StrV Z h b [(x0.toInt8.toInt32)]
theorem ef_valueOfC (m : MethodId) (x0 : Int32) (cs : Int32) : entryFrame m #[(.int x0)] 1 = mkF m 0 #[.val (.int x0)] [] := by first | (simp [entryFrame, mkF, argsToLocals, Value.category]; done) | rfl
set_option maxRecDepth 65536 in
set_option maxHeartbeats 40000000 in
theorem rm_valueOfC (l : Launch) (Z : State) (a0 : Array Value) (hw : ∀ d ∈ tables_1, d.before a0 Z = true) (ws : List Jvm.Cond) (x0 : Int32) (cs : Int32) (h0 : Heap) (n0 : Nat) (Z0 : n0 ≤ h0.size) (O0 : Old Z n0 h0) (Scs : Sta Z Z.heap "java/lang/String" "COMPACT_STRINGS" "Z" (.int cs)) (hcs : ¬ cs = (0 : Int32)) (hxb : ¬ (255 : Int32) < x0) :
    MetFree l (⟨"java/lang/String", "valueOf", "(C)Ljava/lang/String;"⟩ : MethodName) (head1 (Jvm.Cond.code (⟨"java/lang/String", "valueOf", "(C)Ljava/lang/String;"⟩ : MethodName) jdk_42_method_139_code 1 (some (.object "java/lang/String")) :: ws) ({ frames := 2, cells := 2, slots := 5, locals := 40 } : Room)) (fun a U => a = #[(.int x0)] ∧ Z.Warmed39 U.vm ∧ U.heap = h0) (fun _ _ _ _ _ => True) (fun _ U o U' => ∃ v L, o = .returned v ∧ Q_valueOfC Z x0 cs h0 n0 v U'.heap L ∧ FrameEnd U o U' L ({ frames := 2, cells := 2, slots := 5, locals := 40 } : Room).cells ({ frames := 2, cells := 2, slots := 5, locals := 40 } : Room).slots) := by
  refine MetFree.of_bodySF (plainFor_of_name pn_java_lang_String) hisR ?_
  intro p e s m args below meth c s₁ Bd hml0 hP hK
  obtain ⟨rfl, hZ, hh⟩ := hP
  have hx := Bd.exec
  have hby := Bd.bytes
  have hml : c.maxLocals = 1 := hml0
  have hown : s.vm.findClass "java/lang/String" = some m.cls := findClass_of_methodNamed Bd.named
  have hnm := (name_of_methodNamed Bd.named Bd.method).1
  have X0 : Stand p l e ({ frames := 2, cells := 2, slots := 5, locals := 40 } : Room) s m #[(.int x0)] below meth c s₁ [] 0 0 := Stand.of_body Bd
  have e0 : s₁.heap = h0 := by rw [← hh, Bd.state]; rfl
  have N0 := Fr.nil n0
  have hlk : meth.locks = false := Bd.notSynchronized
  obtain ⟨P, hP⟩ : ∃ P : Outcome → State → Prop, P = PQ s (Q_valueOfC Z x0 cs h0 n0) ({ frames := 2, cells := 2, slots := 5, locals := 40 } : Room).cells ({ frames := 2, cells := 2, slots := 5, locals := 40 } : Room).slots := ⟨_, rfl⟩
  have fin : ∀ {T : State} {locs : List Loc} {k n : Nat} {v : Option Value} {S0 : State}, Stand p l e ({ frames := 2, cells := 2, slots := 5, locals := 40 } : Room) s m #[(.int x0)] below meth c T locs k n → (meth.sig.returnType = none → v = none) → k ≤ ({ frames := 2, cells := 2, slots := 5, locals := 40 } : Room).cells → n ≤ ({ frames := 2, cells := 2, slots := 5, locals := 40 } : Room).slots → Q_valueOfC Z x0 cs h0 n0 v T.heap locs → (∀ fs, (∀ (f : JFrame) (acts : List Action), f.method = m → f.locked = none → f.entered = [] → (doReturn e (T.setTop f) acts v).1 = T.setFrames fs) → Steps p.tables e below S0 (T.setFrames fs)) → Go p e below P S0 := fun X hv hk hn hQ hst => hP ▸ Go.fin X hlk hv hk hn hQ hst
  suffices hgo : Go p e below P (s₁.setTop (mkF m 0 #[.val (.int x0)] [])) by
    rw [hP] at hgo
    exact Go.by (fun t k => castTop (ef_valueOfC m x0 cs) k) hgo
  show Go p e below P (s₁.setTop (mkF m 0 #[.val (.int x0)] []))
  obtain ⟨T11, X11, e11, st11⟩ := getS2 X0 hx hZ hown (host := "") (Or.inl (tw_28 hw)) Via.refl e0 (Scs.ext O0.2) (g := (mkF m 0 #[.val (.int x0)] [])) rfl (hb hby d_jdk_42_method_139_code_0)
  refine Go.by st11 ?_
  show Go p e below P (T11.setTop (mkF m 3 #[.val (.int x0)] [(.int cs)]))
  refine Go.by (fun _ => XS.ifNo X11.here hx rfl (hb hby d_jdk_42_method_139_code_3) rfl (XT.i0_eq_f hcs)) ?_
  show Go p e below P (T11.setTop (mkF m 6 #[.val (.int x0)] []))
  refine Go.by (fun _ => XS.iloadN X11.here hx rfl (hb hby d_jdk_42_method_139_code_6) rfl) ?_
  show Go p e below P (T11.setTop (mkF m 7 #[.val (.int x0)] [(.int x0)]))
  obtain ⟨_, _, ⟨T12, L12, k12, n12⟩, -, X12, ⟨Lc12, hQ12, l12, y12, z12⟩, st12⟩ := Jvm.LawKit.callS X11 hx (y := (⟨"java/lang/StringLatin1", "canEncode", "(C)Z"⟩ : MethodName)) hown (mvT hZ (tw_66 hw)) (mvT hZ (tw_67 hw)) (mvT hZ (tw_68 hw)) (mvT hZ (tw_69 hw)) (by decide) (backOf (W := 0) (rm_canEncC l Z a0 hw [] x0 h0 n0 Z0 hxb) hZ (tw_69 hw) (tw_68 hw) (by decide) (by decide)) (g := (mkF m 7 #[.val (.int x0)] [(.int x0)])) rfl (by rw [hml]; rfl) (argsL := [(.int x0)]) (rest := []) (lenOf pd__C_Z rfl) rfl (by show 2 * 0 + _ ≤ _; exact Nat.le_of_eq rfl) (hb hby d_jdk_42_method_139_code_7) (fun _ _ => ⟨rfl, e11, (by decide : 0 + 0 ≤ _), (by decide : 0 + 0 ≤ _)⟩)
  dsimp only [Pt.U, Pt.locs, Pt.cells, Pt.slots] at X12 l12 y12 z12 st12 hQ12
  subst l12 y12 z12
  obtain ⟨rfl, N12q, q12⟩ := hQ12
  have N12 := Fr.app N0 N12q
  refine Go.by (fun t k => st12 t k) ?_
  show Go p e below P (T12.setTop (mkF m 10 #[.val (.int x0)] [(.int (1 : Int32))]))
  refine Go.by (fun _ => XS.ifNo X12.here hx rfl (hb hby d_jdk_42_method_139_code_10) rfl (XT.i0_eq_f (by decide : ¬ (1 : Int32) = (0 : Int32)))) ?_
  show Go p e below P (T12.setTop (mkF m 13 #[.val (.int x0)] []))
  obtain ⟨T13, h13, X13, e13, E13, A13, D13, U13, st13⟩ := newO X12 hx hZ hown (tw_70 hw) (tw_16 hw) (tw_17 hw) q12 (g := (mkF m 13 #[.val (.int x0)] [])) rfl (hb hby d_jdk_42_method_139_code_13) (by decide) (by decide)
  obtain ⟨b13, g13⟩ : ∃ z, z = h0.size := ⟨_, rfl⟩
  rw [← g13] at A13 D13 U13 st13
  have g_b13 : n0 ≤ b13 := Nat.le_trans Z0 (Nat.le_of_eq g13.symm)
  have sz_b13 : h0.size ≤ b13 := Nat.le_trans (Keep.refl h0 []).1 (Nat.le_of_eq g13.symm)
  have f13_0 : n0 ≤ h13.size := (Nat.le_trans Z0 E13.1)
  have f13_1 : Keep h0 h13 [] := (Keep.ext (Keep.refl h0 []) E13)
  have f13_2 : Old Z n0 h13 := (Old.ext O0 E13)
  refine Go.by st13 ?_
  have F13_coder : Fld Z h13 b13 "java/lang/String" "coder" "B" (.int (0 : Int32)) := D13 (Or.inr (tw_41 hw)) (ty := .byte) (by decide)
  have F13_value : Fld Z h13 b13 "java/lang/String" "value" "[B" .null := D13 (Or.inr (tw_43 hw)) (ty := (.array .byte)) (by decide)
  show Go p e below P (T13.setTop (mkF m 16 #[.val (.int x0)] [(.ref b13)]))
  refine Go.by (fun _ => XS.dup X13.here hx rfl (hb hby d_jdk_42_method_139_code_16) rfl rfl) ?_
  show Go p e below P (T13.setTop (mkF m 17 #[.val (.int x0)] [(.ref b13), (.ref b13)]))
  refine Go.by (fun _ => XS.iloadN X13.here hx rfl (hb hby d_jdk_42_method_139_code_17) rfl) ?_
  show Go p e below P (T13.setTop (mkF m 18 #[.val (.int x0)] [(.int x0), (.ref b13), (.ref b13)]))
  obtain ⟨_, _, ⟨T14, L14, k14, n14⟩, -, X14, ⟨Lc14, hQ14, l14, y14, z14⟩, st14⟩ := Jvm.LawKit.callS X13 hx (y := (⟨"java/lang/StringLatin1", "toBytes", "(C)[B"⟩ : MethodName)) hown (mvT hZ (tw_71 hw)) (mvT hZ (tw_72 hw)) (mvT hZ (tw_68 hw)) (mvT hZ (tw_73 hw)) (by decide) (backOf (W := 2) (rm_toBytes l Z a0 hw [] x0 h13 n0 f13_0 ) hZ (tw_73 hw) (tw_68 hw) (by decide) (by decide)) (g := (mkF m 18 #[.val (.int x0)] [(.int x0), (.ref b13), (.ref b13)])) rfl (by rw [hml]; rfl) (argsL := [(.int x0)]) (rest := [(.ref b13), (.ref b13)]) (lenOf pd__C__B rfl) rfl (by show 2 * 0 + _ ≤ _; exact Nat.le_of_eq rfl) (hb hby d_jdk_42_method_139_code_18) (fun _ _ => ⟨rfl, e13, (by decide : 1 + 1 ≤ _), (by decide : 4 + 1 ≤ _)⟩)
  dsimp only [Pt.U, Pt.locs, Pt.cells, Pt.slots] at X14 l14 y14 z14 st14 hQ14
  subst l14 y14 z14
  obtain ⟨d14, kd14, rfl, N14q, K14, z14, V14⟩ := hQ14
  have N14 := Fr.app N12 N14q
  refine Go.by (fun t k => st14 t k) ?_
  have f14_0 : n0 ≤ T14.heap.size := (Nat.le_trans f13_0 K14.1)
  have f14_1 : Keep h0 T14.heap [] := (Keep.trans f13_1 K14 all0)
  have f14_2 : Old Z n0 T14.heap := (Old.keep f13_2 K14 all0)
  have f14_3 : Exa Z T14.heap b13 "java/lang/String" := (Exa.keep A13 K14)
  have f14_4 : Fld Z T14.heap b13 "java/lang/String" "coder" "B" (.int (0 : Int32)) := (Fld.keep F13_coder K14 nin0)
  have f14_5 : Fld Z T14.heap b13 "java/lang/String" "value" "[B" .null := (Fld.keep F13_value K14 nin0)
  have g_d14 : n0 ≤ d14 := Nat.le_trans f13_0 z14
  have neb13d14 : b13 ≠ d14 := Nat.ne_of_lt (Nat.lt_of_lt_of_le (A13.lt) z14)
  show Go p e below P (T14.setTop (mkF m 21 #[.val (.int x0)] [(.ref d14), (.ref b13), (.ref b13)]))
  refine Go.by (fun _ => XS.iconst X14.here hx rfl (hb hby d_jdk_42_method_139_code_21)) ?_
  show Go p e below P (T14.setTop (mkF m 22 #[.val (.int x0)] [(.int (0 : Int32)), (.ref d14), (.ref b13), (.ref b13)]))
  obtain ⟨_, _, ⟨T15, L15, k15, n15⟩, -, X15, ⟨Lc15, hQ15, l15, y15, z15⟩, st15⟩ := X14.specialBack hx (y := (⟨"java/lang/String", "<init>", "([BB)V"⟩ : MethodName)) rfl hown (mvT hZ (tw_74 hw)) (mvT hZ (tw_75 hw)) (mvT hZ (tw_76 hw)) (by decide) (backOf (W := 1) (rm_siBB l Z a0 hw [] b13 d14 T14.heap n0 f14_0 f14_3 g_b13 f14_4 f14_5) hZ (tw_76 hw) (tw_17 hw) (by decide) (by decide)) (g := (mkF m 22 #[.val (.int x0)] [(.int (0 : Int32)), (.ref d14), (.ref b13), (.ref b13)])) rfl (by rw [hml]; rfl) (Steps.refl _) (a := b13) (argsL := [(.ref d14), (.int (0 : Int32))]) (rest := [(.ref b13)]) (lenOf pd___BB_V rfl) rfl (by show 2 * 0 + _ ≤ _; exact Nat.le_of_eq rfl) (hb hby d_jdk_42_method_139_code_22) (fun _ _ => ⟨rfl, rfl, (by decide : 2 + 0 ≤ _), (by decide : 5 + 0 ≤ _)⟩)
  dsimp only [Pt.U, Pt.locs, Pt.cells, Pt.slots] at X15 l15 y15 z15 st15 hQ15
  subst l15 y15 z15
  obtain ⟨rfl, N15q, K15, G15_0, G15_1⟩ := hQ15
  have N15 := Fr.app N14 N15q
  refine Go.by (fun t k => st15.trans k) ?_
  have f15_0 : n0 ≤ T15.heap.size := (Nat.le_trans f14_0 K15.1)
  have f15_1 : Keep h0 T15.heap [] := (Keep.trans f14_1 K15 (allS (Or.inr sz_b13) all0))
  have f15_2 : Old Z n0 T15.heap := (Old.keep f14_2 K15 (allS g_b13 all0))
  have f15_3 : Exa Z T15.heap b13 "java/lang/String" := (Exa.keep f14_3 K15)
  have f15_4 : Arv Z T15.heap d14 kd14 .byte (1 : Int32) [(.int (x0.toInt8.toInt32))] (.int (0 : Int32)) := (Arv.keep V14 K15 (ninS (Ne.symm neb13d14) nin0))
  show Go p e below P (T15.setTop (mkF m 25 #[.val (.int x0)] [(.ref b13)]))
  refine fin X15 (v := some (.ref b13)) (fun h => by rw [Bd.returns] at h; cases h) (by decide) (by decide) ?_ (fun fs hr => retOut X15 hx Bd.returns rfl (Or.inr (Or.inr (Or.inr (Or.inr ⟨rfl, rfl, rfl⟩)))) (hb hby d_jdk_42_method_139_code_25) hr)
  exact ⟨b13, rfl, N15, f15_1, sz_b13, d14, kd14, f15_3, G15_0, G15_1, f15_4⟩
def Q_ei4 (Z : State) (a0_ : Addr) (a1 : Addr) (k1 : ClassId) (h0 : Heap) (n0 : Nat) (v : Option Value) (h : Heap) (L : List Loc) : Prop := v = none ∧ Fr n0 L ∧ Keep h0 h [a0_] ∧ StrV Z h a0_ []
theorem ef_ei4 (m : MethodId) (a0_ : Addr) (a1 : Addr) (k1 : ClassId) : entryFrame m #[(.ref a0_), (.ref a1), (.int (0 : Int32)), (.int (0 : Int32)), .null] 6 = mkF m 0 #[.val (.ref a0_), .val (.ref a1), .val (.int (0 : Int32)), .val (.int (0 : Int32)), .val .null, .unset] [] := by first | (simp [entryFrame, mkF, argsToLocals, Value.category]; done) | rfl
set_option maxRecDepth 65536 in
set_option maxHeartbeats 40000000 in
theorem rm_ei4 (l : Launch) (Z : State) (a0 : Array Value) (hw : ∀ d ∈ tables_1, d.before a0 Z = true) (hEL : EW Z a0 own_EL) (ws : List Jvm.Cond) (a0_ : Addr) (a1 : Addr) (k1 : ClassId) (h0 : Heap) (n0 : Nat) (Z0 : n0 ≤ h0.size) (E0 : Exa Z h0 a0_ "java/lang/String") (g_a0_ : n0 ≤ a0_) (F0c : Fld Z h0 a0_ "java/lang/String" "coder" "B" (.int (0 : Int32))) (F0v : Fld Z h0 a0_ "java/lang/String" "value" "[B" .null) (V1 : Arv Z h0 a1 k1 .char (0 : Int32) [] (.int (0 : Int32))) :
    MetFree l (⟨"java/lang/String", "<init>", "([CIILjava/lang/Void;)V"⟩ : MethodName) (head1 (Jvm.Cond.code (⟨"java/lang/String", "<init>", "([CIILjava/lang/Void;)V"⟩ : MethodName) jdk_42_method_149_code 6 none :: ws) ({ frames := 1, cells := 4, slots := 8, locals := 12 } : Room)) (fun a U => a = #[(.ref a0_), (.ref a1), (.int (0 : Int32)), (.int (0 : Int32)), .null] ∧ Z.Warmed39 U.vm ∧ U.heap = h0 ∧ CHv Z own_EL U.vm h0 ∧ ∀ x ∈ ([a0_] : List Addr), Safe Z own_EL U.vm h0 x) (fun _ _ _ _ _ => True) (fun _ U o U' => ∃ v L, o = .returned v ∧ Q_ei4 Z a0_ a1 k1 h0 n0 v U'.heap L ∧ CHr Z own_EL U.vm U.heap U'.vm U'.heap ∧ ReturnedEndW U o U' L ({ frames := 1, cells := 4, slots := 8, locals := 12 } : Room).cells ({ frames := 1, cells := 4, slots := 8, locals := 12 } : Room).slots) := by
  refine MetFree.of_bodySF (plainFor_of_name pn_java_lang_String) hisR ?_
  intro p e s m args below meth c s₁ Bd hml0 hP hK
  obtain ⟨rfl, hZ, hh, hCH, hSf⟩ := hP
  have hx := Bd.exec
  have hby := Bd.bytes
  have hml : c.maxLocals = 6 := hml0
  have hown : s.vm.findClass "java/lang/String" = some m.cls := findClass_of_methodNamed Bd.named
  have hnm := (name_of_methodNamed Bd.named Bd.method).1
  have X0 : Stand p l e ({ frames := 1, cells := 4, slots := 8, locals := 12 } : Room) (s.setVm s.vm) m #[(.ref a0_), (.ref a1), (.int (0 : Int32)), (.int (0 : Int32)), .null] below meth c s₁ [] 0 0 := Stand.of_body Bd
  have e0 : s₁.heap = h0 := by rw [← hh, Bd.state]; rfl
  have N0 := Fr.nil n0
  have wS := own_wS hw
  have hS0 : s.Since s.vm s.heap.size := (State.WarmedH.refl s).since _
  have hk0 : s.heap.size ≤ h0.size := Nat.le_of_eq (congrArg Array.size hh)
  have hlk : meth.locks = false := Bd.notSynchronized
  obtain ⟨P, hP⟩ : ∃ P : Outcome → State → Prop, P = PQW s Z own_EL (Q_ei4 Z a0_ a1 k1 h0 n0) ({ frames := 1, cells := 4, slots := 8, locals := 12 } : Room).cells ({ frames := 1, cells := 4, slots := 8, locals := 12 } : Room).slots := ⟨_, rfl⟩
  have fin : ∀ {T : State} {vm0 : Vm} {k0 : Nat} {locs : List Loc} {k n : Nat} {v : Option Value} {S0 : State} {H : Heap}, Stand p l e ({ frames := 1, cells := 4, slots := 8, locals := 12 } : Room) (s.setVm vm0) m #[(.ref a0_), (.ref a1), (.int (0 : Int32)), (.int (0 : Int32)), .null] below meth c T locs k n → (meth.sig.returnType = none → v = none) → k ≤ ({ frames := 1, cells := 4, slots := 8, locals := 12 } : Room).cells → n ≤ ({ frames := 1, cells := 4, slots := 8, locals := 12 } : Room).slots → T.heap = H → s.Since vm0 k0 → k0 ≤ H.size → Z.Warmed39 vm0 → CHr Z own_EL s.vm h0 vm0 H → Q_ei4 Z a0_ a1 k1 h0 n0 v H locs → (∀ fs, (∀ (f : JFrame) (acts : List Action), f.method = m → f.locked = none → f.entered = [] → (doReturn e (T.setTop f) acts v).1 = T.setFrames fs) → Steps p.tables e below S0 (T.setFrames fs)) → Go p e below P S0 := fun X hv hk hn eT hS hk0 hZ' hC hQ hst => hP ▸ Go.finW X hlk hEL hv hk hn hh eT hS hk0 hZ' hC hQ hst
  suffices hgo : Go p e below P (s₁.setTop (mkF m 0 #[.val (.ref a0_), .val (.ref a1), .val (.int (0 : Int32)), .val (.int (0 : Int32)), .val .null, .unset] [])) by
    rw [hP] at hgo
    exact Go.by (fun t k => castTop (ef_ei4 m a0_ a1 k1) k) hgo
  have ne01 : a0_ ≠ a1 := fun q => by obtain ⟨c, Ar, -⟩ := V1; exact ne_arr E0 (tw_16 hw) Ar q
  show Go p e below P (s₁.setTop (mkF m 0 #[.val (.ref a0_), .val (.ref a1), .val (.int (0 : Int32)), .val (.int (0 : Int32)), .val .null, .unset] []))
  refine Go.by (fun _ => XS.aloadN X0.here hx rfl (hb hby d_jdk_42_method_149_code_0) rfl rfl) ?_
  show Go p e below P (s₁.setTop (mkF m 1 #[.val (.ref a0_), .val (.ref a1), .val (.int (0 : Int32)), .val (.int (0 : Int32)), .val .null, .unset] [(.ref a0_)]))
  obtain ⟨T11, X11, e11, st11⟩ := initO X0 hx hZ hown (tw_25 hw) (tw_26 hw) (tw_27 hw) e0 (g := (mkF m 1 #[.val (.ref a0_), .val (.ref a1), .val (.int (0 : Int32)), .val (.int (0 : Int32)), .val .null, .unset] [(.ref a0_)])) rfl (by rw [hml]; rfl) rfl (hb hby d_jdk_42_method_149_code_1) (by decide) (W := 0) (by show 2 * 0 + _ ≤ _; exact Nat.le_of_eq rfl) (by decide)
  refine Go.by st11 ?_
  show Go p e below P (T11.setTop (mkF m 4 #[.val (.ref a0_), .val (.ref a1), .val (.int (0 : Int32)), .val (.int (0 : Int32)), .val .null, .unset] []))
  refine Go.by (fun _ => XS.iloadN X11.here hx rfl (hb hby d_jdk_42_method_149_code_4) rfl) ?_
  show Go p e below P (T11.setTop (mkF m 5 #[.val (.ref a0_), .val (.ref a1), .val (.int (0 : Int32)), .val (.int (0 : Int32)), .val .null, .unset] [(.int (0 : Int32))]))
  refine Go.by (fun _ => XS.ifNo X11.here hx rfl (hb hby d_jdk_42_method_149_code_5) rfl (XT.i0_ne_f (by decide : (0 : Int32) = (0 : Int32)))) ?_
  show Go p e below P (T11.setTop (mkF m 8 #[.val (.ref a0_), .val (.ref a1), .val (.int (0 : Int32)), .val (.int (0 : Int32)), .val .null, .unset] []))
  refine Go.by (fun _ => XS.aloadN X11.here hx rfl (hb hby d_jdk_42_method_149_code_8) rfl rfl) ?_
  show Go p e below P (T11.setTop (mkF m 9 #[.val (.ref a0_), .val (.ref a1), .val (.int (0 : Int32)), .val (.int (0 : Int32)), .val .null, .unset] [(.ref a0_)]))
  obtain ⟨b12, T12, h12, k112, d12, kd12, X12, e12, E12, hS12, hk12, hZ12, hown12, Eb12, Fc12, Fv12, Vd12, lb12, ld12, C12, Lt12, Sf12, st12⟩ := ldcCH X11 hx hZ hown (tw_91 hw) wS e11 hS0 hk0 hEL (by decide) (CHr.refl hCH).1 (vs := []) (z := (0 : Int32)) ⟨by decide, by decide⟩ (by decide) (by decide) (g := (mkF m 9 #[.val (.ref a0_), .val (.ref a1), .val (.int (0 : Int32)), .val (.int (0 : Int32)), .val .null, .unset] [(.ref a0_)])) rfl (hb hby d_jdk_42_method_149_code_9) (n := 0) (by decide) (by decide) (by decide) (by decide)
  have f12_0 : n0 ≤ h12.size := (Nat.le_trans Z0 E12.1)
  have f12_1 : CHr Z own_EL s.vm h0 T12.vm h12 := (CHr.trans (CHr.refl hCH) C12)
  have f12_2 : k112 ≤ h12.size := hk12
  have f12_3 : Safe Z own_EL T12.vm h12 a0_ := (CHr.safe C12 (E0.lt) (hSf a0_ (List.mem_of_getElem? (i := 0) rfl)))
  have f12_4 : Keep h0 h12 [a0_] := (Keep.ext (Keep.refl h0 [a0_]) E12)
  have f12_5 : Exa Z h12 a0_ "java/lang/String" := (Exa.ext E12 E0)
  have f12_6 : Fld Z h12 a0_ "java/lang/String" "coder" "B" (.int (0 : Int32)) := (Fld.ext E12 F0c)
  have f12_7 : Fld Z h12 a0_ "java/lang/String" "value" "[B" .null := (Fld.ext E12 F0v)
  have f12_8 : Arv Z h12 a1 k1 .char (0 : Int32) [] (.int (0 : Int32)) := (Arv.ext V1 E12)
  refine Go.by st12 ?_
  show Go p e below P (T12.setTop (mkF m 11 #[.val (.ref a0_), .val (.ref a1), .val (.int (0 : Int32)), .val (.int (0 : Int32)), .val .null, .unset] [(.ref b12), (.ref a0_)]))
  obtain ⟨T13, X13, e13, st13⟩ := getF X12 hx hZ12 hown12 (host := "") (Or.inl (tw_42 hw)) Via.refl e12 Fv12 (g := (mkF m 11 #[.val (.ref a0_), .val (.ref a1), .val (.int (0 : Int32)), .val (.int (0 : Int32)), .val .null, .unset] [(.ref b12), (.ref a0_)])) rfl rfl (hb hby d_jdk_42_method_149_code_11)
  refine Go.by st13 ?_
  show Go p e below P (T13.setTop (mkF m 14 #[.val (.ref a0_), .val (.ref a1), .val (.int (0 : Int32)), .val (.int (0 : Int32)), .val .null, .unset] [(.ref d12), (.ref a0_)]))
  obtain ⟨T14, h14, X14, e14, W14, st14⟩ := putF X13 hx hZ12 hown12 (host := "") (Or.inl (tw_42 hw)) Via.refl e13 f12_7 f12_5 (Or.inr ⟨(tw_43 hw), rfl, hnm⟩) (tw_16 hw) (ty := (.array .byte)) (by decide) rfl rfl (g := (mkF m 14 #[.val (.ref a0_), .val (.ref a1), .val (.int (0 : Int32)), .val (.int (0 : Int32)), .val .null, .unset] [(.ref d12), (.ref a0_)])) rfl rfl (hb hby d_jdk_42_method_149_code_14)
  refine Go.by st14 ?_
  have N14 := Fr.snoc X14 N0 g_a0_
  have f14_0 : n0 ≤ h14.size := (Nat.le_trans f12_0 (Keep.of_wr W14).1)
  have f14_1 : CHr Z own_EL s.vm h0 T12.vm h14 := (CHr.trans f12_1 (CHr.wr W14 f12_3 f12_1.1))
  have f14_2 : k112 ≤ h14.size := (Nat.le_trans f12_2 (Keep.of_wr W14).1)
  have f14_3 : Safe Z own_EL T12.vm h14 a0_ := (Safe.wr W14 f12_3 f12_1.1 f12_3)
  have f14_4 : Keep h0 h14 [a0_] := (Keep.wr f12_4 W14 (Or.inl (List.mem_of_getElem? (i := 0) rfl)))
  have f14_5 : Exa Z h14 a0_ "java/lang/String" := (Exa.wr W14 f12_5)
  have f14_6 : Fld Z h14 a0_ "java/lang/String" "coder" "B" (.int (0 : Int32)) := (Fld.other W14 f12_6 (Or.inr (slot_ne (Or.inr (tw_41 hw)) (Or.inr (tw_43 hw)) (by decide) (t := .byte) (t' := (.array .byte)) (by decide) (by decide))))
  have f14_7 : Fld Z h14 a0_ "java/lang/String" "value" "[B" (.ref d12) := (Fld.same W14 f12_7)
  have f14_8 : Arv Z h14 a1 k1 .char (0 : Int32) [] (.int (0 : Int32)) := (Arv.other f12_8 W14 (Ne.symm ne01))
  have f14_9 : Exa Z h14 b12 "java/lang/String" := (Exa.wr W14 Eb12)
  have f14_10 : Fld Z h14 b12 "java/lang/String" "coder" "B" (.int (0 : Int32)) := (Fld.other W14 Fc12 (Or.inl (Ne.symm (Sf12 _ f12_3).1)))
  have f14_11 : Fld Z h14 b12 "java/lang/String" "value" "[B" (.ref d12) := (Fld.other W14 Fv12 (Or.inl (Ne.symm (Sf12 _ f12_3).1)))
  have f14_12 : Arv Z h14 d12 kd12 .byte (0 : Int32) [] (.int (0 : Int32)) := (Arv.other Vd12 W14 (Ne.symm (Sf12 _ f12_3).2))
  show Go p e below P (T14.setTop (mkF m 17 #[.val (.ref a0_), .val (.ref a1), .val (.int (0 : Int32)), .val (.int (0 : Int32)), .val .null, .unset] []))
  refine Go.by (fun _ => XS.aloadN X14.here hx rfl (hb hby d_jdk_42_method_149_code_17) rfl rfl) ?_
  show Go p e below P (T14.setTop (mkF m 18 #[.val (.ref a0_), .val (.ref a1), .val (.int (0 : Int32)), .val (.int (0 : Int32)), .val .null, .unset] [(.ref a0_)]))
  obtain ⟨b15, T15, h15, k115, d15, kd15, X15, e15, E15, hS15, hk15, hZ15, hown15, Eb15, Fc15, Fv15, Vd15, lb15, ld15, C15, Lt15, Sf15, st15⟩ := ldcCH X14 hx hZ12 hown12 (tw_91 hw) wS e14 hS12 f14_2 hEL (by decide) f14_1.1 (vs := []) (z := (0 : Int32)) ⟨by decide, by decide⟩ (by decide) (by decide) (g := (mkF m 18 #[.val (.ref a0_), .val (.ref a1), .val (.int (0 : Int32)), .val (.int (0 : Int32)), .val .null, .unset] [(.ref a0_)])) rfl (hb hby d_jdk_42_method_149_code_18) (n := 0) (by decide) (by decide) (by decide) (by decide)
  have f15_0 : n0 ≤ h15.size := (Nat.le_trans f14_0 E15.1)
  have f15_1 : CHr Z own_EL s.vm h0 T15.vm h15 := (CHr.trans f14_1 C15)
  have f15_2 : k115 ≤ h15.size := hk15
  have f15_3 : Safe Z own_EL T15.vm h15 a0_ := (CHr.safe C15 (f14_5.lt) f14_3)
  have f15_4 : Keep h0 h15 [a0_] := (Keep.ext f14_4 E15)
  have f15_5 : Exa Z h15 a0_ "java/lang/String" := (Exa.ext E15 f14_5)
  have f15_6 : Fld Z h15 a0_ "java/lang/String" "coder" "B" (.int (0 : Int32)) := (Fld.ext E15 f14_6)
  have f15_7 : Fld Z h15 a0_ "java/lang/String" "value" "[B" (.ref d12) := (Fld.ext E15 f14_7)
  have f15_8 : Arv Z h15 a1 k1 .char (0 : Int32) [] (.int (0 : Int32)) := (Arv.ext f14_8 E15)
  have f15_9 : Exa Z h15 b12 "java/lang/String" := (Exa.ext E15 f14_9)
  have f15_10 : Fld Z h15 b12 "java/lang/String" "coder" "B" (.int (0 : Int32)) := (Fld.ext E15 f14_10)
  have f15_11 : Fld Z h15 b12 "java/lang/String" "value" "[B" (.ref d12) := (Fld.ext E15 f14_11)
  have f15_12 : Arv Z h15 d12 kd12 .byte (0 : Int32) [] (.int (0 : Int32)) := (Arv.ext f14_12 E15)
  refine Go.by st15 ?_
  show Go p e below P (T15.setTop (mkF m 20 #[.val (.ref a0_), .val (.ref a1), .val (.int (0 : Int32)), .val (.int (0 : Int32)), .val .null, .unset] [(.ref b15), (.ref a0_)]))
  obtain ⟨T16, X16, e16, st16⟩ := getF X15 hx hZ15 hown15 (host := "") (Or.inl (tw_40 hw)) Via.refl e15 Fc15 (g := (mkF m 20 #[.val (.ref a0_), .val (.ref a1), .val (.int (0 : Int32)), .val (.int (0 : Int32)), .val .null, .unset] [(.ref b15), (.ref a0_)])) rfl rfl (hb hby d_jdk_42_method_149_code_20)
  refine Go.by st16 ?_
  show Go p e below P (T16.setTop (mkF m 23 #[.val (.ref a0_), .val (.ref a1), .val (.int (0 : Int32)), .val (.int (0 : Int32)), .val .null, .unset] [(.int (0 : Int32)), (.ref a0_)]))
  obtain ⟨T17, h17, X17, e17, W17, st17⟩ := putFN X16 hx hZ15 hown15 (tw_40 hw) Via.refl e16 f15_6 f15_5 (Or.inr ⟨(tw_41 hw), rfl, hnm⟩) (tw_16 hw) (ty := .byte) (v' := (.int (0 : Int32))) (by decide) rfl rfl (g := (mkF m 23 #[.val (.ref a0_), .val (.ref a1), .val (.int (0 : Int32)), .val (.int (0 : Int32)), .val .null, .unset] [(.int (0 : Int32)), (.ref a0_)])) rfl rfl (hb hby d_jdk_42_method_149_code_23)
  refine Go.by st17 ?_
  have N17 := Fr.snoc X17 N14 g_a0_
  have f17_0 : n0 ≤ h17.size := (Nat.le_trans f15_0 (Keep.of_wr W17).1)
  have f17_1 : CHr Z own_EL s.vm h0 T15.vm h17 := (CHr.trans f15_1 (CHr.wr W17 f15_3 f15_1.1))
  have f17_2 : k115 ≤ h17.size := (Nat.le_trans f15_2 (Keep.of_wr W17).1)
  have f17_3 : Safe Z own_EL T15.vm h17 a0_ := (Safe.wr W17 f15_3 f15_1.1 f15_3)
  have f17_4 : Keep h0 h17 [a0_] := (Keep.wr f15_4 W17 (Or.inl (List.mem_of_getElem? (i := 0) rfl)))
  have f17_5 : Exa Z h17 a0_ "java/lang/String" := (Exa.wr W17 f15_5)
  have f17_6 : Fld Z h17 a0_ "java/lang/String" "coder" "B" (.int (0 : Int32)) := (Fld.same W17 f15_6)
  have f17_7 : Fld Z h17 a0_ "java/lang/String" "value" "[B" (.ref d12) := (Fld.other W17 f15_7 (Or.inr (slot_ne (Or.inr (tw_43 hw)) (Or.inr (tw_41 hw)) (by decide) (t := (.array .byte)) (t' := .byte) (by decide) (by decide))))
  have f17_8 : Arv Z h17 a1 k1 .char (0 : Int32) [] (.int (0 : Int32)) := (Arv.other f15_8 W17 (Ne.symm ne01))
  have f17_9 : Exa Z h17 b12 "java/lang/String" := (Exa.wr W17 f15_9)
  have f17_10 : Fld Z h17 b12 "java/lang/String" "coder" "B" (.int (0 : Int32)) := (Fld.other W17 f15_10 (Or.inl (Ne.symm (Sf12 _ f12_3).1)))
  have f17_11 : Fld Z h17 b12 "java/lang/String" "value" "[B" (.ref d12) := (Fld.other W17 f15_11 (Or.inl (Ne.symm (Sf12 _ f12_3).1)))
  have f17_12 : Arv Z h17 d12 kd12 .byte (0 : Int32) [] (.int (0 : Int32)) := (Arv.other f15_12 W17 (Ne.symm (Sf12 _ f12_3).2))
  have f17_13 : Exa Z h17 b15 "java/lang/String" := (Exa.wr W17 Eb15)
  have f17_14 : Fld Z h17 b15 "java/lang/String" "coder" "B" (.int (0 : Int32)) := (Fld.other W17 Fc15 (Or.inl (Ne.symm (Sf15 _ f15_3).1)))
  have f17_15 : Fld Z h17 b15 "java/lang/String" "value" "[B" (.ref d15) := (Fld.other W17 Fv15 (Or.inl (Ne.symm (Sf15 _ f15_3).1)))
  have f17_16 : Arv Z h17 d15 kd15 .byte (0 : Int32) [] (.int (0 : Int32)) := (Arv.other Vd15 W17 (Ne.symm (Sf15 _ f15_3).2))
  show Go p e below P (T17.setTop (mkF m 26 #[.val (.ref a0_), .val (.ref a1), .val (.int (0 : Int32)), .val (.int (0 : Int32)), .val .null, .unset] []))
  refine fin X17 (v := none) (fun _ => rfl) (by decide) (by decide) e17 hS15 f17_2 hZ15 f17_1 ?_ (fun fs hr => X17.returnOut hx Bd.returns (hb hby d_jdk_42_method_149_code_26) hr)
  exact ⟨rfl, N17, f17_4, d12, kd12, f17_5, f17_6, f17_7, f17_12⟩
def Q_ei1 (Z : State) (a0_ : Addr) (a1 : Addr) (k1 : ClassId) (h0 : Heap) (n0 : Nat) (v : Option Value) (h : Heap) (L : List Loc) : Prop := v = none ∧ Fr n0 L ∧ Keep h0 h [a0_] ∧ StrV Z h a0_ []
theorem ef_ei1 (m : MethodId) (a0_ : Addr) (a1 : Addr) (k1 : ClassId) : entryFrame m #[(.ref a0_), (.ref a1)] 2 = mkF m 0 #[.val (.ref a0_), .val (.ref a1)] [] := by first | (simp [entryFrame, mkF, argsToLocals, Value.category]; done) | rfl
set_option maxRecDepth 65536 in
set_option maxHeartbeats 40000000 in
theorem rm_ei1 (l : Launch) (Z : State) (a0 : Array Value) (hw : ∀ d ∈ tables_1, d.before a0 Z = true) (hEL : EW Z a0 own_EL) (ws : List Jvm.Cond) (a0_ : Addr) (a1 : Addr) (k1 : ClassId) (h0 : Heap) (n0 : Nat) (Z0 : n0 ≤ h0.size) (E0 : Exa Z h0 a0_ "java/lang/String") (g_a0_ : n0 ≤ a0_) (F0c : Fld Z h0 a0_ "java/lang/String" "coder" "B" (.int (0 : Int32))) (F0v : Fld Z h0 a0_ "java/lang/String" "value" "[B" .null) (V1 : Arv Z h0 a1 k1 .char (0 : Int32) [] (.int (0 : Int32))) :
    MetFree l (⟨"java/lang/String", "<init>", "([C)V"⟩ : MethodName) (head1 (Jvm.Cond.code (⟨"java/lang/String", "<init>", "([C)V"⟩ : MethodName) jdk_42_method_3_code 2 none :: ws) ({ frames := 2, cells := 4, slots := 8, locals := 40 } : Room)) (fun a U => a = #[(.ref a0_), (.ref a1)] ∧ Z.Warmed39 U.vm ∧ U.heap = h0 ∧ CHv Z own_EL U.vm h0 ∧ ∀ x ∈ ([a0_] : List Addr), Safe Z own_EL U.vm h0 x) (fun _ _ _ _ _ => True) (fun _ U o U' => ∃ v L, o = .returned v ∧ Q_ei1 Z a0_ a1 k1 h0 n0 v U'.heap L ∧ CHr Z own_EL U.vm U.heap U'.vm U'.heap ∧ ReturnedEndW U o U' L ({ frames := 2, cells := 4, slots := 8, locals := 40 } : Room).cells ({ frames := 2, cells := 4, slots := 8, locals := 40 } : Room).slots) := by
  refine MetFree.of_bodySF (plainFor_of_name pn_java_lang_String) hisR ?_
  intro p e s m args below meth c s₁ Bd hml0 hP hK
  obtain ⟨rfl, hZ, hh, hCH, hSf⟩ := hP
  have hx := Bd.exec
  have hby := Bd.bytes
  have hml : c.maxLocals = 2 := hml0
  have hown : s.vm.findClass "java/lang/String" = some m.cls := findClass_of_methodNamed Bd.named
  have hnm := (name_of_methodNamed Bd.named Bd.method).1
  have X0 : Stand p l e ({ frames := 2, cells := 4, slots := 8, locals := 40 } : Room) (s.setVm s.vm) m #[(.ref a0_), (.ref a1)] below meth c s₁ [] 0 0 := Stand.of_body Bd
  have e0 : s₁.heap = h0 := by rw [← hh, Bd.state]; rfl
  have N0 := Fr.nil n0
  have wS := own_wS hw
  have hS0 : s.Since s.vm s.heap.size := (State.WarmedH.refl s).since _
  have hk0 : s.heap.size ≤ h0.size := Nat.le_of_eq (congrArg Array.size hh)
  have hlk : meth.locks = false := Bd.notSynchronized
  obtain ⟨P, hP⟩ : ∃ P : Outcome → State → Prop, P = PQW s Z own_EL (Q_ei1 Z a0_ a1 k1 h0 n0) ({ frames := 2, cells := 4, slots := 8, locals := 40 } : Room).cells ({ frames := 2, cells := 4, slots := 8, locals := 40 } : Room).slots := ⟨_, rfl⟩
  have fin : ∀ {T : State} {vm0 : Vm} {k0 : Nat} {locs : List Loc} {k n : Nat} {v : Option Value} {S0 : State} {H : Heap}, Stand p l e ({ frames := 2, cells := 4, slots := 8, locals := 40 } : Room) (s.setVm vm0) m #[(.ref a0_), (.ref a1)] below meth c T locs k n → (meth.sig.returnType = none → v = none) → k ≤ ({ frames := 2, cells := 4, slots := 8, locals := 40 } : Room).cells → n ≤ ({ frames := 2, cells := 4, slots := 8, locals := 40 } : Room).slots → T.heap = H → s.Since vm0 k0 → k0 ≤ H.size → Z.Warmed39 vm0 → CHr Z own_EL s.vm h0 vm0 H → Q_ei1 Z a0_ a1 k1 h0 n0 v H locs → (∀ fs, (∀ (f : JFrame) (acts : List Action), f.method = m → f.locked = none → f.entered = [] → (doReturn e (T.setTop f) acts v).1 = T.setFrames fs) → Steps p.tables e below S0 (T.setFrames fs)) → Go p e below P S0 := fun X hv hk hn eT hS hk0 hZ' hC hQ hst => hP ▸ Go.finW X hlk hEL hv hk hn hh eT hS hk0 hZ' hC hQ hst
  suffices hgo : Go p e below P (s₁.setTop (mkF m 0 #[.val (.ref a0_), .val (.ref a1)] [])) by
    rw [hP] at hgo
    exact Go.by (fun t k => castTop (ef_ei1 m a0_ a1 k1) k) hgo
  have ne01 : a0_ ≠ a1 := fun q => by obtain ⟨c, Ar, -⟩ := V1; exact ne_arr E0 (tw_16 hw) Ar q
  show Go p e below P (s₁.setTop (mkF m 0 #[.val (.ref a0_), .val (.ref a1)] []))
  refine Go.by (fun _ => XS.aloadN X0.here hx rfl (hb hby d_jdk_42_method_3_code_0) rfl rfl) ?_
  show Go p e below P (s₁.setTop (mkF m 1 #[.val (.ref a0_), .val (.ref a1)] [(.ref a0_)]))
  refine Go.by (fun _ => XS.aloadN X0.here hx rfl (hb hby d_jdk_42_method_3_code_1) rfl rfl) ?_
  show Go p e below P (s₁.setTop (mkF m 2 #[.val (.ref a0_), .val (.ref a1)] [(.ref a1), (.ref a0_)]))
  refine Go.by (fun _ => XS.iconst X0.here hx rfl (hb hby d_jdk_42_method_3_code_2)) ?_
  show Go p e below P (s₁.setTop (mkF m 3 #[.val (.ref a0_), .val (.ref a1)] [(.int (0 : Int32)), (.ref a1), (.ref a0_)]))
  refine Go.by (fun _ => XS.aloadN X0.here hx rfl (hb hby d_jdk_42_method_3_code_3) rfl rfl) ?_
  show Go p e below P (s₁.setTop (mkF m 4 #[.val (.ref a0_), .val (.ref a1)] [(.ref a1), (.int (0 : Int32)), (.ref a1), (.ref a0_)]))
  have av11 := V1
  obtain ⟨cl11, Ar11, -, Sz11, Nn11, -, -⟩ := av11
  refine Go.by (X0.arraylength hx (by rw [e0]; exact Ar11.1) (State.isArrayOf_alike hZ.alike Ar11.2.1) (g := (mkF m 4 #[.val (.ref a0_), .val (.ref a1)] [(.ref a1), (.int (0 : Int32)), (.ref a1), (.ref a0_)])) rfl rfl (hb hby d_jdk_42_method_3_code_4)) ?_
  rw [len_of Sz11 Nn11]
  show Go p e below P (s₁.setTop (mkF m 5 #[.val (.ref a0_), .val (.ref a1)] [(.int (0 : Int32)), (.int (0 : Int32)), (.ref a1), (.ref a0_)]))
  refine Go.by (fun _ => XS.aconstNull X0.here hx rfl (hb hby d_jdk_42_method_3_code_5)) ?_
  show Go p e below P (s₁.setTop (mkF m 6 #[.val (.ref a0_), .val (.ref a1)] [.null, (.int (0 : Int32)), (.int (0 : Int32)), (.ref a1), (.ref a0_)]))
  obtain ⟨_, _, ⟨T12, L12, k12, n12⟩, -, X12', hS12', hg12, ⟨Lc12, hQ12, l12, y12, z12, C12⟩, st12⟩ := X0.specialBackS hx (y := (⟨"java/lang/String", "<init>", "([CIILjava/lang/Void;)V"⟩ : MethodName)) rfl hown (mvT hZ (tw_21 hw)) (mvT hZ (tw_22 hw)) (mvT hZ (tw_24 hw)) (by decide) (own_backC (W := 0) (rm_ei4 l Z a0 hw hEL [] a0_ a1 k1 h0 n0 Z0 E0 g_a0_ F0c F0v V1) hZ (tw_24 hw) (tw_17 hw) (by decide) (by decide) hEL (CHr.refl hCH).1 (own_ssS (hSf a0_ (List.mem_of_getElem? (i := 0) rfl)) (E0.lt) own_ss0)) (g := (mkF m 6 #[.val (.ref a0_), .val (.ref a1)] [.null, (.int (0 : Int32)), (.int (0 : Int32)), (.ref a1), (.ref a0_)])) rfl (by rw [hml]; rfl) (Steps.refl _) (a := a0_) (argsL := [(.ref a1), (.int (0 : Int32)), (.int (0 : Int32)), .null]) (rest := []) (lenOf pd___CIILjava_lang_Void__V rfl) rfl (by show 2 * 0 + _ ≤ _; exact Nat.le_of_eq rfl) (hb hby d_jdk_42_method_3_code_6) (fun _ _ => ⟨rfl, e0, (by decide : 0 + 4 ≤ _), (by decide : 0 + 8 ≤ _)⟩)
  dsimp only [Pt.U, Pt.locs, Pt.cells, Pt.slots] at X12' hS12' hg12 l12 y12 z12 st12 hQ12 C12
  subst l12 y12 z12
  obtain ⟨X12, hS12, hZ12, hown12⟩ := rebS hS0 (hk0) X12' hS12' (by have q := hg12; rw [e0] at q; exact q) hZ hown
  have hk12 : T12.heap.size ≤ T12.heap.size := Nat.le_refl _
  obtain ⟨rfl, N12q, K12, S12⟩ := hQ12
  have N12 := Fr.app N0 N12q
  refine Go.by (fun t k => st12.trans k) ?_
  have f12_0 : n0 ≤ T12.heap.size := (Nat.le_trans Z0 K12.1)
  have f12_1 : CHr Z own_EL s.vm h0 T12.vm T12.heap := (CHr.trans (CHr.refl hCH) C12)
  have f12_2 : T12.heap.size ≤ T12.heap.size := hk12
  have f12_3 : Safe Z own_EL T12.vm T12.heap a0_ := (CHr.safe C12 (E0.lt) (hSf a0_ (List.mem_of_getElem? (i := 0) rfl)))
  have f12_4 : Keep h0 T12.heap [a0_] := (Keep.trans (Keep.refl h0 [a0_]) K12 (allS (Or.inl (List.mem_of_getElem? (i := 0) rfl)) all0))
  have f12_5 : Exa Z T12.heap a0_ "java/lang/String" := (Exa.keep E0 K12)
  have f12_6 : Arv Z T12.heap a1 k1 .char (0 : Int32) [] (.int (0 : Int32)) := (Arv.keep V1 K12 (ninS (Ne.symm ne01) nin0))
  show Go p e below P (T12.setTop (mkF m 9 #[.val (.ref a0_), .val (.ref a1)] []))
  refine fin X12 (v := none) (fun _ => rfl) (by decide) (by decide) rfl hS12 f12_2 hZ12 f12_1 ?_ (fun fs hr => X12.returnOut hx Bd.returns (hb hby d_jdk_42_method_3_code_9) hr)
  exact ⟨rfl, N12, f12_4, S12⟩
def Q_arg (Z : State) (m0 : Int32) (c0 : Int32) (cs : Int32) (h0 : Heap) (n0 : Nat) (v : Option Value) (h : Heap) (L : List Loc) : Prop := ∃ r, v = some r ∧ Fr n0 L ∧ Keep h0 h [] ∧ StrO Z h r (own_argV m0 c0) ∧ ∀ a, r = .ref a → h0.size ≤ a
theorem ef_arg (m : MethodId) (m0 : Int32) (c0 : Int32) (cs : Int32) : entryFrame m #[(.int m0), (.int c0)] 3 = mkF m 0 #[.val (.int m0), .val (.int c0), .unset] [] := by first | (simp [entryFrame, mkF, argsToLocals, Value.category]; done) | rfl
set_option maxRecDepth 65536 in
set_option maxHeartbeats 40000000 in
theorem rm_arg (l : Launch) (Z : State) (a0 : Array Value) (hw : ∀ d ∈ tables_1, d.before a0 Z = true) (hEL : EW Z a0 own_EL) (ws : List Jvm.Cond) (m0 : Int32) (c0 : Int32) (cs : Int32) (h0 : Heap) (n0 : Nat) (Z0 : n0 ≤ h0.size) (O0 : Old Z n0 h0) (Scs : Sta Z Z.heap "java/lang/String" "COMPACT_STRINGS" "Z" (.int cs)) (hcs : ¬ cs = (0 : Int32)) :
    MetFree l (⟨"com/example/verdict/verdict/ActionEqualsPinLaw", "arg", "(II)Ljava/lang/String;"⟩ : MethodName) (head1 (Jvm.Cond.code (⟨"com/example/verdict/verdict/ActionEqualsPinLaw", "arg", "(II)Ljava/lang/String;"⟩ : MethodName) method_3_code 3 (some (.object "java/lang/String")) :: ws) ({ frames := 4, cells := 6, slots := 12, locals := 100 } : Room)) (fun a U => a = #[(.int m0), (.int c0)] ∧ Z.Warmed39 U.vm ∧ U.heap = h0 ∧ CHv Z own_EL U.vm h0 ∧ ∀ x ∈ ([] : List Addr), Safe Z own_EL U.vm h0 x) (fun _ _ _ _ _ => True) (fun _ U o U' => ∃ v L, o = .returned v ∧ Q_arg Z m0 c0 cs h0 n0 v U'.heap L ∧ CHr Z own_EL U.vm U.heap U'.vm U'.heap ∧ ReturnedEndW U o U' L ({ frames := 4, cells := 6, slots := 12, locals := 100 } : Room).cells ({ frames := 4, cells := 6, slots := 12, locals := 100 } : Room).slots) := by
  refine MetFree.of_bodySF (plainFor_of_name pn_com_example_verdict_verdict_ActionEqualsPinLaw) hisR ?_
  intro p e s m args below meth c s₁ Bd hml0 hP hK
  obtain ⟨rfl, hZ, hh, hCH, hSf⟩ := hP
  have hx := Bd.exec
  have hby := Bd.bytes
  have hml : c.maxLocals = 3 := hml0
  have hown : s.vm.findClass "com/example/verdict/verdict/ActionEqualsPinLaw" = some m.cls := findClass_of_methodNamed Bd.named
  have hnm := (name_of_methodNamed Bd.named Bd.method).1
  have X0 : Stand p l e ({ frames := 4, cells := 6, slots := 12, locals := 100 } : Room) (s.setVm s.vm) m #[(.int m0), (.int c0)] below meth c s₁ [] 0 0 := Stand.of_body Bd
  have e0 : s₁.heap = h0 := by rw [← hh, Bd.state]; rfl
  have N0 := Fr.nil n0
  have wS := own_wS hw
  have hS0 : s.Since s.vm s.heap.size := (State.WarmedH.refl s).since _
  have hk0 : s.heap.size ≤ h0.size := Nat.le_of_eq (congrArg Array.size hh)
  have hlk : meth.locks = false := Bd.notSynchronized
  obtain ⟨P, hP⟩ : ∃ P : Outcome → State → Prop, P = PQW s Z own_EL (Q_arg Z m0 c0 cs h0 n0) ({ frames := 4, cells := 6, slots := 12, locals := 100 } : Room).cells ({ frames := 4, cells := 6, slots := 12, locals := 100 } : Room).slots := ⟨_, rfl⟩
  have fin : ∀ {T : State} {vm0 : Vm} {k0 : Nat} {locs : List Loc} {k n : Nat} {v : Option Value} {S0 : State} {H : Heap}, Stand p l e ({ frames := 4, cells := 6, slots := 12, locals := 100 } : Room) (s.setVm vm0) m #[(.int m0), (.int c0)] below meth c T locs k n → (meth.sig.returnType = none → v = none) → k ≤ ({ frames := 4, cells := 6, slots := 12, locals := 100 } : Room).cells → n ≤ ({ frames := 4, cells := 6, slots := 12, locals := 100 } : Room).slots → T.heap = H → s.Since vm0 k0 → k0 ≤ H.size → Z.Warmed39 vm0 → CHr Z own_EL s.vm h0 vm0 H → Q_arg Z m0 c0 cs h0 n0 v H locs → (∀ fs, (∀ (f : JFrame) (acts : List Action), f.method = m → f.locked = none → f.entered = [] → (doReturn e (T.setTop f) acts v).1 = T.setFrames fs) → Steps p.tables e below S0 (T.setFrames fs)) → Go p e below P S0 := fun X hv hk hn eT hS hk0 hZ' hC hQ hst => hP ▸ Go.finW X hlk hEL hv hk hn hh eT hS hk0 hZ' hC hQ hst
  suffices hgo : Go p e below P (s₁.setTop (mkF m 0 #[.val (.int m0), .val (.int c0), .unset] [])) by
    rw [hP] at hgo
    exact Go.by (fun t k => castTop (ef_arg m m0 c0 cs) k) hgo
  show Go p e below P (s₁.setTop (mkF m 0 #[.val (.int m0), .val (.int c0), .unset] []))
  refine Go.by (fun _ => XS.iloadN X0.here hx rfl (hb hby d_method_3_code_0) rfl) ?_
  show Go p e below P (s₁.setTop (mkF m 1 #[.val (.int m0), .val (.int c0), .unset] [(.int m0)]))
  by_cases hc1_11 : m0 = (0 : Int32)
  · refine Go.by (fun _ => XS.ifNo X0.here hx rfl (hb hby d_method_3_code_1) rfl (XT.i0_ne_f hc1_11)) ?_
    show Go p e below P (s₁.setTop (mkF m 4 #[.val (.int m0), .val (.int c0), .unset] []))
    refine Go.by (fun _ => XS.aconstNull X0.here hx rfl (hb hby d_method_3_code_4)) ?_
    show Go p e below P (s₁.setTop (mkF m 5 #[.val (.int m0), .val (.int c0), .unset] [.null]))
    refine fin X0 (v := some .null) (fun h => by rw [Bd.returns] at h; cases h) (by decide) (by decide) e0 hS0 hk0 hZ (CHr.refl hCH) ?_ (fun fs hr => retOut X0 hx Bd.returns rfl (Or.inr (Or.inr (Or.inr (Or.inr ⟨rfl, rfl, rfl⟩)))) (hb hby d_method_3_code_5) hr)
    exact ⟨.null, rfl, N0, (Keep.refl h0 []), Or.inl ⟨rfl, by unfold own_argV; rw [if_pos hc1_11]⟩, fun a q => nomatch q⟩
  · refine Go.by (fun _ => XS.ifYes X0.here hx rfl (pc0 := 1) (pc' := 6) rfl (hb hby d_method_3_code_1) rfl (XT.i0_ne_t hc1_11) (by decide) (by decide)) ?_
    show Go p e below P (s₁.setTop (mkF m 6 #[.val (.int m0), .val (.int c0), .unset] []))
    refine Go.by (fun _ => XS.iloadN X0.here hx rfl (hb hby d_method_3_code_6) rfl) ?_
    show Go p e below P (s₁.setTop (mkF m 7 #[.val (.int m0), .val (.int c0), .unset] [(.int m0)]))
    refine Go.by (fun _ => XS.iconst X0.here hx rfl (hb hby d_method_3_code_7)) ?_
    show Go p e below P (s₁.setTop (mkF m 8 #[.val (.int m0), .val (.int c0), .unset] [(.int (1 : Int32)), (.int m0)]))
    by_cases hc8_12 : m0 = (1 : Int32)
    · refine Go.by (fun _ => XS.icmpNo X0.here hx rfl (hb hby d_method_3_code_8) rfl (XT.ii_ne_f hc8_12)) ?_
      show Go p e below P (s₁.setTop (mkF m 11 #[.val (.int m0), .val (.int c0), .unset] []))
      obtain ⟨T13, h13, X13, e13, E13, A13, D13, U13, st13⟩ := newO X0 hx hZ hown (tw_15 hw) (tw_16 hw) (tw_17 hw) e0 (g := (mkF m 11 #[.val (.int m0), .val (.int c0), .unset] [])) rfl (hb hby d_method_3_code_11) (by decide) (by decide)
      obtain ⟨b13, g13⟩ : ∃ z, z = h0.size := ⟨_, rfl⟩
      rw [← g13] at A13 D13 U13 st13
      have g_b13 : n0 ≤ b13 := Nat.le_trans Z0 (Nat.le_of_eq g13.symm)
      have sz_b13 : h0.size ≤ b13 := Nat.le_trans (Keep.refl h0 []).1 (Nat.le_of_eq g13.symm)
      have sf_b13 : Safe Z own_EL s.vm h0 b13 := Safe.new (Nat.le_of_eq g13.symm)
      have f13_0 : n0 ≤ h13.size := (Nat.le_trans Z0 E13.1)
      have f13_1 : CHr Z own_EL s.vm h0 s.vm h13 := (CHr.trans (CHr.refl hCH) (CHr.ext E13 (CHr.refl hCH).1))
      have f13_2 : s.heap.size ≤ h13.size := (Nat.le_trans hk0 E13.1)
      have f13_3 : Keep h0 h13 [] := (Keep.ext (Keep.refl h0 []) E13)
      have f13_4 : Old Z n0 h13 := (Old.ext O0 E13)
      have f13_5 : Safe Z own_EL s.vm h13 b13 := (Safe.ext E13 (CHr.refl hCH).1 sf_b13)
      refine Go.by st13 ?_
      have F13_coder : Fld Z h13 b13 "java/lang/String" "coder" "B" (.int (0 : Int32)) := D13 (Or.inr (tw_41 hw)) (ty := .byte) (by decide)
      have F13_value : Fld Z h13 b13 "java/lang/String" "value" "[B" .null := D13 (Or.inr (tw_43 hw)) (ty := (.array .byte)) (by decide)
      show Go p e below P (T13.setTop (mkF m 14 #[.val (.int m0), .val (.int c0), .unset] [(.ref b13)]))
      refine Go.by (fun _ => XS.dup X13.here hx rfl (hb hby d_method_3_code_14) rfl rfl) ?_
      show Go p e below P (T13.setTop (mkF m 15 #[.val (.int m0), .val (.int c0), .unset] [(.ref b13), (.ref b13)]))
      refine Go.by (fun _ => XS.iconst X13.here hx rfl (hb hby d_method_3_code_15)) ?_
      show Go p e below P (T13.setTop (mkF m 16 #[.val (.int m0), .val (.int c0), .unset] [(.int (0 : Int32)), (.ref b13), (.ref b13)]))
      obtain ⟨T14, h14, k14, X14, e14, E14, A14, st14⟩ := newP X13 hx hZ (aty := .char) (tw_14 hw) e13 (g := (mkF m 16 #[.val (.int m0), .val (.int c0), .unset] [(.int (0 : Int32)), (.ref b13), (.ref b13)])) rfl (hb hby d_method_3_code_16) rfl (by decide) (cap := 0) (by decide) (by decide) (by decide) (by decide)
      obtain ⟨b14, g14⟩ : ∃ z, z = h13.size := ⟨_, rfl⟩
      rw [← g14] at A14 st14
      have g_b14 : n0 ≤ b14 := Nat.le_trans f13_0 (Nat.le_of_eq g14.symm)
      have sz_b14 : h0.size ≤ b14 := Nat.le_trans f13_3.1 (Nat.le_of_eq g14.symm)
      have ne_b13_b14 : b13 ≠ b14 := Nat.ne_of_lt (Nat.lt_of_lt_of_le (A13.lt) (Nat.le_of_eq g14.symm))
      have sf_b14 : Safe Z own_EL s.vm h13 b14 := Safe.new (Nat.le_of_eq g14.symm)
      have f14_0 : n0 ≤ h14.size := (Nat.le_trans f13_0 E14.1)
      have f14_1 : CHr Z own_EL s.vm h0 s.vm h14 := (CHr.trans f13_1 (CHr.ext E14 f13_1.1))
      have f14_2 : s.heap.size ≤ h14.size := (Nat.le_trans f13_2 E14.1)
      have f14_3 : Keep h0 h14 [] := (Keep.ext f13_3 E14)
      have f14_4 : Old Z n0 h14 := (Old.ext f13_4 E14)
      have f14_5 : Safe Z own_EL s.vm h14 b13 := (Safe.ext E14 f13_1.1 f13_5)
      have f14_6 : Exa Z h14 b13 "java/lang/String" := (Exa.ext E14 A13)
      have f14_7 : Fld Z h14 b13 "java/lang/String" "coder" "B" (.int (0 : Int32)) := (Fld.ext E14 F13_coder)
      have f14_8 : Fld Z h14 b13 "java/lang/String" "value" "[B" .null := (Fld.ext E14 F13_value)
      have f14_9 : Safe Z own_EL s.vm h14 b14 := (Safe.ext E14 f13_1.1 sf_b14)
      refine Go.by st14 ?_
      have V14 : Arv Z h14 b14 k14 .char (0 : Int32) [] (.int (0 : Int32)) := (Arv.new A14 (by decide)).pad (pad_rep [] (.int (0 : Int32)) 0)
      show Go p e below P (T14.setTop (mkF m 18 #[.val (.int m0), .val (.int c0), .unset] [(.ref b14), (.ref b13), (.ref b13)]))
      obtain ⟨_, _, ⟨T15, L15, k15, n15⟩, -, X15', hS15', hg15, ⟨Lc15, hQ15, l15, y15, z15, C15⟩, st15⟩ := X14.specialBackS hx (y := (⟨"java/lang/String", "<init>", "([C)V"⟩ : MethodName)) rfl hown (mvT hZ (tw_18 hw)) (mvT hZ (tw_19 hw)) (mvT hZ (tw_20 hw)) (by decide) (own_backC (W := 1) (rm_ei1 l Z a0 hw hEL [] b13 b14 k14 h14 n0 f14_0 f14_6 g_b13 f14_7 f14_8 V14) hZ (tw_20 hw) (tw_17 hw) (by decide) (by decide) hEL f14_1.1 (own_ssS f14_5 (f14_6.lt) own_ss0)) (g := (mkF m 18 #[.val (.int m0), .val (.int c0), .unset] [(.ref b14), (.ref b13), (.ref b13)])) rfl (by rw [hml]; rfl) (Steps.refl _) (a := b13) (argsL := [(.ref b14)]) (rest := [(.ref b13)]) (lenOf pd___C_V rfl) rfl (by show 2 * 0 + _ ≤ _; exact Nat.le_of_eq rfl) (hb hby d_method_3_code_18) (fun _ _ => ⟨rfl, e14, (by decide : 2 + 4 ≤ _), (by decide : 4 + 8 ≤ _)⟩)
      dsimp only [Pt.U, Pt.locs, Pt.cells, Pt.slots] at X15' hS15' hg15 l15 y15 z15 st15 hQ15 C15
      subst l15 y15 z15
      obtain ⟨X15, hS15, hZ15, hown15⟩ := rebS hS0 (f14_2) X15' hS15' (by have q := hg15; rw [e14] at q; exact q) hZ hown
      have hk15 : T15.heap.size ≤ T15.heap.size := Nat.le_refl _
      obtain ⟨rfl, N15q, K15, S15⟩ := hQ15
      have N15 := Fr.app N0 N15q
      refine Go.by (fun t k => st15.trans k) ?_
      have f15_0 : n0 ≤ T15.heap.size := (Nat.le_trans f14_0 K15.1)
      have f15_1 : CHr Z own_EL s.vm h0 T15.vm T15.heap := (CHr.trans f14_1 C15)
      have f15_2 : T15.heap.size ≤ T15.heap.size := hk15
      have f15_3 : Keep h0 T15.heap [] := (Keep.trans f14_3 K15 (allS (Or.inr sz_b13) all0))
      have f15_4 : Old Z n0 T15.heap := (Old.keep f14_4 K15 (allS g_b13 all0))
      have f15_5 : Safe Z own_EL T15.vm T15.heap b13 := (CHr.safe C15 (f14_6.lt) f14_5)
      have f15_6 : Exa Z T15.heap b13 "java/lang/String" := (Exa.keep f14_6 K15)
      have f15_7 : Safe Z own_EL T15.vm T15.heap b14 := (CHr.safe C15 (V14.lt) f14_9)
      have f15_8 : Arv Z T15.heap b14 k14 .char (0 : Int32) [] (.int (0 : Int32)) := (Arv.keep V14 K15 (ninS (Ne.symm ne_b13_b14) nin0))
      show Go p e below P (T15.setTop (mkF m 21 #[.val (.int m0), .val (.int c0), .unset] [(.ref b13)]))
      refine fin X15 (v := some (.ref b13)) (fun h => by rw [Bd.returns] at h; cases h) (by decide) (by decide) rfl hS15 f15_2 hZ15 f15_1 ?_ (fun fs hr => retOut X15 hx Bd.returns rfl (Or.inr (Or.inr (Or.inr (Or.inr ⟨rfl, rfl, rfl⟩)))) (hb hby d_method_3_code_21) hr)
      exact ⟨.ref b13, rfl, N15, f15_3, Or.inr ⟨b13, _, rfl, by unfold own_argV; rw [if_neg hc1_11, if_pos hc8_12], S15⟩, fun a q => by cases q; exact sz_b13⟩
    · refine Go.by (fun _ => XS.icmpYes X0.here hx rfl (pc0 := 8) (pc' := 22) rfl (hb hby d_method_3_code_8) rfl (XT.ii_ne_t hc8_12) (by decide) (by decide)) ?_
      show Go p e below P (s₁.setTop (mkF m 22 #[.val (.int m0), .val (.int c0), .unset] []))
      refine Go.by (fun _ => XS.iloadN X0.here hx rfl (hb hby d_method_3_code_22) rfl) ?_
      show Go p e below P (s₁.setTop (mkF m 23 #[.val (.int m0), .val (.int c0), .unset] [(.int m0)]))
      refine Go.by (fun _ => XS.iconst X0.here hx rfl (hb hby d_method_3_code_23)) ?_
      show Go p e below P (s₁.setTop (mkF m 24 #[.val (.int m0), .val (.int c0), .unset] [(.int (2 : Int32)), (.int m0)]))
      by_cases hc24_16 : m0 = (2 : Int32)
      · refine Go.by (fun _ => XS.icmpNo X0.here hx rfl (hb hby d_method_3_code_24) rfl (XT.ii_ne_f hc24_16)) ?_
        show Go p e below P (s₁.setTop (mkF m 27 #[.val (.int m0), .val (.int c0), .unset] []))
        refine Go.by (fun _ => XS.iloadN X0.here hx rfl (hb hby d_method_3_code_27) rfl) ?_
        show Go p e below P (s₁.setTop (mkF m 28 #[.val (.int m0), .val (.int c0), .unset] [(.int c0)]))
        refine Go.by (fun _ => XS.sipush X0.here hx rfl (hb hby d_method_3_code_28)) ?_
        show Go p e below P (s₁.setTop (mkF m 31 #[.val (.int m0), .val (.int c0), .unset] [(.int (255 : Int32)), (.int c0)]))
        refine Go.by (fun _ => XS.iand X0.here hx rfl (hb hby d_method_3_code_31) rfl) ?_
        show Go p e below P (s₁.setTop (mkF m 32 #[.val (.int m0), .val (.int c0), .unset] [(.int (c0 &&& (255 : Int32)))]))
        refine Go.by (fun _ => XS.i2c X0.here hx rfl (hb hby d_method_3_code_32) rfl) ?_
        rw [i2c_mask]
        show Go p e below P (s₁.setTop (mkF m 33 #[.val (.int m0), .val (.int c0), .unset] [(.int (c0 &&& (255 : Int32)))]))
        obtain ⟨_, _, ⟨T17, L17, k17, n17⟩, -, X17, ⟨Lc17, hQ17, l17, y17, z17⟩, st17⟩ := Jvm.LawKit.callS X0 hx (y := (⟨"java/lang/String", "valueOf", "(C)Ljava/lang/String;"⟩ : MethodName)) hown (mvT hZ (tw_63 hw)) (mvT hZ (tw_64 hw)) (mvT hZ (tw_17 hw)) (mvT hZ (tw_65 hw)) (by decide) (backOf (W := 0) (rm_valueOfC l Z a0 hw [] (c0 &&& (255 : Int32)) cs h0 n0 Z0 O0 Scs hcs (own_m255 _).2) hZ (tw_65 hw) (tw_17 hw) (by decide) (by decide)) (g := (mkF m 33 #[.val (.int m0), .val (.int c0), .unset] [(.int (c0 &&& (255 : Int32)))])) rfl (by rw [hml]; rfl) (argsL := [(.int (c0 &&& (255 : Int32)))]) (rest := []) (lenOf pd__C_Ljava_lang_String_ rfl) rfl (by show 2 * 0 + _ ≤ _; exact Nat.le_of_eq rfl) (hb hby d_method_3_code_33) (fun _ _ => ⟨rfl, e0, (by decide : 0 + 2 ≤ _), (by decide : 0 + 5 ≤ _)⟩)
        dsimp only [Pt.U, Pt.locs, Pt.cells, Pt.slots] at X17 l17 y17 z17 st17 hQ17
        subst l17 y17 z17
        obtain ⟨b17, rfl, N17q, K17, z17, S17⟩ := hQ17
        have N17 := Fr.app N0 N17q
        refine Go.by (fun t k => st17 t k) ?_
        have f17_0 : n0 ≤ T17.heap.size := (Nat.le_trans Z0 K17.1)
        have f17_1 : CHr Z own_EL s.vm h0 s.vm T17.heap := (CHr.trans (CHr.refl hCH) (CHr.keep K17 sf0 (CHr.refl hCH).1))
        have f17_2 : s.heap.size ≤ T17.heap.size := (Nat.le_trans hk0 K17.1)
        have f17_3 : Keep h0 T17.heap [] := (Keep.trans (Keep.refl h0 []) K17 all0)
        have f17_4 : Old Z n0 T17.heap := (Old.keep O0 K17 all0)
        have sz_b17 : h0.size ≤ b17 := z17
        show Go p e below P (T17.setTop (mkF m 36 #[.val (.int m0), .val (.int c0), .unset] [(.ref b17)]))
        refine fin X17 (v := some (.ref b17)) (fun h => by rw [Bd.returns] at h; cases h) (by decide) (by decide) rfl hS0 f17_2 hZ f17_1 ?_ (fun fs hr => retOut X17 hx Bd.returns rfl (Or.inr (Or.inr (Or.inr (Or.inr ⟨rfl, rfl, rfl⟩)))) (hb hby d_method_3_code_36) hr)
        exact ⟨.ref b17, rfl, N17, f17_3, Or.inr ⟨b17, _, rfl, by unfold own_argV; rw [if_neg hc1_11, if_neg hc8_12, if_pos hc24_16], S17⟩, fun a q => by cases q; exact sz_b17⟩
      · refine Go.by (fun _ => XS.icmpYes X0.here hx rfl (pc0 := 24) (pc' := 37) rfl (hb hby d_method_3_code_24) rfl (XT.ii_ne_t hc24_16) (by decide) (by decide)) ?_
        show Go p e below P (s₁.setTop (mkF m 37 #[.val (.int m0), .val (.int c0), .unset] []))
        refine Go.by (fun _ => XS.iconst X0.here hx rfl (hb hby d_method_3_code_37)) ?_
        show Go p e below P (s₁.setTop (mkF m 38 #[.val (.int m0), .val (.int c0), .unset] [(.int (2 : Int32))]))
        obtain ⟨T18, h18, k18, X18, e18, E18, A18, st18⟩ := newP X0 hx hZ (aty := .char) (tw_14 hw) e0 (g := (mkF m 38 #[.val (.int m0), .val (.int c0), .unset] [(.int (2 : Int32))])) rfl (hb hby d_method_3_code_38) rfl (by decide) (cap := 2) (by decide) (by decide) (by decide) (by decide)
        obtain ⟨b18, g18⟩ : ∃ z, z = h0.size := ⟨_, rfl⟩
        rw [← g18] at A18 st18
        have g_b18 : n0 ≤ b18 := Nat.le_trans Z0 (Nat.le_of_eq g18.symm)
        have sz_b18 : h0.size ≤ b18 := Nat.le_trans (Keep.refl h0 []).1 (Nat.le_of_eq g18.symm)
        have sf_b18 : Safe Z own_EL s.vm h0 b18 := Safe.new (Nat.le_of_eq g18.symm)
        have f18_0 : n0 ≤ h18.size := (Nat.le_trans Z0 E18.1)
        have f18_1 : CHr Z own_EL s.vm h0 s.vm h18 := (CHr.trans (CHr.refl hCH) (CHr.ext E18 (CHr.refl hCH).1))
        have f18_2 : s.heap.size ≤ h18.size := (Nat.le_trans hk0 E18.1)
        have f18_3 : Keep h0 h18 [] := (Keep.ext (Keep.refl h0 []) E18)
        have f18_4 : Old Z n0 h18 := (Old.ext O0 E18)
        have f18_5 : Safe Z own_EL s.vm h18 b18 := (Safe.ext E18 (CHr.refl hCH).1 sf_b18)
        refine Go.by st18 ?_
        have V18 : Arv Z h18 b18 k18 .char (2 : Int32) [(.int (0 : Int32)), (.int (0 : Int32))] (.int (0 : Int32)) := (Arv.new A18 (by decide)).pad (pad_rep [] (.int (0 : Int32)) 2)
        show Go p e below P (T18.setTop (mkF m 40 #[.val (.int m0), .val (.int c0), .unset] [(.ref b18)]))
        refine Go.by (fun _ => XS.astoreN X18.here hx rfl (hb hby d_method_3_code_40) rfl rfl (l' := #[.val (.int m0), .val (.int c0), .val (.ref b18)]) rfl) ?_
        show Go p e below P (T18.setTop (mkF m 41 #[.val (.int m0), .val (.int c0), .val (.ref b18)] []))
        refine Go.by (fun _ => XS.aloadN X18.here hx rfl (hb hby d_method_3_code_41) rfl rfl) ?_
        show Go p e below P (T18.setTop (mkF m 42 #[.val (.int m0), .val (.int c0), .val (.ref b18)] [(.ref b18)]))
        refine Go.by (fun _ => XS.iconst X18.here hx rfl (hb hby d_method_3_code_42)) ?_
        show Go p e below P (T18.setTop (mkF m 43 #[.val (.int m0), .val (.int c0), .val (.ref b18)] [(.int (0 : Int32)), (.ref b18)]))
        refine Go.by (fun _ => XS.iloadN X18.here hx rfl (hb hby d_method_3_code_43) rfl) ?_
        show Go p e below P (T18.setTop (mkF m 44 #[.val (.int m0), .val (.int c0), .val (.ref b18)] [(.int c0), (.int (0 : Int32)), (.ref b18)]))
        refine Go.by (fun _ => XS.sipush X18.here hx rfl (hb hby d_method_3_code_44)) ?_
        show Go p e below P (T18.setTop (mkF m 47 #[.val (.int m0), .val (.int c0), .val (.ref b18)] [(.int (255 : Int32)), (.int c0), (.int (0 : Int32)), (.ref b18)]))
        refine Go.by (fun _ => XS.iand X18.here hx rfl (hb hby d_method_3_code_47) rfl) ?_
        show Go p e below P (T18.setTop (mkF m 48 #[.val (.int m0), .val (.int c0), .val (.ref b18)] [(.int (c0 &&& (255 : Int32))), (.int (0 : Int32)), (.ref b18)]))
        refine Go.by (fun _ => XS.i2c X18.here hx rfl (hb hby d_method_3_code_48) rfl) ?_
        rw [i2c_mask]
        show Go p e below P (T18.setTop (mkF m 49 #[.val (.int m0), .val (.int c0), .val (.ref b18)] [(.int (c0 &&& (255 : Int32))), (.int (0 : Int32)), (.ref b18)]))
        have av19 := V18
        obtain ⟨cl19, Ar19, q19, Sz19, Nn19, Ha19, Gf19⟩ := av19
        have hin19 : ¬ ((0 : Int32) < 0 ∨ cl19.slots.size ≤ ((0 : Int32)).toNatClampNeg) := inb_of Sz19 ⟨by decide, by decide⟩
        obtain ⟨T20, h20, X20, e20, W20, st20⟩ := stC X18 hx hZ e18 Ar19 (j := (0 : Int32)) hin19 (g := (mkF m 49 #[.val (.int m0), .val (.int c0), .val (.ref b18)] [(.int (c0 &&& (255 : Int32))), (.int (0 : Int32)), (.ref b18)])) rfl rfl (hb hby d_method_3_code_49)
        have W20' : Wr h18 h20 b18 ((0 : Int32)).toNatClampNeg (.int (c0 &&& (255 : Int32))) := (by have q : Wr h18 h20 b18 ((0 : Int32)).toNatClampNeg (.int (nar .char (c0 &&& (255 : Int32)))) := W20; rw [own_chr _ (own_m255 _).1 (own_m255 _).2] at q; exact q)
        have V20 : Arv Z h20 b18 k18 .char (2 : Int32) [(.int (c0 &&& (255 : Int32))), (.int (0 : Int32))] (.int (0 : Int32)) := Arv.set Ar19 q19 Sz19 Nn19 Ha19 Gf19 (own_chf _ (own_m255 _).1 (own_m255 _).2) W20' 0 rfl (Nat.le_of_ble_eq_true rfl)
        have N20 := Fr.snoc X20 N0 g_b18
        have f20_0 : n0 ≤ h20.size := (Nat.le_trans f18_0 (Keep.of_wr W20).1)
        have f20_1 : CHr Z own_EL s.vm h0 s.vm h20 := (CHr.trans f18_1 (CHr.wr W20 f18_5 f18_1.1))
        have f20_2 : s.heap.size ≤ h20.size := (Nat.le_trans f18_2 (Keep.of_wr W20).1)
        have f20_3 : Keep h0 h20 [] := (Keep.wr f18_3 W20 (Or.inr sz_b18))
        have f20_4 : Old Z n0 h20 := (Old.wr f18_4 W20 g_b18)
        have f20_5 : Safe Z own_EL s.vm h20 b18 := (Safe.wr W20 f18_5 f18_1.1 f18_5)
        refine Go.by st20 ?_
        show Go p e below P (T20.setTop (mkF m 50 #[.val (.int m0), .val (.int c0), .val (.ref b18)] []))
        refine Go.by (fun _ => XS.aloadN X20.here hx rfl (hb hby d_method_3_code_50) rfl rfl) ?_
        show Go p e below P (T20.setTop (mkF m 51 #[.val (.int m0), .val (.int c0), .val (.ref b18)] [(.ref b18)]))
        refine Go.by (fun _ => XS.iconst X20.here hx rfl (hb hby d_method_3_code_51)) ?_
        show Go p e below P (T20.setTop (mkF m 52 #[.val (.int m0), .val (.int c0), .val (.ref b18)] [(.int (1 : Int32)), (.ref b18)]))
        refine Go.by (fun _ => XS.iloadN X20.here hx rfl (hb hby d_method_3_code_52) rfl) ?_
        show Go p e below P (T20.setTop (mkF m 53 #[.val (.int m0), .val (.int c0), .val (.ref b18)] [(.int c0), (.int (1 : Int32)), (.ref b18)]))
        refine Go.by (fun _ => XS.bipush X20.here hx rfl (hb hby d_method_3_code_53)) ?_
        show Go p e below P (T20.setTop (mkF m 55 #[.val (.int m0), .val (.int c0), .val (.ref b18)] [(.int (8 : Int32)), (.int c0), (.int (1 : Int32)), (.ref b18)]))
        refine Go.by (fun _ => XS.iushr X20.here hx rfl (hb hby d_method_3_code_55) rfl) ?_
        show Go p e below P (T20.setTop (mkF m 56 #[.val (.int m0), .val (.int c0), .val (.ref b18)] [(.int ((c0.toUInt32 >>> ((8 : Int32) &&& 31).toUInt32).toInt32)), (.int (1 : Int32)), (.ref b18)]))
        refine Go.by (fun _ => XS.sipush X20.here hx rfl (hb hby d_method_3_code_56)) ?_
        show Go p e below P (T20.setTop (mkF m 59 #[.val (.int m0), .val (.int c0), .val (.ref b18)] [(.int (255 : Int32)), (.int ((c0.toUInt32 >>> ((8 : Int32) &&& 31).toUInt32).toInt32)), (.int (1 : Int32)), (.ref b18)]))
        refine Go.by (fun _ => XS.iand X20.here hx rfl (hb hby d_method_3_code_59) rfl) ?_
        show Go p e below P (T20.setTop (mkF m 60 #[.val (.int m0), .val (.int c0), .val (.ref b18)] [(.int (((c0.toUInt32 >>> ((8 : Int32) &&& 31).toUInt32).toInt32) &&& (255 : Int32))), (.int (1 : Int32)), (.ref b18)]))
        refine Go.by (fun _ => XS.i2c X20.here hx rfl (hb hby d_method_3_code_60) rfl) ?_
        rw [i2c_mask]
        show Go p e below P (T20.setTop (mkF m 61 #[.val (.int m0), .val (.int c0), .val (.ref b18)] [(.int (((c0.toUInt32 >>> ((8 : Int32) &&& 31).toUInt32).toInt32) &&& (255 : Int32))), (.int (1 : Int32)), (.ref b18)]))
        have av21 := V20
        obtain ⟨cl21, Ar21, q21, Sz21, Nn21, Ha21, Gf21⟩ := av21
        have hin21 : ¬ ((1 : Int32) < 0 ∨ cl21.slots.size ≤ ((1 : Int32)).toNatClampNeg) := inb_of Sz21 ⟨by decide, by decide⟩
        obtain ⟨T22, h22, X22, e22, W22, st22⟩ := stC X20 hx hZ e20 Ar21 (j := (1 : Int32)) hin21 (g := (mkF m 61 #[.val (.int m0), .val (.int c0), .val (.ref b18)] [(.int (((c0.toUInt32 >>> ((8 : Int32) &&& 31).toUInt32).toInt32) &&& (255 : Int32))), (.int (1 : Int32)), (.ref b18)])) rfl rfl (hb hby d_method_3_code_61)
        have W22' : Wr h20 h22 b18 ((1 : Int32)).toNatClampNeg (.int (((c0.toUInt32 >>> ((8 : Int32) &&& 31).toUInt32).toInt32) &&& (255 : Int32))) := (by have q : Wr h20 h22 b18 ((1 : Int32)).toNatClampNeg (.int (nar .char (((c0.toUInt32 >>> ((8 : Int32) &&& 31).toUInt32).toInt32) &&& (255 : Int32)))) := W22; rw [own_chr _ (own_m255 _).1 (own_m255 _).2] at q; exact q)
        have V22 : Arv Z h22 b18 k18 .char (2 : Int32) [(.int (c0 &&& (255 : Int32))), (.int (((c0.toUInt32 >>> ((8 : Int32) &&& 31).toUInt32).toInt32) &&& (255 : Int32)))] (.int (0 : Int32)) := Arv.set Ar21 q21 Sz21 Nn21 Ha21 Gf21 (own_chf _ (own_m255 _).1 (own_m255 _).2) W22' 1 rfl (Nat.le_of_ble_eq_true rfl)
        have N22 := Fr.snoc X22 N20 g_b18
        have f22_0 : n0 ≤ h22.size := (Nat.le_trans f20_0 (Keep.of_wr W22).1)
        have f22_1 : CHr Z own_EL s.vm h0 s.vm h22 := (CHr.trans f20_1 (CHr.wr W22 f20_5 f20_1.1))
        have f22_2 : s.heap.size ≤ h22.size := (Nat.le_trans f20_2 (Keep.of_wr W22).1)
        have f22_3 : Keep h0 h22 [] := (Keep.wr f20_3 W22 (Or.inr sz_b18))
        have f22_4 : Old Z n0 h22 := (Old.wr f20_4 W22 g_b18)
        have f22_5 : Safe Z own_EL s.vm h22 b18 := (Safe.wr W22 f20_5 f20_1.1 f20_5)
        refine Go.by st22 ?_
        show Go p e below P (T22.setTop (mkF m 62 #[.val (.int m0), .val (.int c0), .val (.ref b18)] []))
        obtain ⟨T23, h23, X23, e23, E23, A23, D23, U23, st23⟩ := newO X22 hx hZ hown (tw_15 hw) (tw_16 hw) (tw_17 hw) e22 (g := (mkF m 62 #[.val (.int m0), .val (.int c0), .val (.ref b18)] [])) rfl (hb hby d_method_3_code_62) (by decide) (by decide)
        obtain ⟨b23, g23⟩ : ∃ z, z = h22.size := ⟨_, rfl⟩
        rw [← g23] at A23 D23 U23 st23
        have g_b23 : n0 ≤ b23 := Nat.le_trans f22_0 (Nat.le_of_eq g23.symm)
        have sz_b23 : h0.size ≤ b23 := Nat.le_trans f22_3.1 (Nat.le_of_eq g23.symm)
        have ne_b18_b23 : b18 ≠ b23 := Nat.ne_of_lt (Nat.lt_of_lt_of_le (V22.lt) (Nat.le_of_eq g23.symm))
        have sf_b23 : Safe Z own_EL s.vm h22 b23 := Safe.new (Nat.le_of_eq g23.symm)
        have f23_0 : n0 ≤ h23.size := (Nat.le_trans f22_0 E23.1)
        have f23_1 : CHr Z own_EL s.vm h0 s.vm h23 := (CHr.trans f22_1 (CHr.ext E23 f22_1.1))
        have f23_2 : s.heap.size ≤ h23.size := (Nat.le_trans f22_2 E23.1)
        have f23_3 : Keep h0 h23 [] := (Keep.ext f22_3 E23)
        have f23_4 : Old Z n0 h23 := (Old.ext f22_4 E23)
        have f23_5 : Safe Z own_EL s.vm h23 b18 := (Safe.ext E23 f22_1.1 f22_5)
        have f23_6 : Arv Z h23 b18 k18 .char (2 : Int32) [(.int (c0 &&& (255 : Int32))), (.int (((c0.toUInt32 >>> ((8 : Int32) &&& 31).toUInt32).toInt32) &&& (255 : Int32)))] (.int (0 : Int32)) := (Arv.ext V22 E23)
        have f23_7 : Safe Z own_EL s.vm h23 b23 := (Safe.ext E23 f22_1.1 sf_b23)
        refine Go.by st23 ?_
        have F23_coder : Fld Z h23 b23 "java/lang/String" "coder" "B" (.int (0 : Int32)) := D23 (Or.inr (tw_41 hw)) (ty := .byte) (by decide)
        have F23_value : Fld Z h23 b23 "java/lang/String" "value" "[B" .null := D23 (Or.inr (tw_43 hw)) (ty := (.array .byte)) (by decide)
        show Go p e below P (T23.setTop (mkF m 65 #[.val (.int m0), .val (.int c0), .val (.ref b18)] [(.ref b23)]))
        refine Go.by (fun _ => XS.dup X23.here hx rfl (hb hby d_method_3_code_65) rfl rfl) ?_
        show Go p e below P (T23.setTop (mkF m 66 #[.val (.int m0), .val (.int c0), .val (.ref b18)] [(.ref b23), (.ref b23)]))
        refine Go.by (fun _ => XS.aloadN X23.here hx rfl (hb hby d_method_3_code_66) rfl rfl) ?_
        show Go p e below P (T23.setTop (mkF m 67 #[.val (.int m0), .val (.int c0), .val (.ref b18)] [(.ref b18), (.ref b23), (.ref b23)]))
        obtain ⟨_, _, ⟨T24, L24, k24, n24⟩, -, X24, ⟨Lc24, hQ24, l24, y24, z24⟩, st24⟩ := X23.specialBack hx (y := (⟨"java/lang/String", "<init>", "([C)V"⟩ : MethodName)) rfl hown (mvT hZ (tw_18 hw)) (mvT hZ (tw_19 hw)) (mvT hZ (tw_20 hw)) (by decide) (backOf (W := 1) (rm_si1_2 l Z a0 hw [] b23 b18 k18 (c0 &&& (255 : Int32)) (((c0.toUInt32 >>> ((8 : Int32) &&& 31).toUInt32).toInt32) &&& (255 : Int32)) cs h23 n0 f23_0 f23_4 Scs hcs A23 g_b23 F23_coder F23_value f23_6 (own_m255 _).1 (own_m255 _).2 (own_m255 _).1 (own_m255 _).2) hZ (tw_20 hw) (tw_17 hw) (by decide) (by decide)) (g := (mkF m 67 #[.val (.int m0), .val (.int c0), .val (.ref b18)] [(.ref b18), (.ref b23), (.ref b23)])) rfl (by rw [hml]; rfl) (Steps.refl _) (a := b23) (argsL := [(.ref b18)]) (rest := [(.ref b23)]) (lenOf pd___C_V rfl) rfl (by show 2 * 0 + _ ≤ _; exact Nat.le_of_eq rfl) (hb hby d_method_3_code_67) (fun _ _ => ⟨rfl, e23, (by decide : 2 + 1 ≤ _), (by decide : 6 + 2 ≤ _)⟩)
        dsimp only [Pt.U, Pt.locs, Pt.cells, Pt.slots] at X24 l24 y24 z24 st24 hQ24
        subst l24 y24 z24
        obtain ⟨rfl, N24q, K24, Gc24, d24, kd24, z24, Gv24, V24⟩ := hQ24
        have N24 := Fr.app N22 N24q
        refine Go.by (fun t k => st24.trans k) ?_
        have f24_0 : n0 ≤ T24.heap.size := (Nat.le_trans f23_0 K24.1)
        have f24_1 : CHr Z own_EL s.vm h0 s.vm T24.heap := (CHr.trans f23_1 (CHr.keep K24 (sfS f23_7 sf0) f23_1.1))
        have f24_2 : s.heap.size ≤ T24.heap.size := (Nat.le_trans f23_2 K24.1)
        have f24_3 : Keep h0 T24.heap [] := (Keep.trans f23_3 K24 (allS (Or.inr sz_b23) all0))
        have f24_4 : Old Z n0 T24.heap := (Old.keep f23_4 K24 (allS g_b23 all0))
        have f24_5 : Safe Z own_EL s.vm T24.heap b18 := (Safe.keep K24 (sfS f23_7 sf0) f23_1.1 f23_5)
        have f24_6 : Arv Z T24.heap b18 k18 .char (2 : Int32) [(.int (c0 &&& (255 : Int32))), (.int (((c0.toUInt32 >>> ((8 : Int32) &&& 31).toUInt32).toInt32) &&& (255 : Int32)))] (.int (0 : Int32)) := (Arv.keep f23_6 K24 (ninS ne_b18_b23 nin0))
        have f24_7 : Safe Z own_EL s.vm T24.heap b23 := (Safe.keep K24 (sfS f23_7 sf0) f23_1.1 f23_7)
        have f24_8 : Exa Z T24.heap b23 "java/lang/String" := (Exa.keep A23 K24)
        have S24 : StrV Z T24.heap b23 [((c0 &&& (255 : Int32)).toInt8.toInt32), ((((c0.toUInt32 >>> ((8 : Int32) &&& 31).toUInt32).toInt32) &&& (255 : Int32)).toInt8.toInt32)] := ⟨d24, kd24, f24_8, Gc24, Gv24, V24⟩
        show Go p e below P (T24.setTop (mkF m 70 #[.val (.int m0), .val (.int c0), .val (.ref b18)] [(.ref b23)]))
        refine fin X24 (v := some (.ref b23)) (fun h => by rw [Bd.returns] at h; cases h) (by decide) (by decide) rfl hS0 f24_2 hZ f24_1 ?_ (fun fs hr => retOut X24 hx Bd.returns rfl (Or.inr (Or.inr (Or.inr (Or.inr ⟨rfl, rfl, rfl⟩)))) (hb hby d_method_3_code_70) hr)
        exact ⟨.ref b23, rfl, N24, f24_3, Or.inr ⟨b23, _, rfl, by unfold own_argV; rw [if_neg hc1_11, if_neg hc8_12, if_neg hc24_16], S24⟩, fun a q => by cases q; exact sz_b23⟩
def Q_l1eq (Z : State) (a0 : Addr) (k0 : ClassId) (b0 : List Int32) (a1 : Addr) (k1 : ClassId) (b1 : List Int32) (h0 : Heap) (n0 : Nat) (v : Option Value) (h : Heap) (L : List Loc) : Prop := v = some (.int (if b0 = b1 then (1 : Int32) else 0)) ∧ Fr n0 L ∧ h = h0
theorem ef_l1eq (m : MethodId) (a0 : Addr) (k0 : ClassId) (b0 : List Int32) (a1 : Addr) (k1 : ClassId) (b1 : List Int32) : entryFrame m #[(.ref a0), (.ref a1)] 3 = mkF m 0 #[.val (.ref a0), .val (.ref a1), .unset] [] := by first | (simp [entryFrame, mkF, argsToLocals, Value.category]; done) | rfl
set_option maxRecDepth 65536 in
set_option maxHeartbeats 40000000 in
theorem rm_l1eq (l : Launch) (Z : State) (a0 : Array Value) (hw : ∀ d ∈ tables_1, d.before a0 Z = true) (ws : List Jvm.Cond) (a0 : Addr) (k0 : ClassId) (b0 : List Int32) (a1 : Addr) (k1 : ClassId) (b1 : List Int32) (h0 : Heap) (n0 : Nat) (Z0 : n0 ≤ h0.size) (V0 : Arv Z h0 a0 k0 .byte (Int32.ofNat b0.length) (b0.map Value.int) (.int (0 : Int32))) (V1 : Arv Z h0 a1 k1 .byte (Int32.ofNat b1.length) (b1.map Value.int) (.int (0 : Int32))) (hl0 : b0.length ≤ 2) (hl1 : b1.length ≤ 2) :
    MetFree l (⟨"java/lang/StringLatin1", "equals", "([B[B)Z"⟩ : MethodName) (head1 (Jvm.Cond.code (⟨"java/lang/StringLatin1", "equals", "([B[B)Z"⟩ : MethodName) jdk_43_method_13_code 3 (some .boolean) :: ws) ({ frames := 0, cells := 0, slots := 0, locals := 0 } : Room)) (fun a U => a = #[(.ref a0), (.ref a1)] ∧ Z.Warmed39 U.vm ∧ U.heap = h0) (fun _ _ _ _ _ => True) (fun _ U o U' => ∃ v L, o = .returned v ∧ Q_l1eq Z a0 k0 b0 a1 k1 b1 h0 n0 v U'.heap L ∧ FrameEnd U o U' L ({ frames := 0, cells := 0, slots := 0, locals := 0 } : Room).cells ({ frames := 0, cells := 0, slots := 0, locals := 0 } : Room).slots) := by
  refine MetFree.of_bodySF (plainFor_of_name pn_java_lang_StringLatin1) hisR ?_
  intro p e s m args below meth c s₁ Bd hml0 hP hK
  obtain ⟨rfl, hZ, hh⟩ := hP
  have hx := Bd.exec
  have hby := Bd.bytes
  have hml : c.maxLocals = 3 := hml0
  have hown : s.vm.findClass "java/lang/StringLatin1" = some m.cls := findClass_of_methodNamed Bd.named
  have hnm := (name_of_methodNamed Bd.named Bd.method).1
  have X0 : Stand p l e ({ frames := 0, cells := 0, slots := 0, locals := 0 } : Room) s m #[(.ref a0), (.ref a1)] below meth c s₁ [] 0 0 := Stand.of_body Bd
  have e0 : s₁.heap = h0 := by rw [← hh, Bd.state]; rfl
  have N0 := Fr.nil n0
  have hlk : meth.locks = false := Bd.notSynchronized
  obtain ⟨P, hP⟩ : ∃ P : Outcome → State → Prop, P = PQ s (Q_l1eq Z a0 k0 b0 a1 k1 b1 h0 n0) ({ frames := 0, cells := 0, slots := 0, locals := 0 } : Room).cells ({ frames := 0, cells := 0, slots := 0, locals := 0 } : Room).slots := ⟨_, rfl⟩
  have fin : ∀ {T : State} {locs : List Loc} {k n : Nat} {v : Option Value} {S0 : State}, Stand p l e ({ frames := 0, cells := 0, slots := 0, locals := 0 } : Room) s m #[(.ref a0), (.ref a1)] below meth c T locs k n → (meth.sig.returnType = none → v = none) → k ≤ ({ frames := 0, cells := 0, slots := 0, locals := 0 } : Room).cells → n ≤ ({ frames := 0, cells := 0, slots := 0, locals := 0 } : Room).slots → Q_l1eq Z a0 k0 b0 a1 k1 b1 h0 n0 v T.heap locs → (∀ fs, (∀ (f : JFrame) (acts : List Action), f.method = m → f.locked = none → f.entered = [] → (doReturn e (T.setTop f) acts v).1 = T.setFrames fs) → Steps p.tables e below S0 (T.setFrames fs)) → Go p e below P S0 := fun X hv hk hn hQ hst => hP ▸ Go.fin X hlk hv hk hn hQ hst
  suffices hgo : Go p e below P (s₁.setTop (mkF m 0 #[.val (.ref a0), .val (.ref a1), .unset] [])) by
    rw [hP] at hgo
    exact Go.by (fun t k => castTop (ef_l1eq m a0 k0 b0 a1 k1 b1) k) hgo
  show Go p e below P (s₁.setTop (mkF m 0 #[.val (.ref a0), .val (.ref a1), .unset] []))
  rcases own_len2 hl0 with rfl | ⟨u0, rfl⟩ | ⟨u0, u1, rfl⟩
  · have V0' : Arv Z h0 a0 k0 .byte (0 : Int32) [] (.int (0 : Int32)) := V0
    rcases own_len2 hl1 with rfl | ⟨w0, rfl⟩ | ⟨w0, w1, rfl⟩
    · have V1' : Arv Z h0 a1 k1 .byte (0 : Int32) [] (.int (0 : Int32)) := V1
      show Go p e below P (s₁.setTop (mkF m 0 #[.val (.ref a0), .val (.ref a1), .unset] []))
      refine Go.by (fun _ => XS.aloadN X0.here hx rfl (hb hby d_jdk_43_method_13_code_0) rfl rfl) ?_
      show Go p e below P (s₁.setTop (mkF m 1 #[.val (.ref a0), .val (.ref a1), .unset] [(.ref a0)]))
      have av11 := V0'
      obtain ⟨cl11, Ar11, -, Sz11, Nn11, -, -⟩ := av11
      refine Go.by (X0.arraylength hx (by rw [e0]; exact Ar11.1) (State.isArrayOf_alike hZ.alike Ar11.2.1) (g := (mkF m 1 #[.val (.ref a0), .val (.ref a1), .unset] [(.ref a0)])) rfl rfl (hb hby d_jdk_43_method_13_code_1)) ?_
      rw [len_of Sz11 Nn11]
      show Go p e below P (s₁.setTop (mkF m 2 #[.val (.ref a0), .val (.ref a1), .unset] [(.int (0 : Int32))]))
      refine Go.by (fun _ => XS.aloadN X0.here hx rfl (hb hby d_jdk_43_method_13_code_2) rfl rfl) ?_
      show Go p e below P (s₁.setTop (mkF m 3 #[.val (.ref a0), .val (.ref a1), .unset] [(.ref a1), (.int (0 : Int32))]))
      have av12 := V1'
      obtain ⟨cl12, Ar12, -, Sz12, Nn12, -, -⟩ := av12
      refine Go.by (X0.arraylength hx (by rw [e0]; exact Ar12.1) (State.isArrayOf_alike hZ.alike Ar12.2.1) (g := (mkF m 3 #[.val (.ref a0), .val (.ref a1), .unset] [(.ref a1), (.int (0 : Int32))])) rfl rfl (hb hby d_jdk_43_method_13_code_3)) ?_
      rw [len_of Sz12 Nn12]
      show Go p e below P (s₁.setTop (mkF m 4 #[.val (.ref a0), .val (.ref a1), .unset] [(.int (0 : Int32)), (.int (0 : Int32))]))
      refine Go.by (fun _ => XS.icmpNo X0.here hx rfl (hb hby d_jdk_43_method_13_code_4) rfl (XT.ii_ne_f (by decide : (0 : Int32) = (0 : Int32)))) ?_
      show Go p e below P (s₁.setTop (mkF m 7 #[.val (.ref a0), .val (.ref a1), .unset] []))
      refine Go.by (fun _ => XS.iconst X0.here hx rfl (hb hby d_jdk_43_method_13_code_7)) ?_
      show Go p e below P (s₁.setTop (mkF m 8 #[.val (.ref a0), .val (.ref a1), .unset] [(.int (0 : Int32))]))
      refine Go.by (fun _ => XS.istoreN X0.here hx rfl (hb hby d_jdk_43_method_13_code_8) rfl (l' := #[.val (.ref a0), .val (.ref a1), .val (.int (0 : Int32))]) rfl) ?_
      show Go p e below P (s₁.setTop (mkF m 9 #[.val (.ref a0), .val (.ref a1), .val (.int (0 : Int32))] []))
      refine Go.by (fun _ => XS.iloadN X0.here hx rfl (hb hby d_jdk_43_method_13_code_9) rfl) ?_
      show Go p e below P (s₁.setTop (mkF m 10 #[.val (.ref a0), .val (.ref a1), .val (.int (0 : Int32))] [(.int (0 : Int32))]))
      refine Go.by (fun _ => XS.aloadN X0.here hx rfl (hb hby d_jdk_43_method_13_code_10) rfl rfl) ?_
      show Go p e below P (s₁.setTop (mkF m 11 #[.val (.ref a0), .val (.ref a1), .val (.int (0 : Int32))] [(.ref a0), (.int (0 : Int32))]))
      have av13 := V0'
      obtain ⟨cl13, Ar13, -, Sz13, Nn13, -, -⟩ := av13
      refine Go.by (X0.arraylength hx (by rw [e0]; exact Ar13.1) (State.isArrayOf_alike hZ.alike Ar13.2.1) (g := (mkF m 11 #[.val (.ref a0), .val (.ref a1), .val (.int (0 : Int32))] [(.ref a0), (.int (0 : Int32))])) rfl rfl (hb hby d_jdk_43_method_13_code_11)) ?_
      rw [len_of Sz13 Nn13]
      show Go p e below P (s₁.setTop (mkF m 12 #[.val (.ref a0), .val (.ref a1), .val (.int (0 : Int32))] [(.int (0 : Int32)), (.int (0 : Int32))]))
      refine Go.by (fun _ => XS.icmpYes X0.here hx rfl (pc0 := 12) (pc' := 32) rfl (hb hby d_jdk_43_method_13_code_12) rfl (XT.ii_ge_t (by decide : ¬ (0 : Int32) < (0 : Int32))) (by decide) (by decide)) ?_
      show Go p e below P (s₁.setTop (mkF m 32 #[.val (.ref a0), .val (.ref a1), .val (.int (0 : Int32))] []))
      refine Go.by (fun _ => XS.iconst X0.here hx rfl (hb hby d_jdk_43_method_13_code_32)) ?_
      show Go p e below P (s₁.setTop (mkF m 33 #[.val (.ref a0), .val (.ref a1), .val (.int (0 : Int32))] [(.int (1 : Int32))]))
      refine fin X0 (v := some (.int (1 : Int32))) (fun h => by rw [Bd.returns] at h; cases h) (by decide) (by decide) ?_ (fun fs hr => retOut X0 hx Bd.returns rfl (Or.inl ⟨rfl, Or.inr (Or.inl rfl), _, rfl⟩) (hb hby d_jdk_43_method_13_code_33) hr)
      rw [e0]
      exact ⟨by simp, N0, rfl⟩
    · have V1' : Arv Z h0 a1 k1 .byte (1 : Int32) [(.int w0)] (.int (0 : Int32)) := V1
      show Go p e below P (s₁.setTop (mkF m 0 #[.val (.ref a0), .val (.ref a1), .unset] []))
      refine Go.by (fun _ => XS.aloadN X0.here hx rfl (hb hby d_jdk_43_method_13_code_0) rfl rfl) ?_
      show Go p e below P (s₁.setTop (mkF m 1 #[.val (.ref a0), .val (.ref a1), .unset] [(.ref a0)]))
      have av14 := V0'
      obtain ⟨cl14, Ar14, -, Sz14, Nn14, -, -⟩ := av14
      refine Go.by (X0.arraylength hx (by rw [e0]; exact Ar14.1) (State.isArrayOf_alike hZ.alike Ar14.2.1) (g := (mkF m 1 #[.val (.ref a0), .val (.ref a1), .unset] [(.ref a0)])) rfl rfl (hb hby d_jdk_43_method_13_code_1)) ?_
      rw [len_of Sz14 Nn14]
      show Go p e below P (s₁.setTop (mkF m 2 #[.val (.ref a0), .val (.ref a1), .unset] [(.int (0 : Int32))]))
      refine Go.by (fun _ => XS.aloadN X0.here hx rfl (hb hby d_jdk_43_method_13_code_2) rfl rfl) ?_
      show Go p e below P (s₁.setTop (mkF m 3 #[.val (.ref a0), .val (.ref a1), .unset] [(.ref a1), (.int (0 : Int32))]))
      have av15 := V1'
      obtain ⟨cl15, Ar15, -, Sz15, Nn15, -, -⟩ := av15
      refine Go.by (X0.arraylength hx (by rw [e0]; exact Ar15.1) (State.isArrayOf_alike hZ.alike Ar15.2.1) (g := (mkF m 3 #[.val (.ref a0), .val (.ref a1), .unset] [(.ref a1), (.int (0 : Int32))])) rfl rfl (hb hby d_jdk_43_method_13_code_3)) ?_
      rw [len_of Sz15 Nn15]
      show Go p e below P (s₁.setTop (mkF m 4 #[.val (.ref a0), .val (.ref a1), .unset] [(.int (1 : Int32)), (.int (0 : Int32))]))
      refine Go.by (fun _ => XS.icmpYes X0.here hx rfl (pc0 := 4) (pc' := 34) rfl (hb hby d_jdk_43_method_13_code_4) rfl (XT.ii_ne_t (by decide : ¬ (0 : Int32) = (1 : Int32))) (by decide) (by decide)) ?_
      show Go p e below P (s₁.setTop (mkF m 34 #[.val (.ref a0), .val (.ref a1), .unset] []))
      refine Go.by (fun _ => XS.iconst X0.here hx rfl (hb hby d_jdk_43_method_13_code_34)) ?_
      show Go p e below P (s₁.setTop (mkF m 35 #[.val (.ref a0), .val (.ref a1), .unset] [(.int (0 : Int32))]))
      refine fin X0 (v := some (.int (0 : Int32))) (fun h => by rw [Bd.returns] at h; cases h) (by decide) (by decide) ?_ (fun fs hr => retOut X0 hx Bd.returns rfl (Or.inl ⟨rfl, Or.inr (Or.inl rfl), _, rfl⟩) (hb hby d_jdk_43_method_13_code_35) hr)
      rw [e0]
      exact ⟨by simp, N0, rfl⟩
    · have V1' : Arv Z h0 a1 k1 .byte (2 : Int32) [(.int w0), (.int w1)] (.int (0 : Int32)) := V1
      show Go p e below P (s₁.setTop (mkF m 0 #[.val (.ref a0), .val (.ref a1), .unset] []))
      refine Go.by (fun _ => XS.aloadN X0.here hx rfl (hb hby d_jdk_43_method_13_code_0) rfl rfl) ?_
      show Go p e below P (s₁.setTop (mkF m 1 #[.val (.ref a0), .val (.ref a1), .unset] [(.ref a0)]))
      have av16 := V0'
      obtain ⟨cl16, Ar16, -, Sz16, Nn16, -, -⟩ := av16
      refine Go.by (X0.arraylength hx (by rw [e0]; exact Ar16.1) (State.isArrayOf_alike hZ.alike Ar16.2.1) (g := (mkF m 1 #[.val (.ref a0), .val (.ref a1), .unset] [(.ref a0)])) rfl rfl (hb hby d_jdk_43_method_13_code_1)) ?_
      rw [len_of Sz16 Nn16]
      show Go p e below P (s₁.setTop (mkF m 2 #[.val (.ref a0), .val (.ref a1), .unset] [(.int (0 : Int32))]))
      refine Go.by (fun _ => XS.aloadN X0.here hx rfl (hb hby d_jdk_43_method_13_code_2) rfl rfl) ?_
      show Go p e below P (s₁.setTop (mkF m 3 #[.val (.ref a0), .val (.ref a1), .unset] [(.ref a1), (.int (0 : Int32))]))
      have av17 := V1'
      obtain ⟨cl17, Ar17, -, Sz17, Nn17, -, -⟩ := av17
      refine Go.by (X0.arraylength hx (by rw [e0]; exact Ar17.1) (State.isArrayOf_alike hZ.alike Ar17.2.1) (g := (mkF m 3 #[.val (.ref a0), .val (.ref a1), .unset] [(.ref a1), (.int (0 : Int32))])) rfl rfl (hb hby d_jdk_43_method_13_code_3)) ?_
      rw [len_of Sz17 Nn17]
      show Go p e below P (s₁.setTop (mkF m 4 #[.val (.ref a0), .val (.ref a1), .unset] [(.int (2 : Int32)), (.int (0 : Int32))]))
      refine Go.by (fun _ => XS.icmpYes X0.here hx rfl (pc0 := 4) (pc' := 34) rfl (hb hby d_jdk_43_method_13_code_4) rfl (XT.ii_ne_t (by decide : ¬ (0 : Int32) = (2 : Int32))) (by decide) (by decide)) ?_
      show Go p e below P (s₁.setTop (mkF m 34 #[.val (.ref a0), .val (.ref a1), .unset] []))
      refine Go.by (fun _ => XS.iconst X0.here hx rfl (hb hby d_jdk_43_method_13_code_34)) ?_
      show Go p e below P (s₁.setTop (mkF m 35 #[.val (.ref a0), .val (.ref a1), .unset] [(.int (0 : Int32))]))
      refine fin X0 (v := some (.int (0 : Int32))) (fun h => by rw [Bd.returns] at h; cases h) (by decide) (by decide) ?_ (fun fs hr => retOut X0 hx Bd.returns rfl (Or.inl ⟨rfl, Or.inr (Or.inl rfl), _, rfl⟩) (hb hby d_jdk_43_method_13_code_35) hr)
      rw [e0]
      exact ⟨by simp, N0, rfl⟩
  · have V0' : Arv Z h0 a0 k0 .byte (1 : Int32) [(.int u0)] (.int (0 : Int32)) := V0
    rcases own_len2 hl1 with rfl | ⟨w0, rfl⟩ | ⟨w0, w1, rfl⟩
    · have V1' : Arv Z h0 a1 k1 .byte (0 : Int32) [] (.int (0 : Int32)) := V1
      show Go p e below P (s₁.setTop (mkF m 0 #[.val (.ref a0), .val (.ref a1), .unset] []))
      refine Go.by (fun _ => XS.aloadN X0.here hx rfl (hb hby d_jdk_43_method_13_code_0) rfl rfl) ?_
      show Go p e below P (s₁.setTop (mkF m 1 #[.val (.ref a0), .val (.ref a1), .unset] [(.ref a0)]))
      have av18 := V0'
      obtain ⟨cl18, Ar18, -, Sz18, Nn18, -, -⟩ := av18
      refine Go.by (X0.arraylength hx (by rw [e0]; exact Ar18.1) (State.isArrayOf_alike hZ.alike Ar18.2.1) (g := (mkF m 1 #[.val (.ref a0), .val (.ref a1), .unset] [(.ref a0)])) rfl rfl (hb hby d_jdk_43_method_13_code_1)) ?_
      rw [len_of Sz18 Nn18]
      show Go p e below P (s₁.setTop (mkF m 2 #[.val (.ref a0), .val (.ref a1), .unset] [(.int (1 : Int32))]))
      refine Go.by (fun _ => XS.aloadN X0.here hx rfl (hb hby d_jdk_43_method_13_code_2) rfl rfl) ?_
      show Go p e below P (s₁.setTop (mkF m 3 #[.val (.ref a0), .val (.ref a1), .unset] [(.ref a1), (.int (1 : Int32))]))
      have av19 := V1'
      obtain ⟨cl19, Ar19, -, Sz19, Nn19, -, -⟩ := av19
      refine Go.by (X0.arraylength hx (by rw [e0]; exact Ar19.1) (State.isArrayOf_alike hZ.alike Ar19.2.1) (g := (mkF m 3 #[.val (.ref a0), .val (.ref a1), .unset] [(.ref a1), (.int (1 : Int32))])) rfl rfl (hb hby d_jdk_43_method_13_code_3)) ?_
      rw [len_of Sz19 Nn19]
      show Go p e below P (s₁.setTop (mkF m 4 #[.val (.ref a0), .val (.ref a1), .unset] [(.int (0 : Int32)), (.int (1 : Int32))]))
      refine Go.by (fun _ => XS.icmpYes X0.here hx rfl (pc0 := 4) (pc' := 34) rfl (hb hby d_jdk_43_method_13_code_4) rfl (XT.ii_ne_t (by decide : ¬ (1 : Int32) = (0 : Int32))) (by decide) (by decide)) ?_
      show Go p e below P (s₁.setTop (mkF m 34 #[.val (.ref a0), .val (.ref a1), .unset] []))
      refine Go.by (fun _ => XS.iconst X0.here hx rfl (hb hby d_jdk_43_method_13_code_34)) ?_
      show Go p e below P (s₁.setTop (mkF m 35 #[.val (.ref a0), .val (.ref a1), .unset] [(.int (0 : Int32))]))
      refine fin X0 (v := some (.int (0 : Int32))) (fun h => by rw [Bd.returns] at h; cases h) (by decide) (by decide) ?_ (fun fs hr => retOut X0 hx Bd.returns rfl (Or.inl ⟨rfl, Or.inr (Or.inl rfl), _, rfl⟩) (hb hby d_jdk_43_method_13_code_35) hr)
      rw [e0]
      exact ⟨by simp, N0, rfl⟩
    · have V1' : Arv Z h0 a1 k1 .byte (1 : Int32) [(.int w0)] (.int (0 : Int32)) := V1
      show Go p e below P (s₁.setTop (mkF m 0 #[.val (.ref a0), .val (.ref a1), .unset] []))
      refine Go.by (fun _ => XS.aloadN X0.here hx rfl (hb hby d_jdk_43_method_13_code_0) rfl rfl) ?_
      show Go p e below P (s₁.setTop (mkF m 1 #[.val (.ref a0), .val (.ref a1), .unset] [(.ref a0)]))
      have av20 := V0'
      obtain ⟨cl20, Ar20, -, Sz20, Nn20, -, -⟩ := av20
      refine Go.by (X0.arraylength hx (by rw [e0]; exact Ar20.1) (State.isArrayOf_alike hZ.alike Ar20.2.1) (g := (mkF m 1 #[.val (.ref a0), .val (.ref a1), .unset] [(.ref a0)])) rfl rfl (hb hby d_jdk_43_method_13_code_1)) ?_
      rw [len_of Sz20 Nn20]
      show Go p e below P (s₁.setTop (mkF m 2 #[.val (.ref a0), .val (.ref a1), .unset] [(.int (1 : Int32))]))
      refine Go.by (fun _ => XS.aloadN X0.here hx rfl (hb hby d_jdk_43_method_13_code_2) rfl rfl) ?_
      show Go p e below P (s₁.setTop (mkF m 3 #[.val (.ref a0), .val (.ref a1), .unset] [(.ref a1), (.int (1 : Int32))]))
      have av21 := V1'
      obtain ⟨cl21, Ar21, -, Sz21, Nn21, -, -⟩ := av21
      refine Go.by (X0.arraylength hx (by rw [e0]; exact Ar21.1) (State.isArrayOf_alike hZ.alike Ar21.2.1) (g := (mkF m 3 #[.val (.ref a0), .val (.ref a1), .unset] [(.ref a1), (.int (1 : Int32))])) rfl rfl (hb hby d_jdk_43_method_13_code_3)) ?_
      rw [len_of Sz21 Nn21]
      show Go p e below P (s₁.setTop (mkF m 4 #[.val (.ref a0), .val (.ref a1), .unset] [(.int (1 : Int32)), (.int (1 : Int32))]))
      refine Go.by (fun _ => XS.icmpNo X0.here hx rfl (hb hby d_jdk_43_method_13_code_4) rfl (XT.ii_ne_f (by decide : (1 : Int32) = (1 : Int32)))) ?_
      show Go p e below P (s₁.setTop (mkF m 7 #[.val (.ref a0), .val (.ref a1), .unset] []))
      refine Go.by (fun _ => XS.iconst X0.here hx rfl (hb hby d_jdk_43_method_13_code_7)) ?_
      show Go p e below P (s₁.setTop (mkF m 8 #[.val (.ref a0), .val (.ref a1), .unset] [(.int (0 : Int32))]))
      refine Go.by (fun _ => XS.istoreN X0.here hx rfl (hb hby d_jdk_43_method_13_code_8) rfl (l' := #[.val (.ref a0), .val (.ref a1), .val (.int (0 : Int32))]) rfl) ?_
      show Go p e below P (s₁.setTop (mkF m 9 #[.val (.ref a0), .val (.ref a1), .val (.int (0 : Int32))] []))
      refine Go.by (fun _ => XS.iloadN X0.here hx rfl (hb hby d_jdk_43_method_13_code_9) rfl) ?_
      show Go p e below P (s₁.setTop (mkF m 10 #[.val (.ref a0), .val (.ref a1), .val (.int (0 : Int32))] [(.int (0 : Int32))]))
      refine Go.by (fun _ => XS.aloadN X0.here hx rfl (hb hby d_jdk_43_method_13_code_10) rfl rfl) ?_
      show Go p e below P (s₁.setTop (mkF m 11 #[.val (.ref a0), .val (.ref a1), .val (.int (0 : Int32))] [(.ref a0), (.int (0 : Int32))]))
      have av22 := V0'
      obtain ⟨cl22, Ar22, -, Sz22, Nn22, -, -⟩ := av22
      refine Go.by (X0.arraylength hx (by rw [e0]; exact Ar22.1) (State.isArrayOf_alike hZ.alike Ar22.2.1) (g := (mkF m 11 #[.val (.ref a0), .val (.ref a1), .val (.int (0 : Int32))] [(.ref a0), (.int (0 : Int32))])) rfl rfl (hb hby d_jdk_43_method_13_code_11)) ?_
      rw [len_of Sz22 Nn22]
      show Go p e below P (s₁.setTop (mkF m 12 #[.val (.ref a0), .val (.ref a1), .val (.int (0 : Int32))] [(.int (1 : Int32)), (.int (0 : Int32))]))
      refine Go.by (fun _ => XS.icmpNo X0.here hx rfl (hb hby d_jdk_43_method_13_code_12) rfl (XT.ii_ge_f (by decide : (0 : Int32) < (1 : Int32)))) ?_
      show Go p e below P (s₁.setTop (mkF m 15 #[.val (.ref a0), .val (.ref a1), .val (.int (0 : Int32))] []))
      refine Go.by (fun _ => XS.aloadN X0.here hx rfl (hb hby d_jdk_43_method_13_code_15) rfl rfl) ?_
      show Go p e below P (s₁.setTop (mkF m 16 #[.val (.ref a0), .val (.ref a1), .val (.int (0 : Int32))] [(.ref a0)]))
      refine Go.by (fun _ => XS.iloadN X0.here hx rfl (hb hby d_jdk_43_method_13_code_16) rfl) ?_
      show Go p e below P (s₁.setTop (mkF m 17 #[.val (.ref a0), .val (.ref a1), .val (.int (0 : Int32))] [(.int (0 : Int32)), (.ref a0)]))
      have av23 := V0'
      obtain ⟨cl23, Ar23, -, Sz23, Nn23, Ha23, Gf23⟩ := av23
      have hin23 : ¬ ((0 : Int32) < 0 ∨ cl23.slots.size ≤ ((0 : Int32)).toNatClampNeg) := inb_of Sz23 ⟨by decide, by decide⟩
      have hat23 : cl23.slots[((0 : Int32)).toNatClampNeg]? = some (.int u0) := Ha23.at hin23 rfl
      refine Go.by (X0.baloadBytes hx (j := (0 : Int32)) (v := (.int u0)) (by rw [e0]; exact Ar23.1) (State.isArrayOf_alike hZ.alike Ar23.2.1) Ar23.2.2 hin23 hat23 (g := (mkF m 17 #[.val (.ref a0), .val (.ref a1), .val (.int (0 : Int32))] [(.int (0 : Int32)), (.ref a0)])) rfl rfl (hb hby d_jdk_43_method_13_code_17)) ?_
      show Go p e below P (s₁.setTop (mkF m 18 #[.val (.ref a0), .val (.ref a1), .val (.int (0 : Int32))] [(.int u0)]))
      refine Go.by (fun _ => XS.aloadN X0.here hx rfl (hb hby d_jdk_43_method_13_code_18) rfl rfl) ?_
      show Go p e below P (s₁.setTop (mkF m 19 #[.val (.ref a0), .val (.ref a1), .val (.int (0 : Int32))] [(.ref a1), (.int u0)]))
      refine Go.by (fun _ => XS.iloadN X0.here hx rfl (hb hby d_jdk_43_method_13_code_19) rfl) ?_
      show Go p e below P (s₁.setTop (mkF m 20 #[.val (.ref a0), .val (.ref a1), .val (.int (0 : Int32))] [(.int (0 : Int32)), (.ref a1), (.int u0)]))
      have av24 := V1'
      obtain ⟨cl24, Ar24, -, Sz24, Nn24, Ha24, Gf24⟩ := av24
      have hin24 : ¬ ((0 : Int32) < 0 ∨ cl24.slots.size ≤ ((0 : Int32)).toNatClampNeg) := inb_of Sz24 ⟨by decide, by decide⟩
      have hat24 : cl24.slots[((0 : Int32)).toNatClampNeg]? = some (.int w0) := Ha24.at hin24 rfl
      refine Go.by (X0.baloadBytes hx (j := (0 : Int32)) (v := (.int w0)) (by rw [e0]; exact Ar24.1) (State.isArrayOf_alike hZ.alike Ar24.2.1) Ar24.2.2 hin24 hat24 (g := (mkF m 20 #[.val (.ref a0), .val (.ref a1), .val (.int (0 : Int32))] [(.int (0 : Int32)), (.ref a1), (.int u0)])) rfl rfl (hb hby d_jdk_43_method_13_code_20)) ?_
      show Go p e below P (s₁.setTop (mkF m 21 #[.val (.ref a0), .val (.ref a1), .val (.int (0 : Int32))] [(.int w0), (.int u0)]))
      by_cases hc21_25 : u0 = w0
      · refine Go.by (fun _ => XS.icmpYes X0.here hx rfl (pc0 := 21) (pc' := 26) rfl (hb hby d_jdk_43_method_13_code_21) rfl (XT.ii_eq_t hc21_25) (by decide) (by decide)) ?_
        show Go p e below P (s₁.setTop (mkF m 26 #[.val (.ref a0), .val (.ref a1), .val (.int (0 : Int32))] []))
        refine Go.by (fun _ => XS.iinc X0.here hx rfl (hb hby d_jdk_43_method_13_code_26) rfl (l' := #[.val (.ref a0), .val (.ref a1), .val (.int (1 : Int32))]) rfl) ?_
        show Go p e below P (s₁.setTop (mkF m 29 #[.val (.ref a0), .val (.ref a1), .val (.int (1 : Int32))] []))
        refine Go.by (fun _ => XS.goto X0.here hx rfl (pc0 := 29) (pc' := 9) rfl (hb hby d_jdk_43_method_13_code_29) (by decide) (by decide)) ?_
        show Go p e below P (s₁.setTop (mkF m 9 #[.val (.ref a0), .val (.ref a1), .val (.int (1 : Int32))] []))
        refine Go.by (fun _ => XS.iloadN X0.here hx rfl (hb hby d_jdk_43_method_13_code_9) rfl) ?_
        show Go p e below P (s₁.setTop (mkF m 10 #[.val (.ref a0), .val (.ref a1), .val (.int (1 : Int32))] [(.int (1 : Int32))]))
        refine Go.by (fun _ => XS.aloadN X0.here hx rfl (hb hby d_jdk_43_method_13_code_10) rfl rfl) ?_
        show Go p e below P (s₁.setTop (mkF m 11 #[.val (.ref a0), .val (.ref a1), .val (.int (1 : Int32))] [(.ref a0), (.int (1 : Int32))]))
        have av26 := V0'
        obtain ⟨cl26, Ar26, -, Sz26, Nn26, -, -⟩ := av26
        refine Go.by (X0.arraylength hx (by rw [e0]; exact Ar26.1) (State.isArrayOf_alike hZ.alike Ar26.2.1) (g := (mkF m 11 #[.val (.ref a0), .val (.ref a1), .val (.int (1 : Int32))] [(.ref a0), (.int (1 : Int32))])) rfl rfl (hb hby d_jdk_43_method_13_code_11)) ?_
        rw [len_of Sz26 Nn26]
        show Go p e below P (s₁.setTop (mkF m 12 #[.val (.ref a0), .val (.ref a1), .val (.int (1 : Int32))] [(.int (1 : Int32)), (.int (1 : Int32))]))
        refine Go.by (fun _ => XS.icmpYes X0.here hx rfl (pc0 := 12) (pc' := 32) rfl (hb hby d_jdk_43_method_13_code_12) rfl (XT.ii_ge_t (by decide : ¬ (1 : Int32) < (1 : Int32))) (by decide) (by decide)) ?_
        show Go p e below P (s₁.setTop (mkF m 32 #[.val (.ref a0), .val (.ref a1), .val (.int (1 : Int32))] []))
        refine Go.by (fun _ => XS.iconst X0.here hx rfl (hb hby d_jdk_43_method_13_code_32)) ?_
        show Go p e below P (s₁.setTop (mkF m 33 #[.val (.ref a0), .val (.ref a1), .val (.int (1 : Int32))] [(.int (1 : Int32))]))
        refine fin X0 (v := some (.int (1 : Int32))) (fun h => by rw [Bd.returns] at h; cases h) (by decide) (by decide) ?_ (fun fs hr => retOut X0 hx Bd.returns rfl (Or.inl ⟨rfl, Or.inr (Or.inl rfl), _, rfl⟩) (hb hby d_jdk_43_method_13_code_33) hr)
        rw [e0]
        exact ⟨by simp [hc21_25], N0, rfl⟩
      · refine Go.by (fun _ => XS.icmpNo X0.here hx rfl (hb hby d_jdk_43_method_13_code_21) rfl (XT.ii_eq_f hc21_25)) ?_
        show Go p e below P (s₁.setTop (mkF m 24 #[.val (.ref a0), .val (.ref a1), .val (.int (0 : Int32))] []))
        refine Go.by (fun _ => XS.iconst X0.here hx rfl (hb hby d_jdk_43_method_13_code_24)) ?_
        show Go p e below P (s₁.setTop (mkF m 25 #[.val (.ref a0), .val (.ref a1), .val (.int (0 : Int32))] [(.int (0 : Int32))]))
        refine fin X0 (v := some (.int (0 : Int32))) (fun h => by rw [Bd.returns] at h; cases h) (by decide) (by decide) ?_ (fun fs hr => retOut X0 hx Bd.returns rfl (Or.inl ⟨rfl, Or.inr (Or.inl rfl), _, rfl⟩) (hb hby d_jdk_43_method_13_code_25) hr)
        rw [e0]
        exact ⟨by simp [hc21_25], N0, rfl⟩
    · have V1' : Arv Z h0 a1 k1 .byte (2 : Int32) [(.int w0), (.int w1)] (.int (0 : Int32)) := V1
      show Go p e below P (s₁.setTop (mkF m 0 #[.val (.ref a0), .val (.ref a1), .unset] []))
      refine Go.by (fun _ => XS.aloadN X0.here hx rfl (hb hby d_jdk_43_method_13_code_0) rfl rfl) ?_
      show Go p e below P (s₁.setTop (mkF m 1 #[.val (.ref a0), .val (.ref a1), .unset] [(.ref a0)]))
      have av27 := V0'
      obtain ⟨cl27, Ar27, -, Sz27, Nn27, -, -⟩ := av27
      refine Go.by (X0.arraylength hx (by rw [e0]; exact Ar27.1) (State.isArrayOf_alike hZ.alike Ar27.2.1) (g := (mkF m 1 #[.val (.ref a0), .val (.ref a1), .unset] [(.ref a0)])) rfl rfl (hb hby d_jdk_43_method_13_code_1)) ?_
      rw [len_of Sz27 Nn27]
      show Go p e below P (s₁.setTop (mkF m 2 #[.val (.ref a0), .val (.ref a1), .unset] [(.int (1 : Int32))]))
      refine Go.by (fun _ => XS.aloadN X0.here hx rfl (hb hby d_jdk_43_method_13_code_2) rfl rfl) ?_
      show Go p e below P (s₁.setTop (mkF m 3 #[.val (.ref a0), .val (.ref a1), .unset] [(.ref a1), (.int (1 : Int32))]))
      have av28 := V1'
      obtain ⟨cl28, Ar28, -, Sz28, Nn28, -, -⟩ := av28
      refine Go.by (X0.arraylength hx (by rw [e0]; exact Ar28.1) (State.isArrayOf_alike hZ.alike Ar28.2.1) (g := (mkF m 3 #[.val (.ref a0), .val (.ref a1), .unset] [(.ref a1), (.int (1 : Int32))])) rfl rfl (hb hby d_jdk_43_method_13_code_3)) ?_
      rw [len_of Sz28 Nn28]
      show Go p e below P (s₁.setTop (mkF m 4 #[.val (.ref a0), .val (.ref a1), .unset] [(.int (2 : Int32)), (.int (1 : Int32))]))
      refine Go.by (fun _ => XS.icmpYes X0.here hx rfl (pc0 := 4) (pc' := 34) rfl (hb hby d_jdk_43_method_13_code_4) rfl (XT.ii_ne_t (by decide : ¬ (1 : Int32) = (2 : Int32))) (by decide) (by decide)) ?_
      show Go p e below P (s₁.setTop (mkF m 34 #[.val (.ref a0), .val (.ref a1), .unset] []))
      refine Go.by (fun _ => XS.iconst X0.here hx rfl (hb hby d_jdk_43_method_13_code_34)) ?_
      show Go p e below P (s₁.setTop (mkF m 35 #[.val (.ref a0), .val (.ref a1), .unset] [(.int (0 : Int32))]))
      refine fin X0 (v := some (.int (0 : Int32))) (fun h => by rw [Bd.returns] at h; cases h) (by decide) (by decide) ?_ (fun fs hr => retOut X0 hx Bd.returns rfl (Or.inl ⟨rfl, Or.inr (Or.inl rfl), _, rfl⟩) (hb hby d_jdk_43_method_13_code_35) hr)
      rw [e0]
      exact ⟨by simp, N0, rfl⟩
  · have V0' : Arv Z h0 a0 k0 .byte (2 : Int32) [(.int u0), (.int u1)] (.int (0 : Int32)) := V0
    rcases own_len2 hl1 with rfl | ⟨w0, rfl⟩ | ⟨w0, w1, rfl⟩
    · have V1' : Arv Z h0 a1 k1 .byte (0 : Int32) [] (.int (0 : Int32)) := V1
      show Go p e below P (s₁.setTop (mkF m 0 #[.val (.ref a0), .val (.ref a1), .unset] []))
      refine Go.by (fun _ => XS.aloadN X0.here hx rfl (hb hby d_jdk_43_method_13_code_0) rfl rfl) ?_
      show Go p e below P (s₁.setTop (mkF m 1 #[.val (.ref a0), .val (.ref a1), .unset] [(.ref a0)]))
      have av29 := V0'
      obtain ⟨cl29, Ar29, -, Sz29, Nn29, -, -⟩ := av29
      refine Go.by (X0.arraylength hx (by rw [e0]; exact Ar29.1) (State.isArrayOf_alike hZ.alike Ar29.2.1) (g := (mkF m 1 #[.val (.ref a0), .val (.ref a1), .unset] [(.ref a0)])) rfl rfl (hb hby d_jdk_43_method_13_code_1)) ?_
      rw [len_of Sz29 Nn29]
      show Go p e below P (s₁.setTop (mkF m 2 #[.val (.ref a0), .val (.ref a1), .unset] [(.int (2 : Int32))]))
      refine Go.by (fun _ => XS.aloadN X0.here hx rfl (hb hby d_jdk_43_method_13_code_2) rfl rfl) ?_
      show Go p e below P (s₁.setTop (mkF m 3 #[.val (.ref a0), .val (.ref a1), .unset] [(.ref a1), (.int (2 : Int32))]))
      have av30 := V1'
      obtain ⟨cl30, Ar30, -, Sz30, Nn30, -, -⟩ := av30
      refine Go.by (X0.arraylength hx (by rw [e0]; exact Ar30.1) (State.isArrayOf_alike hZ.alike Ar30.2.1) (g := (mkF m 3 #[.val (.ref a0), .val (.ref a1), .unset] [(.ref a1), (.int (2 : Int32))])) rfl rfl (hb hby d_jdk_43_method_13_code_3)) ?_
      rw [len_of Sz30 Nn30]
      show Go p e below P (s₁.setTop (mkF m 4 #[.val (.ref a0), .val (.ref a1), .unset] [(.int (0 : Int32)), (.int (2 : Int32))]))
      refine Go.by (fun _ => XS.icmpYes X0.here hx rfl (pc0 := 4) (pc' := 34) rfl (hb hby d_jdk_43_method_13_code_4) rfl (XT.ii_ne_t (by decide : ¬ (2 : Int32) = (0 : Int32))) (by decide) (by decide)) ?_
      show Go p e below P (s₁.setTop (mkF m 34 #[.val (.ref a0), .val (.ref a1), .unset] []))
      refine Go.by (fun _ => XS.iconst X0.here hx rfl (hb hby d_jdk_43_method_13_code_34)) ?_
      show Go p e below P (s₁.setTop (mkF m 35 #[.val (.ref a0), .val (.ref a1), .unset] [(.int (0 : Int32))]))
      refine fin X0 (v := some (.int (0 : Int32))) (fun h => by rw [Bd.returns] at h; cases h) (by decide) (by decide) ?_ (fun fs hr => retOut X0 hx Bd.returns rfl (Or.inl ⟨rfl, Or.inr (Or.inl rfl), _, rfl⟩) (hb hby d_jdk_43_method_13_code_35) hr)
      rw [e0]
      exact ⟨by simp, N0, rfl⟩
    · have V1' : Arv Z h0 a1 k1 .byte (1 : Int32) [(.int w0)] (.int (0 : Int32)) := V1
      show Go p e below P (s₁.setTop (mkF m 0 #[.val (.ref a0), .val (.ref a1), .unset] []))
      refine Go.by (fun _ => XS.aloadN X0.here hx rfl (hb hby d_jdk_43_method_13_code_0) rfl rfl) ?_
      show Go p e below P (s₁.setTop (mkF m 1 #[.val (.ref a0), .val (.ref a1), .unset] [(.ref a0)]))
      have av31 := V0'
      obtain ⟨cl31, Ar31, -, Sz31, Nn31, -, -⟩ := av31
      refine Go.by (X0.arraylength hx (by rw [e0]; exact Ar31.1) (State.isArrayOf_alike hZ.alike Ar31.2.1) (g := (mkF m 1 #[.val (.ref a0), .val (.ref a1), .unset] [(.ref a0)])) rfl rfl (hb hby d_jdk_43_method_13_code_1)) ?_
      rw [len_of Sz31 Nn31]
      show Go p e below P (s₁.setTop (mkF m 2 #[.val (.ref a0), .val (.ref a1), .unset] [(.int (2 : Int32))]))
      refine Go.by (fun _ => XS.aloadN X0.here hx rfl (hb hby d_jdk_43_method_13_code_2) rfl rfl) ?_
      show Go p e below P (s₁.setTop (mkF m 3 #[.val (.ref a0), .val (.ref a1), .unset] [(.ref a1), (.int (2 : Int32))]))
      have av32 := V1'
      obtain ⟨cl32, Ar32, -, Sz32, Nn32, -, -⟩ := av32
      refine Go.by (X0.arraylength hx (by rw [e0]; exact Ar32.1) (State.isArrayOf_alike hZ.alike Ar32.2.1) (g := (mkF m 3 #[.val (.ref a0), .val (.ref a1), .unset] [(.ref a1), (.int (2 : Int32))])) rfl rfl (hb hby d_jdk_43_method_13_code_3)) ?_
      rw [len_of Sz32 Nn32]
      show Go p e below P (s₁.setTop (mkF m 4 #[.val (.ref a0), .val (.ref a1), .unset] [(.int (1 : Int32)), (.int (2 : Int32))]))
      refine Go.by (fun _ => XS.icmpYes X0.here hx rfl (pc0 := 4) (pc' := 34) rfl (hb hby d_jdk_43_method_13_code_4) rfl (XT.ii_ne_t (by decide : ¬ (2 : Int32) = (1 : Int32))) (by decide) (by decide)) ?_
      show Go p e below P (s₁.setTop (mkF m 34 #[.val (.ref a0), .val (.ref a1), .unset] []))
      refine Go.by (fun _ => XS.iconst X0.here hx rfl (hb hby d_jdk_43_method_13_code_34)) ?_
      show Go p e below P (s₁.setTop (mkF m 35 #[.val (.ref a0), .val (.ref a1), .unset] [(.int (0 : Int32))]))
      refine fin X0 (v := some (.int (0 : Int32))) (fun h => by rw [Bd.returns] at h; cases h) (by decide) (by decide) ?_ (fun fs hr => retOut X0 hx Bd.returns rfl (Or.inl ⟨rfl, Or.inr (Or.inl rfl), _, rfl⟩) (hb hby d_jdk_43_method_13_code_35) hr)
      rw [e0]
      exact ⟨by simp, N0, rfl⟩
    · have V1' : Arv Z h0 a1 k1 .byte (2 : Int32) [(.int w0), (.int w1)] (.int (0 : Int32)) := V1
      show Go p e below P (s₁.setTop (mkF m 0 #[.val (.ref a0), .val (.ref a1), .unset] []))
      refine Go.by (fun _ => XS.aloadN X0.here hx rfl (hb hby d_jdk_43_method_13_code_0) rfl rfl) ?_
      show Go p e below P (s₁.setTop (mkF m 1 #[.val (.ref a0), .val (.ref a1), .unset] [(.ref a0)]))
      have av33 := V0'
      obtain ⟨cl33, Ar33, -, Sz33, Nn33, -, -⟩ := av33
      refine Go.by (X0.arraylength hx (by rw [e0]; exact Ar33.1) (State.isArrayOf_alike hZ.alike Ar33.2.1) (g := (mkF m 1 #[.val (.ref a0), .val (.ref a1), .unset] [(.ref a0)])) rfl rfl (hb hby d_jdk_43_method_13_code_1)) ?_
      rw [len_of Sz33 Nn33]
      show Go p e below P (s₁.setTop (mkF m 2 #[.val (.ref a0), .val (.ref a1), .unset] [(.int (2 : Int32))]))
      refine Go.by (fun _ => XS.aloadN X0.here hx rfl (hb hby d_jdk_43_method_13_code_2) rfl rfl) ?_
      show Go p e below P (s₁.setTop (mkF m 3 #[.val (.ref a0), .val (.ref a1), .unset] [(.ref a1), (.int (2 : Int32))]))
      have av34 := V1'
      obtain ⟨cl34, Ar34, -, Sz34, Nn34, -, -⟩ := av34
      refine Go.by (X0.arraylength hx (by rw [e0]; exact Ar34.1) (State.isArrayOf_alike hZ.alike Ar34.2.1) (g := (mkF m 3 #[.val (.ref a0), .val (.ref a1), .unset] [(.ref a1), (.int (2 : Int32))])) rfl rfl (hb hby d_jdk_43_method_13_code_3)) ?_
      rw [len_of Sz34 Nn34]
      show Go p e below P (s₁.setTop (mkF m 4 #[.val (.ref a0), .val (.ref a1), .unset] [(.int (2 : Int32)), (.int (2 : Int32))]))
      refine Go.by (fun _ => XS.icmpNo X0.here hx rfl (hb hby d_jdk_43_method_13_code_4) rfl (XT.ii_ne_f (by decide : (2 : Int32) = (2 : Int32)))) ?_
      show Go p e below P (s₁.setTop (mkF m 7 #[.val (.ref a0), .val (.ref a1), .unset] []))
      refine Go.by (fun _ => XS.iconst X0.here hx rfl (hb hby d_jdk_43_method_13_code_7)) ?_
      show Go p e below P (s₁.setTop (mkF m 8 #[.val (.ref a0), .val (.ref a1), .unset] [(.int (0 : Int32))]))
      refine Go.by (fun _ => XS.istoreN X0.here hx rfl (hb hby d_jdk_43_method_13_code_8) rfl (l' := #[.val (.ref a0), .val (.ref a1), .val (.int (0 : Int32))]) rfl) ?_
      show Go p e below P (s₁.setTop (mkF m 9 #[.val (.ref a0), .val (.ref a1), .val (.int (0 : Int32))] []))
      refine Go.by (fun _ => XS.iloadN X0.here hx rfl (hb hby d_jdk_43_method_13_code_9) rfl) ?_
      show Go p e below P (s₁.setTop (mkF m 10 #[.val (.ref a0), .val (.ref a1), .val (.int (0 : Int32))] [(.int (0 : Int32))]))
      refine Go.by (fun _ => XS.aloadN X0.here hx rfl (hb hby d_jdk_43_method_13_code_10) rfl rfl) ?_
      show Go p e below P (s₁.setTop (mkF m 11 #[.val (.ref a0), .val (.ref a1), .val (.int (0 : Int32))] [(.ref a0), (.int (0 : Int32))]))
      have av35 := V0'
      obtain ⟨cl35, Ar35, -, Sz35, Nn35, -, -⟩ := av35
      refine Go.by (X0.arraylength hx (by rw [e0]; exact Ar35.1) (State.isArrayOf_alike hZ.alike Ar35.2.1) (g := (mkF m 11 #[.val (.ref a0), .val (.ref a1), .val (.int (0 : Int32))] [(.ref a0), (.int (0 : Int32))])) rfl rfl (hb hby d_jdk_43_method_13_code_11)) ?_
      rw [len_of Sz35 Nn35]
      show Go p e below P (s₁.setTop (mkF m 12 #[.val (.ref a0), .val (.ref a1), .val (.int (0 : Int32))] [(.int (2 : Int32)), (.int (0 : Int32))]))
      refine Go.by (fun _ => XS.icmpNo X0.here hx rfl (hb hby d_jdk_43_method_13_code_12) rfl (XT.ii_ge_f (by decide : (0 : Int32) < (2 : Int32)))) ?_
      show Go p e below P (s₁.setTop (mkF m 15 #[.val (.ref a0), .val (.ref a1), .val (.int (0 : Int32))] []))
      refine Go.by (fun _ => XS.aloadN X0.here hx rfl (hb hby d_jdk_43_method_13_code_15) rfl rfl) ?_
      show Go p e below P (s₁.setTop (mkF m 16 #[.val (.ref a0), .val (.ref a1), .val (.int (0 : Int32))] [(.ref a0)]))
      refine Go.by (fun _ => XS.iloadN X0.here hx rfl (hb hby d_jdk_43_method_13_code_16) rfl) ?_
      show Go p e below P (s₁.setTop (mkF m 17 #[.val (.ref a0), .val (.ref a1), .val (.int (0 : Int32))] [(.int (0 : Int32)), (.ref a0)]))
      have av36 := V0'
      obtain ⟨cl36, Ar36, -, Sz36, Nn36, Ha36, Gf36⟩ := av36
      have hin36 : ¬ ((0 : Int32) < 0 ∨ cl36.slots.size ≤ ((0 : Int32)).toNatClampNeg) := inb_of Sz36 ⟨by decide, by decide⟩
      have hat36 : cl36.slots[((0 : Int32)).toNatClampNeg]? = some (.int u0) := Ha36.at hin36 rfl
      refine Go.by (X0.baloadBytes hx (j := (0 : Int32)) (v := (.int u0)) (by rw [e0]; exact Ar36.1) (State.isArrayOf_alike hZ.alike Ar36.2.1) Ar36.2.2 hin36 hat36 (g := (mkF m 17 #[.val (.ref a0), .val (.ref a1), .val (.int (0 : Int32))] [(.int (0 : Int32)), (.ref a0)])) rfl rfl (hb hby d_jdk_43_method_13_code_17)) ?_
      show Go p e below P (s₁.setTop (mkF m 18 #[.val (.ref a0), .val (.ref a1), .val (.int (0 : Int32))] [(.int u0)]))
      refine Go.by (fun _ => XS.aloadN X0.here hx rfl (hb hby d_jdk_43_method_13_code_18) rfl rfl) ?_
      show Go p e below P (s₁.setTop (mkF m 19 #[.val (.ref a0), .val (.ref a1), .val (.int (0 : Int32))] [(.ref a1), (.int u0)]))
      refine Go.by (fun _ => XS.iloadN X0.here hx rfl (hb hby d_jdk_43_method_13_code_19) rfl) ?_
      show Go p e below P (s₁.setTop (mkF m 20 #[.val (.ref a0), .val (.ref a1), .val (.int (0 : Int32))] [(.int (0 : Int32)), (.ref a1), (.int u0)]))
      have av37 := V1'
      obtain ⟨cl37, Ar37, -, Sz37, Nn37, Ha37, Gf37⟩ := av37
      have hin37 : ¬ ((0 : Int32) < 0 ∨ cl37.slots.size ≤ ((0 : Int32)).toNatClampNeg) := inb_of Sz37 ⟨by decide, by decide⟩
      have hat37 : cl37.slots[((0 : Int32)).toNatClampNeg]? = some (.int w0) := Ha37.at hin37 rfl
      refine Go.by (X0.baloadBytes hx (j := (0 : Int32)) (v := (.int w0)) (by rw [e0]; exact Ar37.1) (State.isArrayOf_alike hZ.alike Ar37.2.1) Ar37.2.2 hin37 hat37 (g := (mkF m 20 #[.val (.ref a0), .val (.ref a1), .val (.int (0 : Int32))] [(.int (0 : Int32)), (.ref a1), (.int u0)])) rfl rfl (hb hby d_jdk_43_method_13_code_20)) ?_
      show Go p e below P (s₁.setTop (mkF m 21 #[.val (.ref a0), .val (.ref a1), .val (.int (0 : Int32))] [(.int w0), (.int u0)]))
      by_cases hc21_38 : u0 = w0
      · refine Go.by (fun _ => XS.icmpYes X0.here hx rfl (pc0 := 21) (pc' := 26) rfl (hb hby d_jdk_43_method_13_code_21) rfl (XT.ii_eq_t hc21_38) (by decide) (by decide)) ?_
        show Go p e below P (s₁.setTop (mkF m 26 #[.val (.ref a0), .val (.ref a1), .val (.int (0 : Int32))] []))
        refine Go.by (fun _ => XS.iinc X0.here hx rfl (hb hby d_jdk_43_method_13_code_26) rfl (l' := #[.val (.ref a0), .val (.ref a1), .val (.int (1 : Int32))]) rfl) ?_
        show Go p e below P (s₁.setTop (mkF m 29 #[.val (.ref a0), .val (.ref a1), .val (.int (1 : Int32))] []))
        refine Go.by (fun _ => XS.goto X0.here hx rfl (pc0 := 29) (pc' := 9) rfl (hb hby d_jdk_43_method_13_code_29) (by decide) (by decide)) ?_
        show Go p e below P (s₁.setTop (mkF m 9 #[.val (.ref a0), .val (.ref a1), .val (.int (1 : Int32))] []))
        refine Go.by (fun _ => XS.iloadN X0.here hx rfl (hb hby d_jdk_43_method_13_code_9) rfl) ?_
        show Go p e below P (s₁.setTop (mkF m 10 #[.val (.ref a0), .val (.ref a1), .val (.int (1 : Int32))] [(.int (1 : Int32))]))
        refine Go.by (fun _ => XS.aloadN X0.here hx rfl (hb hby d_jdk_43_method_13_code_10) rfl rfl) ?_
        show Go p e below P (s₁.setTop (mkF m 11 #[.val (.ref a0), .val (.ref a1), .val (.int (1 : Int32))] [(.ref a0), (.int (1 : Int32))]))
        have av39 := V0'
        obtain ⟨cl39, Ar39, -, Sz39, Nn39, -, -⟩ := av39
        refine Go.by (X0.arraylength hx (by rw [e0]; exact Ar39.1) (State.isArrayOf_alike hZ.alike Ar39.2.1) (g := (mkF m 11 #[.val (.ref a0), .val (.ref a1), .val (.int (1 : Int32))] [(.ref a0), (.int (1 : Int32))])) rfl rfl (hb hby d_jdk_43_method_13_code_11)) ?_
        rw [len_of Sz39 Nn39]
        show Go p e below P (s₁.setTop (mkF m 12 #[.val (.ref a0), .val (.ref a1), .val (.int (1 : Int32))] [(.int (2 : Int32)), (.int (1 : Int32))]))
        refine Go.by (fun _ => XS.icmpNo X0.here hx rfl (hb hby d_jdk_43_method_13_code_12) rfl (XT.ii_ge_f (by decide : (1 : Int32) < (2 : Int32)))) ?_
        show Go p e below P (s₁.setTop (mkF m 15 #[.val (.ref a0), .val (.ref a1), .val (.int (1 : Int32))] []))
        refine Go.by (fun _ => XS.aloadN X0.here hx rfl (hb hby d_jdk_43_method_13_code_15) rfl rfl) ?_
        show Go p e below P (s₁.setTop (mkF m 16 #[.val (.ref a0), .val (.ref a1), .val (.int (1 : Int32))] [(.ref a0)]))
        refine Go.by (fun _ => XS.iloadN X0.here hx rfl (hb hby d_jdk_43_method_13_code_16) rfl) ?_
        show Go p e below P (s₁.setTop (mkF m 17 #[.val (.ref a0), .val (.ref a1), .val (.int (1 : Int32))] [(.int (1 : Int32)), (.ref a0)]))
        have av40 := V0'
        obtain ⟨cl40, Ar40, -, Sz40, Nn40, Ha40, Gf40⟩ := av40
        have hin40 : ¬ ((1 : Int32) < 0 ∨ cl40.slots.size ≤ ((1 : Int32)).toNatClampNeg) := inb_of Sz40 ⟨by decide, by decide⟩
        have hat40 : cl40.slots[((1 : Int32)).toNatClampNeg]? = some (.int u1) := Ha40.at hin40 rfl
        refine Go.by (X0.baloadBytes hx (j := (1 : Int32)) (v := (.int u1)) (by rw [e0]; exact Ar40.1) (State.isArrayOf_alike hZ.alike Ar40.2.1) Ar40.2.2 hin40 hat40 (g := (mkF m 17 #[.val (.ref a0), .val (.ref a1), .val (.int (1 : Int32))] [(.int (1 : Int32)), (.ref a0)])) rfl rfl (hb hby d_jdk_43_method_13_code_17)) ?_
        show Go p e below P (s₁.setTop (mkF m 18 #[.val (.ref a0), .val (.ref a1), .val (.int (1 : Int32))] [(.int u1)]))
        refine Go.by (fun _ => XS.aloadN X0.here hx rfl (hb hby d_jdk_43_method_13_code_18) rfl rfl) ?_
        show Go p e below P (s₁.setTop (mkF m 19 #[.val (.ref a0), .val (.ref a1), .val (.int (1 : Int32))] [(.ref a1), (.int u1)]))
        refine Go.by (fun _ => XS.iloadN X0.here hx rfl (hb hby d_jdk_43_method_13_code_19) rfl) ?_
        show Go p e below P (s₁.setTop (mkF m 20 #[.val (.ref a0), .val (.ref a1), .val (.int (1 : Int32))] [(.int (1 : Int32)), (.ref a1), (.int u1)]))
        have av41 := V1'
        obtain ⟨cl41, Ar41, -, Sz41, Nn41, Ha41, Gf41⟩ := av41
        have hin41 : ¬ ((1 : Int32) < 0 ∨ cl41.slots.size ≤ ((1 : Int32)).toNatClampNeg) := inb_of Sz41 ⟨by decide, by decide⟩
        have hat41 : cl41.slots[((1 : Int32)).toNatClampNeg]? = some (.int w1) := Ha41.at hin41 rfl
        refine Go.by (X0.baloadBytes hx (j := (1 : Int32)) (v := (.int w1)) (by rw [e0]; exact Ar41.1) (State.isArrayOf_alike hZ.alike Ar41.2.1) Ar41.2.2 hin41 hat41 (g := (mkF m 20 #[.val (.ref a0), .val (.ref a1), .val (.int (1 : Int32))] [(.int (1 : Int32)), (.ref a1), (.int u1)])) rfl rfl (hb hby d_jdk_43_method_13_code_20)) ?_
        show Go p e below P (s₁.setTop (mkF m 21 #[.val (.ref a0), .val (.ref a1), .val (.int (1 : Int32))] [(.int w1), (.int u1)]))
        by_cases hc21_42 : u1 = w1
        · refine Go.by (fun _ => XS.icmpYes X0.here hx rfl (pc0 := 21) (pc' := 26) rfl (hb hby d_jdk_43_method_13_code_21) rfl (XT.ii_eq_t hc21_42) (by decide) (by decide)) ?_
          show Go p e below P (s₁.setTop (mkF m 26 #[.val (.ref a0), .val (.ref a1), .val (.int (1 : Int32))] []))
          refine Go.by (fun _ => XS.iinc X0.here hx rfl (hb hby d_jdk_43_method_13_code_26) rfl (l' := #[.val (.ref a0), .val (.ref a1), .val (.int (2 : Int32))]) rfl) ?_
          show Go p e below P (s₁.setTop (mkF m 29 #[.val (.ref a0), .val (.ref a1), .val (.int (2 : Int32))] []))
          refine Go.by (fun _ => XS.goto X0.here hx rfl (pc0 := 29) (pc' := 9) rfl (hb hby d_jdk_43_method_13_code_29) (by decide) (by decide)) ?_
          show Go p e below P (s₁.setTop (mkF m 9 #[.val (.ref a0), .val (.ref a1), .val (.int (2 : Int32))] []))
          refine Go.by (fun _ => XS.iloadN X0.here hx rfl (hb hby d_jdk_43_method_13_code_9) rfl) ?_
          show Go p e below P (s₁.setTop (mkF m 10 #[.val (.ref a0), .val (.ref a1), .val (.int (2 : Int32))] [(.int (2 : Int32))]))
          refine Go.by (fun _ => XS.aloadN X0.here hx rfl (hb hby d_jdk_43_method_13_code_10) rfl rfl) ?_
          show Go p e below P (s₁.setTop (mkF m 11 #[.val (.ref a0), .val (.ref a1), .val (.int (2 : Int32))] [(.ref a0), (.int (2 : Int32))]))
          have av43 := V0'
          obtain ⟨cl43, Ar43, -, Sz43, Nn43, -, -⟩ := av43
          refine Go.by (X0.arraylength hx (by rw [e0]; exact Ar43.1) (State.isArrayOf_alike hZ.alike Ar43.2.1) (g := (mkF m 11 #[.val (.ref a0), .val (.ref a1), .val (.int (2 : Int32))] [(.ref a0), (.int (2 : Int32))])) rfl rfl (hb hby d_jdk_43_method_13_code_11)) ?_
          rw [len_of Sz43 Nn43]
          show Go p e below P (s₁.setTop (mkF m 12 #[.val (.ref a0), .val (.ref a1), .val (.int (2 : Int32))] [(.int (2 : Int32)), (.int (2 : Int32))]))
          refine Go.by (fun _ => XS.icmpYes X0.here hx rfl (pc0 := 12) (pc' := 32) rfl (hb hby d_jdk_43_method_13_code_12) rfl (XT.ii_ge_t (by decide : ¬ (2 : Int32) < (2 : Int32))) (by decide) (by decide)) ?_
          show Go p e below P (s₁.setTop (mkF m 32 #[.val (.ref a0), .val (.ref a1), .val (.int (2 : Int32))] []))
          refine Go.by (fun _ => XS.iconst X0.here hx rfl (hb hby d_jdk_43_method_13_code_32)) ?_
          show Go p e below P (s₁.setTop (mkF m 33 #[.val (.ref a0), .val (.ref a1), .val (.int (2 : Int32))] [(.int (1 : Int32))]))
          refine fin X0 (v := some (.int (1 : Int32))) (fun h => by rw [Bd.returns] at h; cases h) (by decide) (by decide) ?_ (fun fs hr => retOut X0 hx Bd.returns rfl (Or.inl ⟨rfl, Or.inr (Or.inl rfl), _, rfl⟩) (hb hby d_jdk_43_method_13_code_33) hr)
          rw [e0]
          exact ⟨by simp [hc21_38, hc21_42], N0, rfl⟩
        · refine Go.by (fun _ => XS.icmpNo X0.here hx rfl (hb hby d_jdk_43_method_13_code_21) rfl (XT.ii_eq_f hc21_42)) ?_
          show Go p e below P (s₁.setTop (mkF m 24 #[.val (.ref a0), .val (.ref a1), .val (.int (1 : Int32))] []))
          refine Go.by (fun _ => XS.iconst X0.here hx rfl (hb hby d_jdk_43_method_13_code_24)) ?_
          show Go p e below P (s₁.setTop (mkF m 25 #[.val (.ref a0), .val (.ref a1), .val (.int (1 : Int32))] [(.int (0 : Int32))]))
          refine fin X0 (v := some (.int (0 : Int32))) (fun h => by rw [Bd.returns] at h; cases h) (by decide) (by decide) ?_ (fun fs hr => retOut X0 hx Bd.returns rfl (Or.inl ⟨rfl, Or.inr (Or.inl rfl), _, rfl⟩) (hb hby d_jdk_43_method_13_code_25) hr)
          rw [e0]
          exact ⟨by simp [hc21_38, hc21_42], N0, rfl⟩
      · refine Go.by (fun _ => XS.icmpNo X0.here hx rfl (hb hby d_jdk_43_method_13_code_21) rfl (XT.ii_eq_f hc21_38)) ?_
        show Go p e below P (s₁.setTop (mkF m 24 #[.val (.ref a0), .val (.ref a1), .val (.int (0 : Int32))] []))
        refine Go.by (fun _ => XS.iconst X0.here hx rfl (hb hby d_jdk_43_method_13_code_24)) ?_
        show Go p e below P (s₁.setTop (mkF m 25 #[.val (.ref a0), .val (.ref a1), .val (.int (0 : Int32))] [(.int (0 : Int32))]))
        refine fin X0 (v := some (.int (0 : Int32))) (fun h => by rw [Bd.returns] at h; cases h) (by decide) (by decide) ?_ (fun fs hr => retOut X0 hx Bd.returns rfl (Or.inl ⟨rfl, Or.inr (Or.inl rfl), _, rfl⟩) (hb hby d_jdk_43_method_13_code_25) hr)
        rw [e0]
        exact ⟨by simp [hc21_38], N0, rfl⟩
def Q_seq (Z : State) (a0_ : Addr) (b0 : List Int32) (a1_ : Addr) (b1 : List Int32) (cs : Int32) (h0 : Heap) (n0 : Nat) (v : Option Value) (h : Heap) (L : List Loc) : Prop := v = some (.int (if b0 = b1 then (1 : Int32) else 0)) ∧ Fr n0 L ∧ h = h0
theorem ef_seq (m : MethodId) (a0_ : Addr) (b0 : List Int32) (a1_ : Addr) (b1 : List Int32) (cs : Int32) : entryFrame m #[(.ref a0_), (.ref a1_)] 3 = mkF m 0 #[.val (.ref a0_), .val (.ref a1_), .unset] [] := by first | (simp [entryFrame, mkF, argsToLocals, Value.category]; done) | rfl
set_option maxRecDepth 65536 in
set_option maxHeartbeats 40000000 in
theorem rm_seq (l : Launch) (Z : State) (a0 : Array Value) (hw : ∀ d ∈ tables_1, d.before a0 Z = true) (ws : List Jvm.Cond) (a0_ : Addr) (b0 : List Int32) (a1_ : Addr) (b1 : List Int32) (cs : Int32) (h0 : Heap) (n0 : Nat) (Z0 : n0 ≤ h0.size) (O0 : Old Z n0 h0) (Scs : Sta Z Z.heap "java/lang/String" "COMPACT_STRINGS" "Z" (.int cs)) (hcs : ¬ cs = (0 : Int32)) (S0 : StrV Z h0 a0_ b0) (S1 : StrV Z h0 a1_ b1) (hl0 : b0.length ≤ 2) (hl1 : b1.length ≤ 2) (hsame : a0_ = a1_ → b0 = b1) :
    MetFree l (⟨"java/lang/String", "equals", "(Ljava/lang/Object;)Z"⟩ : MethodName) (head1 (Jvm.Cond.code (⟨"java/lang/String", "equals", "(Ljava/lang/Object;)Z"⟩ : MethodName) jdk_42_method_66_code 3 (some .boolean) :: ws) ({ frames := 1, cells := 0, slots := 0, locals := 20 } : Room)) (fun a U => a = #[(.ref a0_), (.ref a1_)] ∧ Z.Warmed39 U.vm ∧ U.heap = h0) (fun _ _ _ _ _ => True) (fun _ U o U' => ∃ v L, o = .returned v ∧ Q_seq Z a0_ b0 a1_ b1 cs h0 n0 v U'.heap L ∧ FrameEnd U o U' L ({ frames := 1, cells := 0, slots := 0, locals := 20 } : Room).cells ({ frames := 1, cells := 0, slots := 0, locals := 20 } : Room).slots) := by
  refine MetFree.of_bodySF (plainFor_of_name pn_java_lang_String) hisR ?_
  intro p e s m args below meth c s₁ Bd hml0 hP hK
  obtain ⟨rfl, hZ, hh⟩ := hP
  have hx := Bd.exec
  have hby := Bd.bytes
  have hml : c.maxLocals = 3 := hml0
  have hown : s.vm.findClass "java/lang/String" = some m.cls := findClass_of_methodNamed Bd.named
  have hnm := (name_of_methodNamed Bd.named Bd.method).1
  have X0 : Stand p l e ({ frames := 1, cells := 0, slots := 0, locals := 20 } : Room) s m #[(.ref a0_), (.ref a1_)] below meth c s₁ [] 0 0 := Stand.of_body Bd
  have e0 : s₁.heap = h0 := by rw [← hh, Bd.state]; rfl
  have N0 := Fr.nil n0
  have hlk : meth.locks = false := Bd.notSynchronized
  obtain ⟨P, hP⟩ : ∃ P : Outcome → State → Prop, P = PQ s (Q_seq Z a0_ b0 a1_ b1 cs h0 n0) ({ frames := 1, cells := 0, slots := 0, locals := 20 } : Room).cells ({ frames := 1, cells := 0, slots := 0, locals := 20 } : Room).slots := ⟨_, rfl⟩
  have fin : ∀ {T : State} {locs : List Loc} {k n : Nat} {v : Option Value} {S0 : State}, Stand p l e ({ frames := 1, cells := 0, slots := 0, locals := 20 } : Room) s m #[(.ref a0_), (.ref a1_)] below meth c T locs k n → (meth.sig.returnType = none → v = none) → k ≤ ({ frames := 1, cells := 0, slots := 0, locals := 20 } : Room).cells → n ≤ ({ frames := 1, cells := 0, slots := 0, locals := 20 } : Room).slots → Q_seq Z a0_ b0 a1_ b1 cs h0 n0 v T.heap locs → (∀ fs, (∀ (f : JFrame) (acts : List Action), f.method = m → f.locked = none → f.entered = [] → (doReturn e (T.setTop f) acts v).1 = T.setFrames fs) → Steps p.tables e below S0 (T.setFrames fs)) → Go p e below P S0 := fun X hv hk hn hQ hst => hP ▸ Go.fin X hlk hv hk hn hQ hst
  suffices hgo : Go p e below P (s₁.setTop (mkF m 0 #[.val (.ref a0_), .val (.ref a1_), .unset] [])) by
    rw [hP] at hgo
    exact Go.by (fun t k => castTop (ef_seq m a0_ b0 a1_ b1 cs) k) hgo
  obtain ⟨d0, kd0, ES0, CS0, VS0, AS0⟩ := S0
  obtain ⟨d1, kd1, ES1, CS1, VS1, AS1⟩ := S1
  show Go p e below P (s₁.setTop (mkF m 0 #[.val (.ref a0_), .val (.ref a1_), .unset] []))
  refine Go.by (fun _ => XS.aloadN X0.here hx rfl (hb hby d_jdk_42_method_66_code_0) rfl rfl) ?_
  show Go p e below P (s₁.setTop (mkF m 1 #[.val (.ref a0_), .val (.ref a1_), .unset] [(.ref a0_)]))
  refine Go.by (fun _ => XS.aloadN X0.here hx rfl (hb hby d_jdk_42_method_66_code_1) rfl rfl) ?_
  show Go p e below P (s₁.setTop (mkF m 2 #[.val (.ref a0_), .val (.ref a1_), .unset] [(.ref a1_), (.ref a0_)]))
  by_cases hc2_11 : a0_ = a1_
  · refine Go.by (fun _ => Jvm.RoadKit.acmp (g := (mkF m 2 #[.val (.ref a0_), .val (.ref a1_), .unset] [(.ref a1_), (.ref a0_)])) X0 hx rfl rfl rfl (pc0 := 2) (pc' := 5) (same := true) rfl (hb hby d_jdk_42_method_66_code_2) rfl (decide_eq_true (congrArg Value.ref hc2_11)) (by decide) (by decide)) ?_
    show Go p e below P (s₁.setTop (mkF m 5 #[.val (.ref a0_), .val (.ref a1_), .unset] []))
    refine Go.by (fun _ => XS.iconst X0.here hx rfl (hb hby d_jdk_42_method_66_code_5)) ?_
    show Go p e below P (s₁.setTop (mkF m 6 #[.val (.ref a0_), .val (.ref a1_), .unset] [(.int (1 : Int32))]))
    refine fin X0 (v := some (.int (1 : Int32))) (fun h => by rw [Bd.returns] at h; cases h) (by decide) (by decide) ?_ (fun fs hr => retOut X0 hx Bd.returns rfl (Or.inl ⟨rfl, Or.inr (Or.inl rfl), _, rfl⟩) (hb hby d_jdk_42_method_66_code_6) hr)
    rw [e0]
    exact ⟨by rw [if_pos (hsame hc2_11)], N0, rfl⟩
  · refine Go.by (fun _ => Jvm.RoadKit.acmp (g := (mkF m 2 #[.val (.ref a0_), .val (.ref a1_), .unset] [(.ref a1_), (.ref a0_)])) X0 hx rfl rfl rfl (pc0 := 2) (pc' := 7) (same := false) rfl (hb hby d_jdk_42_method_66_code_2) rfl (decide_eq_false fun q => hc2_11 (Value.ref.inj q)) (by decide) (by decide)) ?_
    show Go p e below P (s₁.setTop (mkF m 7 #[.val (.ref a0_), .val (.ref a1_), .unset] []))
    refine Go.by (fun _ => XS.aloadN X0.here hx rfl (hb hby d_jdk_42_method_66_code_7) rfl rfl) ?_
    show Go p e below P (s₁.setTop (mkF m 8 #[.val (.ref a0_), .val (.ref a1_), .unset] [(.ref a1_)]))
    obtain ⟨T12, X12, e12, st12⟩ := instY X0 hx hZ hown (tw_70 hw) e0 (Ins.self ES1) (g := (mkF m 8 #[.val (.ref a0_), .val (.ref a1_), .unset] [(.ref a1_)])) rfl rfl (hb hby d_jdk_42_method_66_code_8)
    refine Go.by st12 ?_
    show Go p e below P (T12.setTop (mkF m 11 #[.val (.ref a0_), .val (.ref a1_), .unset] [(.int (1 : Int32))]))
    refine Go.by (fun _ => XS.ifNo X12.here hx rfl (hb hby d_jdk_42_method_66_code_11) rfl (XT.i0_eq_f (by decide : ¬ (1 : Int32) = (0 : Int32)))) ?_
    show Go p e below P (T12.setTop (mkF m 14 #[.val (.ref a0_), .val (.ref a1_), .unset] []))
    refine Go.by (fun _ => XS.aloadN X12.here hx rfl (hb hby d_jdk_42_method_66_code_14) rfl rfl) ?_
    show Go p e below P (T12.setTop (mkF m 15 #[.val (.ref a0_), .val (.ref a1_), .unset] [(.ref a1_)]))
    obtain ⟨T13, X13, e13, st13⟩ := castY X12 hx hZ hown (tw_70 hw) e12 (Ins.self ES1) (g := (mkF m 15 #[.val (.ref a0_), .val (.ref a1_), .unset] [(.ref a1_)])) rfl rfl (hb hby d_jdk_42_method_66_code_15)
    refine Go.by st13 ?_
    show Go p e below P (T13.setTop (mkF m 18 #[.val (.ref a0_), .val (.ref a1_), .unset] [(.ref a1_)]))
    refine Go.by (fun _ => XS.astoreN X13.here hx rfl (hb hby d_jdk_42_method_66_code_18) rfl rfl (l' := #[.val (.ref a0_), .val (.ref a1_), .val (.ref a1_)]) rfl) ?_
    show Go p e below P (T13.setTop (mkF m 19 #[.val (.ref a0_), .val (.ref a1_), .val (.ref a1_)] []))
    obtain ⟨T14, X14, e14, st14⟩ := getS2 X13 hx hZ hown (host := "") (Or.inl (tw_28 hw)) Via.refl e13 (Scs.ext O0.2) (g := (mkF m 19 #[.val (.ref a0_), .val (.ref a1_), .val (.ref a1_)] [])) rfl (hb hby d_jdk_42_method_66_code_19)
    refine Go.by st14 ?_
    show Go p e below P (T14.setTop (mkF m 22 #[.val (.ref a0_), .val (.ref a1_), .val (.ref a1_)] [(.int cs)]))
    refine Go.by (fun _ => XS.ifNo X14.here hx rfl (hb hby d_jdk_42_method_66_code_22) rfl (XT.i0_eq_f hcs)) ?_
    show Go p e below P (T14.setTop (mkF m 25 #[.val (.ref a0_), .val (.ref a1_), .val (.ref a1_)] []))
    refine Go.by (fun _ => XS.aloadN X14.here hx rfl (hb hby d_jdk_42_method_66_code_25) rfl rfl) ?_
    show Go p e below P (T14.setTop (mkF m 26 #[.val (.ref a0_), .val (.ref a1_), .val (.ref a1_)] [(.ref a0_)]))
    obtain ⟨T15, X15, e15, st15⟩ := getF X14 hx hZ hown (host := "") (Or.inl (tw_40 hw)) Via.refl e14 CS0 (g := (mkF m 26 #[.val (.ref a0_), .val (.ref a1_), .val (.ref a1_)] [(.ref a0_)])) rfl rfl (hb hby d_jdk_42_method_66_code_26)
    refine Go.by st15 ?_
    show Go p e below P (T15.setTop (mkF m 29 #[.val (.ref a0_), .val (.ref a1_), .val (.ref a1_)] [(.int (0 : Int32))]))
    refine Go.by (fun _ => XS.aloadN X15.here hx rfl (hb hby d_jdk_42_method_66_code_29) rfl rfl) ?_
    show Go p e below P (T15.setTop (mkF m 30 #[.val (.ref a0_), .val (.ref a1_), .val (.ref a1_)] [(.ref a1_), (.int (0 : Int32))]))
    obtain ⟨T16, X16, e16, st16⟩ := getF X15 hx hZ hown (host := "") (Or.inl (tw_40 hw)) Via.refl e15 CS1 (g := (mkF m 30 #[.val (.ref a0_), .val (.ref a1_), .val (.ref a1_)] [(.ref a1_), (.int (0 : Int32))])) rfl rfl (hb hby d_jdk_42_method_66_code_30)
    refine Go.by st16 ?_
    show Go p e below P (T16.setTop (mkF m 33 #[.val (.ref a0_), .val (.ref a1_), .val (.ref a1_)] [(.int (0 : Int32)), (.int (0 : Int32))]))
    refine Go.by (fun _ => XS.icmpNo X16.here hx rfl (hb hby d_jdk_42_method_66_code_33) rfl (XT.ii_ne_f (by decide : (0 : Int32) = (0 : Int32)))) ?_
    show Go p e below P (T16.setTop (mkF m 36 #[.val (.ref a0_), .val (.ref a1_), .val (.ref a1_)] []))
    refine Go.by (fun _ => XS.aloadN X16.here hx rfl (hb hby d_jdk_42_method_66_code_36) rfl rfl) ?_
    show Go p e below P (T16.setTop (mkF m 37 #[.val (.ref a0_), .val (.ref a1_), .val (.ref a1_)] [(.ref a0_)]))
    obtain ⟨T17, X17, e17, st17⟩ := getF X16 hx hZ hown (host := "") (Or.inl (tw_42 hw)) Via.refl e16 VS0 (g := (mkF m 37 #[.val (.ref a0_), .val (.ref a1_), .val (.ref a1_)] [(.ref a0_)])) rfl rfl (hb hby d_jdk_42_method_66_code_37)
    refine Go.by st17 ?_
    show Go p e below P (T17.setTop (mkF m 40 #[.val (.ref a0_), .val (.ref a1_), .val (.ref a1_)] [(.ref d0)]))
    refine Go.by (fun _ => XS.aloadN X17.here hx rfl (hb hby d_jdk_42_method_66_code_40) rfl rfl) ?_
    show Go p e below P (T17.setTop (mkF m 41 #[.val (.ref a0_), .val (.ref a1_), .val (.ref a1_)] [(.ref a1_), (.ref d0)]))
    obtain ⟨T18, X18, e18, st18⟩ := getF X17 hx hZ hown (host := "") (Or.inl (tw_42 hw)) Via.refl e17 VS1 (g := (mkF m 41 #[.val (.ref a0_), .val (.ref a1_), .val (.ref a1_)] [(.ref a1_), (.ref d0)])) rfl rfl (hb hby d_jdk_42_method_66_code_41)
    refine Go.by st18 ?_
    show Go p e below P (T18.setTop (mkF m 44 #[.val (.ref a0_), .val (.ref a1_), .val (.ref a1_)] [(.ref d1), (.ref d0)]))
    obtain ⟨_, _, ⟨T19, L19, k19, n19⟩, -, X19, ⟨Lc19, hQ19, l19, y19, z19⟩, st19⟩ := Jvm.LawKit.callS X18 hx (y := (⟨"java/lang/StringLatin1", "equals", "([B[B)Z"⟩ : MethodName)) hown (mvT hZ (tw_100 hw)) (mvT hZ (tw_101 hw)) (mvT hZ (tw_68 hw)) (mvT hZ (tw_102 hw)) (by decide) (backOf (W := 0) (rm_l1eq l Z a0 hw [] d0 kd0 b0 d1 kd1 b1 h0 n0 Z0 AS0 AS1 hl0 hl1) hZ (tw_102 hw) (tw_68 hw) (by decide) (by decide)) (g := (mkF m 44 #[.val (.ref a0_), .val (.ref a1_), .val (.ref a1_)] [(.ref d1), (.ref d0)])) rfl (by rw [hml]; rfl) (argsL := [(.ref d0), (.ref d1)]) (rest := []) (lenOf pd___B_B_Z rfl) rfl (by show 2 * 0 + _ ≤ _; exact Nat.le_of_eq rfl) (hb hby d_jdk_42_method_66_code_44) (fun _ _ => ⟨rfl, e18, (by decide : 0 + 0 ≤ _), (by decide : 0 + 0 ≤ _)⟩)
    dsimp only [Pt.U, Pt.locs, Pt.cells, Pt.slots] at X19 l19 y19 z19 st19 hQ19
    subst l19 y19 z19
    obtain ⟨rfl, N19q, q19⟩ := hQ19
    have N19 := Fr.app N0 N19q
    refine Go.by (fun t k => st19 t k) ?_
    show Go p e below P (T19.setTop (mkF m 47 #[.val (.ref a0_), .val (.ref a1_), .val (.ref a1_)] [(.int (if b0 = b1 then (1 : Int32) else 0))]))
    by_cases hc47_20 : (if b0 = b1 then (1 : Int32) else 0) = (0 : Int32)
    · refine Go.by (fun _ => XS.ifYes X19.here hx rfl (pc0 := 47) (pc' := 54) rfl (hb hby d_jdk_42_method_66_code_47) rfl (XT.i0_eq_t hc47_20) (by decide) (by decide)) ?_
      show Go p e below P (T19.setTop (mkF m 54 #[.val (.ref a0_), .val (.ref a1_), .val (.ref a1_)] []))
      refine Go.by (fun _ => XS.iconst X19.here hx rfl (hb hby d_jdk_42_method_66_code_54)) ?_
      show Go p e below P (T19.setTop (mkF m 55 #[.val (.ref a0_), .val (.ref a1_), .val (.ref a1_)] [(.int (0 : Int32))]))
      refine fin X19 (v := some (.int (0 : Int32))) (fun h => by rw [Bd.returns] at h; cases h) (by decide) (by decide) ?_ (fun fs hr => retOut X19 hx Bd.returns rfl (Or.inl ⟨rfl, Or.inr (Or.inl rfl), _, rfl⟩) (hb hby d_jdk_42_method_66_code_55) hr)
      rw [q19]
      exact ⟨by rw [hc47_20], N19, rfl⟩
    · refine Go.by (fun _ => XS.ifNo X19.here hx rfl (hb hby d_jdk_42_method_66_code_47) rfl (XT.i0_eq_f hc47_20)) ?_
      show Go p e below P (T19.setTop (mkF m 50 #[.val (.ref a0_), .val (.ref a1_), .val (.ref a1_)] []))
      refine Go.by (fun _ => XS.iconst X19.here hx rfl (hb hby d_jdk_42_method_66_code_50)) ?_
      show Go p e below P (T19.setTop (mkF m 51 #[.val (.ref a0_), .val (.ref a1_), .val (.ref a1_)] [(.int (1 : Int32))]))
      refine Go.by (fun _ => XS.goto X19.here hx rfl (pc0 := 51) (pc' := 55) rfl (hb hby d_jdk_42_method_66_code_51) (by decide) (by decide)) ?_
      show Go p e below P (T19.setTop (mkF m 55 #[.val (.ref a0_), .val (.ref a1_), .val (.ref a1_)] [(.int (1 : Int32))]))
      refine fin X19 (v := some (.int (1 : Int32))) (fun h => by rw [Bd.returns] at h; cases h) (by decide) (by decide) ?_ (fun fs hr => retOut X19 hx Bd.returns rfl (Or.inl ⟨rfl, Or.inr (Or.inl rfl), _, rfl⟩) (hb hby d_jdk_42_method_66_code_55) hr)
      rw [q19]
      exact ⟨by rw [own_if1 hc47_20], N19, rfl⟩
def Q_seqN (Z : State) (a0_ : Addr) (h0 : Heap) (n0 : Nat) (v : Option Value) (h : Heap) (L : List Loc) : Prop := v = some (.int (0 : Int32)) ∧ Fr n0 L ∧ h = h0
theorem ef_seqN (m : MethodId) (a0_ : Addr) : entryFrame m #[(.ref a0_), .null] 3 = mkF m 0 #[.val (.ref a0_), .val .null, .unset] [] := by first | (simp [entryFrame, mkF, argsToLocals, Value.category]; done) | rfl
set_option maxRecDepth 65536 in
set_option maxHeartbeats 40000000 in
theorem rm_seqN (l : Launch) (Z : State) (a0 : Array Value) (hw : ∀ d ∈ tables_1, d.before a0 Z = true) (ws : List Jvm.Cond) (a0_ : Addr) (h0 : Heap) (n0 : Nat) (Z0 : n0 ≤ h0.size) :
    MetFree l (⟨"java/lang/String", "equals", "(Ljava/lang/Object;)Z"⟩ : MethodName) (head1 (Jvm.Cond.code (⟨"java/lang/String", "equals", "(Ljava/lang/Object;)Z"⟩ : MethodName) jdk_42_method_66_code 3 (some .boolean) :: ws) ({ frames := 0, cells := 0, slots := 0, locals := 0 } : Room)) (fun a U => a = #[(.ref a0_), .null] ∧ Z.Warmed39 U.vm ∧ U.heap = h0) (fun _ _ _ _ _ => True) (fun _ U o U' => ∃ v L, o = .returned v ∧ Q_seqN Z a0_ h0 n0 v U'.heap L ∧ FrameEnd U o U' L ({ frames := 0, cells := 0, slots := 0, locals := 0 } : Room).cells ({ frames := 0, cells := 0, slots := 0, locals := 0 } : Room).slots) := by
  refine MetFree.of_bodySF (plainFor_of_name pn_java_lang_String) hisR ?_
  intro p e s m args below meth c s₁ Bd hml0 hP hK
  obtain ⟨rfl, hZ, hh⟩ := hP
  have hx := Bd.exec
  have hby := Bd.bytes
  have hml : c.maxLocals = 3 := hml0
  have hown : s.vm.findClass "java/lang/String" = some m.cls := findClass_of_methodNamed Bd.named
  have hnm := (name_of_methodNamed Bd.named Bd.method).1
  have X0 : Stand p l e ({ frames := 0, cells := 0, slots := 0, locals := 0 } : Room) s m #[(.ref a0_), .null] below meth c s₁ [] 0 0 := Stand.of_body Bd
  have e0 : s₁.heap = h0 := by rw [← hh, Bd.state]; rfl
  have N0 := Fr.nil n0
  have hlk : meth.locks = false := Bd.notSynchronized
  obtain ⟨P, hP⟩ : ∃ P : Outcome → State → Prop, P = PQ s (Q_seqN Z a0_ h0 n0) ({ frames := 0, cells := 0, slots := 0, locals := 0 } : Room).cells ({ frames := 0, cells := 0, slots := 0, locals := 0 } : Room).slots := ⟨_, rfl⟩
  have fin : ∀ {T : State} {locs : List Loc} {k n : Nat} {v : Option Value} {S0 : State}, Stand p l e ({ frames := 0, cells := 0, slots := 0, locals := 0 } : Room) s m #[(.ref a0_), .null] below meth c T locs k n → (meth.sig.returnType = none → v = none) → k ≤ ({ frames := 0, cells := 0, slots := 0, locals := 0 } : Room).cells → n ≤ ({ frames := 0, cells := 0, slots := 0, locals := 0 } : Room).slots → Q_seqN Z a0_ h0 n0 v T.heap locs → (∀ fs, (∀ (f : JFrame) (acts : List Action), f.method = m → f.locked = none → f.entered = [] → (doReturn e (T.setTop f) acts v).1 = T.setFrames fs) → Steps p.tables e below S0 (T.setFrames fs)) → Go p e below P S0 := fun X hv hk hn hQ hst => hP ▸ Go.fin X hlk hv hk hn hQ hst
  suffices hgo : Go p e below P (s₁.setTop (mkF m 0 #[.val (.ref a0_), .val .null, .unset] [])) by
    rw [hP] at hgo
    exact Go.by (fun t k => castTop (ef_seqN m a0_) k) hgo
  show Go p e below P (s₁.setTop (mkF m 0 #[.val (.ref a0_), .val .null, .unset] []))
  refine Go.by (fun _ => XS.aloadN X0.here hx rfl (hb hby d_jdk_42_method_66_code_0) rfl rfl) ?_
  show Go p e below P (s₁.setTop (mkF m 1 #[.val (.ref a0_), .val .null, .unset] [(.ref a0_)]))
  refine Go.by (fun _ => XS.aloadN X0.here hx rfl (hb hby d_jdk_42_method_66_code_1) rfl rfl) ?_
  show Go p e below P (s₁.setTop (mkF m 2 #[.val (.ref a0_), .val .null, .unset] [.null, (.ref a0_)]))
  refine Go.by (fun _ => Jvm.RoadKit.acmp (g := (mkF m 2 #[.val (.ref a0_), .val .null, .unset] [.null, (.ref a0_)])) X0 hx rfl rfl rfl (pc0 := 2) (pc' := 7) (same := false) rfl (hb hby d_jdk_42_method_66_code_2) rfl (decide_eq_false nofun) (by decide) (by decide)) ?_
  show Go p e below P (s₁.setTop (mkF m 7 #[.val (.ref a0_), .val .null, .unset] []))
  refine Go.by (fun _ => XS.aloadN X0.here hx rfl (hb hby d_jdk_42_method_66_code_7) rfl rfl) ?_
  show Go p e below P (s₁.setTop (mkF m 8 #[.val (.ref a0_), .val .null, .unset] [.null]))
  refine Go.by (X0.instanceofNull hx (g := (mkF m 8 #[.val (.ref a0_), .val .null, .unset] [.null])) rfl rfl (hb hby d_jdk_42_method_66_code_8)) ?_
  show Go p e below P (s₁.setTop (mkF m 11 #[.val (.ref a0_), .val .null, .unset] [(.int (0 : Int32))]))
  refine Go.by (fun _ => XS.ifYes X0.here hx rfl (pc0 := 11) (pc' := 54) rfl (hb hby d_jdk_42_method_66_code_11) rfl (XT.i0_eq_t (by decide : (0 : Int32) = (0 : Int32))) (by decide) (by decide)) ?_
  show Go p e below P (s₁.setTop (mkF m 54 #[.val (.ref a0_), .val .null, .unset] []))
  refine Go.by (fun _ => XS.iconst X0.here hx rfl (hb hby d_jdk_42_method_66_code_54)) ?_
  show Go p e below P (s₁.setTop (mkF m 55 #[.val (.ref a0_), .val .null, .unset] [(.int (0 : Int32))]))
  refine fin X0 (v := some (.int (0 : Int32))) (fun h => by rw [Bd.returns] at h; cases h) (by decide) (by decide) ?_ (fun fs hr => retOut X0 hx Bd.returns rfl (Or.inl ⟨rfl, Or.inr (Or.inl rfl), _, rfl⟩) (hb hby d_jdk_42_method_66_code_55) hr)
  rw [e0]
  exact ⟨rfl, N0, rfl⟩
def Q_oeq (Z : State) (r0 : Value) (o0 : Option (List Int32)) (r1 : Value) (o1 : Option (List Int32)) (cs : Int32) (h0 : Heap) (n0 : Nat) (v : Option Value) (h : Heap) (L : List Loc) : Prop := v = some (.int (if o0 = o1 then (1 : Int32) else 0)) ∧ Fr n0 L ∧ h = h0
theorem ef_oeq (m : MethodId) (r0 : Value) (o0 : Option (List Int32)) (r1 : Value) (o1 : Option (List Int32)) (cs : Int32) (hr0 : r0.isRef = true) (hr1 : r1.isRef = true) : entryFrame m #[r0, r1] 2 = mkF m 0 #[.val r0, .val r1] [] := by rcases XT.refc hr0 with rfl | ⟨_, rfl⟩ <;> rcases XT.refc hr1 with rfl | ⟨_, rfl⟩ <;> first | (simp [entryFrame, mkF, argsToLocals, Value.category]; done) | rfl
set_option maxRecDepth 65536 in
set_option maxHeartbeats 40000000 in
theorem rm_oeq (l : Launch) (Z : State) (a0 : Array Value) (hw : ∀ d ∈ tables_1, d.before a0 Z = true) (ws : List Jvm.Cond) (r0 : Value) (o0 : Option (List Int32)) (r1 : Value) (o1 : Option (List Int32)) (cs : Int32) (h0 : Heap) (n0 : Nat) (Z0 : n0 ≤ h0.size) (O0 : Old Z n0 h0) (Scs : Sta Z Z.heap "java/lang/String" "COMPACT_STRINGS" "Z" (.int cs)) (hcs : ¬ cs = (0 : Int32)) (T0 : StrO Z h0 r0 o0) (T1 : StrO Z h0 r1 o1) (hl0 : ∀ b, o0 = some b → b.length ≤ 2) (hl1 : ∀ b, o1 = some b → b.length ≤ 2) (hsame : r0 = r1 → o0 = o1) :
    MetFree l (⟨"java/util/Objects", "equals", "(Ljava/lang/Object;Ljava/lang/Object;)Z"⟩ : MethodName) (head1 (Jvm.Cond.code (⟨"java/util/Objects", "equals", "(Ljava/lang/Object;Ljava/lang/Object;)Z"⟩ : MethodName) jdk_31_method_2_code 2 (some .boolean) :: ws) ({ frames := 2, cells := 0, slots := 0, locals := 40 } : Room)) (fun a U => a = #[r0, r1] ∧ Z.Warmed39 U.vm ∧ U.heap = h0) (fun _ _ _ _ _ => True) (fun _ U o U' => ∃ v L, o = .returned v ∧ Q_oeq Z r0 o0 r1 o1 cs h0 n0 v U'.heap L ∧ FrameEnd U o U' L ({ frames := 2, cells := 0, slots := 0, locals := 40 } : Room).cells ({ frames := 2, cells := 0, slots := 0, locals := 40 } : Room).slots) := by
  refine MetFree.of_bodySF (plainFor_of_name pn_java_util_Objects) hisR ?_
  intro p e s m args below meth c s₁ Bd hml0 hP hK
  obtain ⟨rfl, hZ, hh⟩ := hP
  have hx := Bd.exec
  have hby := Bd.bytes
  have hml : c.maxLocals = 2 := hml0
  have hown : s.vm.findClass "java/util/Objects" = some m.cls := findClass_of_methodNamed Bd.named
  have hnm := (name_of_methodNamed Bd.named Bd.method).1
  have X0 : Stand p l e ({ frames := 2, cells := 0, slots := 0, locals := 40 } : Room) s m #[r0, r1] below meth c s₁ [] 0 0 := Stand.of_body Bd
  have e0 : s₁.heap = h0 := by rw [← hh, Bd.state]; rfl
  have N0 := Fr.nil n0
  have hlk : meth.locks = false := Bd.notSynchronized
  obtain ⟨P, hP⟩ : ∃ P : Outcome → State → Prop, P = PQ s (Q_oeq Z r0 o0 r1 o1 cs h0 n0) ({ frames := 2, cells := 0, slots := 0, locals := 40 } : Room).cells ({ frames := 2, cells := 0, slots := 0, locals := 40 } : Room).slots := ⟨_, rfl⟩
  have fin : ∀ {T : State} {locs : List Loc} {k n : Nat} {v : Option Value} {S0 : State}, Stand p l e ({ frames := 2, cells := 0, slots := 0, locals := 40 } : Room) s m #[r0, r1] below meth c T locs k n → (meth.sig.returnType = none → v = none) → k ≤ ({ frames := 2, cells := 0, slots := 0, locals := 40 } : Room).cells → n ≤ ({ frames := 2, cells := 0, slots := 0, locals := 40 } : Room).slots → Q_oeq Z r0 o0 r1 o1 cs h0 n0 v T.heap locs → (∀ fs, (∀ (f : JFrame) (acts : List Action), f.method = m → f.locked = none → f.entered = [] → (doReturn e (T.setTop f) acts v).1 = T.setFrames fs) → Steps p.tables e below S0 (T.setFrames fs)) → Go p e below P S0 := fun X hv hk hn hQ hst => hP ▸ Go.fin X hlk hv hk hn hQ hst
  suffices hgo : Go p e below P (s₁.setTop (mkF m 0 #[.val r0, .val r1] [])) by
    rw [hP] at hgo
    exact Go.by (fun t k => castTop (ef_oeq m r0 o0 r1 o1 cs T0.isRef T1.isRef) k) hgo
  show Go p e below P (s₁.setTop (mkF m 0 #[.val r0, .val r1] []))
  rcases T0 with ⟨rfl, rfl⟩ | ⟨a0_, b0, rfl, rfl, S0⟩
  · rcases T1 with ⟨rfl, rfl⟩ | ⟨a1_, b1, rfl, rfl, S1⟩
    · show Go p e below P (s₁.setTop (mkF m 0 #[.val .null, .val .null] []))
      refine Go.by (fun _ => XS.aloadN X0.here hx rfl (hb hby d_jdk_31_method_2_code_0) rfl rfl) ?_
      show Go p e below P (s₁.setTop (mkF m 1 #[.val .null, .val .null] [.null]))
      refine Go.by (fun _ => XS.aloadN X0.here hx rfl (hb hby d_jdk_31_method_2_code_1) rfl rfl) ?_
      show Go p e below P (s₁.setTop (mkF m 2 #[.val .null, .val .null] [.null, .null]))
      refine Go.by (fun _ => Jvm.RoadKit.acmp (g := (mkF m 2 #[.val .null, .val .null] [.null, .null])) X0 hx rfl rfl rfl (pc0 := 2) (pc' := 17) (same := true) rfl (hb hby d_jdk_31_method_2_code_2) rfl (decide_eq_true rfl) (by decide) (by decide)) ?_
      show Go p e below P (s₁.setTop (mkF m 17 #[.val .null, .val .null] []))
      refine Go.by (fun _ => XS.iconst X0.here hx rfl (hb hby d_jdk_31_method_2_code_17)) ?_
      show Go p e below P (s₁.setTop (mkF m 18 #[.val .null, .val .null] [(.int (1 : Int32))]))
      refine Go.by (fun _ => XS.goto X0.here hx rfl (pc0 := 18) (pc' := 22) rfl (hb hby d_jdk_31_method_2_code_18) (by decide) (by decide)) ?_
      show Go p e below P (s₁.setTop (mkF m 22 #[.val .null, .val .null] [(.int (1 : Int32))]))
      refine fin X0 (v := some (.int (1 : Int32))) (fun h => by rw [Bd.returns] at h; cases h) (by decide) (by decide) ?_ (fun fs hr => retOut X0 hx Bd.returns rfl (Or.inl ⟨rfl, Or.inr (Or.inl rfl), _, rfl⟩) (hb hby d_jdk_31_method_2_code_22) hr)
      rw [e0]
      exact ⟨by rw [if_pos rfl], N0, rfl⟩
    · show Go p e below P (s₁.setTop (mkF m 0 #[.val .null, .val (.ref a1_)] []))
      refine Go.by (fun _ => XS.aloadN X0.here hx rfl (hb hby d_jdk_31_method_2_code_0) rfl rfl) ?_
      show Go p e below P (s₁.setTop (mkF m 1 #[.val .null, .val (.ref a1_)] [.null]))
      refine Go.by (fun _ => XS.aloadN X0.here hx rfl (hb hby d_jdk_31_method_2_code_1) rfl rfl) ?_
      show Go p e below P (s₁.setTop (mkF m 2 #[.val .null, .val (.ref a1_)] [(.ref a1_), .null]))
      refine Go.by (fun _ => Jvm.RoadKit.acmp (g := (mkF m 2 #[.val .null, .val (.ref a1_)] [(.ref a1_), .null])) X0 hx rfl rfl rfl (pc0 := 2) (pc' := 5) (same := false) rfl (hb hby d_jdk_31_method_2_code_2) rfl (decide_eq_false nofun) (by decide) (by decide)) ?_
      show Go p e below P (s₁.setTop (mkF m 5 #[.val .null, .val (.ref a1_)] []))
      refine Go.by (fun _ => XS.aloadN X0.here hx rfl (hb hby d_jdk_31_method_2_code_5) rfl rfl) ?_
      show Go p e below P (s₁.setTop (mkF m 6 #[.val .null, .val (.ref a1_)] [.null]))
      refine Go.by (fun _ => XS.ifnullYes X0.here hx rfl (pc0 := 6) (pc' := 21) rfl (hb hby d_jdk_31_method_2_code_6) rfl (by decide) (by decide)) ?_
      show Go p e below P (s₁.setTop (mkF m 21 #[.val .null, .val (.ref a1_)] []))
      refine Go.by (fun _ => XS.iconst X0.here hx rfl (hb hby d_jdk_31_method_2_code_21)) ?_
      show Go p e below P (s₁.setTop (mkF m 22 #[.val .null, .val (.ref a1_)] [(.int (0 : Int32))]))
      refine fin X0 (v := some (.int (0 : Int32))) (fun h => by rw [Bd.returns] at h; cases h) (by decide) (by decide) ?_ (fun fs hr => retOut X0 hx Bd.returns rfl (Or.inl ⟨rfl, Or.inr (Or.inl rfl), _, rfl⟩) (hb hby d_jdk_31_method_2_code_22) hr)
      rw [e0]
      exact ⟨by rw [if_neg (by simp)], N0, rfl⟩
  · rcases T1 with ⟨rfl, rfl⟩ | ⟨a1_, b1, rfl, rfl, S1⟩
    · have E0 : Exa Z h0 a0_ "java/lang/String" := by obtain ⟨_, _, E, _⟩ := S0; exact E
      show Go p e below P (s₁.setTop (mkF m 0 #[.val (.ref a0_), .val .null] []))
      refine Go.by (fun _ => XS.aloadN X0.here hx rfl (hb hby d_jdk_31_method_2_code_0) rfl rfl) ?_
      show Go p e below P (s₁.setTop (mkF m 1 #[.val (.ref a0_), .val .null] [(.ref a0_)]))
      refine Go.by (fun _ => XS.aloadN X0.here hx rfl (hb hby d_jdk_31_method_2_code_1) rfl rfl) ?_
      show Go p e below P (s₁.setTop (mkF m 2 #[.val (.ref a0_), .val .null] [.null, (.ref a0_)]))
      refine Go.by (fun _ => Jvm.RoadKit.acmp (g := (mkF m 2 #[.val (.ref a0_), .val .null] [.null, (.ref a0_)])) X0 hx rfl rfl rfl (pc0 := 2) (pc' := 5) (same := false) rfl (hb hby d_jdk_31_method_2_code_2) rfl (decide_eq_false nofun) (by decide) (by decide)) ?_
      show Go p e below P (s₁.setTop (mkF m 5 #[.val (.ref a0_), .val .null] []))
      refine Go.by (fun _ => XS.aloadN X0.here hx rfl (hb hby d_jdk_31_method_2_code_5) rfl rfl) ?_
      show Go p e below P (s₁.setTop (mkF m 6 #[.val (.ref a0_), .val .null] [(.ref a0_)]))
      refine Go.by (fun _ => XS.ifnullNo X0.here hx rfl (hb hby d_jdk_31_method_2_code_6) rfl) ?_
      show Go p e below P (s₁.setTop (mkF m 9 #[.val (.ref a0_), .val .null] []))
      refine Go.by (fun _ => XS.aloadN X0.here hx rfl (hb hby d_jdk_31_method_2_code_9) rfl rfl) ?_
      show Go p e below P (s₁.setTop (mkF m 10 #[.val (.ref a0_), .val .null] [(.ref a0_)]))
      refine Go.by (fun _ => XS.aloadN X0.here hx rfl (hb hby d_jdk_31_method_2_code_10) rfl rfl) ?_
      show Go p e below P (s₁.setTop (mkF m 11 #[.val (.ref a0_), .val .null] [.null, (.ref a0_)]))
      obtain ⟨cq11, kq11, q11a, q11b, q11c⟩ := isOf hZ e0 E0
      obtain ⟨_, _, ⟨T11, L11, k11, n11⟩, -, X11, ⟨Lc11, hQ11, l11, y11, z11⟩, st11⟩ := X0.virtualBack hx (y := (⟨"java/lang/Object", "equals", "(Ljava/lang/Object;)Z"⟩ : MethodName)) (z := (⟨"java/lang/String", "equals", "(Ljava/lang/Object;)Z"⟩ : MethodName)) hown (mvT hZ (tw_94 hw)) (mvT hZ (tw_95 hw)) (nf_top (args := #[]) (mvT hZ (tw_78 hw))) (mvT hZ (tw_97 hw)) (mvT hZ (tw_98 hw)) (by decide) (backOf (W := 0) (rm_seqN l Z a0 hw [] a0_ h0 n0 Z0 ) hZ (tw_99 hw) (tw_17 hw) (by decide) (by decide)) q11a q11c (g := (mkF m 11 #[.val (.ref a0_), .val .null] [.null, (.ref a0_)])) rfl (by rw [hml]; rfl) (Steps.refl _) (argsL := [.null]) (rest := []) (lenOf pd__Ljava_lang_Object__Z rfl) rfl (by show 2 * 0 + _ ≤ _; exact Nat.le_of_eq rfl) (hb hby d_jdk_31_method_2_code_11) (fun _ _ => ⟨rfl, e0, (by decide : 0 + 0 ≤ _), (by decide : 0 + 0 ≤ _)⟩)
      dsimp only [Pt.U, Pt.locs, Pt.cells, Pt.slots] at X11 l11 y11 z11 st11 hQ11
      subst l11 y11 z11
      obtain ⟨rfl, N11q, q11⟩ := hQ11
      have N11 := Fr.app N0 N11q
      refine Go.by (fun t k => st11.trans k) ?_
      show Go p e below P (T11.setTop (mkF m 14 #[.val (.ref a0_), .val .null] [(.int (0 : Int32))]))
      refine Go.by (fun _ => XS.ifYes X11.here hx rfl (pc0 := 14) (pc' := 21) rfl (hb hby d_jdk_31_method_2_code_14) rfl (XT.i0_eq_t (by decide : (0 : Int32) = (0 : Int32))) (by decide) (by decide)) ?_
      show Go p e below P (T11.setTop (mkF m 21 #[.val (.ref a0_), .val .null] []))
      refine Go.by (fun _ => XS.iconst X11.here hx rfl (hb hby d_jdk_31_method_2_code_21)) ?_
      show Go p e below P (T11.setTop (mkF m 22 #[.val (.ref a0_), .val .null] [(.int (0 : Int32))]))
      refine fin X11 (v := some (.int (0 : Int32))) (fun h => by rw [Bd.returns] at h; cases h) (by decide) (by decide) ?_ (fun fs hr => retOut X11 hx Bd.returns rfl (Or.inl ⟨rfl, Or.inr (Or.inl rfl), _, rfl⟩) (hb hby d_jdk_31_method_2_code_22) hr)
      rw [q11]
      exact ⟨by rw [if_neg (by simp)], N11, rfl⟩
    · have E0 : Exa Z h0 a0_ "java/lang/String" := by obtain ⟨_, _, E, _⟩ := S0; exact E
      show Go p e below P (s₁.setTop (mkF m 0 #[.val (.ref a0_), .val (.ref a1_)] []))
      refine Go.by (fun _ => XS.aloadN X0.here hx rfl (hb hby d_jdk_31_method_2_code_0) rfl rfl) ?_
      show Go p e below P (s₁.setTop (mkF m 1 #[.val (.ref a0_), .val (.ref a1_)] [(.ref a0_)]))
      refine Go.by (fun _ => XS.aloadN X0.here hx rfl (hb hby d_jdk_31_method_2_code_1) rfl rfl) ?_
      show Go p e below P (s₁.setTop (mkF m 2 #[.val (.ref a0_), .val (.ref a1_)] [(.ref a1_), (.ref a0_)]))
      by_cases hc2_12 : a0_ = a1_
      · refine Go.by (fun _ => Jvm.RoadKit.acmp (g := (mkF m 2 #[.val (.ref a0_), .val (.ref a1_)] [(.ref a1_), (.ref a0_)])) X0 hx rfl rfl rfl (pc0 := 2) (pc' := 17) (same := true) rfl (hb hby d_jdk_31_method_2_code_2) rfl (decide_eq_true (congrArg Value.ref hc2_12)) (by decide) (by decide)) ?_
        show Go p e below P (s₁.setTop (mkF m 17 #[.val (.ref a0_), .val (.ref a1_)] []))
        refine Go.by (fun _ => XS.iconst X0.here hx rfl (hb hby d_jdk_31_method_2_code_17)) ?_
        show Go p e below P (s₁.setTop (mkF m 18 #[.val (.ref a0_), .val (.ref a1_)] [(.int (1 : Int32))]))
        refine Go.by (fun _ => XS.goto X0.here hx rfl (pc0 := 18) (pc' := 22) rfl (hb hby d_jdk_31_method_2_code_18) (by decide) (by decide)) ?_
        show Go p e below P (s₁.setTop (mkF m 22 #[.val (.ref a0_), .val (.ref a1_)] [(.int (1 : Int32))]))
        refine fin X0 (v := some (.int (1 : Int32))) (fun h => by rw [Bd.returns] at h; cases h) (by decide) (by decide) ?_ (fun fs hr => retOut X0 hx Bd.returns rfl (Or.inl ⟨rfl, Or.inr (Or.inl rfl), _, rfl⟩) (hb hby d_jdk_31_method_2_code_22) hr)
        rw [e0]
        exact ⟨by rw [if_pos (hsame (congrArg Value.ref hc2_12))], N0, rfl⟩
      · refine Go.by (fun _ => Jvm.RoadKit.acmp (g := (mkF m 2 #[.val (.ref a0_), .val (.ref a1_)] [(.ref a1_), (.ref a0_)])) X0 hx rfl rfl rfl (pc0 := 2) (pc' := 5) (same := false) rfl (hb hby d_jdk_31_method_2_code_2) rfl (decide_eq_false fun q => hc2_12 (Value.ref.inj q)) (by decide) (by decide)) ?_
        show Go p e below P (s₁.setTop (mkF m 5 #[.val (.ref a0_), .val (.ref a1_)] []))
        refine Go.by (fun _ => XS.aloadN X0.here hx rfl (hb hby d_jdk_31_method_2_code_5) rfl rfl) ?_
        show Go p e below P (s₁.setTop (mkF m 6 #[.val (.ref a0_), .val (.ref a1_)] [(.ref a0_)]))
        refine Go.by (fun _ => XS.ifnullNo X0.here hx rfl (hb hby d_jdk_31_method_2_code_6) rfl) ?_
        show Go p e below P (s₁.setTop (mkF m 9 #[.val (.ref a0_), .val (.ref a1_)] []))
        refine Go.by (fun _ => XS.aloadN X0.here hx rfl (hb hby d_jdk_31_method_2_code_9) rfl rfl) ?_
        show Go p e below P (s₁.setTop (mkF m 10 #[.val (.ref a0_), .val (.ref a1_)] [(.ref a0_)]))
        refine Go.by (fun _ => XS.aloadN X0.here hx rfl (hb hby d_jdk_31_method_2_code_10) rfl rfl) ?_
        show Go p e below P (s₁.setTop (mkF m 11 #[.val (.ref a0_), .val (.ref a1_)] [(.ref a1_), (.ref a0_)]))
        obtain ⟨cq13, kq13, q13a, q13b, q13c⟩ := isOf hZ e0 E0
        obtain ⟨_, _, ⟨T13, L13, k13, n13⟩, -, X13, ⟨Lc13, hQ13, l13, y13, z13⟩, st13⟩ := X0.virtualBack hx (y := (⟨"java/lang/Object", "equals", "(Ljava/lang/Object;)Z"⟩ : MethodName)) (z := (⟨"java/lang/String", "equals", "(Ljava/lang/Object;)Z"⟩ : MethodName)) hown (mvT hZ (tw_94 hw)) (mvT hZ (tw_95 hw)) (nf_top (args := #[]) (mvT hZ (tw_78 hw))) (mvT hZ (tw_97 hw)) (mvT hZ (tw_98 hw)) (by decide) (backOf (W := 0) (rm_seq l Z a0 hw [] a0_ b0 a1_ b1 cs h0 n0 Z0 O0 Scs hcs S0 S1 (hl0 _ rfl) (hl1 _ rfl) (fun q => Option.some.inj (hsame (congrArg Value.ref q)))) hZ (tw_99 hw) (tw_17 hw) (by decide) (by decide)) q13a q13c (g := (mkF m 11 #[.val (.ref a0_), .val (.ref a1_)] [(.ref a1_), (.ref a0_)])) rfl (by rw [hml]; rfl) (Steps.refl _) (argsL := [(.ref a1_)]) (rest := []) (lenOf pd__Ljava_lang_Object__Z rfl) rfl (by show 2 * 0 + _ ≤ _; exact Nat.le_of_eq rfl) (hb hby d_jdk_31_method_2_code_11) (fun _ _ => ⟨rfl, e0, (by decide : 0 + 0 ≤ _), (by decide : 0 + 0 ≤ _)⟩)
        dsimp only [Pt.U, Pt.locs, Pt.cells, Pt.slots] at X13 l13 y13 z13 st13 hQ13
        subst l13 y13 z13
        obtain ⟨rfl, N13q, q13⟩ := hQ13
        have N13 := Fr.app N0 N13q
        refine Go.by (fun t k => st13.trans k) ?_
        show Go p e below P (T13.setTop (mkF m 14 #[.val (.ref a0_), .val (.ref a1_)] [(.int (if b0 = b1 then (1 : Int32) else 0))]))
        by_cases hc14_14 : (if b0 = b1 then (1 : Int32) else 0) = (0 : Int32)
        · refine Go.by (fun _ => XS.ifYes X13.here hx rfl (pc0 := 14) (pc' := 21) rfl (hb hby d_jdk_31_method_2_code_14) rfl (XT.i0_eq_t hc14_14) (by decide) (by decide)) ?_
          show Go p e below P (T13.setTop (mkF m 21 #[.val (.ref a0_), .val (.ref a1_)] []))
          refine Go.by (fun _ => XS.iconst X13.here hx rfl (hb hby d_jdk_31_method_2_code_21)) ?_
          show Go p e below P (T13.setTop (mkF m 22 #[.val (.ref a0_), .val (.ref a1_)] [(.int (0 : Int32))]))
          refine fin X13 (v := some (.int (0 : Int32))) (fun h => by rw [Bd.returns] at h; cases h) (by decide) (by decide) ?_ (fun fs hr => retOut X13 hx Bd.returns rfl (Or.inl ⟨rfl, Or.inr (Or.inl rfl), _, rfl⟩) (hb hby d_jdk_31_method_2_code_22) hr)
          rw [q13]
          exact ⟨by rw [own_some b0 b1, hc14_14], N13, rfl⟩
        · refine Go.by (fun _ => XS.ifNo X13.here hx rfl (hb hby d_jdk_31_method_2_code_14) rfl (XT.i0_eq_f hc14_14)) ?_
          show Go p e below P (T13.setTop (mkF m 17 #[.val (.ref a0_), .val (.ref a1_)] []))
          refine Go.by (fun _ => XS.iconst X13.here hx rfl (hb hby d_jdk_31_method_2_code_17)) ?_
          show Go p e below P (T13.setTop (mkF m 18 #[.val (.ref a0_), .val (.ref a1_)] [(.int (1 : Int32))]))
          refine Go.by (fun _ => XS.goto X13.here hx rfl (pc0 := 18) (pc' := 22) rfl (hb hby d_jdk_31_method_2_code_18) (by decide) (by decide)) ?_
          show Go p e below P (T13.setTop (mkF m 22 #[.val (.ref a0_), .val (.ref a1_)] [(.int (1 : Int32))]))
          refine fin X13 (v := some (.int (1 : Int32))) (fun h => by rw [Bd.returns] at h; cases h) (by decide) (by decide) ?_ (fun fs hr => retOut X13 hx Bd.returns rfl (Or.inl ⟨rfl, Or.inr (Or.inl rfl), _, rfl⟩) (hb hby d_jdk_31_method_2_code_22) hr)
          rw [q13]
          exact ⟨by rw [own_some b0 b1, own_if1 hc14_14], N13, rfl⟩
def Q_acInit (Z : State) (a0_ : Addr) (a1 : Addr) (r2 : Value) (h0 : Heap) (n0 : Nat) (v : Option Value) (h : Heap) (L : List Loc) : Prop := v = none ∧ Fr n0 L ∧ Keep h0 h [a0_] ∧ Fld Z h a0_ "com/example/verdict/verdict/Action" "kind" "Lcom/example/verdict/verdict/Action$Kind;" (.ref a1) ∧ Fld Z h a0_ "com/example/verdict/verdict/Action" "argument" "Ljava/lang/String;" r2
theorem ef_acInit (m : MethodId) (a0_ : Addr) (a1 : Addr) (r2 : Value) (hr2 : r2.isRef = true) : entryFrame m #[(.ref a0_), (.ref a1), r2] 3 = mkF m 0 #[.val (.ref a0_), .val (.ref a1), .val r2] [] := by rcases XT.refc hr2 with rfl | ⟨_, rfl⟩ <;> first | (simp [entryFrame, mkF, argsToLocals, Value.category]; done) | rfl
set_option maxRecDepth 65536 in
set_option maxHeartbeats 40000000 in
theorem rm_acInit (l : Launch) (Z : State) (a0 : Array Value) (hw : ∀ d ∈ tables_1, d.before a0 Z = true) (ws : List Jvm.Cond) (a0_ : Addr) (a1 : Addr) (r2 : Value) (h0 : Heap) (n0 : Nat) (Z0 : n0 ≤ h0.size) (E0 : Exa Z h0 a0_ "com/example/verdict/verdict/Action") (g_a0_ : n0 ≤ a0_) (F0_kind : Fld Z h0 a0_ "com/example/verdict/verdict/Action" "kind" "Lcom/example/verdict/verdict/Action$Kind;" .null) (F0_argument : Fld Z h0 a0_ "com/example/verdict/verdict/Action" "argument" "Ljava/lang/String;" .null) (hr2 : r2.isRef = true) :
    MetFree l (⟨"com/example/verdict/verdict/Action", "<init>", "(Lcom/example/verdict/verdict/Action$Kind;Ljava/lang/String;)V"⟩ : MethodName) (head1 (Jvm.Cond.code (⟨"com/example/verdict/verdict/Action", "<init>", "(Lcom/example/verdict/verdict/Action$Kind;Ljava/lang/String;)V"⟩ : MethodName) prog_1_method_1_code 3 none :: ws) ({ frames := 1, cells := 0, slots := 0, locals := 12 } : Room)) (fun a U => a = #[(.ref a0_), (.ref a1), r2] ∧ Z.Warmed39 U.vm ∧ U.heap = h0) (fun _ _ _ _ _ => True) (fun _ U o U' => ∃ v L, o = .returned v ∧ Q_acInit Z a0_ a1 r2 h0 n0 v U'.heap L ∧ FrameEnd U o U' L ({ frames := 1, cells := 0, slots := 0, locals := 12 } : Room).cells ({ frames := 1, cells := 0, slots := 0, locals := 12 } : Room).slots) := by
  refine MetFree.of_bodySF (plainFor_of_name pn_com_example_verdict_verdict_Action) hisR ?_
  intro p e s m args below meth c s₁ Bd hml0 hP hK
  obtain ⟨rfl, hZ, hh⟩ := hP
  have hx := Bd.exec
  have hby := Bd.bytes
  have hml : c.maxLocals = 3 := hml0
  have hown : s.vm.findClass "com/example/verdict/verdict/Action" = some m.cls := findClass_of_methodNamed Bd.named
  have hnm := (name_of_methodNamed Bd.named Bd.method).1
  have X0 : Stand p l e ({ frames := 1, cells := 0, slots := 0, locals := 12 } : Room) s m #[(.ref a0_), (.ref a1), r2] below meth c s₁ [] 0 0 := Stand.of_body Bd
  have e0 : s₁.heap = h0 := by rw [← hh, Bd.state]; rfl
  have N0 := Fr.nil n0
  have hlk : meth.locks = false := Bd.notSynchronized
  obtain ⟨P, hP⟩ : ∃ P : Outcome → State → Prop, P = PQ s (Q_acInit Z a0_ a1 r2 h0 n0) ({ frames := 1, cells := 0, slots := 0, locals := 12 } : Room).cells ({ frames := 1, cells := 0, slots := 0, locals := 12 } : Room).slots := ⟨_, rfl⟩
  have fin : ∀ {T : State} {locs : List Loc} {k n : Nat} {v : Option Value} {S0 : State}, Stand p l e ({ frames := 1, cells := 0, slots := 0, locals := 12 } : Room) s m #[(.ref a0_), (.ref a1), r2] below meth c T locs k n → (meth.sig.returnType = none → v = none) → k ≤ ({ frames := 1, cells := 0, slots := 0, locals := 12 } : Room).cells → n ≤ ({ frames := 1, cells := 0, slots := 0, locals := 12 } : Room).slots → Q_acInit Z a0_ a1 r2 h0 n0 v T.heap locs → (∀ fs, (∀ (f : JFrame) (acts : List Action), f.method = m → f.locked = none → f.entered = [] → (doReturn e (T.setTop f) acts v).1 = T.setFrames fs) → Steps p.tables e below S0 (T.setFrames fs)) → Go p e below P S0 := fun X hv hk hn hQ hst => hP ▸ Go.fin X hlk hv hk hn hQ hst
  suffices hgo : Go p e below P (s₁.setTop (mkF m 0 #[.val (.ref a0_), .val (.ref a1), .val r2] [])) by
    rw [hP] at hgo
    exact Go.by (fun t k => castTop (ef_acInit m a0_ a1 r2 hr2) k) hgo
  show Go p e below P (s₁.setTop (mkF m 0 #[.val (.ref a0_), .val (.ref a1), .val r2] []))
  refine Go.by (fun _ => XS.aloadN X0.here hx rfl (hb hby d_prog_1_method_1_code_0) rfl rfl) ?_
  show Go p e below P (s₁.setTop (mkF m 1 #[.val (.ref a0_), .val (.ref a1), .val r2] [(.ref a0_)]))
  obtain ⟨T11, X11, e11, st11⟩ := initO X0 hx hZ hown (tw_47 hw) (tw_26 hw) (tw_27 hw) e0 (g := (mkF m 1 #[.val (.ref a0_), .val (.ref a1), .val r2] [(.ref a0_)])) rfl (by rw [hml]; rfl) rfl (hb hby d_prog_1_method_1_code_1) (by decide) (W := 0) (by show 2 * 0 + _ ≤ _; exact Nat.le_of_eq rfl) (by decide)
  refine Go.by st11 ?_
  show Go p e below P (T11.setTop (mkF m 4 #[.val (.ref a0_), .val (.ref a1), .val r2] []))
  refine Go.by (fun _ => XS.aloadN X11.here hx rfl (hb hby d_prog_1_method_1_code_4) rfl rfl) ?_
  show Go p e below P (T11.setTop (mkF m 5 #[.val (.ref a0_), .val (.ref a1), .val r2] [(.ref a0_)]))
  refine Go.by (fun _ => XS.aloadN X11.here hx rfl (hb hby d_prog_1_method_1_code_5) rfl rfl) ?_
  show Go p e below P (T11.setTop (mkF m 6 #[.val (.ref a0_), .val (.ref a1), .val r2] [(.ref a1), (.ref a0_)]))
  obtain ⟨T12, h12, X12, e12, W12, st12⟩ := putF X11 hx hZ hown (host := "") (Or.inl (tw_48 hw)) Via.refl e11 F0_kind E0 (Or.inr ⟨(tw_49 hw), rfl, hnm⟩) (tw_2 hw) (ty := (.object "com/example/verdict/verdict/Action$Kind")) (by decide) rfl rfl (g := (mkF m 6 #[.val (.ref a0_), .val (.ref a1), .val r2] [(.ref a1), (.ref a0_)])) rfl rfl (hb hby d_prog_1_method_1_code_6)
  refine Go.by st12 ?_
  have N12 := Fr.snoc X12 N0 g_a0_
  have f12_0 : n0 ≤ h12.size := (Nat.le_trans Z0 (Keep.of_wr W12).1)
  have f12_1 : Keep h0 h12 [a0_] := (Keep.wr (Keep.refl h0 [a0_]) W12 (Or.inl (List.mem_of_getElem? (i := 0) rfl)))
  have f12_2 : Exa Z h12 a0_ "com/example/verdict/verdict/Action" := (Exa.wr W12 E0)
  have f12_3 : Fld Z h12 a0_ "com/example/verdict/verdict/Action" "kind" "Lcom/example/verdict/verdict/Action$Kind;" (.ref a1) := (Fld.same W12 F0_kind)
  have f12_4 : Fld Z h12 a0_ "com/example/verdict/verdict/Action" "argument" "Ljava/lang/String;" .null := (Fld.other W12 F0_argument (Or.inr (slot_ne (Or.inr (tw_51 hw)) (Or.inr (tw_49 hw)) (by decide) (t := (.object "java/lang/String")) (t' := (.object "com/example/verdict/verdict/Action$Kind")) (by decide) (by decide))))
  show Go p e below P (T12.setTop (mkF m 9 #[.val (.ref a0_), .val (.ref a1), .val r2] []))
  refine Go.by (fun _ => XS.aloadN X12.here hx rfl (hb hby d_prog_1_method_1_code_9) rfl rfl) ?_
  show Go p e below P (T12.setTop (mkF m 10 #[.val (.ref a0_), .val (.ref a1), .val r2] [(.ref a0_)]))
  refine Go.by (fun _ => XS.aloadN X12.here hx rfl (hb hby d_prog_1_method_1_code_10) rfl hr2) ?_
  show Go p e below P (T12.setTop (mkF m 11 #[.val (.ref a0_), .val (.ref a1), .val r2] [r2, (.ref a0_)]))
  obtain ⟨T13, h13, X13, e13, W13, st13⟩ := putF X12 hx hZ hown (host := "") (Or.inl (tw_50 hw)) Via.refl e12 f12_4 f12_2 (Or.inr ⟨(tw_51 hw), rfl, hnm⟩) (tw_2 hw) (ty := (.object "java/lang/String")) (by decide) (own_narR hr2) (own_fitR hr2) (g := (mkF m 11 #[.val (.ref a0_), .val (.ref a1), .val r2] [r2, (.ref a0_)])) rfl rfl (hb hby d_prog_1_method_1_code_11)
  refine Go.by st13 ?_
  have N13 := Fr.snoc X13 N12 g_a0_
  have f13_0 : n0 ≤ h13.size := (Nat.le_trans f12_0 (Keep.of_wr W13).1)
  have f13_1 : Keep h0 h13 [a0_] := (Keep.wr f12_1 W13 (Or.inl (List.mem_of_getElem? (i := 0) rfl)))
  have f13_2 : Exa Z h13 a0_ "com/example/verdict/verdict/Action" := (Exa.wr W13 f12_2)
  have f13_3 : Fld Z h13 a0_ "com/example/verdict/verdict/Action" "kind" "Lcom/example/verdict/verdict/Action$Kind;" (.ref a1) := (Fld.other W13 f12_3 (Or.inr (slot_ne (Or.inr (tw_49 hw)) (Or.inr (tw_51 hw)) (by decide) (t := (.object "com/example/verdict/verdict/Action$Kind")) (t' := (.object "java/lang/String")) (by decide) (by decide))))
  have f13_4 : Fld Z h13 a0_ "com/example/verdict/verdict/Action" "argument" "Ljava/lang/String;" r2 := (Fld.same W13 f12_4)
  show Go p e below P (T13.setTop (mkF m 14 #[.val (.ref a0_), .val (.ref a1), .val r2] []))
  refine fin X13 (v := none) (fun _ => rfl) (by decide) (by decide) ?_ (fun fs hr => X13.returnOut hx Bd.returns (hb hby d_prog_1_method_1_code_14) hr)
  rw [e13]
  exact ⟨rfl, N13, f13_1, f13_3, f13_4⟩
def Q_aeq (Z : State) (a0_ : Addr) (a1_ : Addr) (k0 : Addr) (k1 : Addr) (r0 : Value) (o0 : Option (List Int32)) (r1 : Value) (o1 : Option (List Int32)) (cs : Int32) (h0 : Heap) (n0 : Nat) (v : Option Value) (h : Heap) (L : List Loc) : Prop := v = some (.int (if k0 = k1 ∧ o0 = o1 then (1 : Int32) else 0)) ∧ Fr n0 L ∧ h = h0
theorem ef_aeq (m : MethodId) (a0_ : Addr) (a1_ : Addr) (k0 : Addr) (k1 : Addr) (r0 : Value) (o0 : Option (List Int32)) (r1 : Value) (o1 : Option (List Int32)) (cs : Int32) : entryFrame m #[(.ref a0_), (.ref a1_)] 3 = mkF m 0 #[.val (.ref a0_), .val (.ref a1_), .unset] [] := by first | (simp [entryFrame, mkF, argsToLocals, Value.category]; done) | rfl
set_option maxRecDepth 65536 in
set_option maxHeartbeats 40000000 in
theorem rm_aeq (l : Launch) (Z : State) (a0 : Array Value) (hw : ∀ d ∈ tables_1, d.before a0 Z = true) (ws : List Jvm.Cond) (a0_ : Addr) (a1_ : Addr) (k0 : Addr) (k1 : Addr) (r0 : Value) (o0 : Option (List Int32)) (r1 : Value) (o1 : Option (List Int32)) (cs : Int32) (h0 : Heap) (n0 : Nat) (Z0 : n0 ≤ h0.size) (O0 : Old Z n0 h0) (Scs : Sta Z Z.heap "java/lang/String" "COMPACT_STRINGS" "Z" (.int cs)) (hcs : ¬ cs = (0 : Int32)) (E1 : Exa Z h0 a1_ "com/example/verdict/verdict/Action") (FK0 : Fld Z h0 a0_ "com/example/verdict/verdict/Action" "kind" "Lcom/example/verdict/verdict/Action$Kind;" (.ref k0)) (FA0 : Fld Z h0 a0_ "com/example/verdict/verdict/Action" "argument" "Ljava/lang/String;" r0) (FK1 : Fld Z h0 a1_ "com/example/verdict/verdict/Action" "kind" "Lcom/example/verdict/verdict/Action$Kind;" (.ref k1)) (FA1 : Fld Z h0 a1_ "com/example/verdict/verdict/Action" "argument" "Ljava/lang/String;" r1) (T0 : StrO Z h0 r0 o0) (T1 : StrO Z h0 r1 o1) (hl0 : ∀ b, o0 = some b → b.length ≤ 2) (hl1 : ∀ b, o1 = some b → b.length ≤ 2) (hsame : r0 = r1 → o0 = o1) :
    MetFree l (⟨"com/example/verdict/verdict/Action", "equals", "(Ljava/lang/Object;)Z"⟩ : MethodName) (head1 (Jvm.Cond.code (⟨"com/example/verdict/verdict/Action", "equals", "(Ljava/lang/Object;)Z"⟩ : MethodName) prog_1_method_5_code 3 (some .boolean) :: ws) ({ frames := 3, cells := 0, slots := 0, locals := 60 } : Room)) (fun a U => a = #[(.ref a0_), (.ref a1_)] ∧ Z.Warmed39 U.vm ∧ U.heap = h0) (fun _ _ _ _ _ => True) (fun _ U o U' => ∃ v L, o = .returned v ∧ Q_aeq Z a0_ a1_ k0 k1 r0 o0 r1 o1 cs h0 n0 v U'.heap L ∧ FrameEnd U o U' L ({ frames := 3, cells := 0, slots := 0, locals := 60 } : Room).cells ({ frames := 3, cells := 0, slots := 0, locals := 60 } : Room).slots) := by
  refine MetFree.of_bodySF (plainFor_of_name pn_com_example_verdict_verdict_Action) hisR ?_
  intro p e s m args below meth c s₁ Bd hml0 hP hK
  obtain ⟨rfl, hZ, hh⟩ := hP
  have hx := Bd.exec
  have hby := Bd.bytes
  have hml : c.maxLocals = 3 := hml0
  have hown : s.vm.findClass "com/example/verdict/verdict/Action" = some m.cls := findClass_of_methodNamed Bd.named
  have hnm := (name_of_methodNamed Bd.named Bd.method).1
  have X0 : Stand p l e ({ frames := 3, cells := 0, slots := 0, locals := 60 } : Room) s m #[(.ref a0_), (.ref a1_)] below meth c s₁ [] 0 0 := Stand.of_body Bd
  have e0 : s₁.heap = h0 := by rw [← hh, Bd.state]; rfl
  have N0 := Fr.nil n0
  have hlk : meth.locks = false := Bd.notSynchronized
  obtain ⟨P, hP⟩ : ∃ P : Outcome → State → Prop, P = PQ s (Q_aeq Z a0_ a1_ k0 k1 r0 o0 r1 o1 cs h0 n0) ({ frames := 3, cells := 0, slots := 0, locals := 60 } : Room).cells ({ frames := 3, cells := 0, slots := 0, locals := 60 } : Room).slots := ⟨_, rfl⟩
  have fin : ∀ {T : State} {locs : List Loc} {k n : Nat} {v : Option Value} {S0 : State}, Stand p l e ({ frames := 3, cells := 0, slots := 0, locals := 60 } : Room) s m #[(.ref a0_), (.ref a1_)] below meth c T locs k n → (meth.sig.returnType = none → v = none) → k ≤ ({ frames := 3, cells := 0, slots := 0, locals := 60 } : Room).cells → n ≤ ({ frames := 3, cells := 0, slots := 0, locals := 60 } : Room).slots → Q_aeq Z a0_ a1_ k0 k1 r0 o0 r1 o1 cs h0 n0 v T.heap locs → (∀ fs, (∀ (f : JFrame) (acts : List Action), f.method = m → f.locked = none → f.entered = [] → (doReturn e (T.setTop f) acts v).1 = T.setFrames fs) → Steps p.tables e below S0 (T.setFrames fs)) → Go p e below P S0 := fun X hv hk hn hQ hst => hP ▸ Go.fin X hlk hv hk hn hQ hst
  suffices hgo : Go p e below P (s₁.setTop (mkF m 0 #[.val (.ref a0_), .val (.ref a1_), .unset] [])) by
    rw [hP] at hgo
    exact Go.by (fun t k => castTop (ef_aeq m a0_ a1_ k0 k1 r0 o0 r1 o1 cs) k) hgo
  have hr0 := T0.isRef
  have hr1 := T1.isRef
  show Go p e below P (s₁.setTop (mkF m 0 #[.val (.ref a0_), .val (.ref a1_), .unset] []))
  refine Go.by (fun _ => XS.aloadN X0.here hx rfl (hb hby d_prog_1_method_5_code_0) rfl rfl) ?_
  show Go p e below P (s₁.setTop (mkF m 1 #[.val (.ref a0_), .val (.ref a1_), .unset] [(.ref a1_)]))
  obtain ⟨T11, X11, e11, st11⟩ := instY X0 hx hZ hown (tw_59 hw) e0 (Ins.self E1) (g := (mkF m 1 #[.val (.ref a0_), .val (.ref a1_), .unset] [(.ref a1_)])) rfl rfl (hb hby d_prog_1_method_5_code_1)
  refine Go.by st11 ?_
  show Go p e below P (T11.setTop (mkF m 4 #[.val (.ref a0_), .val (.ref a1_), .unset] [(.int (1 : Int32))]))
  refine Go.by (fun _ => XS.ifNo X11.here hx rfl (hb hby d_prog_1_method_5_code_4) rfl (XT.i0_eq_f (by decide : ¬ (1 : Int32) = (0 : Int32)))) ?_
  show Go p e below P (T11.setTop (mkF m 7 #[.val (.ref a0_), .val (.ref a1_), .unset] []))
  refine Go.by (fun _ => XS.aloadN X11.here hx rfl (hb hby d_prog_1_method_5_code_7) rfl rfl) ?_
  show Go p e below P (T11.setTop (mkF m 8 #[.val (.ref a0_), .val (.ref a1_), .unset] [(.ref a1_)]))
  obtain ⟨T12, X12, e12, st12⟩ := castY X11 hx hZ hown (tw_59 hw) e11 (Ins.self E1) (g := (mkF m 8 #[.val (.ref a0_), .val (.ref a1_), .unset] [(.ref a1_)])) rfl rfl (hb hby d_prog_1_method_5_code_8)
  refine Go.by st12 ?_
  show Go p e below P (T12.setTop (mkF m 11 #[.val (.ref a0_), .val (.ref a1_), .unset] [(.ref a1_)]))
  refine Go.by (fun _ => XS.astoreN X12.here hx rfl (hb hby d_prog_1_method_5_code_11) rfl rfl (l' := #[.val (.ref a0_), .val (.ref a1_), .val (.ref a1_)]) rfl) ?_
  show Go p e below P (T12.setTop (mkF m 12 #[.val (.ref a0_), .val (.ref a1_), .val (.ref a1_)] []))
  refine Go.by (fun _ => XS.aloadN X12.here hx rfl (hb hby d_prog_1_method_5_code_12) rfl rfl) ?_
  show Go p e below P (T12.setTop (mkF m 13 #[.val (.ref a0_), .val (.ref a1_), .val (.ref a1_)] [(.ref a0_)]))
  obtain ⟨T13, X13, e13, st13⟩ := getF X12 hx hZ hown (host := "") (Or.inl (tw_48 hw)) Via.refl e12 FK0 (g := (mkF m 13 #[.val (.ref a0_), .val (.ref a1_), .val (.ref a1_)] [(.ref a0_)])) rfl rfl (hb hby d_prog_1_method_5_code_13)
  refine Go.by st13 ?_
  show Go p e below P (T13.setTop (mkF m 16 #[.val (.ref a0_), .val (.ref a1_), .val (.ref a1_)] [(.ref k0)]))
  refine Go.by (fun _ => XS.aloadN X13.here hx rfl (hb hby d_prog_1_method_5_code_16) rfl rfl) ?_
  show Go p e below P (T13.setTop (mkF m 17 #[.val (.ref a0_), .val (.ref a1_), .val (.ref a1_)] [(.ref a1_), (.ref k0)]))
  obtain ⟨T14, X14, e14, st14⟩ := getF X13 hx hZ hown (host := "") (Or.inl (tw_48 hw)) Via.refl e13 FK1 (g := (mkF m 17 #[.val (.ref a0_), .val (.ref a1_), .val (.ref a1_)] [(.ref a1_), (.ref k0)])) rfl rfl (hb hby d_prog_1_method_5_code_17)
  refine Go.by st14 ?_
  show Go p e below P (T14.setTop (mkF m 20 #[.val (.ref a0_), .val (.ref a1_), .val (.ref a1_)] [(.ref k1), (.ref k0)]))
  by_cases hc20_15 : k0 = k1
  · refine Go.by (fun _ => Jvm.RoadKit.acmp (g := (mkF m 20 #[.val (.ref a0_), .val (.ref a1_), .val (.ref a1_)] [(.ref k1), (.ref k0)])) X14 hx rfl rfl rfl (pc0 := 20) (pc' := 23) (same := true) rfl (hb hby d_prog_1_method_5_code_20) rfl (decide_eq_true (congrArg Value.ref hc20_15)) (by decide) (by decide)) ?_
    show Go p e below P (T14.setTop (mkF m 23 #[.val (.ref a0_), .val (.ref a1_), .val (.ref a1_)] []))
    refine Go.by (fun _ => XS.aloadN X14.here hx rfl (hb hby d_prog_1_method_5_code_23) rfl rfl) ?_
    show Go p e below P (T14.setTop (mkF m 24 #[.val (.ref a0_), .val (.ref a1_), .val (.ref a1_)] [(.ref a0_)]))
    obtain ⟨T16, X16, e16, st16⟩ := getF X14 hx hZ hown (host := "") (Or.inl (tw_50 hw)) Via.refl e14 FA0 (g := (mkF m 24 #[.val (.ref a0_), .val (.ref a1_), .val (.ref a1_)] [(.ref a0_)])) rfl rfl (hb hby d_prog_1_method_5_code_24)
    refine Go.by st16 ?_
    show Go p e below P (T16.setTop (mkF m 27 #[.val (.ref a0_), .val (.ref a1_), .val (.ref a1_)] [r0]))
    refine Go.by (fun _ => XS.aloadN X16.here hx rfl (hb hby d_prog_1_method_5_code_27) rfl rfl) ?_
    show Go p e below P (T16.setTop (mkF m 28 #[.val (.ref a0_), .val (.ref a1_), .val (.ref a1_)] [(.ref a1_), r0]))
    obtain ⟨T17, X17, e17, st17⟩ := getF X16 hx hZ hown (host := "") (Or.inl (tw_50 hw)) Via.refl e16 FA1 (g := (mkF m 28 #[.val (.ref a0_), .val (.ref a1_), .val (.ref a1_)] [(.ref a1_), r0])) rfl rfl (hb hby d_prog_1_method_5_code_28)
    refine Go.by st17 ?_
    show Go p e below P (T17.setTop (mkF m 31 #[.val (.ref a0_), .val (.ref a1_), .val (.ref a1_)] [r1, r0]))
    obtain ⟨_, _, ⟨T18, L18, k18, n18⟩, -, X18, ⟨Lc18, hQ18, l18, y18, z18⟩, st18⟩ := Jvm.LawKit.callS X17 hx (y := (⟨"java/util/Objects", "equals", "(Ljava/lang/Object;Ljava/lang/Object;)Z"⟩ : MethodName)) hown (mvT hZ (tw_85 hw)) (mvT hZ (tw_86 hw)) (mvT hZ (tw_87 hw)) (mvT hZ (tw_88 hw)) (by decide) (backOf (W := 0) (rm_oeq l Z a0 hw [] r0 o0 r1 o1 cs h0 n0 Z0 O0 Scs hcs T0 T1 hl0 hl1 hsame) hZ (tw_88 hw) (tw_87 hw) (by decide) (by decide)) (g := (mkF m 31 #[.val (.ref a0_), .val (.ref a1_), .val (.ref a1_)] [r1, r0])) rfl (by rw [hml]; rfl) (argsL := [r0, r1]) (rest := []) (lenOf pd__Ljava_lang_Object_Ljava_lang_Object__Z rfl) rfl (by show 2 * 0 + _ ≤ _; exact Nat.le_of_eq rfl) (hb hby d_prog_1_method_5_code_31) (fun _ _ => ⟨rfl, e17, (by decide : 0 + 0 ≤ _), (by decide : 0 + 0 ≤ _)⟩)
    dsimp only [Pt.U, Pt.locs, Pt.cells, Pt.slots] at X18 l18 y18 z18 st18 hQ18
    subst l18 y18 z18
    obtain ⟨rfl, N18q, q18⟩ := hQ18
    have N18 := Fr.app N0 N18q
    refine Go.by (fun t k => st18 t k) ?_
    show Go p e below P (T18.setTop (mkF m 34 #[.val (.ref a0_), .val (.ref a1_), .val (.ref a1_)] [(.int (if o0 = o1 then (1 : Int32) else 0))]))
    by_cases hc34_19 : (if o0 = o1 then (1 : Int32) else 0) = (0 : Int32)
    · refine Go.by (fun _ => XS.ifYes X18.here hx rfl (pc0 := 34) (pc' := 41) rfl (hb hby d_prog_1_method_5_code_34) rfl (XT.i0_eq_t hc34_19) (by decide) (by decide)) ?_
      show Go p e below P (T18.setTop (mkF m 41 #[.val (.ref a0_), .val (.ref a1_), .val (.ref a1_)] []))
      refine Go.by (fun _ => XS.iconst X18.here hx rfl (hb hby d_prog_1_method_5_code_41)) ?_
      show Go p e below P (T18.setTop (mkF m 42 #[.val (.ref a0_), .val (.ref a1_), .val (.ref a1_)] [(.int (0 : Int32))]))
      refine fin X18 (v := some (.int (0 : Int32))) (fun h => by rw [Bd.returns] at h; cases h) (by decide) (by decide) ?_ (fun fs hr => retOut X18 hx Bd.returns rfl (Or.inl ⟨rfl, Or.inr (Or.inl rfl), _, rfl⟩) (hb hby d_prog_1_method_5_code_42) hr)
      rw [q18]
      exact ⟨by rw [own_andif hc20_15, hc34_19], N18, rfl⟩
    · refine Go.by (fun _ => XS.ifNo X18.here hx rfl (hb hby d_prog_1_method_5_code_34) rfl (XT.i0_eq_f hc34_19)) ?_
      show Go p e below P (T18.setTop (mkF m 37 #[.val (.ref a0_), .val (.ref a1_), .val (.ref a1_)] []))
      refine Go.by (fun _ => XS.iconst X18.here hx rfl (hb hby d_prog_1_method_5_code_37)) ?_
      show Go p e below P (T18.setTop (mkF m 38 #[.val (.ref a0_), .val (.ref a1_), .val (.ref a1_)] [(.int (1 : Int32))]))
      refine Go.by (fun _ => XS.goto X18.here hx rfl (pc0 := 38) (pc' := 42) rfl (hb hby d_prog_1_method_5_code_38) (by decide) (by decide)) ?_
      show Go p e below P (T18.setTop (mkF m 42 #[.val (.ref a0_), .val (.ref a1_), .val (.ref a1_)] [(.int (1 : Int32))]))
      refine fin X18 (v := some (.int (1 : Int32))) (fun h => by rw [Bd.returns] at h; cases h) (by decide) (by decide) ?_ (fun fs hr => retOut X18 hx Bd.returns rfl (Or.inl ⟨rfl, Or.inr (Or.inl rfl), _, rfl⟩) (hb hby d_prog_1_method_5_code_42) hr)
      rw [q18]
      exact ⟨by rw [own_andif hc20_15, own_if1 hc34_19], N18, rfl⟩
  · refine Go.by (fun _ => Jvm.RoadKit.acmp (g := (mkF m 20 #[.val (.ref a0_), .val (.ref a1_), .val (.ref a1_)] [(.ref k1), (.ref k0)])) X14 hx rfl rfl rfl (pc0 := 20) (pc' := 41) (same := false) rfl (hb hby d_prog_1_method_5_code_20) rfl (decide_eq_false fun q => hc20_15 (Value.ref.inj q)) (by decide) (by decide)) ?_
    show Go p e below P (T14.setTop (mkF m 41 #[.val (.ref a0_), .val (.ref a1_), .val (.ref a1_)] []))
    refine Go.by (fun _ => XS.iconst X14.here hx rfl (hb hby d_prog_1_method_5_code_41)) ?_
    show Go p e below P (T14.setTop (mkF m 42 #[.val (.ref a0_), .val (.ref a1_), .val (.ref a1_)] [(.int (0 : Int32))]))
    refine fin X14 (v := some (.int (0 : Int32))) (fun h => by rw [Bd.returns] at h; cases h) (by decide) (by decide) ?_ (fun fs hr => retOut X14 hx Bd.returns rfl (Or.inl ⟨rfl, Or.inr (Or.inl rfl), _, rfl⟩) (hb hby d_prog_1_method_5_code_42) hr)
    rw [e14]
    exact ⟨by rw [if_neg (fun q => hc20_15 q.1)], N0, rfl⟩
def Q_aeqN (Z : State) (a0_ : Addr) (h0 : Heap) (n0 : Nat) (v : Option Value) (h : Heap) (L : List Loc) : Prop := v = some (.int (0 : Int32)) ∧ Fr n0 L ∧ h = h0
theorem ef_aeqN (m : MethodId) (a0_ : Addr) : entryFrame m #[(.ref a0_), .null] 3 = mkF m 0 #[.val (.ref a0_), .val .null, .unset] [] := by first | (simp [entryFrame, mkF, argsToLocals, Value.category]; done) | rfl
set_option maxRecDepth 65536 in
set_option maxHeartbeats 40000000 in
theorem rm_aeqN (l : Launch) (Z : State) (a0 : Array Value) (hw : ∀ d ∈ tables_1, d.before a0 Z = true) (ws : List Jvm.Cond) (a0_ : Addr) (h0 : Heap) (n0 : Nat) (Z0 : n0 ≤ h0.size) :
    MetFree l (⟨"com/example/verdict/verdict/Action", "equals", "(Ljava/lang/Object;)Z"⟩ : MethodName) (head1 (Jvm.Cond.code (⟨"com/example/verdict/verdict/Action", "equals", "(Ljava/lang/Object;)Z"⟩ : MethodName) prog_1_method_5_code 3 (some .boolean) :: ws) ({ frames := 0, cells := 0, slots := 0, locals := 0 } : Room)) (fun a U => a = #[(.ref a0_), .null] ∧ Z.Warmed39 U.vm ∧ U.heap = h0) (fun _ _ _ _ _ => True) (fun _ U o U' => ∃ v L, o = .returned v ∧ Q_aeqN Z a0_ h0 n0 v U'.heap L ∧ FrameEnd U o U' L ({ frames := 0, cells := 0, slots := 0, locals := 0 } : Room).cells ({ frames := 0, cells := 0, slots := 0, locals := 0 } : Room).slots) := by
  refine MetFree.of_bodySF (plainFor_of_name pn_com_example_verdict_verdict_Action) hisR ?_
  intro p e s m args below meth c s₁ Bd hml0 hP hK
  obtain ⟨rfl, hZ, hh⟩ := hP
  have hx := Bd.exec
  have hby := Bd.bytes
  have hml : c.maxLocals = 3 := hml0
  have hown : s.vm.findClass "com/example/verdict/verdict/Action" = some m.cls := findClass_of_methodNamed Bd.named
  have hnm := (name_of_methodNamed Bd.named Bd.method).1
  have X0 : Stand p l e ({ frames := 0, cells := 0, slots := 0, locals := 0 } : Room) s m #[(.ref a0_), .null] below meth c s₁ [] 0 0 := Stand.of_body Bd
  have e0 : s₁.heap = h0 := by rw [← hh, Bd.state]; rfl
  have N0 := Fr.nil n0
  have hlk : meth.locks = false := Bd.notSynchronized
  obtain ⟨P, hP⟩ : ∃ P : Outcome → State → Prop, P = PQ s (Q_aeqN Z a0_ h0 n0) ({ frames := 0, cells := 0, slots := 0, locals := 0 } : Room).cells ({ frames := 0, cells := 0, slots := 0, locals := 0 } : Room).slots := ⟨_, rfl⟩
  have fin : ∀ {T : State} {locs : List Loc} {k n : Nat} {v : Option Value} {S0 : State}, Stand p l e ({ frames := 0, cells := 0, slots := 0, locals := 0 } : Room) s m #[(.ref a0_), .null] below meth c T locs k n → (meth.sig.returnType = none → v = none) → k ≤ ({ frames := 0, cells := 0, slots := 0, locals := 0 } : Room).cells → n ≤ ({ frames := 0, cells := 0, slots := 0, locals := 0 } : Room).slots → Q_aeqN Z a0_ h0 n0 v T.heap locs → (∀ fs, (∀ (f : JFrame) (acts : List Action), f.method = m → f.locked = none → f.entered = [] → (doReturn e (T.setTop f) acts v).1 = T.setFrames fs) → Steps p.tables e below S0 (T.setFrames fs)) → Go p e below P S0 := fun X hv hk hn hQ hst => hP ▸ Go.fin X hlk hv hk hn hQ hst
  suffices hgo : Go p e below P (s₁.setTop (mkF m 0 #[.val (.ref a0_), .val .null, .unset] [])) by
    rw [hP] at hgo
    exact Go.by (fun t k => castTop (ef_aeqN m a0_) k) hgo
  show Go p e below P (s₁.setTop (mkF m 0 #[.val (.ref a0_), .val .null, .unset] []))
  refine Go.by (fun _ => XS.aloadN X0.here hx rfl (hb hby d_prog_1_method_5_code_0) rfl rfl) ?_
  show Go p e below P (s₁.setTop (mkF m 1 #[.val (.ref a0_), .val .null, .unset] [.null]))
  refine Go.by (X0.instanceofNull hx (g := (mkF m 1 #[.val (.ref a0_), .val .null, .unset] [.null])) rfl rfl (hb hby d_prog_1_method_5_code_1)) ?_
  show Go p e below P (s₁.setTop (mkF m 4 #[.val (.ref a0_), .val .null, .unset] [(.int (0 : Int32))]))
  refine Go.by (fun _ => XS.ifYes X0.here hx rfl (pc0 := 4) (pc' := 41) rfl (hb hby d_prog_1_method_5_code_4) rfl (XT.i0_eq_t (by decide : (0 : Int32) = (0 : Int32))) (by decide) (by decide)) ?_
  show Go p e below P (s₁.setTop (mkF m 41 #[.val (.ref a0_), .val .null, .unset] []))
  refine Go.by (fun _ => XS.iconst X0.here hx rfl (hb hby d_prog_1_method_5_code_41)) ?_
  show Go p e below P (s₁.setTop (mkF m 42 #[.val (.ref a0_), .val .null, .unset] [(.int (0 : Int32))]))
  refine fin X0 (v := some (.int (0 : Int32))) (fun h => by rw [Bd.returns] at h; cases h) (by decide) (by decide) ?_ (fun fs hr => retOut X0 hx Bd.returns rfl (Or.inl ⟨rfl, Or.inr (Or.inl rfl), _, rfl⟩) (hb hby d_prog_1_method_5_code_42) hr)
  rw [e0]
  exact ⟨rfl, N0, rfl⟩
def Q_aeqS (Z : State) (a0_ : Addr) (a1_ : Addr) (h0 : Heap) (n0 : Nat) (v : Option Value) (h : Heap) (L : List Loc) : Prop := v = some (.int (0 : Int32)) ∧ Fr n0 L ∧ h = h0
theorem ef_aeqS (m : MethodId) (a0_ : Addr) (a1_ : Addr) : entryFrame m #[(.ref a0_), (.ref a1_)] 3 = mkF m 0 #[.val (.ref a0_), .val (.ref a1_), .unset] [] := by first | (simp [entryFrame, mkF, argsToLocals, Value.category]; done) | rfl
set_option maxRecDepth 65536 in
set_option maxHeartbeats 40000000 in
theorem rm_aeqS (l : Launch) (Z : State) (a0 : Array Value) (hw : ∀ d ∈ tables_1, d.before a0 Z = true) (ws : List Jvm.Cond) (a0_ : Addr) (a1_ : Addr) (h0 : Heap) (n0 : Nat) (Z0 : n0 ≤ h0.size) (E1 : Exa Z h0 a1_ "java/lang/String") :
    MetFree l (⟨"com/example/verdict/verdict/Action", "equals", "(Ljava/lang/Object;)Z"⟩ : MethodName) (head1 (Jvm.Cond.code (⟨"com/example/verdict/verdict/Action", "equals", "(Ljava/lang/Object;)Z"⟩ : MethodName) prog_1_method_5_code 3 (some .boolean) :: ws) ({ frames := 0, cells := 0, slots := 0, locals := 0 } : Room)) (fun a U => a = #[(.ref a0_), (.ref a1_)] ∧ Z.Warmed39 U.vm ∧ U.heap = h0) (fun _ _ _ _ _ => True) (fun _ U o U' => ∃ v L, o = .returned v ∧ Q_aeqS Z a0_ a1_ h0 n0 v U'.heap L ∧ FrameEnd U o U' L ({ frames := 0, cells := 0, slots := 0, locals := 0 } : Room).cells ({ frames := 0, cells := 0, slots := 0, locals := 0 } : Room).slots) := by
  refine MetFree.of_bodySF (plainFor_of_name pn_com_example_verdict_verdict_Action) hisR ?_
  intro p e s m args below meth c s₁ Bd hml0 hP hK
  obtain ⟨rfl, hZ, hh⟩ := hP
  have hx := Bd.exec
  have hby := Bd.bytes
  have hml : c.maxLocals = 3 := hml0
  have hown : s.vm.findClass "com/example/verdict/verdict/Action" = some m.cls := findClass_of_methodNamed Bd.named
  have hnm := (name_of_methodNamed Bd.named Bd.method).1
  have X0 : Stand p l e ({ frames := 0, cells := 0, slots := 0, locals := 0 } : Room) s m #[(.ref a0_), (.ref a1_)] below meth c s₁ [] 0 0 := Stand.of_body Bd
  have e0 : s₁.heap = h0 := by rw [← hh, Bd.state]; rfl
  have N0 := Fr.nil n0
  have hlk : meth.locks = false := Bd.notSynchronized
  obtain ⟨P, hP⟩ : ∃ P : Outcome → State → Prop, P = PQ s (Q_aeqS Z a0_ a1_ h0 n0) ({ frames := 0, cells := 0, slots := 0, locals := 0 } : Room).cells ({ frames := 0, cells := 0, slots := 0, locals := 0 } : Room).slots := ⟨_, rfl⟩
  have fin : ∀ {T : State} {locs : List Loc} {k n : Nat} {v : Option Value} {S0 : State}, Stand p l e ({ frames := 0, cells := 0, slots := 0, locals := 0 } : Room) s m #[(.ref a0_), (.ref a1_)] below meth c T locs k n → (meth.sig.returnType = none → v = none) → k ≤ ({ frames := 0, cells := 0, slots := 0, locals := 0 } : Room).cells → n ≤ ({ frames := 0, cells := 0, slots := 0, locals := 0 } : Room).slots → Q_aeqS Z a0_ a1_ h0 n0 v T.heap locs → (∀ fs, (∀ (f : JFrame) (acts : List Action), f.method = m → f.locked = none → f.entered = [] → (doReturn e (T.setTop f) acts v).1 = T.setFrames fs) → Steps p.tables e below S0 (T.setFrames fs)) → Go p e below P S0 := fun X hv hk hn hQ hst => hP ▸ Go.fin X hlk hv hk hn hQ hst
  suffices hgo : Go p e below P (s₁.setTop (mkF m 0 #[.val (.ref a0_), .val (.ref a1_), .unset] [])) by
    rw [hP] at hgo
    exact Go.by (fun t k => castTop (ef_aeqS m a0_ a1_) k) hgo
  show Go p e below P (s₁.setTop (mkF m 0 #[.val (.ref a0_), .val (.ref a1_), .unset] []))
  refine Go.by (fun _ => XS.aloadN X0.here hx rfl (hb hby d_prog_1_method_5_code_0) rfl rfl) ?_
  show Go p e below P (s₁.setTop (mkF m 1 #[.val (.ref a0_), .val (.ref a1_), .unset] [(.ref a1_)]))
  obtain ⟨T11, X11, e11, st11⟩ := instNo X0 hx hZ hown (tw_59 hw) e0 E1 (own_noact hw) (g := (mkF m 1 #[.val (.ref a0_), .val (.ref a1_), .unset] [(.ref a1_)])) rfl rfl (hb hby d_prog_1_method_5_code_1)
  refine Go.by st11 ?_
  show Go p e below P (T11.setTop (mkF m 4 #[.val (.ref a0_), .val (.ref a1_), .unset] [(.int (0 : Int32))]))
  refine Go.by (fun _ => XS.ifYes X11.here hx rfl (pc0 := 4) (pc' := 41) rfl (hb hby d_prog_1_method_5_code_4) rfl (XT.i0_eq_t (by decide : (0 : Int32) = (0 : Int32))) (by decide) (by decide)) ?_
  show Go p e below P (T11.setTop (mkF m 41 #[.val (.ref a0_), .val (.ref a1_), .unset] []))
  refine Go.by (fun _ => XS.iconst X11.here hx rfl (hb hby d_prog_1_method_5_code_41)) ?_
  show Go p e below P (T11.setTop (mkF m 42 #[.val (.ref a0_), .val (.ref a1_), .unset] [(.int (0 : Int32))]))
  refine fin X11 (v := some (.int (0 : Int32))) (fun h => by rw [Bd.returns] at h; cases h) (by decide) (by decide) ?_ (fun fs hr => retOut X11 hx Bd.returns rfl (Or.inl ⟨rfl, Or.inr (Or.inl rfl), _, rfl⟩) (hb hby d_prog_1_method_5_code_42) hr)
  rw [e11]
  exact ⟨rfl, N0, rfl⟩
def Q_law (Z : State) (p0 : Int32) (p1 : Int32) (p2 : Int32) (p3 : Int32) (p4 : Int32) (p5 : Int32) (ea : Addr) (eb : Addr) (ec : Addr) (ed : Addr) (ee : Addr) (ef : Addr) (eg : Addr) (cs : Int32) (h0 : Heap) (n0 : Nat) (v : Option Value) (h : Heap) (L : List Loc) : Prop := v = some (.int (1 : Int32)) ∧ Fr n0 L
theorem ef_law (m : MethodId) (p0 : Int32) (p1 : Int32) (p2 : Int32) (p3 : Int32) (p4 : Int32) (p5 : Int32) (ea : Addr) (eb : Addr) (ec : Addr) (ed : Addr) (ee : Addr) (ef : Addr) (eg : Addr) (cs : Int32) : entryFrame m #[(.int p0), (.int p1), (.int p2), (.int p3), (.int p4), (.int p5)] maxLocals = mkF m 0 #[.val (.int p0), .val (.int p1), .val (.int p2), .val (.int p3), .val (.int p4), .val (.int p5), .unset, .unset, .unset, .unset, .unset, .unset, .unset, .unset] [] := by first | (simp [entryFrame, mkF, argsToLocals, Value.category, maxLocals]; done) | rfl
set_option maxRecDepth 65536 in
set_option maxHeartbeats 40000000 in
theorem rm_law (l : Launch) (Z : State) (a0 : Array Value) (hw : ∀ d ∈ tables_1, d.before a0 Z = true) (hEL : EW Z a0 own_EL) (ws : List Jvm.Cond) (p0 : Int32) (p1 : Int32) (p2 : Int32) (p3 : Int32) (p4 : Int32) (p5 : Int32) (ea : Addr) (eb : Addr) (ec : Addr) (ed : Addr) (ee : Addr) (ef : Addr) (eg : Addr) (cs : Int32) (h0 : Heap) (n0 : Nat) (Z0 : n0 ≤ h0.size) (O0 : Old Z n0 h0) (Sea : Sta Z Z.heap "com/example/verdict/verdict/Action$Kind" "KEEP" "Lcom/example/verdict/verdict/Action$Kind;" (.ref ea)) (Seb : Sta Z Z.heap "com/example/verdict/verdict/Action$Kind" "DISCARD" "Lcom/example/verdict/verdict/Action$Kind;" (.ref eb)) (Sec : Sta Z Z.heap "com/example/verdict/verdict/Action$Kind" "BOUNCE" "Lcom/example/verdict/verdict/Action$Kind;" (.ref ec)) (Sed : Sta Z Z.heap "com/example/verdict/verdict/Action$Kind" "REDIRECT" "Lcom/example/verdict/verdict/Action$Kind;" (.ref ed)) (See : Sta Z Z.heap "com/example/verdict/verdict/Action$Kind" "CHALLENGE" "Lcom/example/verdict/verdict/Action$Kind;" (.ref ee)) (Sef : Sta Z Z.heap "com/example/verdict/verdict/Action$Kind" "LEARN_KEY" "Lcom/example/verdict/verdict/Action$Kind;" (.ref ef)) (Seg : Sta Z Z.heap "com/example/verdict/verdict/Action$Kind" "INOCULATE" "Lcom/example/verdict/verdict/Action$Kind;" (.ref eg)) (Fea : Fld Z Z.heap ea "java/lang/Enum" "ordinal" "I" (.int (0 : Int32))) (Feb : Fld Z Z.heap eb "java/lang/Enum" "ordinal" "I" (.int (1 : Int32))) (Fec : Fld Z Z.heap ec "java/lang/Enum" "ordinal" "I" (.int (2 : Int32))) (Fed : Fld Z Z.heap ed "java/lang/Enum" "ordinal" "I" (.int (3 : Int32))) (Fee : Fld Z Z.heap ee "java/lang/Enum" "ordinal" "I" (.int (4 : Int32))) (Fef : Fld Z Z.heap ef "java/lang/Enum" "ordinal" "I" (.int (5 : Int32))) (Feg : Fld Z Z.heap eg "java/lang/Enum" "ordinal" "I" (.int (6 : Int32))) (Scs : Sta Z Z.heap "java/lang/String" "COMPACT_STRINGS" "Z" (.int cs)) (hcs : ¬ cs = (0 : Int32)) :
    MetFree l x (head1 (Jvm.Cond.code x code maxLocals ret :: ws) room_1) (fun a U => a = #[(.int p0), (.int p1), (.int p2), (.int p3), (.int p4), (.int p5)] ∧ Z.Warmed39 U.vm ∧ U.heap = h0 ∧ CHv Z own_EL U.vm h0 ∧ ∀ x ∈ ([] : List Addr), Safe Z own_EL U.vm h0 x) (fun _ _ _ _ _ => True) (fun _ U o U' => ∃ v L, o = .returned v ∧ Q_law Z p0 p1 p2 p3 p4 p5 ea eb ec ed ee ef eg cs h0 n0 v U'.heap L ∧ CHr Z own_EL U.vm U.heap U'.vm U'.heap ∧ ReturnedEndW U o U' L room_1.cells room_1.slots) := by
  refine MetFree.of_bodySF (plainFor_of_name pn_com_example_verdict_verdict_ActionEqualsPinLaw) hisR ?_
  intro p e s m args below meth c s₁ Bd hml0 hP hK
  obtain ⟨rfl, hZ, hh, hCH, hSf⟩ := hP
  have hx := Bd.exec
  have hby := Bd.bytes
  have hml : c.maxLocals = 14 := hml0
  have hown : s.vm.findClass "com/example/verdict/verdict/ActionEqualsPinLaw" = some m.cls := findClass_of_methodNamed Bd.named
  have hnm := (name_of_methodNamed Bd.named Bd.method).1
  have X0 : Stand p l e room_1 (s.setVm s.vm) m #[(.int p0), (.int p1), (.int p2), (.int p3), (.int p4), (.int p5)] below meth c s₁ [] 0 0 := Stand.of_body Bd
  have e0 : s₁.heap = h0 := by rw [← hh, Bd.state]; rfl
  have N0 := Fr.nil n0
  have wS := own_wS hw
  have hS0 : s.Since s.vm s.heap.size := (State.WarmedH.refl s).since _
  have hk0 : s.heap.size ≤ h0.size := Nat.le_of_eq (congrArg Array.size hh)
  have hlk : meth.locks = false := Bd.notSynchronized
  obtain ⟨P, hP⟩ : ∃ P : Outcome → State → Prop, P = PQW s Z own_EL (Q_law Z p0 p1 p2 p3 p4 p5 ea eb ec ed ee ef eg cs h0 n0) room_1.cells room_1.slots := ⟨_, rfl⟩
  have fin : ∀ {T : State} {vm0 : Vm} {k0 : Nat} {locs : List Loc} {k n : Nat} {v : Option Value} {S0 : State} {H : Heap}, Stand p l e room_1 (s.setVm vm0) m #[(.int p0), (.int p1), (.int p2), (.int p3), (.int p4), (.int p5)] below meth c T locs k n → (meth.sig.returnType = none → v = none) → k ≤ room_1.cells → n ≤ room_1.slots → T.heap = H → s.Since vm0 k0 → k0 ≤ H.size → Z.Warmed39 vm0 → CHr Z own_EL s.vm h0 vm0 H → Q_law Z p0 p1 p2 p3 p4 p5 ea eb ec ed ee ef eg cs h0 n0 v H locs → (∀ fs, (∀ (f : JFrame) (acts : List Action), f.method = m → f.locked = none → f.entered = [] → (doReturn e (T.setTop f) acts v).1 = T.setFrames fs) → Steps p.tables e below S0 (T.setFrames fs)) → Go p e below P S0 := fun X hv hk hn eT hS hk0 hZ' hC hQ hst => hP ▸ Go.finW X hlk hEL hv hk hn hh eT hS hk0 hZ' hC hQ hst
  suffices hgo : Go p e below P (s₁.setTop (mkF m 0 #[.val (.int p0), .val (.int p1), .val (.int p2), .val (.int p3), .val (.int p4), .val (.int p5), .unset, .unset, .unset, .unset, .unset, .unset, .unset, .unset] [])) by
    rw [hP] at hgo
    exact Go.by (fun t k => castTop (ef_law m p0 p1 p2 p3 p4 p5 ea eb ec ed ee ef eg cs) k) hgo
  show Go p e below P (s₁.setTop (mkF m 0 #[.val (.int p0), .val (.int p1), .val (.int p2), .val (.int p3), .val (.int p4), .val (.int p5), .unset, .unset, .unset, .unset, .unset, .unset, .unset, .unset] []))
  refine Go.by (fun _ => XS.iloadN X0.here hx rfl (hb hby at_0) rfl) ?_
  show Go p e below P (s₁.setTop (mkF m 1 #[.val (.int p0), .val (.int p1), .val (.int p2), .val (.int p3), .val (.int p4), .val (.int p5), .unset, .unset, .unset, .unset, .unset, .unset, .unset, .unset] [(.int p0)]))
  refine Go.by (fun _ => Jvm.Stand.ldcI X0 hx hown (mvT hZ (tw_0 hw)) rfl (hb hby at_1)) ?_
  show Go p e below P (s₁.setTop (mkF m 3 #[.val (.int p0), .val (.int p1), .val (.int p2), .val (.int p3), .val (.int p4), .val (.int p5), .unset, .unset, .unset, .unset, .unset, .unset, .unset, .unset] [(.int (2147483647 : Int32)), (.int p0)]))
  refine Go.by (fun _ => XS.iand X0.here hx rfl (hb hby at_3) rfl) ?_
  show Go p e below P (s₁.setTop (mkF m 4 #[.val (.int p0), .val (.int p1), .val (.int p2), .val (.int p3), .val (.int p4), .val (.int p5), .unset, .unset, .unset, .unset, .unset, .unset, .unset, .unset] [(.int (p0 &&& (2147483647 : Int32)))]))
  refine Go.by (fun _ => XS.bipush X0.here hx rfl (hb hby at_4)) ?_
  show Go p e below P (s₁.setTop (mkF m 6 #[.val (.int p0), .val (.int p1), .val (.int p2), .val (.int p3), .val (.int p4), .val (.int p5), .unset, .unset, .unset, .unset, .unset, .unset, .unset, .unset] [(.int (7 : Int32)), (.int (p0 &&& (2147483647 : Int32)))]))
  refine Go.by (fun _ => iremM X0 hx rfl (hb hby at_6) rfl (by decide)) ?_
  show Go p e below P (s₁.setTop (mkF m 7 #[.val (.int p0), .val (.int p1), .val (.int p2), .val (.int p3), .val (.int p4), .val (.int p5), .unset, .unset, .unset, .unset, .unset, .unset, .unset, .unset] [(.int ((p0 &&& (2147483647 : Int32)) % (7 : Int32)))]))
  refine Go.by (fun _ => XS.istore X0.here hx rfl (hb hby at_7) rfl (l' := #[.val (.int p0), .val (.int p1), .val (.int p2), .val (.int p3), .val (.int p4), .val (.int p5), .val (.int ((p0 &&& (2147483647 : Int32)) % (7 : Int32))), .unset, .unset, .unset, .unset, .unset, .unset, .unset]) rfl) ?_
  show Go p e below P (s₁.setTop (mkF m 9 #[.val (.int p0), .val (.int p1), .val (.int p2), .val (.int p3), .val (.int p4), .val (.int p5), .val (.int ((p0 &&& (2147483647 : Int32)) % (7 : Int32))), .unset, .unset, .unset, .unset, .unset, .unset, .unset] []))
  refine Go.by (fun _ => XS.iloadN X0.here hx rfl (hb hby at_9) rfl) ?_
  show Go p e below P (s₁.setTop (mkF m 10 #[.val (.int p0), .val (.int p1), .val (.int p2), .val (.int p3), .val (.int p4), .val (.int p5), .val (.int ((p0 &&& (2147483647 : Int32)) % (7 : Int32))), .unset, .unset, .unset, .unset, .unset, .unset, .unset] [(.int p3)]))
  refine Go.by (fun _ => Jvm.Stand.ldcI X0 hx hown (mvT hZ (tw_0 hw)) rfl (hb hby at_10)) ?_
  show Go p e below P (s₁.setTop (mkF m 12 #[.val (.int p0), .val (.int p1), .val (.int p2), .val (.int p3), .val (.int p4), .val (.int p5), .val (.int ((p0 &&& (2147483647 : Int32)) % (7 : Int32))), .unset, .unset, .unset, .unset, .unset, .unset, .unset] [(.int (2147483647 : Int32)), (.int p3)]))
  refine Go.by (fun _ => XS.iand X0.here hx rfl (hb hby at_12) rfl) ?_
  show Go p e below P (s₁.setTop (mkF m 13 #[.val (.int p0), .val (.int p1), .val (.int p2), .val (.int p3), .val (.int p4), .val (.int p5), .val (.int ((p0 &&& (2147483647 : Int32)) % (7 : Int32))), .unset, .unset, .unset, .unset, .unset, .unset, .unset] [(.int (p3 &&& (2147483647 : Int32)))]))
  refine Go.by (fun _ => XS.bipush X0.here hx rfl (hb hby at_13)) ?_
  show Go p e below P (s₁.setTop (mkF m 15 #[.val (.int p0), .val (.int p1), .val (.int p2), .val (.int p3), .val (.int p4), .val (.int p5), .val (.int ((p0 &&& (2147483647 : Int32)) % (7 : Int32))), .unset, .unset, .unset, .unset, .unset, .unset, .unset] [(.int (7 : Int32)), (.int (p3 &&& (2147483647 : Int32)))]))
  refine Go.by (fun _ => iremM X0 hx rfl (hb hby at_15) rfl (by decide)) ?_
  show Go p e below P (s₁.setTop (mkF m 16 #[.val (.int p0), .val (.int p1), .val (.int p2), .val (.int p3), .val (.int p4), .val (.int p5), .val (.int ((p0 &&& (2147483647 : Int32)) % (7 : Int32))), .unset, .unset, .unset, .unset, .unset, .unset, .unset] [(.int ((p3 &&& (2147483647 : Int32)) % (7 : Int32)))]))
  refine Go.by (fun _ => XS.istore X0.here hx rfl (hb hby at_16) rfl (l' := #[.val (.int p0), .val (.int p1), .val (.int p2), .val (.int p3), .val (.int p4), .val (.int p5), .val (.int ((p0 &&& (2147483647 : Int32)) % (7 : Int32))), .val (.int ((p3 &&& (2147483647 : Int32)) % (7 : Int32))), .unset, .unset, .unset, .unset, .unset, .unset]) rfl) ?_
  show Go p e below P (s₁.setTop (mkF m 18 #[.val (.int p0), .val (.int p1), .val (.int p2), .val (.int p3), .val (.int p4), .val (.int p5), .val (.int ((p0 &&& (2147483647 : Int32)) % (7 : Int32))), .val (.int ((p3 &&& (2147483647 : Int32)) % (7 : Int32))), .unset, .unset, .unset, .unset, .unset, .unset] []))
  refine Go.by (fun _ => XS.iloadN X0.here hx rfl (hb hby at_18) rfl) ?_
  show Go p e below P (s₁.setTop (mkF m 19 #[.val (.int p0), .val (.int p1), .val (.int p2), .val (.int p3), .val (.int p4), .val (.int p5), .val (.int ((p0 &&& (2147483647 : Int32)) % (7 : Int32))), .val (.int ((p3 &&& (2147483647 : Int32)) % (7 : Int32))), .unset, .unset, .unset, .unset, .unset, .unset] [(.int p1)]))
  refine Go.by (fun _ => XS.iconst X0.here hx rfl (hb hby at_19)) ?_
  show Go p e below P (s₁.setTop (mkF m 20 #[.val (.int p0), .val (.int p1), .val (.int p2), .val (.int p3), .val (.int p4), .val (.int p5), .val (.int ((p0 &&& (2147483647 : Int32)) % (7 : Int32))), .val (.int ((p3 &&& (2147483647 : Int32)) % (7 : Int32))), .unset, .unset, .unset, .unset, .unset, .unset] [(.int (3 : Int32)), (.int p1)]))
  refine Go.by (fun _ => XS.iand X0.here hx rfl (hb hby at_20) rfl) ?_
  show Go p e below P (s₁.setTop (mkF m 21 #[.val (.int p0), .val (.int p1), .val (.int p2), .val (.int p3), .val (.int p4), .val (.int p5), .val (.int ((p0 &&& (2147483647 : Int32)) % (7 : Int32))), .val (.int ((p3 &&& (2147483647 : Int32)) % (7 : Int32))), .unset, .unset, .unset, .unset, .unset, .unset] [(.int (p1 &&& (3 : Int32)))]))
  refine Go.by (fun _ => XS.istore X0.here hx rfl (hb hby at_21) rfl (l' := #[.val (.int p0), .val (.int p1), .val (.int p2), .val (.int p3), .val (.int p4), .val (.int p5), .val (.int ((p0 &&& (2147483647 : Int32)) % (7 : Int32))), .val (.int ((p3 &&& (2147483647 : Int32)) % (7 : Int32))), .val (.int (p1 &&& (3 : Int32))), .unset, .unset, .unset, .unset, .unset]) rfl) ?_
  show Go p e below P (s₁.setTop (mkF m 23 #[.val (.int p0), .val (.int p1), .val (.int p2), .val (.int p3), .val (.int p4), .val (.int p5), .val (.int ((p0 &&& (2147483647 : Int32)) % (7 : Int32))), .val (.int ((p3 &&& (2147483647 : Int32)) % (7 : Int32))), .val (.int (p1 &&& (3 : Int32))), .unset, .unset, .unset, .unset, .unset] []))
  refine Go.by (fun _ => XS.iload X0.here hx rfl (hb hby at_23) rfl) ?_
  show Go p e below P (s₁.setTop (mkF m 25 #[.val (.int p0), .val (.int p1), .val (.int p2), .val (.int p3), .val (.int p4), .val (.int p5), .val (.int ((p0 &&& (2147483647 : Int32)) % (7 : Int32))), .val (.int ((p3 &&& (2147483647 : Int32)) % (7 : Int32))), .val (.int (p1 &&& (3 : Int32))), .unset, .unset, .unset, .unset, .unset] [(.int p4)]))
  refine Go.by (fun _ => XS.iconst X0.here hx rfl (hb hby at_25)) ?_
  show Go p e below P (s₁.setTop (mkF m 26 #[.val (.int p0), .val (.int p1), .val (.int p2), .val (.int p3), .val (.int p4), .val (.int p5), .val (.int ((p0 &&& (2147483647 : Int32)) % (7 : Int32))), .val (.int ((p3 &&& (2147483647 : Int32)) % (7 : Int32))), .val (.int (p1 &&& (3 : Int32))), .unset, .unset, .unset, .unset, .unset] [(.int (3 : Int32)), (.int p4)]))
  refine Go.by (fun _ => XS.iand X0.here hx rfl (hb hby at_26) rfl) ?_
  show Go p e below P (s₁.setTop (mkF m 27 #[.val (.int p0), .val (.int p1), .val (.int p2), .val (.int p3), .val (.int p4), .val (.int p5), .val (.int ((p0 &&& (2147483647 : Int32)) % (7 : Int32))), .val (.int ((p3 &&& (2147483647 : Int32)) % (7 : Int32))), .val (.int (p1 &&& (3 : Int32))), .unset, .unset, .unset, .unset, .unset] [(.int (p4 &&& (3 : Int32)))]))
  refine Go.by (fun _ => XS.istore X0.here hx rfl (hb hby at_27) rfl (l' := #[.val (.int p0), .val (.int p1), .val (.int p2), .val (.int p3), .val (.int p4), .val (.int p5), .val (.int ((p0 &&& (2147483647 : Int32)) % (7 : Int32))), .val (.int ((p3 &&& (2147483647 : Int32)) % (7 : Int32))), .val (.int (p1 &&& (3 : Int32))), .val (.int (p4 &&& (3 : Int32))), .unset, .unset, .unset, .unset]) rfl) ?_
  show Go p e below P (s₁.setTop (mkF m 29 #[.val (.int p0), .val (.int p1), .val (.int p2), .val (.int p3), .val (.int p4), .val (.int p5), .val (.int ((p0 &&& (2147483647 : Int32)) % (7 : Int32))), .val (.int ((p3 &&& (2147483647 : Int32)) % (7 : Int32))), .val (.int (p1 &&& (3 : Int32))), .val (.int (p4 &&& (3 : Int32))), .unset, .unset, .unset, .unset] []))
  obtain ⟨T11, h11, X11, e11, E11, A11, D11, U11, st11⟩ := newO X0 hx hZ hown (tw_1 hw) (tw_2 hw) (tw_3 hw) e0 (g := (mkF m 29 #[.val (.int p0), .val (.int p1), .val (.int p2), .val (.int p3), .val (.int p4), .val (.int p5), .val (.int ((p0 &&& (2147483647 : Int32)) % (7 : Int32))), .val (.int ((p3 &&& (2147483647 : Int32)) % (7 : Int32))), .val (.int (p1 &&& (3 : Int32))), .val (.int (p4 &&& (3 : Int32))), .unset, .unset, .unset, .unset] [])) rfl (hb hby at_29) (by decide) (by decide)
  obtain ⟨b11, g11⟩ : ∃ z, z = h0.size := ⟨_, rfl⟩
  rw [← g11] at A11 D11 U11 st11
  have g_b11 : n0 ≤ b11 := Nat.le_trans Z0 (Nat.le_of_eq g11.symm)
  have sz_b11 : h0.size ≤ b11 := Nat.le_trans (Keep.refl h0 []).1 (Nat.le_of_eq g11.symm)
  have sf_b11 : Safe Z own_EL s.vm h0 b11 := Safe.new (Nat.le_of_eq g11.symm)
  have f11_0 : n0 ≤ h11.size := (Nat.le_trans Z0 E11.1)
  have f11_1 : CHr Z own_EL s.vm h0 s.vm h11 := (CHr.trans (CHr.refl hCH) (CHr.ext E11 (CHr.refl hCH).1))
  have f11_2 : s.heap.size ≤ h11.size := (Nat.le_trans hk0 E11.1)
  have f11_3 : Keep h0 h11 [] := (Keep.ext (Keep.refl h0 []) E11)
  have f11_4 : Old Z n0 h11 := (Old.ext O0 E11)
  have f11_5 : Safe Z own_EL s.vm h11 b11 := (Safe.ext E11 (CHr.refl hCH).1 sf_b11)
  refine Go.by st11 ?_
  have F11_kind : Fld Z h11 b11 "com/example/verdict/verdict/Action" "kind" "Lcom/example/verdict/verdict/Action$Kind;" .null := D11 (Or.inr (tw_49 hw)) (ty := (.object "com/example/verdict/verdict/Action$Kind")) (by decide)
  have F11_argument : Fld Z h11 b11 "com/example/verdict/verdict/Action" "argument" "Ljava/lang/String;" .null := D11 (Or.inr (tw_51 hw)) (ty := (.object "java/lang/String")) (by decide)
  show Go p e below P (T11.setTop (mkF m 32 #[.val (.int p0), .val (.int p1), .val (.int p2), .val (.int p3), .val (.int p4), .val (.int p5), .val (.int ((p0 &&& (2147483647 : Int32)) % (7 : Int32))), .val (.int ((p3 &&& (2147483647 : Int32)) % (7 : Int32))), .val (.int (p1 &&& (3 : Int32))), .val (.int (p4 &&& (3 : Int32))), .unset, .unset, .unset, .unset] [(.ref b11)]))
  refine Go.by (fun _ => XS.dup X11.here hx rfl (hb hby at_32) rfl rfl) ?_
  show Go p e below P (T11.setTop (mkF m 33 #[.val (.int p0), .val (.int p1), .val (.int p2), .val (.int p3), .val (.int p4), .val (.int p5), .val (.int ((p0 &&& (2147483647 : Int32)) % (7 : Int32))), .val (.int ((p3 &&& (2147483647 : Int32)) % (7 : Int32))), .val (.int (p1 &&& (3 : Int32))), .val (.int (p4 &&& (3 : Int32))), .unset, .unset, .unset, .unset] [(.ref b11), (.ref b11)]))
  refine Go.by (fun _ => XS.iload X11.here hx rfl (hb hby at_33) rfl) ?_
  show Go p e below P (T11.setTop (mkF m 35 #[.val (.int p0), .val (.int p1), .val (.int p2), .val (.int p3), .val (.int p4), .val (.int p5), .val (.int ((p0 &&& (2147483647 : Int32)) % (7 : Int32))), .val (.int ((p3 &&& (2147483647 : Int32)) % (7 : Int32))), .val (.int (p1 &&& (3 : Int32))), .val (.int (p4 &&& (3 : Int32))), .unset, .unset, .unset, .unset] [(.int ((p0 &&& (2147483647 : Int32)) % (7 : Int32))), (.ref b11), (.ref b11)]))
  obtain ⟨_, _, ⟨T12, L12, k12, n12⟩, -, X12, ⟨Lc12, hQ12, l12, y12, z12⟩, st12⟩ := Jvm.LawKit.callS X11 hx (y := (⟨"com/example/verdict/verdict/ActionEqualsPinLaw", "kindOf", "(I)Lcom/example/verdict/verdict/Action$Kind;"⟩ : MethodName)) hown (mvT hZ (tw_4 hw)) (mvT hZ (tw_5 hw)) (mvT hZ (tw_6 hw)) (mvT hZ (tw_7 hw)) (by decide) (backOf (W := 2) (rm_kindOf l Z a0 hw [] ((p0 &&& (2147483647 : Int32)) % (7 : Int32)) ea eb ec ed ee ef eg h11 n0 f11_0 f11_4 Sea Seb Sec Sed See Sef Seg) hZ (tw_7 hw) (tw_6 hw) (by decide) (by decide)) (g := (mkF m 35 #[.val (.int p0), .val (.int p1), .val (.int p2), .val (.int p3), .val (.int p4), .val (.int p5), .val (.int ((p0 &&& (2147483647 : Int32)) % (7 : Int32))), .val (.int ((p3 &&& (2147483647 : Int32)) % (7 : Int32))), .val (.int (p1 &&& (3 : Int32))), .val (.int (p4 &&& (3 : Int32))), .unset, .unset, .unset, .unset] [(.int ((p0 &&& (2147483647 : Int32)) % (7 : Int32))), (.ref b11), (.ref b11)])) rfl (by rw [hml]; rfl) (argsL := [(.int ((p0 &&& (2147483647 : Int32)) % (7 : Int32)))]) (rest := [(.ref b11), (.ref b11)]) (lenOf pd__I_Lcom_example_verdict_verdict_Action_Kind_ rfl) rfl (by show 2 * 0 + _ ≤ _; exact Nat.le_of_eq rfl) (hb hby at_35) (fun _ _ => ⟨rfl, e11, (by decide : 1 + 0 ≤ _), (by decide : 2 + 0 ≤ _)⟩)
  dsimp only [Pt.U, Pt.locs, Pt.cells, Pt.slots] at X12 l12 y12 z12 st12 hQ12
  subst l12 y12 z12
  obtain ⟨rfl, N12q, q12⟩ := hQ12
  have N12 := Fr.app N0 N12q
  refine Go.by (fun t k => st12 t k) ?_
  show Go p e below P (T12.setTop (mkF m 38 #[.val (.int p0), .val (.int p1), .val (.int p2), .val (.int p3), .val (.int p4), .val (.int p5), .val (.int ((p0 &&& (2147483647 : Int32)) % (7 : Int32))), .val (.int ((p3 &&& (2147483647 : Int32)) % (7 : Int32))), .val (.int (p1 &&& (3 : Int32))), .val (.int (p4 &&& (3 : Int32))), .unset, .unset, .unset, .unset] [(.ref (own_kind ((p0 &&& (2147483647 : Int32)) % (7 : Int32)) ea eb ec ed ee ef eg)), (.ref b11), (.ref b11)]))
  refine Go.by (fun _ => XS.iload X12.here hx rfl (hb hby at_38) rfl) ?_
  show Go p e below P (T12.setTop (mkF m 40 #[.val (.int p0), .val (.int p1), .val (.int p2), .val (.int p3), .val (.int p4), .val (.int p5), .val (.int ((p0 &&& (2147483647 : Int32)) % (7 : Int32))), .val (.int ((p3 &&& (2147483647 : Int32)) % (7 : Int32))), .val (.int (p1 &&& (3 : Int32))), .val (.int (p4 &&& (3 : Int32))), .unset, .unset, .unset, .unset] [(.int (p1 &&& (3 : Int32))), (.ref (own_kind ((p0 &&& (2147483647 : Int32)) % (7 : Int32)) ea eb ec ed ee ef eg)), (.ref b11), (.ref b11)]))
  refine Go.by (fun _ => XS.iloadN X12.here hx rfl (hb hby at_40) rfl) ?_
  show Go p e below P (T12.setTop (mkF m 41 #[.val (.int p0), .val (.int p1), .val (.int p2), .val (.int p3), .val (.int p4), .val (.int p5), .val (.int ((p0 &&& (2147483647 : Int32)) % (7 : Int32))), .val (.int ((p3 &&& (2147483647 : Int32)) % (7 : Int32))), .val (.int (p1 &&& (3 : Int32))), .val (.int (p4 &&& (3 : Int32))), .unset, .unset, .unset, .unset] [(.int p2), (.int (p1 &&& (3 : Int32))), (.ref (own_kind ((p0 &&& (2147483647 : Int32)) % (7 : Int32)) ea eb ec ed ee ef eg)), (.ref b11), (.ref b11)]))
  obtain ⟨_, _, ⟨T13, L13, k13, n13⟩, -, X13', hS13', hg13, ⟨Lc13, hQ13, l13, y13, z13, C13⟩, st13⟩ := Jvm.RoadKit.callSS X12 hx (y := (⟨"com/example/verdict/verdict/ActionEqualsPinLaw", "arg", "(II)Ljava/lang/String;"⟩ : MethodName)) hown (mvT hZ (tw_11 hw)) (mvT hZ (tw_12 hw)) (mvT hZ (tw_6 hw)) (mvT hZ (tw_13 hw)) (by decide) (own_backC (W := 3) (rm_arg l Z a0 hw hEL [] (p1 &&& (3 : Int32)) p2 cs h11 n0 f11_0 f11_4 Scs hcs) hZ (tw_13 hw) (tw_6 hw) (by decide) (by decide) hEL f11_1.1 own_ss0) (g := (mkF m 41 #[.val (.int p0), .val (.int p1), .val (.int p2), .val (.int p3), .val (.int p4), .val (.int p5), .val (.int ((p0 &&& (2147483647 : Int32)) % (7 : Int32))), .val (.int ((p3 &&& (2147483647 : Int32)) % (7 : Int32))), .val (.int (p1 &&& (3 : Int32))), .val (.int (p4 &&& (3 : Int32))), .unset, .unset, .unset, .unset] [(.int p2), (.int (p1 &&& (3 : Int32))), (.ref (own_kind ((p0 &&& (2147483647 : Int32)) % (7 : Int32)) ea eb ec ed ee ef eg)), (.ref b11), (.ref b11)])) rfl (by rw [hml]; rfl) (argsL := [(.int (p1 &&& (3 : Int32))), (.int p2)]) (rest := [(.ref (own_kind ((p0 &&& (2147483647 : Int32)) % (7 : Int32)) ea eb ec ed ee ef eg)), (.ref b11), (.ref b11)]) (lenOf pd__II_Ljava_lang_String_ rfl) rfl (by show 2 * 0 + _ ≤ _; exact Nat.le_of_eq rfl) (hb hby at_41) (fun _ _ => ⟨rfl, (q12.trans rfl), (by decide : 1 + 6 ≤ _), (by decide : 2 + 12 ≤ _)⟩)
  dsimp only [Pt.U, Pt.locs, Pt.cells, Pt.slots] at X13' hS13' hg13 l13 y13 z13 st13 hQ13 C13
  subst l13 y13 z13
  obtain ⟨X13, hS13, hZ13, hown13⟩ := rebS hS0 (f11_2) X13' hS13' (by have q := hg13; rw [(q12.trans rfl)] at q; exact q) hZ hown
  have hk13 : T13.heap.size ≤ T13.heap.size := Nat.le_refl _
  obtain ⟨r13, rfl, N13q, K13, TS13, fr13⟩ := hQ13
  have N13 := Fr.app N12 N13q
  refine Go.by (fun t k => st13.trans k) ?_
  have f13_0 : n0 ≤ T13.heap.size := (Nat.le_trans f11_0 K13.1)
  have f13_1 : CHr Z own_EL s.vm h0 T13.vm T13.heap := (CHr.trans f11_1 C13)
  have f13_2 : T13.heap.size ≤ T13.heap.size := hk13
  have f13_3 : Keep h0 T13.heap [] := (Keep.trans f11_3 K13 all0)
  have f13_4 : Old Z n0 T13.heap := (Old.keep f11_4 K13 all0)
  have f13_5 : Safe Z own_EL T13.vm T13.heap b11 := (CHr.safe C13 (A11.lt) f11_5)
  have f13_6 : Exa Z T13.heap b11 "com/example/verdict/verdict/Action" := (Exa.keep A11 K13)
  have f13_7 : Fld Z T13.heap b11 "com/example/verdict/verdict/Action" "kind" "Lcom/example/verdict/verdict/Action$Kind;" .null := (Fld.keep F11_kind K13 nin0)
  have f13_8 : Fld Z T13.heap b11 "com/example/verdict/verdict/Action" "argument" "Ljava/lang/String;" .null := (Fld.keep F11_argument K13 nin0)
  have hr13 := TS13.isRef
  show Go p e below P (T13.setTop (mkF m 44 #[.val (.int p0), .val (.int p1), .val (.int p2), .val (.int p3), .val (.int p4), .val (.int p5), .val (.int ((p0 &&& (2147483647 : Int32)) % (7 : Int32))), .val (.int ((p3 &&& (2147483647 : Int32)) % (7 : Int32))), .val (.int (p1 &&& (3 : Int32))), .val (.int (p4 &&& (3 : Int32))), .unset, .unset, .unset, .unset] [r13, (.ref (own_kind ((p0 &&& (2147483647 : Int32)) % (7 : Int32)) ea eb ec ed ee ef eg)), (.ref b11), (.ref b11)]))
  obtain ⟨_, _, ⟨T14, L14, k14, n14⟩, -, X14, ⟨Lc14, hQ14, l14, y14, z14⟩, st14⟩ := X13.specialBack hx (y := (⟨"com/example/verdict/verdict/Action", "<init>", "(Lcom/example/verdict/verdict/Action$Kind;Ljava/lang/String;)V"⟩ : MethodName)) rfl hown13 (mvT hZ13 (tw_44 hw)) (mvT hZ13 (tw_45 hw)) (mvT hZ13 (tw_46 hw)) (by decide) (backOf (W := 1) (rm_acInit l Z a0 hw [] b11 (own_kind ((p0 &&& (2147483647 : Int32)) % (7 : Int32)) ea eb ec ed ee ef eg) r13 T13.heap n0 f13_0 f13_6 g_b11 f13_7 f13_8 hr13) hZ13 (tw_46 hw) (tw_3 hw) (by decide) (by decide)) (g := (mkF m 44 #[.val (.int p0), .val (.int p1), .val (.int p2), .val (.int p3), .val (.int p4), .val (.int p5), .val (.int ((p0 &&& (2147483647 : Int32)) % (7 : Int32))), .val (.int ((p3 &&& (2147483647 : Int32)) % (7 : Int32))), .val (.int (p1 &&& (3 : Int32))), .val (.int (p4 &&& (3 : Int32))), .unset, .unset, .unset, .unset] [r13, (.ref (own_kind ((p0 &&& (2147483647 : Int32)) % (7 : Int32)) ea eb ec ed ee ef eg)), (.ref b11), (.ref b11)])) rfl (by rw [hml]; rfl) (Steps.refl _) (a := b11) (argsL := [(.ref (own_kind ((p0 &&& (2147483647 : Int32)) % (7 : Int32)) ea eb ec ed ee ef eg)), r13]) (rest := [(.ref b11)]) (lenOf pd__Lcom_example_verdict_verdict_Action_Kind_Ljava_lang_String__V rfl) rfl (by show 2 * 0 + _ ≤ _; exact Nat.le_of_eq rfl) (hb hby at_44) (fun _ _ => ⟨rfl, rfl, (by decide : 7 + 0 ≤ _), (by decide : 14 + 0 ≤ _)⟩)
  dsimp only [Pt.U, Pt.locs, Pt.cells, Pt.slots] at X14 l14 y14 z14 st14 hQ14
  subst l14 y14 z14
  obtain ⟨rfl, N14q, K14, G14_0, G14_1⟩ := hQ14
  have N14 := Fr.app N13 N14q
  refine Go.by (fun t k => st14.trans k) ?_
  have f14_0 : n0 ≤ T14.heap.size := (Nat.le_trans f13_0 K14.1)
  have f14_1 : CHr Z own_EL s.vm h0 T13.vm T14.heap := (CHr.trans f13_1 (CHr.keep K14 (sfS f13_5 sf0) f13_1.1))
  have f14_2 : T13.heap.size ≤ T14.heap.size := (Nat.le_trans f13_2 K14.1)
  have f14_3 : Keep h0 T14.heap [] := (Keep.trans f13_3 K14 (allS (Or.inr sz_b11) all0))
  have f14_4 : Old Z n0 T14.heap := (Old.keep f13_4 K14 (allS g_b11 all0))
  have f14_5 : Safe Z own_EL T13.vm T14.heap b11 := (Safe.keep K14 (sfS f13_5 sf0) f13_1.1 f13_5)
  have f14_6 : Exa Z T14.heap b11 "com/example/verdict/verdict/Action" := (Exa.keep f13_6 K14)
  have f14_7 : StrO Z T14.heap r13 (own_argV (p1 &&& (3 : Int32)) p2) := (StrO.keep1 TS13 K14 f13_6 (tw_2 hw) (by decide))
  show Go p e below P (T14.setTop (mkF m 47 #[.val (.int p0), .val (.int p1), .val (.int p2), .val (.int p3), .val (.int p4), .val (.int p5), .val (.int ((p0 &&& (2147483647 : Int32)) % (7 : Int32))), .val (.int ((p3 &&& (2147483647 : Int32)) % (7 : Int32))), .val (.int (p1 &&& (3 : Int32))), .val (.int (p4 &&& (3 : Int32))), .unset, .unset, .unset, .unset] [(.ref b11)]))
  refine Go.by (fun _ => XS.astore X14.here hx rfl (hb hby at_47) rfl rfl (l' := #[.val (.int p0), .val (.int p1), .val (.int p2), .val (.int p3), .val (.int p4), .val (.int p5), .val (.int ((p0 &&& (2147483647 : Int32)) % (7 : Int32))), .val (.int ((p3 &&& (2147483647 : Int32)) % (7 : Int32))), .val (.int (p1 &&& (3 : Int32))), .val (.int (p4 &&& (3 : Int32))), .val (.ref b11), .unset, .unset, .unset]) rfl) ?_
  show Go p e below P (T14.setTop (mkF m 49 #[.val (.int p0), .val (.int p1), .val (.int p2), .val (.int p3), .val (.int p4), .val (.int p5), .val (.int ((p0 &&& (2147483647 : Int32)) % (7 : Int32))), .val (.int ((p3 &&& (2147483647 : Int32)) % (7 : Int32))), .val (.int (p1 &&& (3 : Int32))), .val (.int (p4 &&& (3 : Int32))), .val (.ref b11), .unset, .unset, .unset] []))
  refine Go.by (fun _ => XS.iloadN X14.here hx rfl (hb hby at_49) rfl) ?_
  show Go p e below P (T14.setTop (mkF m 50 #[.val (.int p0), .val (.int p1), .val (.int p2), .val (.int p3), .val (.int p4), .val (.int p5), .val (.int ((p0 &&& (2147483647 : Int32)) % (7 : Int32))), .val (.int ((p3 &&& (2147483647 : Int32)) % (7 : Int32))), .val (.int (p1 &&& (3 : Int32))), .val (.int (p4 &&& (3 : Int32))), .val (.ref b11), .unset, .unset, .unset] [(.int p1)]))
  refine Go.by (fun _ => XS.iconst X14.here hx rfl (hb hby at_50)) ?_
  show Go p e below P (T14.setTop (mkF m 51 #[.val (.int p0), .val (.int p1), .val (.int p2), .val (.int p3), .val (.int p4), .val (.int p5), .val (.int ((p0 &&& (2147483647 : Int32)) % (7 : Int32))), .val (.int ((p3 &&& (2147483647 : Int32)) % (7 : Int32))), .val (.int (p1 &&& (3 : Int32))), .val (.int (p4 &&& (3 : Int32))), .val (.ref b11), .unset, .unset, .unset] [(.int (2 : Int32)), (.int p1)]))
  refine Go.by (fun _ => XS.iushr X14.here hx rfl (hb hby at_51) rfl) ?_
  show Go p e below P (T14.setTop (mkF m 52 #[.val (.int p0), .val (.int p1), .val (.int p2), .val (.int p3), .val (.int p4), .val (.int p5), .val (.int ((p0 &&& (2147483647 : Int32)) % (7 : Int32))), .val (.int ((p3 &&& (2147483647 : Int32)) % (7 : Int32))), .val (.int (p1 &&& (3 : Int32))), .val (.int (p4 &&& (3 : Int32))), .val (.ref b11), .unset, .unset, .unset] [(.int ((p1.toUInt32 >>> ((2 : Int32) &&& 31).toUInt32).toInt32))]))
  refine Go.by (fun _ => XS.iconst X14.here hx rfl (hb hby at_52)) ?_
  show Go p e below P (T14.setTop (mkF m 53 #[.val (.int p0), .val (.int p1), .val (.int p2), .val (.int p3), .val (.int p4), .val (.int p5), .val (.int ((p0 &&& (2147483647 : Int32)) % (7 : Int32))), .val (.int ((p3 &&& (2147483647 : Int32)) % (7 : Int32))), .val (.int (p1 &&& (3 : Int32))), .val (.int (p4 &&& (3 : Int32))), .val (.ref b11), .unset, .unset, .unset] [(.int (3 : Int32)), (.int ((p1.toUInt32 >>> ((2 : Int32) &&& 31).toUInt32).toInt32))]))
  refine Go.by (fun _ => XS.iand X14.here hx rfl (hb hby at_53) rfl) ?_
  show Go p e below P (T14.setTop (mkF m 54 #[.val (.int p0), .val (.int p1), .val (.int p2), .val (.int p3), .val (.int p4), .val (.int p5), .val (.int ((p0 &&& (2147483647 : Int32)) % (7 : Int32))), .val (.int ((p3 &&& (2147483647 : Int32)) % (7 : Int32))), .val (.int (p1 &&& (3 : Int32))), .val (.int (p4 &&& (3 : Int32))), .val (.ref b11), .unset, .unset, .unset] [(.int (((p1.toUInt32 >>> ((2 : Int32) &&& 31).toUInt32).toInt32) &&& (3 : Int32)))]))
  refine Go.by (fun _ => XS.istore X14.here hx rfl (hb hby at_54) rfl (l' := #[.val (.int p0), .val (.int p1), .val (.int p2), .val (.int p3), .val (.int p4), .val (.int p5), .val (.int ((p0 &&& (2147483647 : Int32)) % (7 : Int32))), .val (.int ((p3 &&& (2147483647 : Int32)) % (7 : Int32))), .val (.int (p1 &&& (3 : Int32))), .val (.int (p4 &&& (3 : Int32))), .val (.ref b11), .val (.int (((p1.toUInt32 >>> ((2 : Int32) &&& 31).toUInt32).toInt32) &&& (3 : Int32))), .unset, .unset]) rfl) ?_
  show Go p e below P (T14.setTop (mkF m 56 #[.val (.int p0), .val (.int p1), .val (.int p2), .val (.int p3), .val (.int p4), .val (.int p5), .val (.int ((p0 &&& (2147483647 : Int32)) % (7 : Int32))), .val (.int ((p3 &&& (2147483647 : Int32)) % (7 : Int32))), .val (.int (p1 &&& (3 : Int32))), .val (.int (p4 &&& (3 : Int32))), .val (.ref b11), .val (.int (((p1.toUInt32 >>> ((2 : Int32) &&& 31).toUInt32).toInt32) &&& (3 : Int32))), .unset, .unset] []))
  refine Go.by (fun _ => XS.iload X14.here hx rfl (hb hby at_56) rfl) ?_
  show Go p e below P (T14.setTop (mkF m 58 #[.val (.int p0), .val (.int p1), .val (.int p2), .val (.int p3), .val (.int p4), .val (.int p5), .val (.int ((p0 &&& (2147483647 : Int32)) % (7 : Int32))), .val (.int ((p3 &&& (2147483647 : Int32)) % (7 : Int32))), .val (.int (p1 &&& (3 : Int32))), .val (.int (p4 &&& (3 : Int32))), .val (.ref b11), .val (.int (((p1.toUInt32 >>> ((2 : Int32) &&& 31).toUInt32).toInt32) &&& (3 : Int32))), .unset, .unset] [(.int (((p1.toUInt32 >>> ((2 : Int32) &&& 31).toUInt32).toInt32) &&& (3 : Int32)))]))
  refine Go.by (fun _ => XS.iconst X14.here hx rfl (hb hby at_58)) ?_
  show Go p e below P (T14.setTop (mkF m 59 #[.val (.int p0), .val (.int p1), .val (.int p2), .val (.int p3), .val (.int p4), .val (.int p5), .val (.int ((p0 &&& (2147483647 : Int32)) % (7 : Int32))), .val (.int ((p3 &&& (2147483647 : Int32)) % (7 : Int32))), .val (.int (p1 &&& (3 : Int32))), .val (.int (p4 &&& (3 : Int32))), .val (.ref b11), .val (.int (((p1.toUInt32 >>> ((2 : Int32) &&& 31).toUInt32).toInt32) &&& (3 : Int32))), .unset, .unset] [(.int (1 : Int32)), (.int (((p1.toUInt32 >>> ((2 : Int32) &&& 31).toUInt32).toInt32) &&& (3 : Int32)))]))
  by_cases hc59_15 : (((p1.toUInt32 >>> ((2 : Int32) &&& 31).toUInt32).toInt32) &&& (3 : Int32)) = (1 : Int32)
  · refine Go.by (fun _ => XS.icmpNo X14.here hx rfl (hb hby at_59) rfl (XT.ii_ne_f hc59_15)) ?_
    show Go p e below P (T14.setTop (mkF m 62 #[.val (.int p0), .val (.int p1), .val (.int p2), .val (.int p3), .val (.int p4), .val (.int p5), .val (.int ((p0 &&& (2147483647 : Int32)) % (7 : Int32))), .val (.int ((p3 &&& (2147483647 : Int32)) % (7 : Int32))), .val (.int (p1 &&& (3 : Int32))), .val (.int (p4 &&& (3 : Int32))), .val (.ref b11), .val (.int (((p1.toUInt32 >>> ((2 : Int32) &&& 31).toUInt32).toInt32) &&& (3 : Int32))), .unset, .unset] []))
    refine Go.by (fun _ => XS.aload X14.here hx rfl (hb hby at_62) rfl rfl) ?_
    show Go p e below P (T14.setTop (mkF m 64 #[.val (.int p0), .val (.int p1), .val (.int p2), .val (.int p3), .val (.int p4), .val (.int p5), .val (.int ((p0 &&& (2147483647 : Int32)) % (7 : Int32))), .val (.int ((p3 &&& (2147483647 : Int32)) % (7 : Int32))), .val (.int (p1 &&& (3 : Int32))), .val (.int (p4 &&& (3 : Int32))), .val (.ref b11), .val (.int (((p1.toUInt32 >>> ((2 : Int32) &&& 31).toUInt32).toInt32) &&& (3 : Int32))), .unset, .unset] [(.ref b11)]))
    refine Go.by (fun _ => XS.aconstNull X14.here hx rfl (hb hby at_64)) ?_
    show Go p e below P (T14.setTop (mkF m 65 #[.val (.int p0), .val (.int p1), .val (.int p2), .val (.int p3), .val (.int p4), .val (.int p5), .val (.int ((p0 &&& (2147483647 : Int32)) % (7 : Int32))), .val (.int ((p3 &&& (2147483647 : Int32)) % (7 : Int32))), .val (.int (p1 &&& (3 : Int32))), .val (.int (p4 &&& (3 : Int32))), .val (.ref b11), .val (.int (((p1.toUInt32 >>> ((2 : Int32) &&& 31).toUInt32).toInt32) &&& (3 : Int32))), .unset, .unset] [.null, (.ref b11)]))
    obtain ⟨cq16, kq16, q16a, q16b, q16c⟩ := isOf hZ13 rfl f14_6
    obtain ⟨_, _, ⟨T16, L16, k16, n16⟩, -, X16, ⟨Lc16, hQ16, l16, y16, z16⟩, st16⟩ := X14.virtualBack hx (y := (⟨"com/example/verdict/verdict/Action", "equals", "(Ljava/lang/Object;)Z"⟩ : MethodName)) (z := (⟨"com/example/verdict/verdict/Action", "equals", "(Ljava/lang/Object;)Z"⟩ : MethodName)) hown13 (mvT hZ13 (tw_54 hw)) (mvT hZ13 (tw_55 hw)) (notFace_of_selects (args := #[]) (mvT hZ13 (tw_57 hw))) (mvT hZ13 (tw_57 hw)) (mvT hZ13 (tw_56 hw)) (by decide) (backOf (W := 0) (rm_aeqN l Z a0 hw [] b11 T14.heap n0 f14_0 ) hZ13 (tw_58 hw) (tw_3 hw) (by decide) (by decide)) q16a q16c (g := (mkF m 65 #[.val (.int p0), .val (.int p1), .val (.int p2), .val (.int p3), .val (.int p4), .val (.int p5), .val (.int ((p0 &&& (2147483647 : Int32)) % (7 : Int32))), .val (.int ((p3 &&& (2147483647 : Int32)) % (7 : Int32))), .val (.int (p1 &&& (3 : Int32))), .val (.int (p4 &&& (3 : Int32))), .val (.ref b11), .val (.int (((p1.toUInt32 >>> ((2 : Int32) &&& 31).toUInt32).toInt32) &&& (3 : Int32))), .unset, .unset] [.null, (.ref b11)])) rfl (by rw [hml]; rfl) (Steps.refl _) (argsL := [.null]) (rest := []) (lenOf pd__Ljava_lang_Object__Z rfl) rfl (by show 2 * 0 + _ ≤ _; exact Nat.le_of_eq rfl) (hb hby at_65) (fun _ _ => ⟨rfl, rfl, (by decide : 7 + 0 ≤ _), (by decide : 14 + 0 ≤ _)⟩)
    dsimp only [Pt.U, Pt.locs, Pt.cells, Pt.slots] at X16 l16 y16 z16 st16 hQ16
    subst l16 y16 z16
    obtain ⟨rfl, N16q, q16⟩ := hQ16
    have N16 := Fr.app N14 N16q
    refine Go.by (fun t k => st16.trans k) ?_
    show Go p e below P (T16.setTop (mkF m 68 #[.val (.int p0), .val (.int p1), .val (.int p2), .val (.int p3), .val (.int p4), .val (.int p5), .val (.int ((p0 &&& (2147483647 : Int32)) % (7 : Int32))), .val (.int ((p3 &&& (2147483647 : Int32)) % (7 : Int32))), .val (.int (p1 &&& (3 : Int32))), .val (.int (p4 &&& (3 : Int32))), .val (.ref b11), .val (.int (((p1.toUInt32 >>> ((2 : Int32) &&& 31).toUInt32).toInt32) &&& (3 : Int32))), .unset, .unset] [(.int (0 : Int32))]))
    refine Go.by (fun _ => XS.ifNo X16.here hx rfl (hb hby at_68) rfl (XT.i0_ne_f (by decide : (0 : Int32) = (0 : Int32)))) ?_
    show Go p e below P (T16.setTop (mkF m 71 #[.val (.int p0), .val (.int p1), .val (.int p2), .val (.int p3), .val (.int p4), .val (.int p5), .val (.int ((p0 &&& (2147483647 : Int32)) % (7 : Int32))), .val (.int ((p3 &&& (2147483647 : Int32)) % (7 : Int32))), .val (.int (p1 &&& (3 : Int32))), .val (.int (p4 &&& (3 : Int32))), .val (.ref b11), .val (.int (((p1.toUInt32 >>> ((2 : Int32) &&& 31).toUInt32).toInt32) &&& (3 : Int32))), .unset, .unset] []))
    refine Go.by (fun _ => XS.iconst X16.here hx rfl (hb hby at_71)) ?_
    show Go p e below P (T16.setTop (mkF m 72 #[.val (.int p0), .val (.int p1), .val (.int p2), .val (.int p3), .val (.int p4), .val (.int p5), .val (.int ((p0 &&& (2147483647 : Int32)) % (7 : Int32))), .val (.int ((p3 &&& (2147483647 : Int32)) % (7 : Int32))), .val (.int (p1 &&& (3 : Int32))), .val (.int (p4 &&& (3 : Int32))), .val (.ref b11), .val (.int (((p1.toUInt32 >>> ((2 : Int32) &&& 31).toUInt32).toInt32) &&& (3 : Int32))), .unset, .unset] [(.int (1 : Int32))]))
    refine Go.by (fun _ => XS.goto X16.here hx rfl (pc0 := 72) (pc' := 76) rfl (hb hby at_72) (by decide) (by decide)) ?_
    show Go p e below P (T16.setTop (mkF m 76 #[.val (.int p0), .val (.int p1), .val (.int p2), .val (.int p3), .val (.int p4), .val (.int p5), .val (.int ((p0 &&& (2147483647 : Int32)) % (7 : Int32))), .val (.int ((p3 &&& (2147483647 : Int32)) % (7 : Int32))), .val (.int (p1 &&& (3 : Int32))), .val (.int (p4 &&& (3 : Int32))), .val (.ref b11), .val (.int (((p1.toUInt32 >>> ((2 : Int32) &&& 31).toUInt32).toInt32) &&& (3 : Int32))), .unset, .unset] [(.int (1 : Int32))]))
    refine fin X16 (v := some (.int (1 : Int32))) (fun h => by rw [Bd.returns] at h; cases h) (by decide) (by decide) q16 hS13 f14_2 hZ13 f14_1 ?_ (fun fs hr => retOut X16 hx Bd.returns rfl (Or.inl ⟨rfl, Or.inr (Or.inl rfl), _, rfl⟩) (hb hby at_76) hr)
    exact ⟨rfl, N16⟩
  · refine Go.by (fun _ => XS.icmpYes X14.here hx rfl (pc0 := 59) (pc' := 77) rfl (hb hby at_59) rfl (XT.ii_ne_t hc59_15) (by decide) (by decide)) ?_
    show Go p e below P (T14.setTop (mkF m 77 #[.val (.int p0), .val (.int p1), .val (.int p2), .val (.int p3), .val (.int p4), .val (.int p5), .val (.int ((p0 &&& (2147483647 : Int32)) % (7 : Int32))), .val (.int ((p3 &&& (2147483647 : Int32)) % (7 : Int32))), .val (.int (p1 &&& (3 : Int32))), .val (.int (p4 &&& (3 : Int32))), .val (.ref b11), .val (.int (((p1.toUInt32 >>> ((2 : Int32) &&& 31).toUInt32).toInt32) &&& (3 : Int32))), .unset, .unset] []))
    refine Go.by (fun _ => XS.iload X14.here hx rfl (hb hby at_77) rfl) ?_
    show Go p e below P (T14.setTop (mkF m 79 #[.val (.int p0), .val (.int p1), .val (.int p2), .val (.int p3), .val (.int p4), .val (.int p5), .val (.int ((p0 &&& (2147483647 : Int32)) % (7 : Int32))), .val (.int ((p3 &&& (2147483647 : Int32)) % (7 : Int32))), .val (.int (p1 &&& (3 : Int32))), .val (.int (p4 &&& (3 : Int32))), .val (.ref b11), .val (.int (((p1.toUInt32 >>> ((2 : Int32) &&& 31).toUInt32).toInt32) &&& (3 : Int32))), .unset, .unset] [(.int (((p1.toUInt32 >>> ((2 : Int32) &&& 31).toUInt32).toInt32) &&& (3 : Int32)))]))
    refine Go.by (fun _ => XS.iconst X14.here hx rfl (hb hby at_79)) ?_
    show Go p e below P (T14.setTop (mkF m 80 #[.val (.int p0), .val (.int p1), .val (.int p2), .val (.int p3), .val (.int p4), .val (.int p5), .val (.int ((p0 &&& (2147483647 : Int32)) % (7 : Int32))), .val (.int ((p3 &&& (2147483647 : Int32)) % (7 : Int32))), .val (.int (p1 &&& (3 : Int32))), .val (.int (p4 &&& (3 : Int32))), .val (.ref b11), .val (.int (((p1.toUInt32 >>> ((2 : Int32) &&& 31).toUInt32).toInt32) &&& (3 : Int32))), .unset, .unset] [(.int (2 : Int32)), (.int (((p1.toUInt32 >>> ((2 : Int32) &&& 31).toUInt32).toInt32) &&& (3 : Int32)))]))
    by_cases hc80_17 : (((p1.toUInt32 >>> ((2 : Int32) &&& 31).toUInt32).toInt32) &&& (3 : Int32)) = (2 : Int32)
    · refine Go.by (fun _ => XS.icmpNo X14.here hx rfl (hb hby at_80) rfl (XT.ii_ne_f hc80_17)) ?_
      show Go p e below P (T14.setTop (mkF m 83 #[.val (.int p0), .val (.int p1), .val (.int p2), .val (.int p3), .val (.int p4), .val (.int p5), .val (.int ((p0 &&& (2147483647 : Int32)) % (7 : Int32))), .val (.int ((p3 &&& (2147483647 : Int32)) % (7 : Int32))), .val (.int (p1 &&& (3 : Int32))), .val (.int (p4 &&& (3 : Int32))), .val (.ref b11), .val (.int (((p1.toUInt32 >>> ((2 : Int32) &&& 31).toUInt32).toInt32) &&& (3 : Int32))), .unset, .unset] []))
      refine Go.by (fun _ => XS.iconst X14.here hx rfl (hb hby at_83)) ?_
      show Go p e below P (T14.setTop (mkF m 84 #[.val (.int p0), .val (.int p1), .val (.int p2), .val (.int p3), .val (.int p4), .val (.int p5), .val (.int ((p0 &&& (2147483647 : Int32)) % (7 : Int32))), .val (.int ((p3 &&& (2147483647 : Int32)) % (7 : Int32))), .val (.int (p1 &&& (3 : Int32))), .val (.int (p4 &&& (3 : Int32))), .val (.ref b11), .val (.int (((p1.toUInt32 >>> ((2 : Int32) &&& 31).toUInt32).toInt32) &&& (3 : Int32))), .unset, .unset] [(.int (3 : Int32))]))
      refine Go.by (fun _ => XS.iload X14.here hx rfl (hb hby at_84) rfl) ?_
      show Go p e below P (T14.setTop (mkF m 86 #[.val (.int p0), .val (.int p1), .val (.int p2), .val (.int p3), .val (.int p4), .val (.int p5), .val (.int ((p0 &&& (2147483647 : Int32)) % (7 : Int32))), .val (.int ((p3 &&& (2147483647 : Int32)) % (7 : Int32))), .val (.int (p1 &&& (3 : Int32))), .val (.int (p4 &&& (3 : Int32))), .val (.ref b11), .val (.int (((p1.toUInt32 >>> ((2 : Int32) &&& 31).toUInt32).toInt32) &&& (3 : Int32))), .unset, .unset] [(.int p5), (.int (3 : Int32))]))
      obtain ⟨_, _, ⟨T18, L18, k18, n18⟩, -, X18', hS18', hg18, ⟨Lc18, hQ18, l18, y18, z18, C18⟩, st18⟩ := Jvm.RoadKit.callSS X14 hx (y := (⟨"com/example/verdict/verdict/ActionEqualsPinLaw", "arg", "(II)Ljava/lang/String;"⟩ : MethodName)) hown13 (mvT hZ13 (tw_11 hw)) (mvT hZ13 (tw_12 hw)) (mvT hZ13 (tw_6 hw)) (mvT hZ13 (tw_13 hw)) (by decide) (own_backC (W := 0) (rm_arg l Z a0 hw hEL [] (3 : Int32) p5 cs T14.heap n0 f14_0 f14_4 Scs hcs) hZ13 (tw_13 hw) (tw_6 hw) (by decide) (by decide) hEL f14_1.1 own_ss0) (g := (mkF m 86 #[.val (.int p0), .val (.int p1), .val (.int p2), .val (.int p3), .val (.int p4), .val (.int p5), .val (.int ((p0 &&& (2147483647 : Int32)) % (7 : Int32))), .val (.int ((p3 &&& (2147483647 : Int32)) % (7 : Int32))), .val (.int (p1 &&& (3 : Int32))), .val (.int (p4 &&& (3 : Int32))), .val (.ref b11), .val (.int (((p1.toUInt32 >>> ((2 : Int32) &&& 31).toUInt32).toInt32) &&& (3 : Int32))), .unset, .unset] [(.int p5), (.int (3 : Int32))])) rfl (by rw [hml]; rfl) (argsL := [(.int (3 : Int32)), (.int p5)]) (rest := []) (lenOf pd__II_Ljava_lang_String_ rfl) rfl (by show 2 * 0 + _ ≤ _; exact Nat.le_of_eq rfl) (hb hby at_86) (fun _ _ => ⟨rfl, rfl, (by decide : 7 + 6 ≤ _), (by decide : 14 + 12 ≤ _)⟩)
      dsimp only [Pt.U, Pt.locs, Pt.cells, Pt.slots] at X18' hS18' hg18 l18 y18 z18 st18 hQ18 C18
      subst l18 y18 z18
      obtain ⟨X18, hS18, hZ18, hown18⟩ := rebS hS13 (f14_2) X18' hS18' hg18 hZ13 hown13
      have hk18 : T18.heap.size ≤ T18.heap.size := Nat.le_refl _
      obtain ⟨r18, rfl, N18q, K18, TS18, fr18⟩ := hQ18
      have N18 := Fr.app N14 N18q
      refine Go.by (fun t k => st18.trans k) ?_
      have f18_0 : n0 ≤ T18.heap.size := (Nat.le_trans f14_0 K18.1)
      have f18_1 : CHr Z own_EL s.vm h0 T18.vm T18.heap := (CHr.trans f14_1 C18)
      have f18_2 : T18.heap.size ≤ T18.heap.size := hk18
      have f18_3 : Keep h0 T18.heap [] := (Keep.trans f14_3 K18 all0)
      have f18_4 : Old Z n0 T18.heap := (Old.keep f14_4 K18 all0)
      have f18_5 : Safe Z own_EL T18.vm T18.heap b11 := (CHr.safe C18 (f14_6.lt) f14_5)
      have f18_6 : Exa Z T18.heap b11 "com/example/verdict/verdict/Action" := (Exa.keep f14_6 K18)
      have f18_7 : StrO Z T18.heap r13 (own_argV (p1 &&& (3 : Int32)) p2) := (StrO.keep0 f14_7 K18)
      have f18_8 : Fld Z T18.heap b11 "com/example/verdict/verdict/Action" "kind" "Lcom/example/verdict/verdict/Action$Kind;" (.ref (own_kind ((p0 &&& (2147483647 : Int32)) % (7 : Int32)) ea eb ec ed ee ef eg)) := (Fld.keep G14_0 K18 nin0)
      have f18_9 : Fld Z T18.heap b11 "com/example/verdict/verdict/Action" "argument" "Ljava/lang/String;" r13 := (Fld.keep G14_1 K18 nin0)
      have hr18 := TS18.isRef
      show Go p e below P (T18.setTop (mkF m 89 #[.val (.int p0), .val (.int p1), .val (.int p2), .val (.int p3), .val (.int p4), .val (.int p5), .val (.int ((p0 &&& (2147483647 : Int32)) % (7 : Int32))), .val (.int ((p3 &&& (2147483647 : Int32)) % (7 : Int32))), .val (.int (p1 &&& (3 : Int32))), .val (.int (p4 &&& (3 : Int32))), .val (.ref b11), .val (.int (((p1.toUInt32 >>> ((2 : Int32) &&& 31).toUInt32).toInt32) &&& (3 : Int32))), .unset, .unset] [r18]))
      refine Go.by (fun _ => XS.astore X18.here hx rfl (hb hby at_89) rfl hr18 (l' := #[.val (.int p0), .val (.int p1), .val (.int p2), .val (.int p3), .val (.int p4), .val (.int p5), .val (.int ((p0 &&& (2147483647 : Int32)) % (7 : Int32))), .val (.int ((p3 &&& (2147483647 : Int32)) % (7 : Int32))), .val (.int (p1 &&& (3 : Int32))), .val (.int (p4 &&& (3 : Int32))), .val (.ref b11), .val (.int (((p1.toUInt32 >>> ((2 : Int32) &&& 31).toUInt32).toInt32) &&& (3 : Int32))), .val r18, .unset]) (by simp [storeLocals, storeSelf, setAt, XT.cat1 hr18])) ?_
      show Go p e below P (T18.setTop (mkF m 91 #[.val (.int p0), .val (.int p1), .val (.int p2), .val (.int p3), .val (.int p4), .val (.int p5), .val (.int ((p0 &&& (2147483647 : Int32)) % (7 : Int32))), .val (.int ((p3 &&& (2147483647 : Int32)) % (7 : Int32))), .val (.int (p1 &&& (3 : Int32))), .val (.int (p4 &&& (3 : Int32))), .val (.ref b11), .val (.int (((p1.toUInt32 >>> ((2 : Int32) &&& 31).toUInt32).toInt32) &&& (3 : Int32))), .val r18, .unset] []))
      refine Go.by (fun _ => XS.aload X18.here hx rfl (hb hby at_91) rfl rfl) ?_
      show Go p e below P (T18.setTop (mkF m 93 #[.val (.int p0), .val (.int p1), .val (.int p2), .val (.int p3), .val (.int p4), .val (.int p5), .val (.int ((p0 &&& (2147483647 : Int32)) % (7 : Int32))), .val (.int ((p3 &&& (2147483647 : Int32)) % (7 : Int32))), .val (.int (p1 &&& (3 : Int32))), .val (.int (p4 &&& (3 : Int32))), .val (.ref b11), .val (.int (((p1.toUInt32 >>> ((2 : Int32) &&& 31).toUInt32).toInt32) &&& (3 : Int32))), .val r18, .unset] [(.ref b11)]))
      refine Go.by (fun _ => XS.aload X18.here hx rfl (hb hby at_93) rfl hr18) ?_
      show Go p e below P (T18.setTop (mkF m 95 #[.val (.int p0), .val (.int p1), .val (.int p2), .val (.int p3), .val (.int p4), .val (.int p5), .val (.int ((p0 &&& (2147483647 : Int32)) % (7 : Int32))), .val (.int ((p3 &&& (2147483647 : Int32)) % (7 : Int32))), .val (.int (p1 &&& (3 : Int32))), .val (.int (p4 &&& (3 : Int32))), .val (.ref b11), .val (.int (((p1.toUInt32 >>> ((2 : Int32) &&& 31).toUInt32).toInt32) &&& (3 : Int32))), .val r18, .unset] [r18, (.ref b11)]))
      obtain ⟨as19, bs19, rs19, os19, ss19⟩ := own_str3 TS18
      have es19 : Exa Z T18.heap as19 "java/lang/String" := by obtain ⟨_, _, E, _⟩ := ss19; exact E
      subst rs19
      obtain ⟨cq20, kq20, q20a, q20b, q20c⟩ := isOf hZ18 rfl f18_6
      obtain ⟨_, _, ⟨T20, L20, k20, n20⟩, -, X20, ⟨Lc20, hQ20, l20, y20, z20⟩, st20⟩ := X18.virtualBack hx (y := (⟨"com/example/verdict/verdict/Action", "equals", "(Ljava/lang/Object;)Z"⟩ : MethodName)) (z := (⟨"com/example/verdict/verdict/Action", "equals", "(Ljava/lang/Object;)Z"⟩ : MethodName)) hown18 (mvT hZ18 (tw_54 hw)) (mvT hZ18 (tw_55 hw)) (notFace_of_selects (args := #[]) (mvT hZ18 (tw_57 hw))) (mvT hZ18 (tw_57 hw)) (mvT hZ18 (tw_56 hw)) (by decide) (backOf (W := 0) (rm_aeqS l Z a0 hw [] b11 as19 T18.heap n0 f18_0 es19) hZ18 (tw_58 hw) (tw_3 hw) (by decide) (by decide)) q20a q20c (g := (mkF m 95 #[.val (.int p0), .val (.int p1), .val (.int p2), .val (.int p3), .val (.int p4), .val (.int p5), .val (.int ((p0 &&& (2147483647 : Int32)) % (7 : Int32))), .val (.int ((p3 &&& (2147483647 : Int32)) % (7 : Int32))), .val (.int (p1 &&& (3 : Int32))), .val (.int (p4 &&& (3 : Int32))), .val (.ref b11), .val (.int (((p1.toUInt32 >>> ((2 : Int32) &&& 31).toUInt32).toInt32) &&& (3 : Int32))), .val (.ref as19), .unset] [(.ref as19), (.ref b11)])) rfl (by rw [hml]; rfl) (Steps.refl _) (argsL := [(.ref as19)]) (rest := []) (lenOf pd__Ljava_lang_Object__Z rfl) rfl (by show 2 * 0 + _ ≤ _; exact Nat.le_of_eq rfl) (hb hby at_95) (fun _ _ => ⟨rfl, rfl, (by decide : 13 + 0 ≤ _), (by decide : 26 + 0 ≤ _)⟩)
      dsimp only [Pt.U, Pt.locs, Pt.cells, Pt.slots] at X20 l20 y20 z20 st20 hQ20
      subst l20 y20 z20
      obtain ⟨rfl, N20q, q20⟩ := hQ20
      have N20 := Fr.app N18 N20q
      refine Go.by (fun t k => st20.trans k) ?_
      show Go p e below P (T20.setTop (mkF m 98 #[.val (.int p0), .val (.int p1), .val (.int p2), .val (.int p3), .val (.int p4), .val (.int p5), .val (.int ((p0 &&& (2147483647 : Int32)) % (7 : Int32))), .val (.int ((p3 &&& (2147483647 : Int32)) % (7 : Int32))), .val (.int (p1 &&& (3 : Int32))), .val (.int (p4 &&& (3 : Int32))), .val (.ref b11), .val (.int (((p1.toUInt32 >>> ((2 : Int32) &&& 31).toUInt32).toInt32) &&& (3 : Int32))), .val (.ref as19), .unset] [(.int (0 : Int32))]))
      refine Go.by (fun _ => XS.ifNo X20.here hx rfl (hb hby at_98) rfl (XT.i0_ne_f (by decide : (0 : Int32) = (0 : Int32)))) ?_
      show Go p e below P (T20.setTop (mkF m 101 #[.val (.int p0), .val (.int p1), .val (.int p2), .val (.int p3), .val (.int p4), .val (.int p5), .val (.int ((p0 &&& (2147483647 : Int32)) % (7 : Int32))), .val (.int ((p3 &&& (2147483647 : Int32)) % (7 : Int32))), .val (.int (p1 &&& (3 : Int32))), .val (.int (p4 &&& (3 : Int32))), .val (.ref b11), .val (.int (((p1.toUInt32 >>> ((2 : Int32) &&& 31).toUInt32).toInt32) &&& (3 : Int32))), .val (.ref as19), .unset] []))
      refine Go.by (fun _ => XS.iconst X20.here hx rfl (hb hby at_101)) ?_
      show Go p e below P (T20.setTop (mkF m 102 #[.val (.int p0), .val (.int p1), .val (.int p2), .val (.int p3), .val (.int p4), .val (.int p5), .val (.int ((p0 &&& (2147483647 : Int32)) % (7 : Int32))), .val (.int ((p3 &&& (2147483647 : Int32)) % (7 : Int32))), .val (.int (p1 &&& (3 : Int32))), .val (.int (p4 &&& (3 : Int32))), .val (.ref b11), .val (.int (((p1.toUInt32 >>> ((2 : Int32) &&& 31).toUInt32).toInt32) &&& (3 : Int32))), .val (.ref as19), .unset] [(.int (1 : Int32))]))
      refine Go.by (fun _ => XS.goto X20.here hx rfl (pc0 := 102) (pc' := 106) rfl (hb hby at_102) (by decide) (by decide)) ?_
      show Go p e below P (T20.setTop (mkF m 106 #[.val (.int p0), .val (.int p1), .val (.int p2), .val (.int p3), .val (.int p4), .val (.int p5), .val (.int ((p0 &&& (2147483647 : Int32)) % (7 : Int32))), .val (.int ((p3 &&& (2147483647 : Int32)) % (7 : Int32))), .val (.int (p1 &&& (3 : Int32))), .val (.int (p4 &&& (3 : Int32))), .val (.ref b11), .val (.int (((p1.toUInt32 >>> ((2 : Int32) &&& 31).toUInt32).toInt32) &&& (3 : Int32))), .val (.ref as19), .unset] [(.int (1 : Int32))]))
      refine fin X20 (v := some (.int (1 : Int32))) (fun h => by rw [Bd.returns] at h; cases h) (by decide) (by decide) q20 hS18 f18_2 hZ18 f18_1 ?_ (fun fs hr => retOut X20 hx Bd.returns rfl (Or.inl ⟨rfl, Or.inr (Or.inl rfl), _, rfl⟩) (hb hby at_106) hr)
      exact ⟨rfl, N20⟩
    · refine Go.by (fun _ => XS.icmpYes X14.here hx rfl (pc0 := 80) (pc' := 107) rfl (hb hby at_80) rfl (XT.ii_ne_t hc80_17) (by decide) (by decide)) ?_
      show Go p e below P (T14.setTop (mkF m 107 #[.val (.int p0), .val (.int p1), .val (.int p2), .val (.int p3), .val (.int p4), .val (.int p5), .val (.int ((p0 &&& (2147483647 : Int32)) % (7 : Int32))), .val (.int ((p3 &&& (2147483647 : Int32)) % (7 : Int32))), .val (.int (p1 &&& (3 : Int32))), .val (.int (p4 &&& (3 : Int32))), .val (.ref b11), .val (.int (((p1.toUInt32 >>> ((2 : Int32) &&& 31).toUInt32).toInt32) &&& (3 : Int32))), .unset, .unset] []))
      refine Go.by (fun _ => XS.iload X14.here hx rfl (hb hby at_107) rfl) ?_
      show Go p e below P (T14.setTop (mkF m 109 #[.val (.int p0), .val (.int p1), .val (.int p2), .val (.int p3), .val (.int p4), .val (.int p5), .val (.int ((p0 &&& (2147483647 : Int32)) % (7 : Int32))), .val (.int ((p3 &&& (2147483647 : Int32)) % (7 : Int32))), .val (.int (p1 &&& (3 : Int32))), .val (.int (p4 &&& (3 : Int32))), .val (.ref b11), .val (.int (((p1.toUInt32 >>> ((2 : Int32) &&& 31).toUInt32).toInt32) &&& (3 : Int32))), .unset, .unset] [(.int (((p1.toUInt32 >>> ((2 : Int32) &&& 31).toUInt32).toInt32) &&& (3 : Int32)))]))
      refine Go.by (fun _ => XS.iconst X14.here hx rfl (hb hby at_109)) ?_
      show Go p e below P (T14.setTop (mkF m 110 #[.val (.int p0), .val (.int p1), .val (.int p2), .val (.int p3), .val (.int p4), .val (.int p5), .val (.int ((p0 &&& (2147483647 : Int32)) % (7 : Int32))), .val (.int ((p3 &&& (2147483647 : Int32)) % (7 : Int32))), .val (.int (p1 &&& (3 : Int32))), .val (.int (p4 &&& (3 : Int32))), .val (.ref b11), .val (.int (((p1.toUInt32 >>> ((2 : Int32) &&& 31).toUInt32).toInt32) &&& (3 : Int32))), .unset, .unset] [(.int (3 : Int32)), (.int (((p1.toUInt32 >>> ((2 : Int32) &&& 31).toUInt32).toInt32) &&& (3 : Int32)))]))
      by_cases hc110_21 : (((p1.toUInt32 >>> ((2 : Int32) &&& 31).toUInt32).toInt32) &&& (3 : Int32)) = (3 : Int32)
      · refine Go.by (fun _ => XS.icmpNo X14.here hx rfl (hb hby at_110) rfl (XT.ii_ne_f hc110_21)) ?_
        show Go p e below P (T14.setTop (mkF m 113 #[.val (.int p0), .val (.int p1), .val (.int p2), .val (.int p3), .val (.int p4), .val (.int p5), .val (.int ((p0 &&& (2147483647 : Int32)) % (7 : Int32))), .val (.int ((p3 &&& (2147483647 : Int32)) % (7 : Int32))), .val (.int (p1 &&& (3 : Int32))), .val (.int (p4 &&& (3 : Int32))), .val (.ref b11), .val (.int (((p1.toUInt32 >>> ((2 : Int32) &&& 31).toUInt32).toInt32) &&& (3 : Int32))), .unset, .unset] []))
        refine Go.by (fun _ => XS.aload X14.here hx rfl (hb hby at_113) rfl rfl) ?_
        show Go p e below P (T14.setTop (mkF m 115 #[.val (.int p0), .val (.int p1), .val (.int p2), .val (.int p3), .val (.int p4), .val (.int p5), .val (.int ((p0 &&& (2147483647 : Int32)) % (7 : Int32))), .val (.int ((p3 &&& (2147483647 : Int32)) % (7 : Int32))), .val (.int (p1 &&& (3 : Int32))), .val (.int (p4 &&& (3 : Int32))), .val (.ref b11), .val (.int (((p1.toUInt32 >>> ((2 : Int32) &&& 31).toUInt32).toInt32) &&& (3 : Int32))), .unset, .unset] [(.ref b11)]))
        refine Go.by (fun _ => XS.aload X14.here hx rfl (hb hby at_115) rfl rfl) ?_
        show Go p e below P (T14.setTop (mkF m 117 #[.val (.int p0), .val (.int p1), .val (.int p2), .val (.int p3), .val (.int p4), .val (.int p5), .val (.int ((p0 &&& (2147483647 : Int32)) % (7 : Int32))), .val (.int ((p3 &&& (2147483647 : Int32)) % (7 : Int32))), .val (.int (p1 &&& (3 : Int32))), .val (.int (p4 &&& (3 : Int32))), .val (.ref b11), .val (.int (((p1.toUInt32 >>> ((2 : Int32) &&& 31).toUInt32).toInt32) &&& (3 : Int32))), .unset, .unset] [(.ref b11), (.ref b11)]))
        obtain ⟨cq22, kq22, q22a, q22b, q22c⟩ := isOf hZ13 rfl f14_6
        obtain ⟨_, _, ⟨T22, L22, k22, n22⟩, -, X22, ⟨Lc22, hQ22, l22, y22, z22⟩, st22⟩ := X14.virtualBack hx (y := (⟨"com/example/verdict/verdict/Action", "equals", "(Ljava/lang/Object;)Z"⟩ : MethodName)) (z := (⟨"com/example/verdict/verdict/Action", "equals", "(Ljava/lang/Object;)Z"⟩ : MethodName)) hown13 (mvT hZ13 (tw_54 hw)) (mvT hZ13 (tw_55 hw)) (notFace_of_selects (args := #[]) (mvT hZ13 (tw_57 hw))) (mvT hZ13 (tw_57 hw)) (mvT hZ13 (tw_56 hw)) (by decide) (backOf (W := 0) (rm_aeq l Z a0 hw [] b11 b11 (own_kind ((p0 &&& (2147483647 : Int32)) % (7 : Int32)) ea eb ec ed ee ef eg) (own_kind ((p0 &&& (2147483647 : Int32)) % (7 : Int32)) ea eb ec ed ee ef eg) r13 (own_argV (p1 &&& (3 : Int32)) p2) r13 (own_argV (p1 &&& (3 : Int32)) p2) cs T14.heap n0 f14_0 f14_4 Scs hcs f14_6 G14_0 G14_1 G14_0 G14_1 f14_7 f14_7 (own_argl _ _) (own_argl _ _) (fun _ => rfl)) hZ13 (tw_58 hw) (tw_3 hw) (by decide) (by decide)) q22a q22c (g := (mkF m 117 #[.val (.int p0), .val (.int p1), .val (.int p2), .val (.int p3), .val (.int p4), .val (.int p5), .val (.int ((p0 &&& (2147483647 : Int32)) % (7 : Int32))), .val (.int ((p3 &&& (2147483647 : Int32)) % (7 : Int32))), .val (.int (p1 &&& (3 : Int32))), .val (.int (p4 &&& (3 : Int32))), .val (.ref b11), .val (.int (((p1.toUInt32 >>> ((2 : Int32) &&& 31).toUInt32).toInt32) &&& (3 : Int32))), .unset, .unset] [(.ref b11), (.ref b11)])) rfl (by rw [hml]; rfl) (Steps.refl _) (argsL := [(.ref b11)]) (rest := []) (lenOf pd__Ljava_lang_Object__Z rfl) rfl (by show 2 * 0 + _ ≤ _; exact Nat.le_of_eq rfl) (hb hby at_117) (fun _ _ => ⟨rfl, rfl, (by decide : 7 + 0 ≤ _), (by decide : 14 + 0 ≤ _)⟩)
        dsimp only [Pt.U, Pt.locs, Pt.cells, Pt.slots] at X22 l22 y22 z22 st22 hQ22
        subst l22 y22 z22
        obtain ⟨rfl, N22q, q22⟩ := hQ22
        have N22 := Fr.app N14 N22q
        refine Go.by (fun t k => st22.trans k) ?_
        show Go p e below P (T22.setTop (mkF m 120 #[.val (.int p0), .val (.int p1), .val (.int p2), .val (.int p3), .val (.int p4), .val (.int p5), .val (.int ((p0 &&& (2147483647 : Int32)) % (7 : Int32))), .val (.int ((p3 &&& (2147483647 : Int32)) % (7 : Int32))), .val (.int (p1 &&& (3 : Int32))), .val (.int (p4 &&& (3 : Int32))), .val (.ref b11), .val (.int (((p1.toUInt32 >>> ((2 : Int32) &&& 31).toUInt32).toInt32) &&& (3 : Int32))), .unset, .unset] [(.int (if (own_kind ((p0 &&& (2147483647 : Int32)) % (7 : Int32)) ea eb ec ed ee ef eg) = (own_kind ((p0 &&& (2147483647 : Int32)) % (7 : Int32)) ea eb ec ed ee ef eg) ∧ (own_argV (p1 &&& (3 : Int32)) p2) = (own_argV (p1 &&& (3 : Int32)) p2) then (1 : Int32) else 0))]))
        refine Go.by (fun _ => XS.ifNo X22.here hx rfl (hb hby at_120) rfl (XT.i0_eq_f (own_ne0 (if_pos ⟨rfl, rfl⟩)))) ?_
        show Go p e below P (T22.setTop (mkF m 123 #[.val (.int p0), .val (.int p1), .val (.int p2), .val (.int p3), .val (.int p4), .val (.int p5), .val (.int ((p0 &&& (2147483647 : Int32)) % (7 : Int32))), .val (.int ((p3 &&& (2147483647 : Int32)) % (7 : Int32))), .val (.int (p1 &&& (3 : Int32))), .val (.int (p4 &&& (3 : Int32))), .val (.ref b11), .val (.int (((p1.toUInt32 >>> ((2 : Int32) &&& 31).toUInt32).toInt32) &&& (3 : Int32))), .unset, .unset] []))
        refine Go.by (fun _ => XS.aload X22.here hx rfl (hb hby at_123) rfl rfl) ?_
        show Go p e below P (T22.setTop (mkF m 125 #[.val (.int p0), .val (.int p1), .val (.int p2), .val (.int p3), .val (.int p4), .val (.int p5), .val (.int ((p0 &&& (2147483647 : Int32)) % (7 : Int32))), .val (.int ((p3 &&& (2147483647 : Int32)) % (7 : Int32))), .val (.int (p1 &&& (3 : Int32))), .val (.int (p4 &&& (3 : Int32))), .val (.ref b11), .val (.int (((p1.toUInt32 >>> ((2 : Int32) &&& 31).toUInt32).toInt32) &&& (3 : Int32))), .unset, .unset] [(.ref b11)]))
        obtain ⟨T23, h23, X23, e23, E23, A23, D23, U23, st23⟩ := newO X22 hx hZ13 hown13 (tw_1 hw) (tw_2 hw) (tw_3 hw) q22 (g := (mkF m 125 #[.val (.int p0), .val (.int p1), .val (.int p2), .val (.int p3), .val (.int p4), .val (.int p5), .val (.int ((p0 &&& (2147483647 : Int32)) % (7 : Int32))), .val (.int ((p3 &&& (2147483647 : Int32)) % (7 : Int32))), .val (.int (p1 &&& (3 : Int32))), .val (.int (p4 &&& (3 : Int32))), .val (.ref b11), .val (.int (((p1.toUInt32 >>> ((2 : Int32) &&& 31).toUInt32).toInt32) &&& (3 : Int32))), .unset, .unset] [(.ref b11)])) rfl (hb hby at_125) (by decide) (by decide)
        obtain ⟨b23, g23⟩ : ∃ z, z = T14.heap.size := ⟨_, rfl⟩
        rw [← g23] at A23 D23 U23 st23
        have g_b23 : n0 ≤ b23 := Nat.le_trans f14_0 (Nat.le_of_eq g23.symm)
        have sz_b23 : h0.size ≤ b23 := Nat.le_trans f14_3.1 (Nat.le_of_eq g23.symm)
        have ne_b11_b23 : b11 ≠ b23 := Nat.ne_of_lt (Nat.lt_of_lt_of_le (f14_6.lt) (Nat.le_of_eq g23.symm))
        have sf_b23 : Safe Z own_EL T13.vm T14.heap b23 := Safe.new (Nat.le_of_eq g23.symm)
        have f23_0 : n0 ≤ h23.size := (Nat.le_trans f14_0 E23.1)
        have f23_1 : CHr Z own_EL s.vm h0 T13.vm h23 := (CHr.trans f14_1 (CHr.ext E23 f14_1.1))
        have f23_2 : T13.heap.size ≤ h23.size := (Nat.le_trans f14_2 E23.1)
        have f23_3 : Keep h0 h23 [] := (Keep.ext f14_3 E23)
        have f23_4 : Old Z n0 h23 := (Old.ext f14_4 E23)
        have f23_5 : Safe Z own_EL T13.vm h23 b11 := (Safe.ext E23 f14_1.1 f14_5)
        have f23_6 : Exa Z h23 b11 "com/example/verdict/verdict/Action" := (Exa.ext E23 f14_6)
        have f23_7 : StrO Z h23 r13 (own_argV (p1 &&& (3 : Int32)) p2) := (StrO.ext f14_7 E23)
        have f23_8 : Fld Z h23 b11 "com/example/verdict/verdict/Action" "kind" "Lcom/example/verdict/verdict/Action$Kind;" (.ref (own_kind ((p0 &&& (2147483647 : Int32)) % (7 : Int32)) ea eb ec ed ee ef eg)) := (Fld.ext E23 G14_0)
        have f23_9 : Fld Z h23 b11 "com/example/verdict/verdict/Action" "argument" "Ljava/lang/String;" r13 := (Fld.ext E23 G14_1)
        have f23_10 : Safe Z own_EL T13.vm h23 b23 := (Safe.ext E23 f14_1.1 sf_b23)
        refine Go.by st23 ?_
        have F23_kind : Fld Z h23 b23 "com/example/verdict/verdict/Action" "kind" "Lcom/example/verdict/verdict/Action$Kind;" .null := D23 (Or.inr (tw_49 hw)) (ty := (.object "com/example/verdict/verdict/Action$Kind")) (by decide)
        have F23_argument : Fld Z h23 b23 "com/example/verdict/verdict/Action" "argument" "Ljava/lang/String;" .null := D23 (Or.inr (tw_51 hw)) (ty := (.object "java/lang/String")) (by decide)
        show Go p e below P (T23.setTop (mkF m 128 #[.val (.int p0), .val (.int p1), .val (.int p2), .val (.int p3), .val (.int p4), .val (.int p5), .val (.int ((p0 &&& (2147483647 : Int32)) % (7 : Int32))), .val (.int ((p3 &&& (2147483647 : Int32)) % (7 : Int32))), .val (.int (p1 &&& (3 : Int32))), .val (.int (p4 &&& (3 : Int32))), .val (.ref b11), .val (.int (((p1.toUInt32 >>> ((2 : Int32) &&& 31).toUInt32).toInt32) &&& (3 : Int32))), .unset, .unset] [(.ref b23), (.ref b11)]))
        refine Go.by (fun _ => XS.dup X23.here hx rfl (hb hby at_128) rfl rfl) ?_
        show Go p e below P (T23.setTop (mkF m 129 #[.val (.int p0), .val (.int p1), .val (.int p2), .val (.int p3), .val (.int p4), .val (.int p5), .val (.int ((p0 &&& (2147483647 : Int32)) % (7 : Int32))), .val (.int ((p3 &&& (2147483647 : Int32)) % (7 : Int32))), .val (.int (p1 &&& (3 : Int32))), .val (.int (p4 &&& (3 : Int32))), .val (.ref b11), .val (.int (((p1.toUInt32 >>> ((2 : Int32) &&& 31).toUInt32).toInt32) &&& (3 : Int32))), .unset, .unset] [(.ref b23), (.ref b23), (.ref b11)]))
        refine Go.by (fun _ => XS.iload X23.here hx rfl (hb hby at_129) rfl) ?_
        show Go p e below P (T23.setTop (mkF m 131 #[.val (.int p0), .val (.int p1), .val (.int p2), .val (.int p3), .val (.int p4), .val (.int p5), .val (.int ((p0 &&& (2147483647 : Int32)) % (7 : Int32))), .val (.int ((p3 &&& (2147483647 : Int32)) % (7 : Int32))), .val (.int (p1 &&& (3 : Int32))), .val (.int (p4 &&& (3 : Int32))), .val (.ref b11), .val (.int (((p1.toUInt32 >>> ((2 : Int32) &&& 31).toUInt32).toInt32) &&& (3 : Int32))), .unset, .unset] [(.int ((p0 &&& (2147483647 : Int32)) % (7 : Int32))), (.ref b23), (.ref b23), (.ref b11)]))
        obtain ⟨_, _, ⟨T24, L24, k24, n24⟩, -, X24, ⟨Lc24, hQ24, l24, y24, z24⟩, st24⟩ := Jvm.LawKit.callS X23 hx (y := (⟨"com/example/verdict/verdict/ActionEqualsPinLaw", "kindOf", "(I)Lcom/example/verdict/verdict/Action$Kind;"⟩ : MethodName)) hown13 (mvT hZ13 (tw_4 hw)) (mvT hZ13 (tw_5 hw)) (mvT hZ13 (tw_6 hw)) (mvT hZ13 (tw_7 hw)) (by decide) (backOf (W := 3) (rm_kindOf l Z a0 hw [] ((p0 &&& (2147483647 : Int32)) % (7 : Int32)) ea eb ec ed ee ef eg h23 n0 f23_0 f23_4 Sea Seb Sec Sed See Sef Seg) hZ13 (tw_7 hw) (tw_6 hw) (by decide) (by decide)) (g := (mkF m 131 #[.val (.int p0), .val (.int p1), .val (.int p2), .val (.int p3), .val (.int p4), .val (.int p5), .val (.int ((p0 &&& (2147483647 : Int32)) % (7 : Int32))), .val (.int ((p3 &&& (2147483647 : Int32)) % (7 : Int32))), .val (.int (p1 &&& (3 : Int32))), .val (.int (p4 &&& (3 : Int32))), .val (.ref b11), .val (.int (((p1.toUInt32 >>> ((2 : Int32) &&& 31).toUInt32).toInt32) &&& (3 : Int32))), .unset, .unset] [(.int ((p0 &&& (2147483647 : Int32)) % (7 : Int32))), (.ref b23), (.ref b23), (.ref b11)])) rfl (by rw [hml]; rfl) (argsL := [(.int ((p0 &&& (2147483647 : Int32)) % (7 : Int32)))]) (rest := [(.ref b23), (.ref b23), (.ref b11)]) (lenOf pd__I_Lcom_example_verdict_verdict_Action_Kind_ rfl) rfl (by show 2 * 0 + _ ≤ _; exact Nat.le_of_eq rfl) (hb hby at_131) (fun _ _ => ⟨rfl, e23, (by decide : 8 + 0 ≤ _), (by decide : 16 + 0 ≤ _)⟩)
        dsimp only [Pt.U, Pt.locs, Pt.cells, Pt.slots] at X24 l24 y24 z24 st24 hQ24
        subst l24 y24 z24
        obtain ⟨rfl, N24q, q24⟩ := hQ24
        have N24 := Fr.app N22 N24q
        refine Go.by (fun t k => st24 t k) ?_
        show Go p e below P (T24.setTop (mkF m 134 #[.val (.int p0), .val (.int p1), .val (.int p2), .val (.int p3), .val (.int p4), .val (.int p5), .val (.int ((p0 &&& (2147483647 : Int32)) % (7 : Int32))), .val (.int ((p3 &&& (2147483647 : Int32)) % (7 : Int32))), .val (.int (p1 &&& (3 : Int32))), .val (.int (p4 &&& (3 : Int32))), .val (.ref b11), .val (.int (((p1.toUInt32 >>> ((2 : Int32) &&& 31).toUInt32).toInt32) &&& (3 : Int32))), .unset, .unset] [(.ref (own_kind ((p0 &&& (2147483647 : Int32)) % (7 : Int32)) ea eb ec ed ee ef eg)), (.ref b23), (.ref b23), (.ref b11)]))
        refine Go.by (fun _ => XS.iload X24.here hx rfl (hb hby at_134) rfl) ?_
        show Go p e below P (T24.setTop (mkF m 136 #[.val (.int p0), .val (.int p1), .val (.int p2), .val (.int p3), .val (.int p4), .val (.int p5), .val (.int ((p0 &&& (2147483647 : Int32)) % (7 : Int32))), .val (.int ((p3 &&& (2147483647 : Int32)) % (7 : Int32))), .val (.int (p1 &&& (3 : Int32))), .val (.int (p4 &&& (3 : Int32))), .val (.ref b11), .val (.int (((p1.toUInt32 >>> ((2 : Int32) &&& 31).toUInt32).toInt32) &&& (3 : Int32))), .unset, .unset] [(.int (p1 &&& (3 : Int32))), (.ref (own_kind ((p0 &&& (2147483647 : Int32)) % (7 : Int32)) ea eb ec ed ee ef eg)), (.ref b23), (.ref b23), (.ref b11)]))
        refine Go.by (fun _ => XS.iloadN X24.here hx rfl (hb hby at_136) rfl) ?_
        show Go p e below P (T24.setTop (mkF m 137 #[.val (.int p0), .val (.int p1), .val (.int p2), .val (.int p3), .val (.int p4), .val (.int p5), .val (.int ((p0 &&& (2147483647 : Int32)) % (7 : Int32))), .val (.int ((p3 &&& (2147483647 : Int32)) % (7 : Int32))), .val (.int (p1 &&& (3 : Int32))), .val (.int (p4 &&& (3 : Int32))), .val (.ref b11), .val (.int (((p1.toUInt32 >>> ((2 : Int32) &&& 31).toUInt32).toInt32) &&& (3 : Int32))), .unset, .unset] [(.int p2), (.int (p1 &&& (3 : Int32))), (.ref (own_kind ((p0 &&& (2147483647 : Int32)) % (7 : Int32)) ea eb ec ed ee ef eg)), (.ref b23), (.ref b23), (.ref b11)]))
        obtain ⟨_, _, ⟨T25, L25, k25, n25⟩, -, X25', hS25', hg25, ⟨Lc25, hQ25, l25, y25, z25, C25⟩, st25⟩ := Jvm.RoadKit.callSS X24 hx (y := (⟨"com/example/verdict/verdict/ActionEqualsPinLaw", "arg", "(II)Ljava/lang/String;"⟩ : MethodName)) hown13 (mvT hZ13 (tw_11 hw)) (mvT hZ13 (tw_12 hw)) (mvT hZ13 (tw_6 hw)) (mvT hZ13 (tw_13 hw)) (by decide) (own_backC (W := 4) (rm_arg l Z a0 hw hEL [] (p1 &&& (3 : Int32)) p2 cs h23 n0 f23_0 f23_4 Scs hcs) hZ13 (tw_13 hw) (tw_6 hw) (by decide) (by decide) hEL f23_1.1 own_ss0) (g := (mkF m 137 #[.val (.int p0), .val (.int p1), .val (.int p2), .val (.int p3), .val (.int p4), .val (.int p5), .val (.int ((p0 &&& (2147483647 : Int32)) % (7 : Int32))), .val (.int ((p3 &&& (2147483647 : Int32)) % (7 : Int32))), .val (.int (p1 &&& (3 : Int32))), .val (.int (p4 &&& (3 : Int32))), .val (.ref b11), .val (.int (((p1.toUInt32 >>> ((2 : Int32) &&& 31).toUInt32).toInt32) &&& (3 : Int32))), .unset, .unset] [(.int p2), (.int (p1 &&& (3 : Int32))), (.ref (own_kind ((p0 &&& (2147483647 : Int32)) % (7 : Int32)) ea eb ec ed ee ef eg)), (.ref b23), (.ref b23), (.ref b11)])) rfl (by rw [hml]; rfl) (argsL := [(.int (p1 &&& (3 : Int32))), (.int p2)]) (rest := [(.ref (own_kind ((p0 &&& (2147483647 : Int32)) % (7 : Int32)) ea eb ec ed ee ef eg)), (.ref b23), (.ref b23), (.ref b11)]) (lenOf pd__II_Ljava_lang_String_ rfl) rfl (by show 2 * 0 + _ ≤ _; exact Nat.le_of_eq rfl) (hb hby at_137) (fun _ _ => ⟨rfl, (q24.trans rfl), (by decide : 8 + 6 ≤ _), (by decide : 16 + 12 ≤ _)⟩)
        dsimp only [Pt.U, Pt.locs, Pt.cells, Pt.slots] at X25' hS25' hg25 l25 y25 z25 st25 hQ25 C25
        subst l25 y25 z25
        obtain ⟨X25, hS25, hZ25, hown25⟩ := rebS hS13 (f23_2) X25' hS25' (by have q := hg25; rw [(q24.trans rfl)] at q; exact q) hZ13 hown13
        have hk25 : T25.heap.size ≤ T25.heap.size := Nat.le_refl _
        obtain ⟨r25, rfl, N25q, K25, TS25, fr25⟩ := hQ25
        have N25 := Fr.app N24 N25q
        refine Go.by (fun t k => st25.trans k) ?_
        have f25_0 : n0 ≤ T25.heap.size := (Nat.le_trans f23_0 K25.1)
        have f25_1 : CHr Z own_EL s.vm h0 T25.vm T25.heap := (CHr.trans f23_1 C25)
        have f25_2 : T25.heap.size ≤ T25.heap.size := hk25
        have f25_3 : Keep h0 T25.heap [] := (Keep.trans f23_3 K25 all0)
        have f25_4 : Old Z n0 T25.heap := (Old.keep f23_4 K25 all0)
        have f25_5 : Safe Z own_EL T25.vm T25.heap b11 := (CHr.safe C25 (f23_6.lt) f23_5)
        have f25_6 : Exa Z T25.heap b11 "com/example/verdict/verdict/Action" := (Exa.keep f23_6 K25)
        have f25_7 : StrO Z T25.heap r13 (own_argV (p1 &&& (3 : Int32)) p2) := (StrO.keep0 f23_7 K25)
        have f25_8 : Fld Z T25.heap b11 "com/example/verdict/verdict/Action" "kind" "Lcom/example/verdict/verdict/Action$Kind;" (.ref (own_kind ((p0 &&& (2147483647 : Int32)) % (7 : Int32)) ea eb ec ed ee ef eg)) := (Fld.keep f23_8 K25 nin0)
        have f25_9 : Fld Z T25.heap b11 "com/example/verdict/verdict/Action" "argument" "Ljava/lang/String;" r13 := (Fld.keep f23_9 K25 nin0)
        have f25_10 : Safe Z own_EL T25.vm T25.heap b23 := (CHr.safe C25 (A23.lt) f23_10)
        have f25_11 : Exa Z T25.heap b23 "com/example/verdict/verdict/Action" := (Exa.keep A23 K25)
        have f25_12 : Fld Z T25.heap b23 "com/example/verdict/verdict/Action" "kind" "Lcom/example/verdict/verdict/Action$Kind;" .null := (Fld.keep F23_kind K25 nin0)
        have f25_13 : Fld Z T25.heap b23 "com/example/verdict/verdict/Action" "argument" "Ljava/lang/String;" .null := (Fld.keep F23_argument K25 nin0)
        have hr25 := TS25.isRef
        have sm26 : r13 = r25 → (own_argV (p1 &&& (3 : Int32)) p2) = (own_argV (p1 &&& (3 : Int32)) p2) := own_apart f23_7 TS25 fr25
        have sn26 : r25 = r13 → (own_argV (p1 &&& (3 : Int32)) p2) = (own_argV (p1 &&& (3 : Int32)) p2) := fun q => (sm26 q.symm).symm
        show Go p e below P (T25.setTop (mkF m 140 #[.val (.int p0), .val (.int p1), .val (.int p2), .val (.int p3), .val (.int p4), .val (.int p5), .val (.int ((p0 &&& (2147483647 : Int32)) % (7 : Int32))), .val (.int ((p3 &&& (2147483647 : Int32)) % (7 : Int32))), .val (.int (p1 &&& (3 : Int32))), .val (.int (p4 &&& (3 : Int32))), .val (.ref b11), .val (.int (((p1.toUInt32 >>> ((2 : Int32) &&& 31).toUInt32).toInt32) &&& (3 : Int32))), .unset, .unset] [r25, (.ref (own_kind ((p0 &&& (2147483647 : Int32)) % (7 : Int32)) ea eb ec ed ee ef eg)), (.ref b23), (.ref b23), (.ref b11)]))
        obtain ⟨_, _, ⟨T27, L27, k27, n27⟩, -, X27, ⟨Lc27, hQ27, l27, y27, z27⟩, st27⟩ := X25.specialBack hx (y := (⟨"com/example/verdict/verdict/Action", "<init>", "(Lcom/example/verdict/verdict/Action$Kind;Ljava/lang/String;)V"⟩ : MethodName)) rfl hown25 (mvT hZ25 (tw_44 hw)) (mvT hZ25 (tw_45 hw)) (mvT hZ25 (tw_46 hw)) (by decide) (backOf (W := 2) (rm_acInit l Z a0 hw [] b23 (own_kind ((p0 &&& (2147483647 : Int32)) % (7 : Int32)) ea eb ec ed ee ef eg) r25 T25.heap n0 f25_0 f25_11 g_b23 f25_12 f25_13 hr25) hZ25 (tw_46 hw) (tw_3 hw) (by decide) (by decide)) (g := (mkF m 140 #[.val (.int p0), .val (.int p1), .val (.int p2), .val (.int p3), .val (.int p4), .val (.int p5), .val (.int ((p0 &&& (2147483647 : Int32)) % (7 : Int32))), .val (.int ((p3 &&& (2147483647 : Int32)) % (7 : Int32))), .val (.int (p1 &&& (3 : Int32))), .val (.int (p4 &&& (3 : Int32))), .val (.ref b11), .val (.int (((p1.toUInt32 >>> ((2 : Int32) &&& 31).toUInt32).toInt32) &&& (3 : Int32))), .unset, .unset] [r25, (.ref (own_kind ((p0 &&& (2147483647 : Int32)) % (7 : Int32)) ea eb ec ed ee ef eg)), (.ref b23), (.ref b23), (.ref b11)])) rfl (by rw [hml]; rfl) (Steps.refl _) (a := b23) (argsL := [(.ref (own_kind ((p0 &&& (2147483647 : Int32)) % (7 : Int32)) ea eb ec ed ee ef eg)), r25]) (rest := [(.ref b23), (.ref b11)]) (lenOf pd__Lcom_example_verdict_verdict_Action_Kind_Ljava_lang_String__V rfl) rfl (by show 2 * 0 + _ ≤ _; exact Nat.le_of_eq rfl) (hb hby at_140) (fun _ _ => ⟨rfl, rfl, (by decide : 14 + 0 ≤ _), (by decide : 28 + 0 ≤ _)⟩)
        dsimp only [Pt.U, Pt.locs, Pt.cells, Pt.slots] at X27 l27 y27 z27 st27 hQ27
        subst l27 y27 z27
        obtain ⟨rfl, N27q, K27, G27_0, G27_1⟩ := hQ27
        have N27 := Fr.app N25 N27q
        refine Go.by (fun t k => st27.trans k) ?_
        have f27_0 : n0 ≤ T27.heap.size := (Nat.le_trans f25_0 K27.1)
        have f27_1 : CHr Z own_EL s.vm h0 T25.vm T27.heap := (CHr.trans f25_1 (CHr.keep K27 (sfS f25_10 sf0) f25_1.1))
        have f27_2 : T25.heap.size ≤ T27.heap.size := (Nat.le_trans f25_2 K27.1)
        have f27_3 : Keep h0 T27.heap [] := (Keep.trans f25_3 K27 (allS (Or.inr sz_b23) all0))
        have f27_4 : Old Z n0 T27.heap := (Old.keep f25_4 K27 (allS g_b23 all0))
        have f27_5 : Safe Z own_EL T25.vm T27.heap b11 := (Safe.keep K27 (sfS f25_10 sf0) f25_1.1 f25_5)
        have f27_6 : Exa Z T27.heap b11 "com/example/verdict/verdict/Action" := (Exa.keep f25_6 K27)
        have f27_7 : StrO Z T27.heap r13 (own_argV (p1 &&& (3 : Int32)) p2) := (StrO.keep1 f25_7 K27 f25_11 (tw_2 hw) (by decide))
        have f27_8 : Fld Z T27.heap b11 "com/example/verdict/verdict/Action" "kind" "Lcom/example/verdict/verdict/Action$Kind;" (.ref (own_kind ((p0 &&& (2147483647 : Int32)) % (7 : Int32)) ea eb ec ed ee ef eg)) := (Fld.keep f25_8 K27 (ninS ne_b11_b23 nin0))
        have f27_9 : Fld Z T27.heap b11 "com/example/verdict/verdict/Action" "argument" "Ljava/lang/String;" r13 := (Fld.keep f25_9 K27 (ninS ne_b11_b23 nin0))
        have f27_10 : Safe Z own_EL T25.vm T27.heap b23 := (Safe.keep K27 (sfS f25_10 sf0) f25_1.1 f25_10)
        have f27_11 : Exa Z T27.heap b23 "com/example/verdict/verdict/Action" := (Exa.keep f25_11 K27)
        have f27_12 : StrO Z T27.heap r25 (own_argV (p1 &&& (3 : Int32)) p2) := (StrO.keep1 TS25 K27 f25_11 (tw_2 hw) (by decide))
        show Go p e below P (T27.setTop (mkF m 143 #[.val (.int p0), .val (.int p1), .val (.int p2), .val (.int p3), .val (.int p4), .val (.int p5), .val (.int ((p0 &&& (2147483647 : Int32)) % (7 : Int32))), .val (.int ((p3 &&& (2147483647 : Int32)) % (7 : Int32))), .val (.int (p1 &&& (3 : Int32))), .val (.int (p4 &&& (3 : Int32))), .val (.ref b11), .val (.int (((p1.toUInt32 >>> ((2 : Int32) &&& 31).toUInt32).toInt32) &&& (3 : Int32))), .unset, .unset] [(.ref b23), (.ref b11)]))
        obtain ⟨cq28, kq28, q28a, q28b, q28c⟩ := isOf hZ25 rfl f27_6
        obtain ⟨_, _, ⟨T28, L28, k28, n28⟩, -, X28, ⟨Lc28, hQ28, l28, y28, z28⟩, st28⟩ := X27.virtualBack hx (y := (⟨"com/example/verdict/verdict/Action", "equals", "(Ljava/lang/Object;)Z"⟩ : MethodName)) (z := (⟨"com/example/verdict/verdict/Action", "equals", "(Ljava/lang/Object;)Z"⟩ : MethodName)) hown25 (mvT hZ25 (tw_54 hw)) (mvT hZ25 (tw_55 hw)) (notFace_of_selects (args := #[]) (mvT hZ25 (tw_57 hw))) (mvT hZ25 (tw_57 hw)) (mvT hZ25 (tw_56 hw)) (by decide) (backOf (W := 0) (rm_aeq l Z a0 hw [] b11 b23 (own_kind ((p0 &&& (2147483647 : Int32)) % (7 : Int32)) ea eb ec ed ee ef eg) (own_kind ((p0 &&& (2147483647 : Int32)) % (7 : Int32)) ea eb ec ed ee ef eg) r13 (own_argV (p1 &&& (3 : Int32)) p2) r25 (own_argV (p1 &&& (3 : Int32)) p2) cs T27.heap n0 f27_0 f27_4 Scs hcs f27_11 f27_8 f27_9 G27_0 G27_1 f27_7 f27_12 (own_argl _ _) (own_argl _ _) sm26) hZ25 (tw_58 hw) (tw_3 hw) (by decide) (by decide)) q28a q28c (g := (mkF m 143 #[.val (.int p0), .val (.int p1), .val (.int p2), .val (.int p3), .val (.int p4), .val (.int p5), .val (.int ((p0 &&& (2147483647 : Int32)) % (7 : Int32))), .val (.int ((p3 &&& (2147483647 : Int32)) % (7 : Int32))), .val (.int (p1 &&& (3 : Int32))), .val (.int (p4 &&& (3 : Int32))), .val (.ref b11), .val (.int (((p1.toUInt32 >>> ((2 : Int32) &&& 31).toUInt32).toInt32) &&& (3 : Int32))), .unset, .unset] [(.ref b23), (.ref b11)])) rfl (by rw [hml]; rfl) (Steps.refl _) (argsL := [(.ref b23)]) (rest := []) (lenOf pd__Ljava_lang_Object__Z rfl) rfl (by show 2 * 0 + _ ≤ _; exact Nat.le_of_eq rfl) (hb hby at_143) (fun _ _ => ⟨rfl, rfl, (by decide : 14 + 0 ≤ _), (by decide : 28 + 0 ≤ _)⟩)
        dsimp only [Pt.U, Pt.locs, Pt.cells, Pt.slots] at X28 l28 y28 z28 st28 hQ28
        subst l28 y28 z28
        obtain ⟨rfl, N28q, q28⟩ := hQ28
        have N28 := Fr.app N27 N28q
        refine Go.by (fun t k => st28.trans k) ?_
        show Go p e below P (T28.setTop (mkF m 146 #[.val (.int p0), .val (.int p1), .val (.int p2), .val (.int p3), .val (.int p4), .val (.int p5), .val (.int ((p0 &&& (2147483647 : Int32)) % (7 : Int32))), .val (.int ((p3 &&& (2147483647 : Int32)) % (7 : Int32))), .val (.int (p1 &&& (3 : Int32))), .val (.int (p4 &&& (3 : Int32))), .val (.ref b11), .val (.int (((p1.toUInt32 >>> ((2 : Int32) &&& 31).toUInt32).toInt32) &&& (3 : Int32))), .unset, .unset] [(.int (if (own_kind ((p0 &&& (2147483647 : Int32)) % (7 : Int32)) ea eb ec ed ee ef eg) = (own_kind ((p0 &&& (2147483647 : Int32)) % (7 : Int32)) ea eb ec ed ee ef eg) ∧ (own_argV (p1 &&& (3 : Int32)) p2) = (own_argV (p1 &&& (3 : Int32)) p2) then (1 : Int32) else 0))]))
        refine Go.by (fun _ => XS.ifNo X28.here hx rfl (hb hby at_146) rfl (XT.i0_eq_f (own_ne0 (if_pos ⟨rfl, rfl⟩)))) ?_
        show Go p e below P (T28.setTop (mkF m 149 #[.val (.int p0), .val (.int p1), .val (.int p2), .val (.int p3), .val (.int p4), .val (.int p5), .val (.int ((p0 &&& (2147483647 : Int32)) % (7 : Int32))), .val (.int ((p3 &&& (2147483647 : Int32)) % (7 : Int32))), .val (.int (p1 &&& (3 : Int32))), .val (.int (p4 &&& (3 : Int32))), .val (.ref b11), .val (.int (((p1.toUInt32 >>> ((2 : Int32) &&& 31).toUInt32).toInt32) &&& (3 : Int32))), .unset, .unset] []))
        refine Go.by (fun _ => XS.iconst X28.here hx rfl (hb hby at_149)) ?_
        show Go p e below P (T28.setTop (mkF m 150 #[.val (.int p0), .val (.int p1), .val (.int p2), .val (.int p3), .val (.int p4), .val (.int p5), .val (.int ((p0 &&& (2147483647 : Int32)) % (7 : Int32))), .val (.int ((p3 &&& (2147483647 : Int32)) % (7 : Int32))), .val (.int (p1 &&& (3 : Int32))), .val (.int (p4 &&& (3 : Int32))), .val (.ref b11), .val (.int (((p1.toUInt32 >>> ((2 : Int32) &&& 31).toUInt32).toInt32) &&& (3 : Int32))), .unset, .unset] [(.int (1 : Int32))]))
        refine Go.by (fun _ => XS.goto X28.here hx rfl (pc0 := 150) (pc' := 154) rfl (hb hby at_150) (by decide) (by decide)) ?_
        show Go p e below P (T28.setTop (mkF m 154 #[.val (.int p0), .val (.int p1), .val (.int p2), .val (.int p3), .val (.int p4), .val (.int p5), .val (.int ((p0 &&& (2147483647 : Int32)) % (7 : Int32))), .val (.int ((p3 &&& (2147483647 : Int32)) % (7 : Int32))), .val (.int (p1 &&& (3 : Int32))), .val (.int (p4 &&& (3 : Int32))), .val (.ref b11), .val (.int (((p1.toUInt32 >>> ((2 : Int32) &&& 31).toUInt32).toInt32) &&& (3 : Int32))), .unset, .unset] [(.int (1 : Int32))]))
        refine fin X28 (v := some (.int (1 : Int32))) (fun h => by rw [Bd.returns] at h; cases h) (by decide) (by decide) q28 hS25 f27_2 hZ25 f27_1 ?_ (fun fs hr => retOut X28 hx Bd.returns rfl (Or.inl ⟨rfl, Or.inr (Or.inl rfl), _, rfl⟩) (hb hby at_154) hr)
        exact ⟨rfl, N28⟩
      · refine Go.by (fun _ => XS.icmpYes X14.here hx rfl (pc0 := 110) (pc' := 155) rfl (hb hby at_110) rfl (XT.ii_ne_t hc110_21) (by decide) (by decide)) ?_
        show Go p e below P (T14.setTop (mkF m 155 #[.val (.int p0), .val (.int p1), .val (.int p2), .val (.int p3), .val (.int p4), .val (.int p5), .val (.int ((p0 &&& (2147483647 : Int32)) % (7 : Int32))), .val (.int ((p3 &&& (2147483647 : Int32)) % (7 : Int32))), .val (.int (p1 &&& (3 : Int32))), .val (.int (p4 &&& (3 : Int32))), .val (.ref b11), .val (.int (((p1.toUInt32 >>> ((2 : Int32) &&& 31).toUInt32).toInt32) &&& (3 : Int32))), .unset, .unset] []))
        obtain ⟨T29, h29, X29, e29, E29, A29, D29, U29, st29⟩ := newO X14 hx hZ13 hown13 (tw_1 hw) (tw_2 hw) (tw_3 hw) rfl (g := (mkF m 155 #[.val (.int p0), .val (.int p1), .val (.int p2), .val (.int p3), .val (.int p4), .val (.int p5), .val (.int ((p0 &&& (2147483647 : Int32)) % (7 : Int32))), .val (.int ((p3 &&& (2147483647 : Int32)) % (7 : Int32))), .val (.int (p1 &&& (3 : Int32))), .val (.int (p4 &&& (3 : Int32))), .val (.ref b11), .val (.int (((p1.toUInt32 >>> ((2 : Int32) &&& 31).toUInt32).toInt32) &&& (3 : Int32))), .unset, .unset] [])) rfl (hb hby at_155) (by decide) (by decide)
        obtain ⟨b29, g29⟩ : ∃ z, z = T14.heap.size := ⟨_, rfl⟩
        rw [← g29] at A29 D29 U29 st29
        have g_b29 : n0 ≤ b29 := Nat.le_trans f14_0 (Nat.le_of_eq g29.symm)
        have sz_b29 : h0.size ≤ b29 := Nat.le_trans f14_3.1 (Nat.le_of_eq g29.symm)
        have ne_b11_b29 : b11 ≠ b29 := Nat.ne_of_lt (Nat.lt_of_lt_of_le (f14_6.lt) (Nat.le_of_eq g29.symm))
        have sf_b29 : Safe Z own_EL T13.vm T14.heap b29 := Safe.new (Nat.le_of_eq g29.symm)
        have f29_0 : n0 ≤ h29.size := (Nat.le_trans f14_0 E29.1)
        have f29_1 : CHr Z own_EL s.vm h0 T13.vm h29 := (CHr.trans f14_1 (CHr.ext E29 f14_1.1))
        have f29_2 : T13.heap.size ≤ h29.size := (Nat.le_trans f14_2 E29.1)
        have f29_3 : Keep h0 h29 [] := (Keep.ext f14_3 E29)
        have f29_4 : Old Z n0 h29 := (Old.ext f14_4 E29)
        have f29_5 : Safe Z own_EL T13.vm h29 b11 := (Safe.ext E29 f14_1.1 f14_5)
        have f29_6 : Exa Z h29 b11 "com/example/verdict/verdict/Action" := (Exa.ext E29 f14_6)
        have f29_7 : StrO Z h29 r13 (own_argV (p1 &&& (3 : Int32)) p2) := (StrO.ext f14_7 E29)
        have f29_8 : Fld Z h29 b11 "com/example/verdict/verdict/Action" "kind" "Lcom/example/verdict/verdict/Action$Kind;" (.ref (own_kind ((p0 &&& (2147483647 : Int32)) % (7 : Int32)) ea eb ec ed ee ef eg)) := (Fld.ext E29 G14_0)
        have f29_9 : Fld Z h29 b11 "com/example/verdict/verdict/Action" "argument" "Ljava/lang/String;" r13 := (Fld.ext E29 G14_1)
        have f29_10 : Safe Z own_EL T13.vm h29 b29 := (Safe.ext E29 f14_1.1 sf_b29)
        refine Go.by st29 ?_
        have F29_kind : Fld Z h29 b29 "com/example/verdict/verdict/Action" "kind" "Lcom/example/verdict/verdict/Action$Kind;" .null := D29 (Or.inr (tw_49 hw)) (ty := (.object "com/example/verdict/verdict/Action$Kind")) (by decide)
        have F29_argument : Fld Z h29 b29 "com/example/verdict/verdict/Action" "argument" "Ljava/lang/String;" .null := D29 (Or.inr (tw_51 hw)) (ty := (.object "java/lang/String")) (by decide)
        show Go p e below P (T29.setTop (mkF m 158 #[.val (.int p0), .val (.int p1), .val (.int p2), .val (.int p3), .val (.int p4), .val (.int p5), .val (.int ((p0 &&& (2147483647 : Int32)) % (7 : Int32))), .val (.int ((p3 &&& (2147483647 : Int32)) % (7 : Int32))), .val (.int (p1 &&& (3 : Int32))), .val (.int (p4 &&& (3 : Int32))), .val (.ref b11), .val (.int (((p1.toUInt32 >>> ((2 : Int32) &&& 31).toUInt32).toInt32) &&& (3 : Int32))), .unset, .unset] [(.ref b29)]))
        refine Go.by (fun _ => XS.dup X29.here hx rfl (hb hby at_158) rfl rfl) ?_
        show Go p e below P (T29.setTop (mkF m 159 #[.val (.int p0), .val (.int p1), .val (.int p2), .val (.int p3), .val (.int p4), .val (.int p5), .val (.int ((p0 &&& (2147483647 : Int32)) % (7 : Int32))), .val (.int ((p3 &&& (2147483647 : Int32)) % (7 : Int32))), .val (.int (p1 &&& (3 : Int32))), .val (.int (p4 &&& (3 : Int32))), .val (.ref b11), .val (.int (((p1.toUInt32 >>> ((2 : Int32) &&& 31).toUInt32).toInt32) &&& (3 : Int32))), .unset, .unset] [(.ref b29), (.ref b29)]))
        refine Go.by (fun _ => XS.iload X29.here hx rfl (hb hby at_159) rfl) ?_
        show Go p e below P (T29.setTop (mkF m 161 #[.val (.int p0), .val (.int p1), .val (.int p2), .val (.int p3), .val (.int p4), .val (.int p5), .val (.int ((p0 &&& (2147483647 : Int32)) % (7 : Int32))), .val (.int ((p3 &&& (2147483647 : Int32)) % (7 : Int32))), .val (.int (p1 &&& (3 : Int32))), .val (.int (p4 &&& (3 : Int32))), .val (.ref b11), .val (.int (((p1.toUInt32 >>> ((2 : Int32) &&& 31).toUInt32).toInt32) &&& (3 : Int32))), .unset, .unset] [(.int ((p3 &&& (2147483647 : Int32)) % (7 : Int32))), (.ref b29), (.ref b29)]))
        obtain ⟨_, _, ⟨T30, L30, k30, n30⟩, -, X30, ⟨Lc30, hQ30, l30, y30, z30⟩, st30⟩ := Jvm.LawKit.callS X29 hx (y := (⟨"com/example/verdict/verdict/ActionEqualsPinLaw", "kindOf", "(I)Lcom/example/verdict/verdict/Action$Kind;"⟩ : MethodName)) hown13 (mvT hZ13 (tw_4 hw)) (mvT hZ13 (tw_5 hw)) (mvT hZ13 (tw_6 hw)) (mvT hZ13 (tw_7 hw)) (by decide) (backOf (W := 2) (rm_kindOf l Z a0 hw [] ((p3 &&& (2147483647 : Int32)) % (7 : Int32)) ea eb ec ed ee ef eg h29 n0 f29_0 f29_4 Sea Seb Sec Sed See Sef Seg) hZ13 (tw_7 hw) (tw_6 hw) (by decide) (by decide)) (g := (mkF m 161 #[.val (.int p0), .val (.int p1), .val (.int p2), .val (.int p3), .val (.int p4), .val (.int p5), .val (.int ((p0 &&& (2147483647 : Int32)) % (7 : Int32))), .val (.int ((p3 &&& (2147483647 : Int32)) % (7 : Int32))), .val (.int (p1 &&& (3 : Int32))), .val (.int (p4 &&& (3 : Int32))), .val (.ref b11), .val (.int (((p1.toUInt32 >>> ((2 : Int32) &&& 31).toUInt32).toInt32) &&& (3 : Int32))), .unset, .unset] [(.int ((p3 &&& (2147483647 : Int32)) % (7 : Int32))), (.ref b29), (.ref b29)])) rfl (by rw [hml]; rfl) (argsL := [(.int ((p3 &&& (2147483647 : Int32)) % (7 : Int32)))]) (rest := [(.ref b29), (.ref b29)]) (lenOf pd__I_Lcom_example_verdict_verdict_Action_Kind_ rfl) rfl (by show 2 * 0 + _ ≤ _; exact Nat.le_of_eq rfl) (hb hby at_161) (fun _ _ => ⟨rfl, e29, (by decide : 8 + 0 ≤ _), (by decide : 16 + 0 ≤ _)⟩)
        dsimp only [Pt.U, Pt.locs, Pt.cells, Pt.slots] at X30 l30 y30 z30 st30 hQ30
        subst l30 y30 z30
        obtain ⟨rfl, N30q, q30⟩ := hQ30
        have N30 := Fr.app N14 N30q
        refine Go.by (fun t k => st30 t k) ?_
        show Go p e below P (T30.setTop (mkF m 164 #[.val (.int p0), .val (.int p1), .val (.int p2), .val (.int p3), .val (.int p4), .val (.int p5), .val (.int ((p0 &&& (2147483647 : Int32)) % (7 : Int32))), .val (.int ((p3 &&& (2147483647 : Int32)) % (7 : Int32))), .val (.int (p1 &&& (3 : Int32))), .val (.int (p4 &&& (3 : Int32))), .val (.ref b11), .val (.int (((p1.toUInt32 >>> ((2 : Int32) &&& 31).toUInt32).toInt32) &&& (3 : Int32))), .unset, .unset] [(.ref (own_kind ((p3 &&& (2147483647 : Int32)) % (7 : Int32)) ea eb ec ed ee ef eg)), (.ref b29), (.ref b29)]))
        refine Go.by (fun _ => XS.iload X30.here hx rfl (hb hby at_164) rfl) ?_
        show Go p e below P (T30.setTop (mkF m 166 #[.val (.int p0), .val (.int p1), .val (.int p2), .val (.int p3), .val (.int p4), .val (.int p5), .val (.int ((p0 &&& (2147483647 : Int32)) % (7 : Int32))), .val (.int ((p3 &&& (2147483647 : Int32)) % (7 : Int32))), .val (.int (p1 &&& (3 : Int32))), .val (.int (p4 &&& (3 : Int32))), .val (.ref b11), .val (.int (((p1.toUInt32 >>> ((2 : Int32) &&& 31).toUInt32).toInt32) &&& (3 : Int32))), .unset, .unset] [(.int (p4 &&& (3 : Int32))), (.ref (own_kind ((p3 &&& (2147483647 : Int32)) % (7 : Int32)) ea eb ec ed ee ef eg)), (.ref b29), (.ref b29)]))
        refine Go.by (fun _ => XS.iload X30.here hx rfl (hb hby at_166) rfl) ?_
        show Go p e below P (T30.setTop (mkF m 168 #[.val (.int p0), .val (.int p1), .val (.int p2), .val (.int p3), .val (.int p4), .val (.int p5), .val (.int ((p0 &&& (2147483647 : Int32)) % (7 : Int32))), .val (.int ((p3 &&& (2147483647 : Int32)) % (7 : Int32))), .val (.int (p1 &&& (3 : Int32))), .val (.int (p4 &&& (3 : Int32))), .val (.ref b11), .val (.int (((p1.toUInt32 >>> ((2 : Int32) &&& 31).toUInt32).toInt32) &&& (3 : Int32))), .unset, .unset] [(.int p5), (.int (p4 &&& (3 : Int32))), (.ref (own_kind ((p3 &&& (2147483647 : Int32)) % (7 : Int32)) ea eb ec ed ee ef eg)), (.ref b29), (.ref b29)]))
        obtain ⟨_, _, ⟨T31, L31, k31, n31⟩, -, X31', hS31', hg31, ⟨Lc31, hQ31, l31, y31, z31, C31⟩, st31⟩ := Jvm.RoadKit.callSS X30 hx (y := (⟨"com/example/verdict/verdict/ActionEqualsPinLaw", "arg", "(II)Ljava/lang/String;"⟩ : MethodName)) hown13 (mvT hZ13 (tw_11 hw)) (mvT hZ13 (tw_12 hw)) (mvT hZ13 (tw_6 hw)) (mvT hZ13 (tw_13 hw)) (by decide) (own_backC (W := 3) (rm_arg l Z a0 hw hEL [] (p4 &&& (3 : Int32)) p5 cs h29 n0 f29_0 f29_4 Scs hcs) hZ13 (tw_13 hw) (tw_6 hw) (by decide) (by decide) hEL f29_1.1 own_ss0) (g := (mkF m 168 #[.val (.int p0), .val (.int p1), .val (.int p2), .val (.int p3), .val (.int p4), .val (.int p5), .val (.int ((p0 &&& (2147483647 : Int32)) % (7 : Int32))), .val (.int ((p3 &&& (2147483647 : Int32)) % (7 : Int32))), .val (.int (p1 &&& (3 : Int32))), .val (.int (p4 &&& (3 : Int32))), .val (.ref b11), .val (.int (((p1.toUInt32 >>> ((2 : Int32) &&& 31).toUInt32).toInt32) &&& (3 : Int32))), .unset, .unset] [(.int p5), (.int (p4 &&& (3 : Int32))), (.ref (own_kind ((p3 &&& (2147483647 : Int32)) % (7 : Int32)) ea eb ec ed ee ef eg)), (.ref b29), (.ref b29)])) rfl (by rw [hml]; rfl) (argsL := [(.int (p4 &&& (3 : Int32))), (.int p5)]) (rest := [(.ref (own_kind ((p3 &&& (2147483647 : Int32)) % (7 : Int32)) ea eb ec ed ee ef eg)), (.ref b29), (.ref b29)]) (lenOf pd__II_Ljava_lang_String_ rfl) rfl (by show 2 * 0 + _ ≤ _; exact Nat.le_of_eq rfl) (hb hby at_168) (fun _ _ => ⟨rfl, (q30.trans rfl), (by decide : 8 + 6 ≤ _), (by decide : 16 + 12 ≤ _)⟩)
        dsimp only [Pt.U, Pt.locs, Pt.cells, Pt.slots] at X31' hS31' hg31 l31 y31 z31 st31 hQ31 C31
        subst l31 y31 z31
        obtain ⟨X31, hS31, hZ31, hown31⟩ := rebS hS13 (f29_2) X31' hS31' (by have q := hg31; rw [(q30.trans rfl)] at q; exact q) hZ13 hown13
        have hk31 : T31.heap.size ≤ T31.heap.size := Nat.le_refl _
        obtain ⟨r31, rfl, N31q, K31, TS31, fr31⟩ := hQ31
        have N31 := Fr.app N30 N31q
        refine Go.by (fun t k => st31.trans k) ?_
        have f31_0 : n0 ≤ T31.heap.size := (Nat.le_trans f29_0 K31.1)
        have f31_1 : CHr Z own_EL s.vm h0 T31.vm T31.heap := (CHr.trans f29_1 C31)
        have f31_2 : T31.heap.size ≤ T31.heap.size := hk31
        have f31_3 : Keep h0 T31.heap [] := (Keep.trans f29_3 K31 all0)
        have f31_4 : Old Z n0 T31.heap := (Old.keep f29_4 K31 all0)
        have f31_5 : Safe Z own_EL T31.vm T31.heap b11 := (CHr.safe C31 (f29_6.lt) f29_5)
        have f31_6 : Exa Z T31.heap b11 "com/example/verdict/verdict/Action" := (Exa.keep f29_6 K31)
        have f31_7 : StrO Z T31.heap r13 (own_argV (p1 &&& (3 : Int32)) p2) := (StrO.keep0 f29_7 K31)
        have f31_8 : Fld Z T31.heap b11 "com/example/verdict/verdict/Action" "kind" "Lcom/example/verdict/verdict/Action$Kind;" (.ref (own_kind ((p0 &&& (2147483647 : Int32)) % (7 : Int32)) ea eb ec ed ee ef eg)) := (Fld.keep f29_8 K31 nin0)
        have f31_9 : Fld Z T31.heap b11 "com/example/verdict/verdict/Action" "argument" "Ljava/lang/String;" r13 := (Fld.keep f29_9 K31 nin0)
        have f31_10 : Safe Z own_EL T31.vm T31.heap b29 := (CHr.safe C31 (A29.lt) f29_10)
        have f31_11 : Exa Z T31.heap b29 "com/example/verdict/verdict/Action" := (Exa.keep A29 K31)
        have f31_12 : Fld Z T31.heap b29 "com/example/verdict/verdict/Action" "kind" "Lcom/example/verdict/verdict/Action$Kind;" .null := (Fld.keep F29_kind K31 nin0)
        have f31_13 : Fld Z T31.heap b29 "com/example/verdict/verdict/Action" "argument" "Ljava/lang/String;" .null := (Fld.keep F29_argument K31 nin0)
        have hr31 := TS31.isRef
        have sm32 : r13 = r31 → (own_argV (p1 &&& (3 : Int32)) p2) = (own_argV (p4 &&& (3 : Int32)) p5) := own_apart f29_7 TS31 fr31
        have sn32 : r31 = r13 → (own_argV (p4 &&& (3 : Int32)) p5) = (own_argV (p1 &&& (3 : Int32)) p2) := fun q => (sm32 q.symm).symm
        show Go p e below P (T31.setTop (mkF m 171 #[.val (.int p0), .val (.int p1), .val (.int p2), .val (.int p3), .val (.int p4), .val (.int p5), .val (.int ((p0 &&& (2147483647 : Int32)) % (7 : Int32))), .val (.int ((p3 &&& (2147483647 : Int32)) % (7 : Int32))), .val (.int (p1 &&& (3 : Int32))), .val (.int (p4 &&& (3 : Int32))), .val (.ref b11), .val (.int (((p1.toUInt32 >>> ((2 : Int32) &&& 31).toUInt32).toInt32) &&& (3 : Int32))), .unset, .unset] [r31, (.ref (own_kind ((p3 &&& (2147483647 : Int32)) % (7 : Int32)) ea eb ec ed ee ef eg)), (.ref b29), (.ref b29)]))
        obtain ⟨_, _, ⟨T33, L33, k33, n33⟩, -, X33, ⟨Lc33, hQ33, l33, y33, z33⟩, st33⟩ := X31.specialBack hx (y := (⟨"com/example/verdict/verdict/Action", "<init>", "(Lcom/example/verdict/verdict/Action$Kind;Ljava/lang/String;)V"⟩ : MethodName)) rfl hown31 (mvT hZ31 (tw_44 hw)) (mvT hZ31 (tw_45 hw)) (mvT hZ31 (tw_46 hw)) (by decide) (backOf (W := 1) (rm_acInit l Z a0 hw [] b29 (own_kind ((p3 &&& (2147483647 : Int32)) % (7 : Int32)) ea eb ec ed ee ef eg) r31 T31.heap n0 f31_0 f31_11 g_b29 f31_12 f31_13 hr31) hZ31 (tw_46 hw) (tw_3 hw) (by decide) (by decide)) (g := (mkF m 171 #[.val (.int p0), .val (.int p1), .val (.int p2), .val (.int p3), .val (.int p4), .val (.int p5), .val (.int ((p0 &&& (2147483647 : Int32)) % (7 : Int32))), .val (.int ((p3 &&& (2147483647 : Int32)) % (7 : Int32))), .val (.int (p1 &&& (3 : Int32))), .val (.int (p4 &&& (3 : Int32))), .val (.ref b11), .val (.int (((p1.toUInt32 >>> ((2 : Int32) &&& 31).toUInt32).toInt32) &&& (3 : Int32))), .unset, .unset] [r31, (.ref (own_kind ((p3 &&& (2147483647 : Int32)) % (7 : Int32)) ea eb ec ed ee ef eg)), (.ref b29), (.ref b29)])) rfl (by rw [hml]; rfl) (Steps.refl _) (a := b29) (argsL := [(.ref (own_kind ((p3 &&& (2147483647 : Int32)) % (7 : Int32)) ea eb ec ed ee ef eg)), r31]) (rest := [(.ref b29)]) (lenOf pd__Lcom_example_verdict_verdict_Action_Kind_Ljava_lang_String__V rfl) rfl (by show 2 * 0 + _ ≤ _; exact Nat.le_of_eq rfl) (hb hby at_171) (fun _ _ => ⟨rfl, rfl, (by decide : 14 + 0 ≤ _), (by decide : 28 + 0 ≤ _)⟩)
        dsimp only [Pt.U, Pt.locs, Pt.cells, Pt.slots] at X33 l33 y33 z33 st33 hQ33
        subst l33 y33 z33
        obtain ⟨rfl, N33q, K33, G33_0, G33_1⟩ := hQ33
        have N33 := Fr.app N31 N33q
        refine Go.by (fun t k => st33.trans k) ?_
        have f33_0 : n0 ≤ T33.heap.size := (Nat.le_trans f31_0 K33.1)
        have f33_1 : CHr Z own_EL s.vm h0 T31.vm T33.heap := (CHr.trans f31_1 (CHr.keep K33 (sfS f31_10 sf0) f31_1.1))
        have f33_2 : T31.heap.size ≤ T33.heap.size := (Nat.le_trans f31_2 K33.1)
        have f33_3 : Keep h0 T33.heap [] := (Keep.trans f31_3 K33 (allS (Or.inr sz_b29) all0))
        have f33_4 : Old Z n0 T33.heap := (Old.keep f31_4 K33 (allS g_b29 all0))
        have f33_5 : Safe Z own_EL T31.vm T33.heap b11 := (Safe.keep K33 (sfS f31_10 sf0) f31_1.1 f31_5)
        have f33_6 : Exa Z T33.heap b11 "com/example/verdict/verdict/Action" := (Exa.keep f31_6 K33)
        have f33_7 : StrO Z T33.heap r13 (own_argV (p1 &&& (3 : Int32)) p2) := (StrO.keep1 f31_7 K33 f31_11 (tw_2 hw) (by decide))
        have f33_8 : Fld Z T33.heap b11 "com/example/verdict/verdict/Action" "kind" "Lcom/example/verdict/verdict/Action$Kind;" (.ref (own_kind ((p0 &&& (2147483647 : Int32)) % (7 : Int32)) ea eb ec ed ee ef eg)) := (Fld.keep f31_8 K33 (ninS ne_b11_b29 nin0))
        have f33_9 : Fld Z T33.heap b11 "com/example/verdict/verdict/Action" "argument" "Ljava/lang/String;" r13 := (Fld.keep f31_9 K33 (ninS ne_b11_b29 nin0))
        have f33_10 : Safe Z own_EL T31.vm T33.heap b29 := (Safe.keep K33 (sfS f31_10 sf0) f31_1.1 f31_10)
        have f33_11 : Exa Z T33.heap b29 "com/example/verdict/verdict/Action" := (Exa.keep f31_11 K33)
        have f33_12 : StrO Z T33.heap r31 (own_argV (p4 &&& (3 : Int32)) p5) := (StrO.keep1 TS31 K33 f31_11 (tw_2 hw) (by decide))
        show Go p e below P (T33.setTop (mkF m 174 #[.val (.int p0), .val (.int p1), .val (.int p2), .val (.int p3), .val (.int p4), .val (.int p5), .val (.int ((p0 &&& (2147483647 : Int32)) % (7 : Int32))), .val (.int ((p3 &&& (2147483647 : Int32)) % (7 : Int32))), .val (.int (p1 &&& (3 : Int32))), .val (.int (p4 &&& (3 : Int32))), .val (.ref b11), .val (.int (((p1.toUInt32 >>> ((2 : Int32) &&& 31).toUInt32).toInt32) &&& (3 : Int32))), .unset, .unset] [(.ref b29)]))
        refine Go.by (fun _ => XS.astore X33.here hx rfl (hb hby at_174) rfl rfl (l' := #[.val (.int p0), .val (.int p1), .val (.int p2), .val (.int p3), .val (.int p4), .val (.int p5), .val (.int ((p0 &&& (2147483647 : Int32)) % (7 : Int32))), .val (.int ((p3 &&& (2147483647 : Int32)) % (7 : Int32))), .val (.int (p1 &&& (3 : Int32))), .val (.int (p4 &&& (3 : Int32))), .val (.ref b11), .val (.int (((p1.toUInt32 >>> ((2 : Int32) &&& 31).toUInt32).toInt32) &&& (3 : Int32))), .val (.ref b29), .unset]) rfl) ?_
        show Go p e below P (T33.setTop (mkF m 176 #[.val (.int p0), .val (.int p1), .val (.int p2), .val (.int p3), .val (.int p4), .val (.int p5), .val (.int ((p0 &&& (2147483647 : Int32)) % (7 : Int32))), .val (.int ((p3 &&& (2147483647 : Int32)) % (7 : Int32))), .val (.int (p1 &&& (3 : Int32))), .val (.int (p4 &&& (3 : Int32))), .val (.ref b11), .val (.int (((p1.toUInt32 >>> ((2 : Int32) &&& 31).toUInt32).toInt32) &&& (3 : Int32))), .val (.ref b29), .unset] []))
        refine Go.by (fun _ => XS.iload X33.here hx rfl (hb hby at_176) rfl) ?_
        show Go p e below P (T33.setTop (mkF m 178 #[.val (.int p0), .val (.int p1), .val (.int p2), .val (.int p3), .val (.int p4), .val (.int p5), .val (.int ((p0 &&& (2147483647 : Int32)) % (7 : Int32))), .val (.int ((p3 &&& (2147483647 : Int32)) % (7 : Int32))), .val (.int (p1 &&& (3 : Int32))), .val (.int (p4 &&& (3 : Int32))), .val (.ref b11), .val (.int (((p1.toUInt32 >>> ((2 : Int32) &&& 31).toUInt32).toInt32) &&& (3 : Int32))), .val (.ref b29), .unset] [(.int ((p0 &&& (2147483647 : Int32)) % (7 : Int32)))]))
        refine Go.by (fun _ => XS.iload X33.here hx rfl (hb hby at_178) rfl) ?_
        show Go p e below P (T33.setTop (mkF m 180 #[.val (.int p0), .val (.int p1), .val (.int p2), .val (.int p3), .val (.int p4), .val (.int p5), .val (.int ((p0 &&& (2147483647 : Int32)) % (7 : Int32))), .val (.int ((p3 &&& (2147483647 : Int32)) % (7 : Int32))), .val (.int (p1 &&& (3 : Int32))), .val (.int (p4 &&& (3 : Int32))), .val (.ref b11), .val (.int (((p1.toUInt32 >>> ((2 : Int32) &&& 31).toUInt32).toInt32) &&& (3 : Int32))), .val (.ref b29), .unset] [(.int ((p3 &&& (2147483647 : Int32)) % (7 : Int32))), (.int ((p0 &&& (2147483647 : Int32)) % (7 : Int32)))]))
        by_cases hc180_34 : ((p0 &&& (2147483647 : Int32)) % (7 : Int32)) = ((p3 &&& (2147483647 : Int32)) % (7 : Int32))
        · refine Go.by (fun _ => XS.icmpNo X33.here hx rfl (hb hby at_180) rfl (XT.ii_ne_f hc180_34)) ?_
          show Go p e below P (T33.setTop (mkF m 183 #[.val (.int p0), .val (.int p1), .val (.int p2), .val (.int p3), .val (.int p4), .val (.int p5), .val (.int ((p0 &&& (2147483647 : Int32)) % (7 : Int32))), .val (.int ((p3 &&& (2147483647 : Int32)) % (7 : Int32))), .val (.int (p1 &&& (3 : Int32))), .val (.int (p4 &&& (3 : Int32))), .val (.ref b11), .val (.int (((p1.toUInt32 >>> ((2 : Int32) &&& 31).toUInt32).toInt32) &&& (3 : Int32))), .val (.ref b29), .unset] []))
          refine Go.by (fun _ => XS.iload X33.here hx rfl (hb hby at_183) rfl) ?_
          show Go p e below P (T33.setTop (mkF m 185 #[.val (.int p0), .val (.int p1), .val (.int p2), .val (.int p3), .val (.int p4), .val (.int p5), .val (.int ((p0 &&& (2147483647 : Int32)) % (7 : Int32))), .val (.int ((p3 &&& (2147483647 : Int32)) % (7 : Int32))), .val (.int (p1 &&& (3 : Int32))), .val (.int (p4 &&& (3 : Int32))), .val (.ref b11), .val (.int (((p1.toUInt32 >>> ((2 : Int32) &&& 31).toUInt32).toInt32) &&& (3 : Int32))), .val (.ref b29), .unset] [(.int (p1 &&& (3 : Int32)))]))
          refine Go.by (fun _ => XS.iloadN X33.here hx rfl (hb hby at_185) rfl) ?_
          show Go p e below P (T33.setTop (mkF m 186 #[.val (.int p0), .val (.int p1), .val (.int p2), .val (.int p3), .val (.int p4), .val (.int p5), .val (.int ((p0 &&& (2147483647 : Int32)) % (7 : Int32))), .val (.int ((p3 &&& (2147483647 : Int32)) % (7 : Int32))), .val (.int (p1 &&& (3 : Int32))), .val (.int (p4 &&& (3 : Int32))), .val (.ref b11), .val (.int (((p1.toUInt32 >>> ((2 : Int32) &&& 31).toUInt32).toInt32) &&& (3 : Int32))), .val (.ref b29), .unset] [(.int p2), (.int (p1 &&& (3 : Int32)))]))
          refine Go.by (fun _ => XS.iload X33.here hx rfl (hb hby at_186) rfl) ?_
          show Go p e below P (T33.setTop (mkF m 188 #[.val (.int p0), .val (.int p1), .val (.int p2), .val (.int p3), .val (.int p4), .val (.int p5), .val (.int ((p0 &&& (2147483647 : Int32)) % (7 : Int32))), .val (.int ((p3 &&& (2147483647 : Int32)) % (7 : Int32))), .val (.int (p1 &&& (3 : Int32))), .val (.int (p4 &&& (3 : Int32))), .val (.ref b11), .val (.int (((p1.toUInt32 >>> ((2 : Int32) &&& 31).toUInt32).toInt32) &&& (3 : Int32))), .val (.ref b29), .unset] [(.int (p4 &&& (3 : Int32))), (.int p2), (.int (p1 &&& (3 : Int32)))]))
          refine Go.by (fun _ => XS.iload X33.here hx rfl (hb hby at_188) rfl) ?_
          show Go p e below P (T33.setTop (mkF m 190 #[.val (.int p0), .val (.int p1), .val (.int p2), .val (.int p3), .val (.int p4), .val (.int p5), .val (.int ((p0 &&& (2147483647 : Int32)) % (7 : Int32))), .val (.int ((p3 &&& (2147483647 : Int32)) % (7 : Int32))), .val (.int (p1 &&& (3 : Int32))), .val (.int (p4 &&& (3 : Int32))), .val (.ref b11), .val (.int (((p1.toUInt32 >>> ((2 : Int32) &&& 31).toUInt32).toInt32) &&& (3 : Int32))), .val (.ref b29), .unset] [(.int p5), (.int (p4 &&& (3 : Int32))), (.int p2), (.int (p1 &&& (3 : Int32)))]))
          obtain ⟨_, _, ⟨T35, L35, k35, n35⟩, -, X35, ⟨Lc35, hQ35, l35, y35, z35⟩, st35⟩ := Jvm.LawKit.callS X33 hx (y := (⟨"com/example/verdict/verdict/ActionEqualsPinLaw", "sameArg", "(IIII)Z"⟩ : MethodName)) hown31 (mvT hZ31 (tw_103 hw)) (mvT hZ31 (tw_104 hw)) (mvT hZ31 (tw_6 hw)) (mvT hZ31 (tw_105 hw)) (by decide) (backOf (W := 0) (rm_sameArg l Z a0 hw [] (p1 &&& (3 : Int32)) p2 (p4 &&& (3 : Int32)) p5 T33.heap n0 f33_0 ) hZ31 (tw_105 hw) (tw_6 hw) (by decide) (by decide)) (g := (mkF m 190 #[.val (.int p0), .val (.int p1), .val (.int p2), .val (.int p3), .val (.int p4), .val (.int p5), .val (.int ((p0 &&& (2147483647 : Int32)) % (7 : Int32))), .val (.int ((p3 &&& (2147483647 : Int32)) % (7 : Int32))), .val (.int (p1 &&& (3 : Int32))), .val (.int (p4 &&& (3 : Int32))), .val (.ref b11), .val (.int (((p1.toUInt32 >>> ((2 : Int32) &&& 31).toUInt32).toInt32) &&& (3 : Int32))), .val (.ref b29), .unset] [(.int p5), (.int (p4 &&& (3 : Int32))), (.int p2), (.int (p1 &&& (3 : Int32)))])) rfl (by rw [hml]; rfl) (argsL := [(.int (p1 &&& (3 : Int32))), (.int p2), (.int (p4 &&& (3 : Int32))), (.int p5)]) (rest := []) (lenOf pd__IIII_Z rfl) rfl (by show 2 * 0 + _ ≤ _; exact Nat.le_of_eq rfl) (hb hby at_190) (fun _ _ => ⟨rfl, rfl, (by decide : 14 + 0 ≤ _), (by decide : 28 + 0 ≤ _)⟩)
          dsimp only [Pt.U, Pt.locs, Pt.cells, Pt.slots] at X35 l35 y35 z35 st35 hQ35
          subst l35 y35 z35
          obtain ⟨rfl, N35q, q35⟩ := hQ35
          have N35 := Fr.app N33 N35q
          refine Go.by (fun t k => st35 t k) ?_
          show Go p e below P (T35.setTop (mkF m 193 #[.val (.int p0), .val (.int p1), .val (.int p2), .val (.int p3), .val (.int p4), .val (.int p5), .val (.int ((p0 &&& (2147483647 : Int32)) % (7 : Int32))), .val (.int ((p3 &&& (2147483647 : Int32)) % (7 : Int32))), .val (.int (p1 &&& (3 : Int32))), .val (.int (p4 &&& (3 : Int32))), .val (.ref b11), .val (.int (((p1.toUInt32 >>> ((2 : Int32) &&& 31).toUInt32).toInt32) &&& (3 : Int32))), .val (.ref b29), .unset] [(.int (own_same (p1 &&& (3 : Int32)) p2 (p4 &&& (3 : Int32)) p5))]))
          by_cases hc193_36 : (own_same (p1 &&& (3 : Int32)) p2 (p4 &&& (3 : Int32)) p5) = (0 : Int32)
          · refine Go.by (fun _ => XS.ifYes X35.here hx rfl (pc0 := 193) (pc' := 200) rfl (hb hby at_193) rfl (XT.i0_eq_t hc193_36) (by decide) (by decide)) ?_
            show Go p e below P (T35.setTop (mkF m 200 #[.val (.int p0), .val (.int p1), .val (.int p2), .val (.int p3), .val (.int p4), .val (.int p5), .val (.int ((p0 &&& (2147483647 : Int32)) % (7 : Int32))), .val (.int ((p3 &&& (2147483647 : Int32)) % (7 : Int32))), .val (.int (p1 &&& (3 : Int32))), .val (.int (p4 &&& (3 : Int32))), .val (.ref b11), .val (.int (((p1.toUInt32 >>> ((2 : Int32) &&& 31).toUInt32).toInt32) &&& (3 : Int32))), .val (.ref b29), .unset] []))
            refine Go.by (fun _ => XS.iconst X35.here hx rfl (hb hby at_200)) ?_
            show Go p e below P (T35.setTop (mkF m 201 #[.val (.int p0), .val (.int p1), .val (.int p2), .val (.int p3), .val (.int p4), .val (.int p5), .val (.int ((p0 &&& (2147483647 : Int32)) % (7 : Int32))), .val (.int ((p3 &&& (2147483647 : Int32)) % (7 : Int32))), .val (.int (p1 &&& (3 : Int32))), .val (.int (p4 &&& (3 : Int32))), .val (.ref b11), .val (.int (((p1.toUInt32 >>> ((2 : Int32) &&& 31).toUInt32).toInt32) &&& (3 : Int32))), .val (.ref b29), .unset] [(.int (0 : Int32))]))
            refine Go.by (fun _ => XS.istore X35.here hx rfl (hb hby at_201) rfl (l' := #[.val (.int p0), .val (.int p1), .val (.int p2), .val (.int p3), .val (.int p4), .val (.int p5), .val (.int ((p0 &&& (2147483647 : Int32)) % (7 : Int32))), .val (.int ((p3 &&& (2147483647 : Int32)) % (7 : Int32))), .val (.int (p1 &&& (3 : Int32))), .val (.int (p4 &&& (3 : Int32))), .val (.ref b11), .val (.int (((p1.toUInt32 >>> ((2 : Int32) &&& 31).toUInt32).toInt32) &&& (3 : Int32))), .val (.ref b29), .val (.int (0 : Int32))]) rfl) ?_
            show Go p e below P (T35.setTop (mkF m 203 #[.val (.int p0), .val (.int p1), .val (.int p2), .val (.int p3), .val (.int p4), .val (.int p5), .val (.int ((p0 &&& (2147483647 : Int32)) % (7 : Int32))), .val (.int ((p3 &&& (2147483647 : Int32)) % (7 : Int32))), .val (.int (p1 &&& (3 : Int32))), .val (.int (p4 &&& (3 : Int32))), .val (.ref b11), .val (.int (((p1.toUInt32 >>> ((2 : Int32) &&& 31).toUInt32).toInt32) &&& (3 : Int32))), .val (.ref b29), .val (.int (0 : Int32))] []))
            refine Go.by (fun _ => XS.aload X35.here hx rfl (hb hby at_203) rfl rfl) ?_
            show Go p e below P (T35.setTop (mkF m 205 #[.val (.int p0), .val (.int p1), .val (.int p2), .val (.int p3), .val (.int p4), .val (.int p5), .val (.int ((p0 &&& (2147483647 : Int32)) % (7 : Int32))), .val (.int ((p3 &&& (2147483647 : Int32)) % (7 : Int32))), .val (.int (p1 &&& (3 : Int32))), .val (.int (p4 &&& (3 : Int32))), .val (.ref b11), .val (.int (((p1.toUInt32 >>> ((2 : Int32) &&& 31).toUInt32).toInt32) &&& (3 : Int32))), .val (.ref b29), .val (.int (0 : Int32))] [(.ref b11)]))
            refine Go.by (fun _ => XS.aload X35.here hx rfl (hb hby at_205) rfl rfl) ?_
            show Go p e below P (T35.setTop (mkF m 207 #[.val (.int p0), .val (.int p1), .val (.int p2), .val (.int p3), .val (.int p4), .val (.int p5), .val (.int ((p0 &&& (2147483647 : Int32)) % (7 : Int32))), .val (.int ((p3 &&& (2147483647 : Int32)) % (7 : Int32))), .val (.int (p1 &&& (3 : Int32))), .val (.int (p4 &&& (3 : Int32))), .val (.ref b11), .val (.int (((p1.toUInt32 >>> ((2 : Int32) &&& 31).toUInt32).toInt32) &&& (3 : Int32))), .val (.ref b29), .val (.int (0 : Int32))] [(.ref b29), (.ref b11)]))
            obtain ⟨cq37, kq37, q37a, q37b, q37c⟩ := isOf hZ31 q35 f33_6
            obtain ⟨_, _, ⟨T37, L37, k37, n37⟩, -, X37, ⟨Lc37, hQ37, l37, y37, z37⟩, st37⟩ := X35.virtualBack hx (y := (⟨"com/example/verdict/verdict/Action", "equals", "(Ljava/lang/Object;)Z"⟩ : MethodName)) (z := (⟨"com/example/verdict/verdict/Action", "equals", "(Ljava/lang/Object;)Z"⟩ : MethodName)) hown31 (mvT hZ31 (tw_54 hw)) (mvT hZ31 (tw_55 hw)) (notFace_of_selects (args := #[]) (mvT hZ31 (tw_57 hw))) (mvT hZ31 (tw_57 hw)) (mvT hZ31 (tw_56 hw)) (by decide) (backOf (W := 0) (rm_aeq l Z a0 hw [] b11 b29 (own_kind ((p0 &&& (2147483647 : Int32)) % (7 : Int32)) ea eb ec ed ee ef eg) (own_kind ((p3 &&& (2147483647 : Int32)) % (7 : Int32)) ea eb ec ed ee ef eg) r13 (own_argV (p1 &&& (3 : Int32)) p2) r31 (own_argV (p4 &&& (3 : Int32)) p5) cs T33.heap n0 f33_0 f33_4 Scs hcs f33_11 f33_8 f33_9 G33_0 G33_1 f33_7 f33_12 (own_argl _ _) (own_argl _ _) sm32) hZ31 (tw_58 hw) (tw_3 hw) (by decide) (by decide)) q37a q37c (g := (mkF m 207 #[.val (.int p0), .val (.int p1), .val (.int p2), .val (.int p3), .val (.int p4), .val (.int p5), .val (.int ((p0 &&& (2147483647 : Int32)) % (7 : Int32))), .val (.int ((p3 &&& (2147483647 : Int32)) % (7 : Int32))), .val (.int (p1 &&& (3 : Int32))), .val (.int (p4 &&& (3 : Int32))), .val (.ref b11), .val (.int (((p1.toUInt32 >>> ((2 : Int32) &&& 31).toUInt32).toInt32) &&& (3 : Int32))), .val (.ref b29), .val (.int (0 : Int32))] [(.ref b29), (.ref b11)])) rfl (by rw [hml]; rfl) (Steps.refl _) (argsL := [(.ref b29)]) (rest := []) (lenOf pd__Ljava_lang_Object__Z rfl) rfl (by show 2 * 0 + _ ≤ _; exact Nat.le_of_eq rfl) (hb hby at_207) (fun _ _ => ⟨rfl, q35, (by decide : 14 + 0 ≤ _), (by decide : 28 + 0 ≤ _)⟩)
            dsimp only [Pt.U, Pt.locs, Pt.cells, Pt.slots] at X37 l37 y37 z37 st37 hQ37
            subst l37 y37 z37
            obtain ⟨rfl, N37q, q37⟩ := hQ37
            have N37 := Fr.app N35 N37q
            refine Go.by (fun t k => st37.trans k) ?_
            show Go p e below P (T37.setTop (mkF m 210 #[.val (.int p0), .val (.int p1), .val (.int p2), .val (.int p3), .val (.int p4), .val (.int p5), .val (.int ((p0 &&& (2147483647 : Int32)) % (7 : Int32))), .val (.int ((p3 &&& (2147483647 : Int32)) % (7 : Int32))), .val (.int (p1 &&& (3 : Int32))), .val (.int (p4 &&& (3 : Int32))), .val (.ref b11), .val (.int (((p1.toUInt32 >>> ((2 : Int32) &&& 31).toUInt32).toInt32) &&& (3 : Int32))), .val (.ref b29), .val (.int (0 : Int32))] [(.int (if (own_kind ((p0 &&& (2147483647 : Int32)) % (7 : Int32)) ea eb ec ed ee ef eg) = (own_kind ((p3 &&& (2147483647 : Int32)) % (7 : Int32)) ea eb ec ed ee ef eg) ∧ (own_argV (p1 &&& (3 : Int32)) p2) = (own_argV (p4 &&& (3 : Int32)) p5) then (1 : Int32) else 0))]))
            refine Go.by (fun _ => XS.iload X37.here hx rfl (hb hby at_210) rfl) ?_
            show Go p e below P (T37.setTop (mkF m 212 #[.val (.int p0), .val (.int p1), .val (.int p2), .val (.int p3), .val (.int p4), .val (.int p5), .val (.int ((p0 &&& (2147483647 : Int32)) % (7 : Int32))), .val (.int ((p3 &&& (2147483647 : Int32)) % (7 : Int32))), .val (.int (p1 &&& (3 : Int32))), .val (.int (p4 &&& (3 : Int32))), .val (.ref b11), .val (.int (((p1.toUInt32 >>> ((2 : Int32) &&& 31).toUInt32).toInt32) &&& (3 : Int32))), .val (.ref b29), .val (.int (0 : Int32))] [(.int (0 : Int32)), (.int (if (own_kind ((p0 &&& (2147483647 : Int32)) % (7 : Int32)) ea eb ec ed ee ef eg) = (own_kind ((p3 &&& (2147483647 : Int32)) % (7 : Int32)) ea eb ec ed ee ef eg) ∧ (own_argV (p1 &&& (3 : Int32)) p2) = (own_argV (p4 &&& (3 : Int32)) p5) then (1 : Int32) else 0))]))
            refine Go.by (fun _ => XS.icmpNo X37.here hx rfl (hb hby at_212) rfl (XT.ii_ne_f (if_neg (fun q => (own_sam p1 p2 p4 p5).mpr q.2 hc193_36)))) ?_
            show Go p e below P (T37.setTop (mkF m 215 #[.val (.int p0), .val (.int p1), .val (.int p2), .val (.int p3), .val (.int p4), .val (.int p5), .val (.int ((p0 &&& (2147483647 : Int32)) % (7 : Int32))), .val (.int ((p3 &&& (2147483647 : Int32)) % (7 : Int32))), .val (.int (p1 &&& (3 : Int32))), .val (.int (p4 &&& (3 : Int32))), .val (.ref b11), .val (.int (((p1.toUInt32 >>> ((2 : Int32) &&& 31).toUInt32).toInt32) &&& (3 : Int32))), .val (.ref b29), .val (.int (0 : Int32))] []))
            refine Go.by (fun _ => XS.aload X37.here hx rfl (hb hby at_215) rfl rfl) ?_
            show Go p e below P (T37.setTop (mkF m 217 #[.val (.int p0), .val (.int p1), .val (.int p2), .val (.int p3), .val (.int p4), .val (.int p5), .val (.int ((p0 &&& (2147483647 : Int32)) % (7 : Int32))), .val (.int ((p3 &&& (2147483647 : Int32)) % (7 : Int32))), .val (.int (p1 &&& (3 : Int32))), .val (.int (p4 &&& (3 : Int32))), .val (.ref b11), .val (.int (((p1.toUInt32 >>> ((2 : Int32) &&& 31).toUInt32).toInt32) &&& (3 : Int32))), .val (.ref b29), .val (.int (0 : Int32))] [(.ref b29)]))
            refine Go.by (fun _ => XS.aload X37.here hx rfl (hb hby at_217) rfl rfl) ?_
            show Go p e below P (T37.setTop (mkF m 219 #[.val (.int p0), .val (.int p1), .val (.int p2), .val (.int p3), .val (.int p4), .val (.int p5), .val (.int ((p0 &&& (2147483647 : Int32)) % (7 : Int32))), .val (.int ((p3 &&& (2147483647 : Int32)) % (7 : Int32))), .val (.int (p1 &&& (3 : Int32))), .val (.int (p4 &&& (3 : Int32))), .val (.ref b11), .val (.int (((p1.toUInt32 >>> ((2 : Int32) &&& 31).toUInt32).toInt32) &&& (3 : Int32))), .val (.ref b29), .val (.int (0 : Int32))] [(.ref b11), (.ref b29)]))
            obtain ⟨cq38, kq38, q38a, q38b, q38c⟩ := isOf hZ31 q37 f33_11
            obtain ⟨_, _, ⟨T38, L38, k38, n38⟩, -, X38, ⟨Lc38, hQ38, l38, y38, z38⟩, st38⟩ := X37.virtualBack hx (y := (⟨"com/example/verdict/verdict/Action", "equals", "(Ljava/lang/Object;)Z"⟩ : MethodName)) (z := (⟨"com/example/verdict/verdict/Action", "equals", "(Ljava/lang/Object;)Z"⟩ : MethodName)) hown31 (mvT hZ31 (tw_54 hw)) (mvT hZ31 (tw_55 hw)) (notFace_of_selects (args := #[]) (mvT hZ31 (tw_57 hw))) (mvT hZ31 (tw_57 hw)) (mvT hZ31 (tw_56 hw)) (by decide) (backOf (W := 0) (rm_aeq l Z a0 hw [] b29 b11 (own_kind ((p3 &&& (2147483647 : Int32)) % (7 : Int32)) ea eb ec ed ee ef eg) (own_kind ((p0 &&& (2147483647 : Int32)) % (7 : Int32)) ea eb ec ed ee ef eg) r31 (own_argV (p4 &&& (3 : Int32)) p5) r13 (own_argV (p1 &&& (3 : Int32)) p2) cs T33.heap n0 f33_0 f33_4 Scs hcs f33_6 G33_0 G33_1 f33_8 f33_9 f33_12 f33_7 (own_argl _ _) (own_argl _ _) sn32) hZ31 (tw_58 hw) (tw_3 hw) (by decide) (by decide)) q38a q38c (g := (mkF m 219 #[.val (.int p0), .val (.int p1), .val (.int p2), .val (.int p3), .val (.int p4), .val (.int p5), .val (.int ((p0 &&& (2147483647 : Int32)) % (7 : Int32))), .val (.int ((p3 &&& (2147483647 : Int32)) % (7 : Int32))), .val (.int (p1 &&& (3 : Int32))), .val (.int (p4 &&& (3 : Int32))), .val (.ref b11), .val (.int (((p1.toUInt32 >>> ((2 : Int32) &&& 31).toUInt32).toInt32) &&& (3 : Int32))), .val (.ref b29), .val (.int (0 : Int32))] [(.ref b11), (.ref b29)])) rfl (by rw [hml]; rfl) (Steps.refl _) (argsL := [(.ref b11)]) (rest := []) (lenOf pd__Ljava_lang_Object__Z rfl) rfl (by show 2 * 0 + _ ≤ _; exact Nat.le_of_eq rfl) (hb hby at_219) (fun _ _ => ⟨rfl, q37, (by decide : 14 + 0 ≤ _), (by decide : 28 + 0 ≤ _)⟩)
            dsimp only [Pt.U, Pt.locs, Pt.cells, Pt.slots] at X38 l38 y38 z38 st38 hQ38
            subst l38 y38 z38
            obtain ⟨rfl, N38q, q38⟩ := hQ38
            have N38 := Fr.app N37 N38q
            refine Go.by (fun t k => st38.trans k) ?_
            show Go p e below P (T38.setTop (mkF m 222 #[.val (.int p0), .val (.int p1), .val (.int p2), .val (.int p3), .val (.int p4), .val (.int p5), .val (.int ((p0 &&& (2147483647 : Int32)) % (7 : Int32))), .val (.int ((p3 &&& (2147483647 : Int32)) % (7 : Int32))), .val (.int (p1 &&& (3 : Int32))), .val (.int (p4 &&& (3 : Int32))), .val (.ref b11), .val (.int (((p1.toUInt32 >>> ((2 : Int32) &&& 31).toUInt32).toInt32) &&& (3 : Int32))), .val (.ref b29), .val (.int (0 : Int32))] [(.int (if (own_kind ((p3 &&& (2147483647 : Int32)) % (7 : Int32)) ea eb ec ed ee ef eg) = (own_kind ((p0 &&& (2147483647 : Int32)) % (7 : Int32)) ea eb ec ed ee ef eg) ∧ (own_argV (p4 &&& (3 : Int32)) p5) = (own_argV (p1 &&& (3 : Int32)) p2) then (1 : Int32) else 0))]))
            refine Go.by (fun _ => XS.iload X38.here hx rfl (hb hby at_222) rfl) ?_
            show Go p e below P (T38.setTop (mkF m 224 #[.val (.int p0), .val (.int p1), .val (.int p2), .val (.int p3), .val (.int p4), .val (.int p5), .val (.int ((p0 &&& (2147483647 : Int32)) % (7 : Int32))), .val (.int ((p3 &&& (2147483647 : Int32)) % (7 : Int32))), .val (.int (p1 &&& (3 : Int32))), .val (.int (p4 &&& (3 : Int32))), .val (.ref b11), .val (.int (((p1.toUInt32 >>> ((2 : Int32) &&& 31).toUInt32).toInt32) &&& (3 : Int32))), .val (.ref b29), .val (.int (0 : Int32))] [(.int (0 : Int32)), (.int (if (own_kind ((p3 &&& (2147483647 : Int32)) % (7 : Int32)) ea eb ec ed ee ef eg) = (own_kind ((p0 &&& (2147483647 : Int32)) % (7 : Int32)) ea eb ec ed ee ef eg) ∧ (own_argV (p4 &&& (3 : Int32)) p5) = (own_argV (p1 &&& (3 : Int32)) p2) then (1 : Int32) else 0))]))
            refine Go.by (fun _ => XS.icmpNo X38.here hx rfl (hb hby at_224) rfl (XT.ii_ne_f (if_neg (fun q => (own_sam p1 p2 p4 p5).mpr q.2.symm hc193_36)))) ?_
            show Go p e below P (T38.setTop (mkF m 227 #[.val (.int p0), .val (.int p1), .val (.int p2), .val (.int p3), .val (.int p4), .val (.int p5), .val (.int ((p0 &&& (2147483647 : Int32)) % (7 : Int32))), .val (.int ((p3 &&& (2147483647 : Int32)) % (7 : Int32))), .val (.int (p1 &&& (3 : Int32))), .val (.int (p4 &&& (3 : Int32))), .val (.ref b11), .val (.int (((p1.toUInt32 >>> ((2 : Int32) &&& 31).toUInt32).toInt32) &&& (3 : Int32))), .val (.ref b29), .val (.int (0 : Int32))] []))
            refine Go.by (fun _ => XS.iconst X38.here hx rfl (hb hby at_227)) ?_
            show Go p e below P (T38.setTop (mkF m 228 #[.val (.int p0), .val (.int p1), .val (.int p2), .val (.int p3), .val (.int p4), .val (.int p5), .val (.int ((p0 &&& (2147483647 : Int32)) % (7 : Int32))), .val (.int ((p3 &&& (2147483647 : Int32)) % (7 : Int32))), .val (.int (p1 &&& (3 : Int32))), .val (.int (p4 &&& (3 : Int32))), .val (.ref b11), .val (.int (((p1.toUInt32 >>> ((2 : Int32) &&& 31).toUInt32).toInt32) &&& (3 : Int32))), .val (.ref b29), .val (.int (0 : Int32))] [(.int (1 : Int32))]))
            refine Go.by (fun _ => XS.goto X38.here hx rfl (pc0 := 228) (pc' := 232) rfl (hb hby at_228) (by decide) (by decide)) ?_
            show Go p e below P (T38.setTop (mkF m 232 #[.val (.int p0), .val (.int p1), .val (.int p2), .val (.int p3), .val (.int p4), .val (.int p5), .val (.int ((p0 &&& (2147483647 : Int32)) % (7 : Int32))), .val (.int ((p3 &&& (2147483647 : Int32)) % (7 : Int32))), .val (.int (p1 &&& (3 : Int32))), .val (.int (p4 &&& (3 : Int32))), .val (.ref b11), .val (.int (((p1.toUInt32 >>> ((2 : Int32) &&& 31).toUInt32).toInt32) &&& (3 : Int32))), .val (.ref b29), .val (.int (0 : Int32))] [(.int (1 : Int32))]))
            refine fin X38 (v := some (.int (1 : Int32))) (fun h => by rw [Bd.returns] at h; cases h) (by decide) (by decide) q38 hS31 f33_2 hZ31 f33_1 ?_ (fun fs hr => retOut X38 hx Bd.returns rfl (Or.inl ⟨rfl, Or.inr (Or.inl rfl), _, rfl⟩) (hb hby at_232) hr)
            exact ⟨rfl, N38⟩
          · refine Go.by (fun _ => XS.ifNo X35.here hx rfl (hb hby at_193) rfl (XT.i0_eq_f hc193_36)) ?_
            show Go p e below P (T35.setTop (mkF m 196 #[.val (.int p0), .val (.int p1), .val (.int p2), .val (.int p3), .val (.int p4), .val (.int p5), .val (.int ((p0 &&& (2147483647 : Int32)) % (7 : Int32))), .val (.int ((p3 &&& (2147483647 : Int32)) % (7 : Int32))), .val (.int (p1 &&& (3 : Int32))), .val (.int (p4 &&& (3 : Int32))), .val (.ref b11), .val (.int (((p1.toUInt32 >>> ((2 : Int32) &&& 31).toUInt32).toInt32) &&& (3 : Int32))), .val (.ref b29), .unset] []))
            refine Go.by (fun _ => XS.iconst X35.here hx rfl (hb hby at_196)) ?_
            show Go p e below P (T35.setTop (mkF m 197 #[.val (.int p0), .val (.int p1), .val (.int p2), .val (.int p3), .val (.int p4), .val (.int p5), .val (.int ((p0 &&& (2147483647 : Int32)) % (7 : Int32))), .val (.int ((p3 &&& (2147483647 : Int32)) % (7 : Int32))), .val (.int (p1 &&& (3 : Int32))), .val (.int (p4 &&& (3 : Int32))), .val (.ref b11), .val (.int (((p1.toUInt32 >>> ((2 : Int32) &&& 31).toUInt32).toInt32) &&& (3 : Int32))), .val (.ref b29), .unset] [(.int (1 : Int32))]))
            refine Go.by (fun _ => XS.goto X35.here hx rfl (pc0 := 197) (pc' := 201) rfl (hb hby at_197) (by decide) (by decide)) ?_
            show Go p e below P (T35.setTop (mkF m 201 #[.val (.int p0), .val (.int p1), .val (.int p2), .val (.int p3), .val (.int p4), .val (.int p5), .val (.int ((p0 &&& (2147483647 : Int32)) % (7 : Int32))), .val (.int ((p3 &&& (2147483647 : Int32)) % (7 : Int32))), .val (.int (p1 &&& (3 : Int32))), .val (.int (p4 &&& (3 : Int32))), .val (.ref b11), .val (.int (((p1.toUInt32 >>> ((2 : Int32) &&& 31).toUInt32).toInt32) &&& (3 : Int32))), .val (.ref b29), .unset] [(.int (1 : Int32))]))
            refine Go.by (fun _ => XS.istore X35.here hx rfl (hb hby at_201) rfl (l' := #[.val (.int p0), .val (.int p1), .val (.int p2), .val (.int p3), .val (.int p4), .val (.int p5), .val (.int ((p0 &&& (2147483647 : Int32)) % (7 : Int32))), .val (.int ((p3 &&& (2147483647 : Int32)) % (7 : Int32))), .val (.int (p1 &&& (3 : Int32))), .val (.int (p4 &&& (3 : Int32))), .val (.ref b11), .val (.int (((p1.toUInt32 >>> ((2 : Int32) &&& 31).toUInt32).toInt32) &&& (3 : Int32))), .val (.ref b29), .val (.int (1 : Int32))]) rfl) ?_
            show Go p e below P (T35.setTop (mkF m 203 #[.val (.int p0), .val (.int p1), .val (.int p2), .val (.int p3), .val (.int p4), .val (.int p5), .val (.int ((p0 &&& (2147483647 : Int32)) % (7 : Int32))), .val (.int ((p3 &&& (2147483647 : Int32)) % (7 : Int32))), .val (.int (p1 &&& (3 : Int32))), .val (.int (p4 &&& (3 : Int32))), .val (.ref b11), .val (.int (((p1.toUInt32 >>> ((2 : Int32) &&& 31).toUInt32).toInt32) &&& (3 : Int32))), .val (.ref b29), .val (.int (1 : Int32))] []))
            refine Go.by (fun _ => XS.aload X35.here hx rfl (hb hby at_203) rfl rfl) ?_
            show Go p e below P (T35.setTop (mkF m 205 #[.val (.int p0), .val (.int p1), .val (.int p2), .val (.int p3), .val (.int p4), .val (.int p5), .val (.int ((p0 &&& (2147483647 : Int32)) % (7 : Int32))), .val (.int ((p3 &&& (2147483647 : Int32)) % (7 : Int32))), .val (.int (p1 &&& (3 : Int32))), .val (.int (p4 &&& (3 : Int32))), .val (.ref b11), .val (.int (((p1.toUInt32 >>> ((2 : Int32) &&& 31).toUInt32).toInt32) &&& (3 : Int32))), .val (.ref b29), .val (.int (1 : Int32))] [(.ref b11)]))
            refine Go.by (fun _ => XS.aload X35.here hx rfl (hb hby at_205) rfl rfl) ?_
            show Go p e below P (T35.setTop (mkF m 207 #[.val (.int p0), .val (.int p1), .val (.int p2), .val (.int p3), .val (.int p4), .val (.int p5), .val (.int ((p0 &&& (2147483647 : Int32)) % (7 : Int32))), .val (.int ((p3 &&& (2147483647 : Int32)) % (7 : Int32))), .val (.int (p1 &&& (3 : Int32))), .val (.int (p4 &&& (3 : Int32))), .val (.ref b11), .val (.int (((p1.toUInt32 >>> ((2 : Int32) &&& 31).toUInt32).toInt32) &&& (3 : Int32))), .val (.ref b29), .val (.int (1 : Int32))] [(.ref b29), (.ref b11)]))
            obtain ⟨cq39, kq39, q39a, q39b, q39c⟩ := isOf hZ31 q35 f33_6
            obtain ⟨_, _, ⟨T39, L39, k39, n39⟩, -, X39, ⟨Lc39, hQ39, l39, y39, z39⟩, st39⟩ := X35.virtualBack hx (y := (⟨"com/example/verdict/verdict/Action", "equals", "(Ljava/lang/Object;)Z"⟩ : MethodName)) (z := (⟨"com/example/verdict/verdict/Action", "equals", "(Ljava/lang/Object;)Z"⟩ : MethodName)) hown31 (mvT hZ31 (tw_54 hw)) (mvT hZ31 (tw_55 hw)) (notFace_of_selects (args := #[]) (mvT hZ31 (tw_57 hw))) (mvT hZ31 (tw_57 hw)) (mvT hZ31 (tw_56 hw)) (by decide) (backOf (W := 0) (rm_aeq l Z a0 hw [] b11 b29 (own_kind ((p0 &&& (2147483647 : Int32)) % (7 : Int32)) ea eb ec ed ee ef eg) (own_kind ((p3 &&& (2147483647 : Int32)) % (7 : Int32)) ea eb ec ed ee ef eg) r13 (own_argV (p1 &&& (3 : Int32)) p2) r31 (own_argV (p4 &&& (3 : Int32)) p5) cs T33.heap n0 f33_0 f33_4 Scs hcs f33_11 f33_8 f33_9 G33_0 G33_1 f33_7 f33_12 (own_argl _ _) (own_argl _ _) sm32) hZ31 (tw_58 hw) (tw_3 hw) (by decide) (by decide)) q39a q39c (g := (mkF m 207 #[.val (.int p0), .val (.int p1), .val (.int p2), .val (.int p3), .val (.int p4), .val (.int p5), .val (.int ((p0 &&& (2147483647 : Int32)) % (7 : Int32))), .val (.int ((p3 &&& (2147483647 : Int32)) % (7 : Int32))), .val (.int (p1 &&& (3 : Int32))), .val (.int (p4 &&& (3 : Int32))), .val (.ref b11), .val (.int (((p1.toUInt32 >>> ((2 : Int32) &&& 31).toUInt32).toInt32) &&& (3 : Int32))), .val (.ref b29), .val (.int (1 : Int32))] [(.ref b29), (.ref b11)])) rfl (by rw [hml]; rfl) (Steps.refl _) (argsL := [(.ref b29)]) (rest := []) (lenOf pd__Ljava_lang_Object__Z rfl) rfl (by show 2 * 0 + _ ≤ _; exact Nat.le_of_eq rfl) (hb hby at_207) (fun _ _ => ⟨rfl, q35, (by decide : 14 + 0 ≤ _), (by decide : 28 + 0 ≤ _)⟩)
            dsimp only [Pt.U, Pt.locs, Pt.cells, Pt.slots] at X39 l39 y39 z39 st39 hQ39
            subst l39 y39 z39
            obtain ⟨rfl, N39q, q39⟩ := hQ39
            have N39 := Fr.app N35 N39q
            refine Go.by (fun t k => st39.trans k) ?_
            show Go p e below P (T39.setTop (mkF m 210 #[.val (.int p0), .val (.int p1), .val (.int p2), .val (.int p3), .val (.int p4), .val (.int p5), .val (.int ((p0 &&& (2147483647 : Int32)) % (7 : Int32))), .val (.int ((p3 &&& (2147483647 : Int32)) % (7 : Int32))), .val (.int (p1 &&& (3 : Int32))), .val (.int (p4 &&& (3 : Int32))), .val (.ref b11), .val (.int (((p1.toUInt32 >>> ((2 : Int32) &&& 31).toUInt32).toInt32) &&& (3 : Int32))), .val (.ref b29), .val (.int (1 : Int32))] [(.int (if (own_kind ((p0 &&& (2147483647 : Int32)) % (7 : Int32)) ea eb ec ed ee ef eg) = (own_kind ((p3 &&& (2147483647 : Int32)) % (7 : Int32)) ea eb ec ed ee ef eg) ∧ (own_argV (p1 &&& (3 : Int32)) p2) = (own_argV (p4 &&& (3 : Int32)) p5) then (1 : Int32) else 0))]))
            refine Go.by (fun _ => XS.iload X39.here hx rfl (hb hby at_210) rfl) ?_
            show Go p e below P (T39.setTop (mkF m 212 #[.val (.int p0), .val (.int p1), .val (.int p2), .val (.int p3), .val (.int p4), .val (.int p5), .val (.int ((p0 &&& (2147483647 : Int32)) % (7 : Int32))), .val (.int ((p3 &&& (2147483647 : Int32)) % (7 : Int32))), .val (.int (p1 &&& (3 : Int32))), .val (.int (p4 &&& (3 : Int32))), .val (.ref b11), .val (.int (((p1.toUInt32 >>> ((2 : Int32) &&& 31).toUInt32).toInt32) &&& (3 : Int32))), .val (.ref b29), .val (.int (1 : Int32))] [(.int (1 : Int32)), (.int (if (own_kind ((p0 &&& (2147483647 : Int32)) % (7 : Int32)) ea eb ec ed ee ef eg) = (own_kind ((p3 &&& (2147483647 : Int32)) % (7 : Int32)) ea eb ec ed ee ef eg) ∧ (own_argV (p1 &&& (3 : Int32)) p2) = (own_argV (p4 &&& (3 : Int32)) p5) then (1 : Int32) else 0))]))
            refine Go.by (fun _ => XS.icmpNo X39.here hx rfl (hb hby at_212) rfl (XT.ii_ne_f (if_pos ⟨by rw [hc180_34], (own_sam p1 p2 p4 p5).mp hc193_36⟩))) ?_
            show Go p e below P (T39.setTop (mkF m 215 #[.val (.int p0), .val (.int p1), .val (.int p2), .val (.int p3), .val (.int p4), .val (.int p5), .val (.int ((p0 &&& (2147483647 : Int32)) % (7 : Int32))), .val (.int ((p3 &&& (2147483647 : Int32)) % (7 : Int32))), .val (.int (p1 &&& (3 : Int32))), .val (.int (p4 &&& (3 : Int32))), .val (.ref b11), .val (.int (((p1.toUInt32 >>> ((2 : Int32) &&& 31).toUInt32).toInt32) &&& (3 : Int32))), .val (.ref b29), .val (.int (1 : Int32))] []))
            refine Go.by (fun _ => XS.aload X39.here hx rfl (hb hby at_215) rfl rfl) ?_
            show Go p e below P (T39.setTop (mkF m 217 #[.val (.int p0), .val (.int p1), .val (.int p2), .val (.int p3), .val (.int p4), .val (.int p5), .val (.int ((p0 &&& (2147483647 : Int32)) % (7 : Int32))), .val (.int ((p3 &&& (2147483647 : Int32)) % (7 : Int32))), .val (.int (p1 &&& (3 : Int32))), .val (.int (p4 &&& (3 : Int32))), .val (.ref b11), .val (.int (((p1.toUInt32 >>> ((2 : Int32) &&& 31).toUInt32).toInt32) &&& (3 : Int32))), .val (.ref b29), .val (.int (1 : Int32))] [(.ref b29)]))
            refine Go.by (fun _ => XS.aload X39.here hx rfl (hb hby at_217) rfl rfl) ?_
            show Go p e below P (T39.setTop (mkF m 219 #[.val (.int p0), .val (.int p1), .val (.int p2), .val (.int p3), .val (.int p4), .val (.int p5), .val (.int ((p0 &&& (2147483647 : Int32)) % (7 : Int32))), .val (.int ((p3 &&& (2147483647 : Int32)) % (7 : Int32))), .val (.int (p1 &&& (3 : Int32))), .val (.int (p4 &&& (3 : Int32))), .val (.ref b11), .val (.int (((p1.toUInt32 >>> ((2 : Int32) &&& 31).toUInt32).toInt32) &&& (3 : Int32))), .val (.ref b29), .val (.int (1 : Int32))] [(.ref b11), (.ref b29)]))
            obtain ⟨cq40, kq40, q40a, q40b, q40c⟩ := isOf hZ31 q39 f33_11
            obtain ⟨_, _, ⟨T40, L40, k40, n40⟩, -, X40, ⟨Lc40, hQ40, l40, y40, z40⟩, st40⟩ := X39.virtualBack hx (y := (⟨"com/example/verdict/verdict/Action", "equals", "(Ljava/lang/Object;)Z"⟩ : MethodName)) (z := (⟨"com/example/verdict/verdict/Action", "equals", "(Ljava/lang/Object;)Z"⟩ : MethodName)) hown31 (mvT hZ31 (tw_54 hw)) (mvT hZ31 (tw_55 hw)) (notFace_of_selects (args := #[]) (mvT hZ31 (tw_57 hw))) (mvT hZ31 (tw_57 hw)) (mvT hZ31 (tw_56 hw)) (by decide) (backOf (W := 0) (rm_aeq l Z a0 hw [] b29 b11 (own_kind ((p3 &&& (2147483647 : Int32)) % (7 : Int32)) ea eb ec ed ee ef eg) (own_kind ((p0 &&& (2147483647 : Int32)) % (7 : Int32)) ea eb ec ed ee ef eg) r31 (own_argV (p4 &&& (3 : Int32)) p5) r13 (own_argV (p1 &&& (3 : Int32)) p2) cs T33.heap n0 f33_0 f33_4 Scs hcs f33_6 G33_0 G33_1 f33_8 f33_9 f33_12 f33_7 (own_argl _ _) (own_argl _ _) sn32) hZ31 (tw_58 hw) (tw_3 hw) (by decide) (by decide)) q40a q40c (g := (mkF m 219 #[.val (.int p0), .val (.int p1), .val (.int p2), .val (.int p3), .val (.int p4), .val (.int p5), .val (.int ((p0 &&& (2147483647 : Int32)) % (7 : Int32))), .val (.int ((p3 &&& (2147483647 : Int32)) % (7 : Int32))), .val (.int (p1 &&& (3 : Int32))), .val (.int (p4 &&& (3 : Int32))), .val (.ref b11), .val (.int (((p1.toUInt32 >>> ((2 : Int32) &&& 31).toUInt32).toInt32) &&& (3 : Int32))), .val (.ref b29), .val (.int (1 : Int32))] [(.ref b11), (.ref b29)])) rfl (by rw [hml]; rfl) (Steps.refl _) (argsL := [(.ref b11)]) (rest := []) (lenOf pd__Ljava_lang_Object__Z rfl) rfl (by show 2 * 0 + _ ≤ _; exact Nat.le_of_eq rfl) (hb hby at_219) (fun _ _ => ⟨rfl, q39, (by decide : 14 + 0 ≤ _), (by decide : 28 + 0 ≤ _)⟩)
            dsimp only [Pt.U, Pt.locs, Pt.cells, Pt.slots] at X40 l40 y40 z40 st40 hQ40
            subst l40 y40 z40
            obtain ⟨rfl, N40q, q40⟩ := hQ40
            have N40 := Fr.app N39 N40q
            refine Go.by (fun t k => st40.trans k) ?_
            show Go p e below P (T40.setTop (mkF m 222 #[.val (.int p0), .val (.int p1), .val (.int p2), .val (.int p3), .val (.int p4), .val (.int p5), .val (.int ((p0 &&& (2147483647 : Int32)) % (7 : Int32))), .val (.int ((p3 &&& (2147483647 : Int32)) % (7 : Int32))), .val (.int (p1 &&& (3 : Int32))), .val (.int (p4 &&& (3 : Int32))), .val (.ref b11), .val (.int (((p1.toUInt32 >>> ((2 : Int32) &&& 31).toUInt32).toInt32) &&& (3 : Int32))), .val (.ref b29), .val (.int (1 : Int32))] [(.int (if (own_kind ((p3 &&& (2147483647 : Int32)) % (7 : Int32)) ea eb ec ed ee ef eg) = (own_kind ((p0 &&& (2147483647 : Int32)) % (7 : Int32)) ea eb ec ed ee ef eg) ∧ (own_argV (p4 &&& (3 : Int32)) p5) = (own_argV (p1 &&& (3 : Int32)) p2) then (1 : Int32) else 0))]))
            refine Go.by (fun _ => XS.iload X40.here hx rfl (hb hby at_222) rfl) ?_
            show Go p e below P (T40.setTop (mkF m 224 #[.val (.int p0), .val (.int p1), .val (.int p2), .val (.int p3), .val (.int p4), .val (.int p5), .val (.int ((p0 &&& (2147483647 : Int32)) % (7 : Int32))), .val (.int ((p3 &&& (2147483647 : Int32)) % (7 : Int32))), .val (.int (p1 &&& (3 : Int32))), .val (.int (p4 &&& (3 : Int32))), .val (.ref b11), .val (.int (((p1.toUInt32 >>> ((2 : Int32) &&& 31).toUInt32).toInt32) &&& (3 : Int32))), .val (.ref b29), .val (.int (1 : Int32))] [(.int (1 : Int32)), (.int (if (own_kind ((p3 &&& (2147483647 : Int32)) % (7 : Int32)) ea eb ec ed ee ef eg) = (own_kind ((p0 &&& (2147483647 : Int32)) % (7 : Int32)) ea eb ec ed ee ef eg) ∧ (own_argV (p4 &&& (3 : Int32)) p5) = (own_argV (p1 &&& (3 : Int32)) p2) then (1 : Int32) else 0))]))
            refine Go.by (fun _ => XS.icmpNo X40.here hx rfl (hb hby at_224) rfl (XT.ii_ne_f (if_pos ⟨by rw [hc180_34], ((own_sam p1 p2 p4 p5).mp hc193_36).symm⟩))) ?_
            show Go p e below P (T40.setTop (mkF m 227 #[.val (.int p0), .val (.int p1), .val (.int p2), .val (.int p3), .val (.int p4), .val (.int p5), .val (.int ((p0 &&& (2147483647 : Int32)) % (7 : Int32))), .val (.int ((p3 &&& (2147483647 : Int32)) % (7 : Int32))), .val (.int (p1 &&& (3 : Int32))), .val (.int (p4 &&& (3 : Int32))), .val (.ref b11), .val (.int (((p1.toUInt32 >>> ((2 : Int32) &&& 31).toUInt32).toInt32) &&& (3 : Int32))), .val (.ref b29), .val (.int (1 : Int32))] []))
            refine Go.by (fun _ => XS.iconst X40.here hx rfl (hb hby at_227)) ?_
            show Go p e below P (T40.setTop (mkF m 228 #[.val (.int p0), .val (.int p1), .val (.int p2), .val (.int p3), .val (.int p4), .val (.int p5), .val (.int ((p0 &&& (2147483647 : Int32)) % (7 : Int32))), .val (.int ((p3 &&& (2147483647 : Int32)) % (7 : Int32))), .val (.int (p1 &&& (3 : Int32))), .val (.int (p4 &&& (3 : Int32))), .val (.ref b11), .val (.int (((p1.toUInt32 >>> ((2 : Int32) &&& 31).toUInt32).toInt32) &&& (3 : Int32))), .val (.ref b29), .val (.int (1 : Int32))] [(.int (1 : Int32))]))
            refine Go.by (fun _ => XS.goto X40.here hx rfl (pc0 := 228) (pc' := 232) rfl (hb hby at_228) (by decide) (by decide)) ?_
            show Go p e below P (T40.setTop (mkF m 232 #[.val (.int p0), .val (.int p1), .val (.int p2), .val (.int p3), .val (.int p4), .val (.int p5), .val (.int ((p0 &&& (2147483647 : Int32)) % (7 : Int32))), .val (.int ((p3 &&& (2147483647 : Int32)) % (7 : Int32))), .val (.int (p1 &&& (3 : Int32))), .val (.int (p4 &&& (3 : Int32))), .val (.ref b11), .val (.int (((p1.toUInt32 >>> ((2 : Int32) &&& 31).toUInt32).toInt32) &&& (3 : Int32))), .val (.ref b29), .val (.int (1 : Int32))] [(.int (1 : Int32))]))
            refine fin X40 (v := some (.int (1 : Int32))) (fun h => by rw [Bd.returns] at h; cases h) (by decide) (by decide) q40 hS31 f33_2 hZ31 f33_1 ?_ (fun fs hr => retOut X40 hx Bd.returns rfl (Or.inl ⟨rfl, Or.inr (Or.inl rfl), _, rfl⟩) (hb hby at_232) hr)
            exact ⟨rfl, N40⟩
        · refine Go.by (fun _ => XS.icmpYes X33.here hx rfl (pc0 := 180) (pc' := 200) rfl (hb hby at_180) rfl (XT.ii_ne_t hc180_34) (by decide) (by decide)) ?_
          show Go p e below P (T33.setTop (mkF m 200 #[.val (.int p0), .val (.int p1), .val (.int p2), .val (.int p3), .val (.int p4), .val (.int p5), .val (.int ((p0 &&& (2147483647 : Int32)) % (7 : Int32))), .val (.int ((p3 &&& (2147483647 : Int32)) % (7 : Int32))), .val (.int (p1 &&& (3 : Int32))), .val (.int (p4 &&& (3 : Int32))), .val (.ref b11), .val (.int (((p1.toUInt32 >>> ((2 : Int32) &&& 31).toUInt32).toInt32) &&& (3 : Int32))), .val (.ref b29), .unset] []))
          refine Go.by (fun _ => XS.iconst X33.here hx rfl (hb hby at_200)) ?_
          show Go p e below P (T33.setTop (mkF m 201 #[.val (.int p0), .val (.int p1), .val (.int p2), .val (.int p3), .val (.int p4), .val (.int p5), .val (.int ((p0 &&& (2147483647 : Int32)) % (7 : Int32))), .val (.int ((p3 &&& (2147483647 : Int32)) % (7 : Int32))), .val (.int (p1 &&& (3 : Int32))), .val (.int (p4 &&& (3 : Int32))), .val (.ref b11), .val (.int (((p1.toUInt32 >>> ((2 : Int32) &&& 31).toUInt32).toInt32) &&& (3 : Int32))), .val (.ref b29), .unset] [(.int (0 : Int32))]))
          refine Go.by (fun _ => XS.istore X33.here hx rfl (hb hby at_201) rfl (l' := #[.val (.int p0), .val (.int p1), .val (.int p2), .val (.int p3), .val (.int p4), .val (.int p5), .val (.int ((p0 &&& (2147483647 : Int32)) % (7 : Int32))), .val (.int ((p3 &&& (2147483647 : Int32)) % (7 : Int32))), .val (.int (p1 &&& (3 : Int32))), .val (.int (p4 &&& (3 : Int32))), .val (.ref b11), .val (.int (((p1.toUInt32 >>> ((2 : Int32) &&& 31).toUInt32).toInt32) &&& (3 : Int32))), .val (.ref b29), .val (.int (0 : Int32))]) rfl) ?_
          show Go p e below P (T33.setTop (mkF m 203 #[.val (.int p0), .val (.int p1), .val (.int p2), .val (.int p3), .val (.int p4), .val (.int p5), .val (.int ((p0 &&& (2147483647 : Int32)) % (7 : Int32))), .val (.int ((p3 &&& (2147483647 : Int32)) % (7 : Int32))), .val (.int (p1 &&& (3 : Int32))), .val (.int (p4 &&& (3 : Int32))), .val (.ref b11), .val (.int (((p1.toUInt32 >>> ((2 : Int32) &&& 31).toUInt32).toInt32) &&& (3 : Int32))), .val (.ref b29), .val (.int (0 : Int32))] []))
          refine Go.by (fun _ => XS.aload X33.here hx rfl (hb hby at_203) rfl rfl) ?_
          show Go p e below P (T33.setTop (mkF m 205 #[.val (.int p0), .val (.int p1), .val (.int p2), .val (.int p3), .val (.int p4), .val (.int p5), .val (.int ((p0 &&& (2147483647 : Int32)) % (7 : Int32))), .val (.int ((p3 &&& (2147483647 : Int32)) % (7 : Int32))), .val (.int (p1 &&& (3 : Int32))), .val (.int (p4 &&& (3 : Int32))), .val (.ref b11), .val (.int (((p1.toUInt32 >>> ((2 : Int32) &&& 31).toUInt32).toInt32) &&& (3 : Int32))), .val (.ref b29), .val (.int (0 : Int32))] [(.ref b11)]))
          refine Go.by (fun _ => XS.aload X33.here hx rfl (hb hby at_205) rfl rfl) ?_
          show Go p e below P (T33.setTop (mkF m 207 #[.val (.int p0), .val (.int p1), .val (.int p2), .val (.int p3), .val (.int p4), .val (.int p5), .val (.int ((p0 &&& (2147483647 : Int32)) % (7 : Int32))), .val (.int ((p3 &&& (2147483647 : Int32)) % (7 : Int32))), .val (.int (p1 &&& (3 : Int32))), .val (.int (p4 &&& (3 : Int32))), .val (.ref b11), .val (.int (((p1.toUInt32 >>> ((2 : Int32) &&& 31).toUInt32).toInt32) &&& (3 : Int32))), .val (.ref b29), .val (.int (0 : Int32))] [(.ref b29), (.ref b11)]))
          obtain ⟨cq41, kq41, q41a, q41b, q41c⟩ := isOf hZ31 rfl f33_6
          obtain ⟨_, _, ⟨T41, L41, k41, n41⟩, -, X41, ⟨Lc41, hQ41, l41, y41, z41⟩, st41⟩ := X33.virtualBack hx (y := (⟨"com/example/verdict/verdict/Action", "equals", "(Ljava/lang/Object;)Z"⟩ : MethodName)) (z := (⟨"com/example/verdict/verdict/Action", "equals", "(Ljava/lang/Object;)Z"⟩ : MethodName)) hown31 (mvT hZ31 (tw_54 hw)) (mvT hZ31 (tw_55 hw)) (notFace_of_selects (args := #[]) (mvT hZ31 (tw_57 hw))) (mvT hZ31 (tw_57 hw)) (mvT hZ31 (tw_56 hw)) (by decide) (backOf (W := 0) (rm_aeq l Z a0 hw [] b11 b29 (own_kind ((p0 &&& (2147483647 : Int32)) % (7 : Int32)) ea eb ec ed ee ef eg) (own_kind ((p3 &&& (2147483647 : Int32)) % (7 : Int32)) ea eb ec ed ee ef eg) r13 (own_argV (p1 &&& (3 : Int32)) p2) r31 (own_argV (p4 &&& (3 : Int32)) p5) cs T33.heap n0 f33_0 f33_4 Scs hcs f33_11 f33_8 f33_9 G33_0 G33_1 f33_7 f33_12 (own_argl _ _) (own_argl _ _) sm32) hZ31 (tw_58 hw) (tw_3 hw) (by decide) (by decide)) q41a q41c (g := (mkF m 207 #[.val (.int p0), .val (.int p1), .val (.int p2), .val (.int p3), .val (.int p4), .val (.int p5), .val (.int ((p0 &&& (2147483647 : Int32)) % (7 : Int32))), .val (.int ((p3 &&& (2147483647 : Int32)) % (7 : Int32))), .val (.int (p1 &&& (3 : Int32))), .val (.int (p4 &&& (3 : Int32))), .val (.ref b11), .val (.int (((p1.toUInt32 >>> ((2 : Int32) &&& 31).toUInt32).toInt32) &&& (3 : Int32))), .val (.ref b29), .val (.int (0 : Int32))] [(.ref b29), (.ref b11)])) rfl (by rw [hml]; rfl) (Steps.refl _) (argsL := [(.ref b29)]) (rest := []) (lenOf pd__Ljava_lang_Object__Z rfl) rfl (by show 2 * 0 + _ ≤ _; exact Nat.le_of_eq rfl) (hb hby at_207) (fun _ _ => ⟨rfl, rfl, (by decide : 14 + 0 ≤ _), (by decide : 28 + 0 ≤ _)⟩)
          dsimp only [Pt.U, Pt.locs, Pt.cells, Pt.slots] at X41 l41 y41 z41 st41 hQ41
          subst l41 y41 z41
          obtain ⟨rfl, N41q, q41⟩ := hQ41
          have N41 := Fr.app N33 N41q
          refine Go.by (fun t k => st41.trans k) ?_
          show Go p e below P (T41.setTop (mkF m 210 #[.val (.int p0), .val (.int p1), .val (.int p2), .val (.int p3), .val (.int p4), .val (.int p5), .val (.int ((p0 &&& (2147483647 : Int32)) % (7 : Int32))), .val (.int ((p3 &&& (2147483647 : Int32)) % (7 : Int32))), .val (.int (p1 &&& (3 : Int32))), .val (.int (p4 &&& (3 : Int32))), .val (.ref b11), .val (.int (((p1.toUInt32 >>> ((2 : Int32) &&& 31).toUInt32).toInt32) &&& (3 : Int32))), .val (.ref b29), .val (.int (0 : Int32))] [(.int (if (own_kind ((p0 &&& (2147483647 : Int32)) % (7 : Int32)) ea eb ec ed ee ef eg) = (own_kind ((p3 &&& (2147483647 : Int32)) % (7 : Int32)) ea eb ec ed ee ef eg) ∧ (own_argV (p1 &&& (3 : Int32)) p2) = (own_argV (p4 &&& (3 : Int32)) p5) then (1 : Int32) else 0))]))
          refine Go.by (fun _ => XS.iload X41.here hx rfl (hb hby at_210) rfl) ?_
          show Go p e below P (T41.setTop (mkF m 212 #[.val (.int p0), .val (.int p1), .val (.int p2), .val (.int p3), .val (.int p4), .val (.int p5), .val (.int ((p0 &&& (2147483647 : Int32)) % (7 : Int32))), .val (.int ((p3 &&& (2147483647 : Int32)) % (7 : Int32))), .val (.int (p1 &&& (3 : Int32))), .val (.int (p4 &&& (3 : Int32))), .val (.ref b11), .val (.int (((p1.toUInt32 >>> ((2 : Int32) &&& 31).toUInt32).toInt32) &&& (3 : Int32))), .val (.ref b29), .val (.int (0 : Int32))] [(.int (0 : Int32)), (.int (if (own_kind ((p0 &&& (2147483647 : Int32)) % (7 : Int32)) ea eb ec ed ee ef eg) = (own_kind ((p3 &&& (2147483647 : Int32)) % (7 : Int32)) ea eb ec ed ee ef eg) ∧ (own_argV (p1 &&& (3 : Int32)) p2) = (own_argV (p4 &&& (3 : Int32)) p5) then (1 : Int32) else 0))]))
          refine Go.by (fun _ => XS.icmpNo X41.here hx rfl (hb hby at_212) rfl (XT.ii_ne_f (if_neg (fun q => hc180_34 (own_kinj p0 p3 Fea Feb Fec Fed Fee Fef Feg q.1))))) ?_
          show Go p e below P (T41.setTop (mkF m 215 #[.val (.int p0), .val (.int p1), .val (.int p2), .val (.int p3), .val (.int p4), .val (.int p5), .val (.int ((p0 &&& (2147483647 : Int32)) % (7 : Int32))), .val (.int ((p3 &&& (2147483647 : Int32)) % (7 : Int32))), .val (.int (p1 &&& (3 : Int32))), .val (.int (p4 &&& (3 : Int32))), .val (.ref b11), .val (.int (((p1.toUInt32 >>> ((2 : Int32) &&& 31).toUInt32).toInt32) &&& (3 : Int32))), .val (.ref b29), .val (.int (0 : Int32))] []))
          refine Go.by (fun _ => XS.aload X41.here hx rfl (hb hby at_215) rfl rfl) ?_
          show Go p e below P (T41.setTop (mkF m 217 #[.val (.int p0), .val (.int p1), .val (.int p2), .val (.int p3), .val (.int p4), .val (.int p5), .val (.int ((p0 &&& (2147483647 : Int32)) % (7 : Int32))), .val (.int ((p3 &&& (2147483647 : Int32)) % (7 : Int32))), .val (.int (p1 &&& (3 : Int32))), .val (.int (p4 &&& (3 : Int32))), .val (.ref b11), .val (.int (((p1.toUInt32 >>> ((2 : Int32) &&& 31).toUInt32).toInt32) &&& (3 : Int32))), .val (.ref b29), .val (.int (0 : Int32))] [(.ref b29)]))
          refine Go.by (fun _ => XS.aload X41.here hx rfl (hb hby at_217) rfl rfl) ?_
          show Go p e below P (T41.setTop (mkF m 219 #[.val (.int p0), .val (.int p1), .val (.int p2), .val (.int p3), .val (.int p4), .val (.int p5), .val (.int ((p0 &&& (2147483647 : Int32)) % (7 : Int32))), .val (.int ((p3 &&& (2147483647 : Int32)) % (7 : Int32))), .val (.int (p1 &&& (3 : Int32))), .val (.int (p4 &&& (3 : Int32))), .val (.ref b11), .val (.int (((p1.toUInt32 >>> ((2 : Int32) &&& 31).toUInt32).toInt32) &&& (3 : Int32))), .val (.ref b29), .val (.int (0 : Int32))] [(.ref b11), (.ref b29)]))
          obtain ⟨cq42, kq42, q42a, q42b, q42c⟩ := isOf hZ31 q41 f33_11
          obtain ⟨_, _, ⟨T42, L42, k42, n42⟩, -, X42, ⟨Lc42, hQ42, l42, y42, z42⟩, st42⟩ := X41.virtualBack hx (y := (⟨"com/example/verdict/verdict/Action", "equals", "(Ljava/lang/Object;)Z"⟩ : MethodName)) (z := (⟨"com/example/verdict/verdict/Action", "equals", "(Ljava/lang/Object;)Z"⟩ : MethodName)) hown31 (mvT hZ31 (tw_54 hw)) (mvT hZ31 (tw_55 hw)) (notFace_of_selects (args := #[]) (mvT hZ31 (tw_57 hw))) (mvT hZ31 (tw_57 hw)) (mvT hZ31 (tw_56 hw)) (by decide) (backOf (W := 0) (rm_aeq l Z a0 hw [] b29 b11 (own_kind ((p3 &&& (2147483647 : Int32)) % (7 : Int32)) ea eb ec ed ee ef eg) (own_kind ((p0 &&& (2147483647 : Int32)) % (7 : Int32)) ea eb ec ed ee ef eg) r31 (own_argV (p4 &&& (3 : Int32)) p5) r13 (own_argV (p1 &&& (3 : Int32)) p2) cs T33.heap n0 f33_0 f33_4 Scs hcs f33_6 G33_0 G33_1 f33_8 f33_9 f33_12 f33_7 (own_argl _ _) (own_argl _ _) sn32) hZ31 (tw_58 hw) (tw_3 hw) (by decide) (by decide)) q42a q42c (g := (mkF m 219 #[.val (.int p0), .val (.int p1), .val (.int p2), .val (.int p3), .val (.int p4), .val (.int p5), .val (.int ((p0 &&& (2147483647 : Int32)) % (7 : Int32))), .val (.int ((p3 &&& (2147483647 : Int32)) % (7 : Int32))), .val (.int (p1 &&& (3 : Int32))), .val (.int (p4 &&& (3 : Int32))), .val (.ref b11), .val (.int (((p1.toUInt32 >>> ((2 : Int32) &&& 31).toUInt32).toInt32) &&& (3 : Int32))), .val (.ref b29), .val (.int (0 : Int32))] [(.ref b11), (.ref b29)])) rfl (by rw [hml]; rfl) (Steps.refl _) (argsL := [(.ref b11)]) (rest := []) (lenOf pd__Ljava_lang_Object__Z rfl) rfl (by show 2 * 0 + _ ≤ _; exact Nat.le_of_eq rfl) (hb hby at_219) (fun _ _ => ⟨rfl, q41, (by decide : 14 + 0 ≤ _), (by decide : 28 + 0 ≤ _)⟩)
          dsimp only [Pt.U, Pt.locs, Pt.cells, Pt.slots] at X42 l42 y42 z42 st42 hQ42
          subst l42 y42 z42
          obtain ⟨rfl, N42q, q42⟩ := hQ42
          have N42 := Fr.app N41 N42q
          refine Go.by (fun t k => st42.trans k) ?_
          show Go p e below P (T42.setTop (mkF m 222 #[.val (.int p0), .val (.int p1), .val (.int p2), .val (.int p3), .val (.int p4), .val (.int p5), .val (.int ((p0 &&& (2147483647 : Int32)) % (7 : Int32))), .val (.int ((p3 &&& (2147483647 : Int32)) % (7 : Int32))), .val (.int (p1 &&& (3 : Int32))), .val (.int (p4 &&& (3 : Int32))), .val (.ref b11), .val (.int (((p1.toUInt32 >>> ((2 : Int32) &&& 31).toUInt32).toInt32) &&& (3 : Int32))), .val (.ref b29), .val (.int (0 : Int32))] [(.int (if (own_kind ((p3 &&& (2147483647 : Int32)) % (7 : Int32)) ea eb ec ed ee ef eg) = (own_kind ((p0 &&& (2147483647 : Int32)) % (7 : Int32)) ea eb ec ed ee ef eg) ∧ (own_argV (p4 &&& (3 : Int32)) p5) = (own_argV (p1 &&& (3 : Int32)) p2) then (1 : Int32) else 0))]))
          refine Go.by (fun _ => XS.iload X42.here hx rfl (hb hby at_222) rfl) ?_
          show Go p e below P (T42.setTop (mkF m 224 #[.val (.int p0), .val (.int p1), .val (.int p2), .val (.int p3), .val (.int p4), .val (.int p5), .val (.int ((p0 &&& (2147483647 : Int32)) % (7 : Int32))), .val (.int ((p3 &&& (2147483647 : Int32)) % (7 : Int32))), .val (.int (p1 &&& (3 : Int32))), .val (.int (p4 &&& (3 : Int32))), .val (.ref b11), .val (.int (((p1.toUInt32 >>> ((2 : Int32) &&& 31).toUInt32).toInt32) &&& (3 : Int32))), .val (.ref b29), .val (.int (0 : Int32))] [(.int (0 : Int32)), (.int (if (own_kind ((p3 &&& (2147483647 : Int32)) % (7 : Int32)) ea eb ec ed ee ef eg) = (own_kind ((p0 &&& (2147483647 : Int32)) % (7 : Int32)) ea eb ec ed ee ef eg) ∧ (own_argV (p4 &&& (3 : Int32)) p5) = (own_argV (p1 &&& (3 : Int32)) p2) then (1 : Int32) else 0))]))
          refine Go.by (fun _ => XS.icmpNo X42.here hx rfl (hb hby at_224) rfl (XT.ii_ne_f (if_neg (fun q => hc180_34 (own_kinj p0 p3 Fea Feb Fec Fed Fee Fef Feg q.1.symm))))) ?_
          show Go p e below P (T42.setTop (mkF m 227 #[.val (.int p0), .val (.int p1), .val (.int p2), .val (.int p3), .val (.int p4), .val (.int p5), .val (.int ((p0 &&& (2147483647 : Int32)) % (7 : Int32))), .val (.int ((p3 &&& (2147483647 : Int32)) % (7 : Int32))), .val (.int (p1 &&& (3 : Int32))), .val (.int (p4 &&& (3 : Int32))), .val (.ref b11), .val (.int (((p1.toUInt32 >>> ((2 : Int32) &&& 31).toUInt32).toInt32) &&& (3 : Int32))), .val (.ref b29), .val (.int (0 : Int32))] []))
          refine Go.by (fun _ => XS.iconst X42.here hx rfl (hb hby at_227)) ?_
          show Go p e below P (T42.setTop (mkF m 228 #[.val (.int p0), .val (.int p1), .val (.int p2), .val (.int p3), .val (.int p4), .val (.int p5), .val (.int ((p0 &&& (2147483647 : Int32)) % (7 : Int32))), .val (.int ((p3 &&& (2147483647 : Int32)) % (7 : Int32))), .val (.int (p1 &&& (3 : Int32))), .val (.int (p4 &&& (3 : Int32))), .val (.ref b11), .val (.int (((p1.toUInt32 >>> ((2 : Int32) &&& 31).toUInt32).toInt32) &&& (3 : Int32))), .val (.ref b29), .val (.int (0 : Int32))] [(.int (1 : Int32))]))
          refine Go.by (fun _ => XS.goto X42.here hx rfl (pc0 := 228) (pc' := 232) rfl (hb hby at_228) (by decide) (by decide)) ?_
          show Go p e below P (T42.setTop (mkF m 232 #[.val (.int p0), .val (.int p1), .val (.int p2), .val (.int p3), .val (.int p4), .val (.int p5), .val (.int ((p0 &&& (2147483647 : Int32)) % (7 : Int32))), .val (.int ((p3 &&& (2147483647 : Int32)) % (7 : Int32))), .val (.int (p1 &&& (3 : Int32))), .val (.int (p4 &&& (3 : Int32))), .val (.ref b11), .val (.int (((p1.toUInt32 >>> ((2 : Int32) &&& 31).toUInt32).toInt32) &&& (3 : Int32))), .val (.ref b29), .val (.int (0 : Int32))] [(.int (1 : Int32))]))
          refine fin X42 (v := some (.int (1 : Int32))) (fun h => by rw [Bd.returns] at h; cases h) (by decide) (by decide) q42 hS31 f33_2 hZ31 f33_1 ?_ (fun fs hr => retOut X42 hx Bd.returns rfl (Or.inl ⟨rfl, Or.inr (Or.inl rfl), _, rfl⟩) (hb hby at_232) hr)
          exact ⟨rfl, N42⟩
set_option maxRecDepth 65536 in
set_option maxHeartbeats 40000000 in
theorem comes_1 {Post : Tables → Env → Array Value → State → Outcome → State → Prop} (hpost : ∀ tb e args s v u, (limb_1_1.after args s (.returned v) u = true ∧ limb_1_2.after args s (.returned v) u = true ∧ True) → ReturnedEndW s (.returned v) u (Jvm.fieldLocs frame_1_writes args s ++ Jvm.arrayLocs frame_1_arrays args s ++ Jvm.staticLocs frame_1_statics s) 32 1152 → Post tb e args s (.returned v) u) :
    ArmFor flags0 classFile x code maxLocals ret World_1 tables_1 room_1 Calls_1 rest_1 Pre_1 Post := by
  intro l hfl _ _ p e ha hc hk s m args below hf hA hF happ hP
  obtain ⟨hcalls, hrest, hpre⟩ := hP
  obtain ⟨-, -, -, hnamed, -, -, -, hat⟩ := (Spec.applies_iff hf).mp happ
  obtain ⟨hg, hn⟩ := and_e (Cond.before_iff.mp (show (Jvm.Cond.and given_1 narrow_1).before args s = true from hpre))
  obtain ⟨hg_0, hg_1⟩ := and_e hg
  obtain ⟨hg_2, hg_3⟩ := and_e hg_1
  obtain ⟨hg_4, hg_5⟩ := and_e hg_3
  obtain ⟨hg_6, hg_7⟩ := and_e hg_5
  obtain ⟨hg_8, hg_9⟩ := and_e hg_7
  obtain ⟨hg_10, hg_11⟩ := and_e hg_9
  obtain ⟨w0, w1, w2, w3, w4, w5, rfl⟩ : ∃ w0 w1 w2 w3 w4 w5 : Value, args = #[w0, w1, w2, w3, w4, w5] := by
    have hs : args.size = 6 := by simpa [Cond.value, given_1] using hg_0
    obtain ⟨L⟩ := args
    match L, hs with
    | [w0, w1, w2, w3, w4, w5], _ => exact ⟨w0, w1, w2, w3, w4, w5, rfl⟩
  have hw := fun d (hd : d ∈ tables_1) => atoms_spec (ws := Jvm.Cond.code x code maxLocals ret :: tables_1) hat d (List.mem_cons_of_mem _ hd)
  have hfit : Fit s := fun {y c} hc i hi => by
    obtain ⟨ha, rfl⟩ := Array.getElem?_eq_some_iff.mp hc
    have q := List.all_eq_true.mp ((Array.all_eq_true_iff_forall_mem.mp hF) _ (Array.getElem_mem ha)) i (List.mem_range.mpr hi)
    simpa [Array.getElem?_eq_getElem hi] using q
  obtain ⟨i0, ei0⟩ := is_v hg_2
  obtain rfl : w0 = (.int i0) := Option.some.inj ei0
  obtain ⟨i1, ei1⟩ := is_v hg_4
  obtain rfl : w1 = (.int i1) := Option.some.inj ei1
  obtain ⟨i2, ei2⟩ := is_v hg_6
  obtain rfl : w2 = (.int i2) := Option.some.inj ei2
  obtain ⟨i3, ei3⟩ := is_v hg_8
  obtain rfl : w3 = (.int i3) := Option.some.inj ei3
  obtain ⟨i4, ei4⟩ := is_v hg_10
  obtain rfl : w4 = (.int i4) := Option.some.inj ei4
  obtain ⟨i5, ei5⟩ := is_v hg_11
  obtain rfl : w5 = (.int i5) := Option.some.inj ei5
  obtain ⟨hn_0, hn_1⟩ := and_e hn
  obtain ⟨hn_2, hn_3⟩ := and_e hn_1
  obtain ⟨hn_4, hn_5⟩ := and_e hn_3
  obtain ⟨hn_6, hn_7⟩ := and_e hn_5
  obtain ⟨hn_8, hn_9⟩ := and_e hn_7
  obtain ⟨hn_10, hn_11⟩ := and_e hn_9
  obtain ⟨hn_12, hn_13⟩ := and_e hn_11
  obtain ⟨hn_14, hn_15⟩ := and_e hn_13
  obtain ⟨hn_16, hn_17⟩ := and_e hn_15
  obtain ⟨hn_18, hn_19⟩ := and_e hn_17
  obtain ⟨hn_20, hn_21⟩ := and_e hn_19
  obtain ⟨hn_22, hn_23⟩ := and_e hn_21
  obtain ⟨hn_24, hn_25⟩ := and_e hn_23
  obtain ⟨hsets, hown0⟩ := atoms_of _ (rest_1_c_eq ▸ (show rest_1_c.before _ s = true from hrest))
  obtain ⟨ea, evea⟩ := exa_v hn_0
  have Fea := own_fint evea hn_4
  have Sea := Sta.start evea (Or.inr ⟨(tw_9 hw), (tw_10 hw)⟩)
  obtain ⟨eb, eveb⟩ := exa_v hn_2
  have Feb := own_fint eveb hn_6
  have Seb := Sta.start eveb (Or.inr ⟨(tw_9 hw), (tw_53 hw)⟩)
  obtain ⟨ec, evec⟩ := exa_v hn_10
  have Fec := own_fint evec hn_22
  have Sec := Sta.start evec (Or.inr ⟨(tw_9 hw), (tw_80 hw)⟩)
  obtain ⟨ed, eved⟩ := exa_v hn_12
  have Fed := own_fint eved hn_14
  have Sed := Sta.start eved (Or.inr ⟨(tw_9 hw), (tw_82 hw)⟩)
  obtain ⟨ee, evee⟩ := exa_v hn_8
  have Fee := own_fint evee hn_24
  have See := Sta.start evee (Or.inr ⟨(tw_9 hw), (tw_62 hw)⟩)
  obtain ⟨ef, evef⟩ := exa_v hn_18
  have Fef := own_fint evef hn_20
  have Sef := Sta.start evef (Or.inr ⟨(tw_9 hw), (tw_90 hw)⟩)
  obtain ⟨eg, eveg⟩ := exa_v hn_16
  have Feg := own_fint eveg hn_25
  have Seg := Sta.start eveg (Or.inr ⟨(tw_9 hw), (tw_84 hw)⟩)
  obtain ⟨cs, evc⟩ := is_v (Cond.before_iff.mp (hsets _ (List.mem_of_getElem? (i := 1) rfl)))
  have Scs := Sta.start evc (Or.inl (hsets _ (List.mem_of_getElem? (i := 0) rfl)))
  have hcw : Jvm.Lit.compactW.before _ s = true := (hsets _ (List.mem_of_getElem? (i := 2) rfl))
  have hcs : ¬ cs = (0 : Int32) := by
    intro q
    have z := Cond.before_iff.mp hcw
    rw [q] at evc
    simp [Jvm.Lit.compactW, Cond.value, evc, Term.int_eval] at z
  have hEL := own_hEL hw
  have hCH : CHv s own_EL s.vm s.heap := CHv.start hEL (fun q hq => hcalls.1 q hq) hcw (tw_33 hw) (tw_16 hw)
  obtain ⟨n, o, h1, h2, h3, _, L, rfl, ⟨rfl, N⟩, -, hq⟩ := rm_law l s _ hw hEL tables_1 i0 i1 i2 i3 i4 i5 ea eb ec ed ee ef eg cs s.heap s.heap.size (Nat.le_refl _) (Old.start s) Sea Seb Sec Sed See Sef Seg Fea Feb Fec Fed Fee Fef Feg Scs hcs p e ha hc hk s m _ below hf ((Spec.applies_iff_loose hf).mp happ).1 ⟨rfl, State.Warmed39.refl s, rfl, hCH, fun _ q => nomatch q⟩ trivial
  refine ⟨n, _, h1, h2, h3, hpost _ _ _ _ _ _ ⟨Cond.after_iff.mpr rfl, Cond.after_iff.mpr (eq_i res_at (Term.int_eval (1)) rfl), trivial⟩ ⟨hq.1, hq.2.1, hq.2.2.1, (hq.2.2.2.sift fun y hy => Or.inr (N y hy)).mono (by decide) (by decide)⟩⟩
theorem main_1_1 : Claimed_1_1 := comes_1 fun _ _ _ _ _ _ h hF => ⟨h.1, hF⟩
theorem main_1_2 : Claimed_1_2 := comes_1 fun _ _ _ _ _ _ h hF => ⟨h.2.1, hF⟩
end Jvm.Pilot.@@N@@
namespace Jvm.Pilot.@@N@@
open Jvm Jvm.ClassFile Sem Op Lib Jvm.Free Jvm.Stand Jvm.Pilot.@@N@@.Jvm.D
/-! MADE BY PROGRAM (witnessworld.py) out of the Statement's table words and the real class files: 23 classes; the members and pool entries that the words name. The judged class is class 1, her method 4. -/
namespace start1
open Jvm.ClassFile
def u (s : String) : CpInfo := .utf8 (stringToUtf16 s)
/-- a pool by its gaps: so many unusable entries, then the entry; so many at the end -/
def gap : Nat → List CpInfo → List CpInfo
  | 0, r => r
  | n + 1, r => .unusable :: gap n r
def poolList (es : List (Nat × CpInfo)) (last : Nat) : List CpInfo := es.foldr (fun e r => gap e.1 (e.2 :: r)) (gap last [])
def pool (es : List (Nat × CpInfo)) (last : Nat) : Array CpInfo := ⟨poolList es last⟩
def fileOf (pool : Array CpInfo) (this : Nat) (attrs : Array Attribute := #[]) (ms : Array MethodInfo := #[]) (fl : Nat := 33) (sup : Nat := 0) (ifs : Array Nat := #[]) (fds : Array FieldInfo := #[]) : ClassFile where
  minorVersion := 0
  majorVersion := 65
  constantPool := pool
  accessFlags := fl
  thisClass := this
  superClass := sup
  interfaces := ifs
  fields := fds
  methods := ms
  attributes := attrs
def plain (name : String) (sup : Option ClassId) : Class where
  name := name
  kind := .ordinary
  loader := none
  accessFlags := 33
  super := sup
  interfaces := #[]
  cf := none
  fields := #[]
  methods := #[]
  instanceTypes := #[]
  staticTypes := #[]
  resolved := #[]
  callSites := []
  init := .initialized
  statics := none
  mirror := none

def pool0 : Array CpInfo := pool [(5, u "<init>"), (0, u "()V"), (1, .class_ 10), (1, u "java/lang/Object"), (81, u "equals"), (0, u "(Ljava/lang/Object;)Z")] 30

def k0c0 : Code := { maxStack := 0, maxLocals := 1, code := object_method_1_code, exceptionTable := #[], attributes := #[] }
def k0m0 : Method := { name := "<init>", desc := "()V", sig := { parameters := [], returnType := none }, accessFlags := 1, code := some k0c0 }
def k0c1 : Code := { maxStack := 2, maxLocals := 2, code := ⟨#[0x2a, 0x2b, 0xa6, 0x00, 0x07, 0x04, 0xa7, 0x00, 0x04, 0x03, 0xac]⟩, exceptionTable := #[], attributes := #[] }
def k0m1 : Method := { name := "equals", desc := "(Ljava/lang/Object;)Z", sig := { parameters := [(.object "java/lang/Object")], returnType := some .boolean }, accessFlags := 1, code := some k0c1 }
/-- java/lang/Object -/
def k0 : Class := { plain "java/lang/Object" none with
  accessFlags := 33
  interfaces := #[]
  cf := some (fileOf pool0 8 #[] #[{ accessFlags := 1, nameIndex := 5, descriptorIndex := 6, attributes := #[] }, { accessFlags := 1, nameIndex := 92, descriptorIndex := 93, attributes := #[] }] 33 0 #[] #[])
  fields := #[]
  methods := #[k0m0, k0m1]
  instanceTypes := #[]
  staticTypes := #[]
  resolved := Array.replicate 124 none
  statics := none }

def pool1 : Array CpInfo := pool [(2, .class_ 4), (1, u "java/lang/Object"), (0, u "<init>"), (0, u "()V"), (0, .fieldref 8 9), (0, .class_ 10), (0, .nameAndType 11 12), (0, u "com/example/verdict/verdict/Action$Kind"), (0, u "KEEP"), (0, u "Lcom/example/verdict/verdict/Action$Kind;"), (0, .fieldref 8 14), (0, .nameAndType 15 12), (0, u "DISCARD"), (0, .fieldref 8 17), (0, .nameAndType 18 12), (0, u "BOUNCE"), (0, .fieldref 8 20), (0, .nameAndType 21 12), (0, u "REDIRECT"), (0, .fieldref 8 23), (0, .nameAndType 24 12), (0, u "CHALLENGE"), (0, .fieldref 8 26), (0, .nameAndType 27 12), (0, u "LEARN_KEY"), (0, .fieldref 8 29), (0, .nameAndType 30 12), (0, u "INOCULATE"), (0, .class_ 32), (0, u "java/lang/String"), (0, .methodref 31 34), (0, .nameAndType 5 35), (0, u "([C)V"), (0, .methodref 31 37), (0, .nameAndType 38 39), (0, u "valueOf"), (0, u "(C)Ljava/lang/String;"), (0, .integer 2147483647), (0, .class_ 42), (0, u "com/example/verdict/verdict/Action"), (0, .methodref 44 45), (0, .class_ 46), (0, .nameAndType 47 48), (0, u "com/example/verdict/verdict/ActionEqualsPinLaw"), (0, u "kindOf"), (0, u "(I)Lcom/example/verdict/verdict/Action$Kind;"), (0, .methodref 44 50), (0, .nameAndType 51 52), (0, u "arg"), (0, u "(II)Ljava/lang/String;"), (0, .methodref 41 54), (0, .nameAndType 5 55), (0, u "(Lcom/example/verdict/verdict/Action$Kind;Ljava/lang/String;)V"), (0, .methodref 41 57), (0, .nameAndType 58 59), (0, u "equals"), (0, u "(Ljava/lang/Object;)Z"), (0, .methodref 44 61), (0, .nameAndType 62 63), (0, u "sameArg"), (0, u "(IIII)Z"), (3, u "law"), (0, u "(IIIIII)Z")] 4

def k1m0 : Method := { name := "<init>", desc := "()V", sig := { parameters := [], returnType := none }, accessFlags := 1, code := none }
def k1c1 : Code := { maxStack := 2, maxLocals := 1, code := method_2_code, exceptionTable := #[], attributes := #[] }
def k1m1 : Method := { name := "kindOf", desc := "(I)Lcom/example/verdict/verdict/Action$Kind;", sig := { parameters := [.int], returnType := some (.object "com/example/verdict/verdict/Action$Kind") }, accessFlags := 10, code := some k1c1 }
def k1c2 : Code := { maxStack := 4, maxLocals := 3, code := method_3_code, exceptionTable := #[], attributes := #[] }
def k1m2 : Method := { name := "arg", desc := "(II)Ljava/lang/String;", sig := { parameters := [.int, .int], returnType := some (.object "java/lang/String") }, accessFlags := 10, code := some k1c2 }
def k1c3 : Code := { maxStack := 3, maxLocals := 4, code := method_4_code, exceptionTable := #[], attributes := #[] }
def k1m3 : Method := { name := "sameArg", desc := "(IIII)Z", sig := { parameters := [.int, .int, .int, .int], returnType := some .boolean }, accessFlags := 10, code := some k1c3 }
def k1c4 : Code := { maxStack := 6, maxLocals := 14, code := code, exceptionTable := #[], attributes := #[] }
def k1m4 : Method := { name := "law", desc := "(IIIIII)Z", sig := { parameters := [.int, .int, .int, .int, .int, .int], returnType := some .boolean }, accessFlags := 9, code := some k1c4 }
/-- com/example/verdict/verdict/ActionEqualsPinLaw -/
def k1 : Class := { plain "com/example/verdict/verdict/ActionEqualsPinLaw" (some 0) with
  accessFlags := 49
  interfaces := #[]
  cf := some (fileOf pool1 44 #[] #[{ accessFlags := 1, nameIndex := 5, descriptorIndex := 6, attributes := #[] }, { accessFlags := 10, nameIndex := 47, descriptorIndex := 48, attributes := #[] }, { accessFlags := 10, nameIndex := 51, descriptorIndex := 52, attributes := #[] }, { accessFlags := 10, nameIndex := 62, descriptorIndex := 63, attributes := #[] }, { accessFlags := 9, nameIndex := 67, descriptorIndex := 68, attributes := #[] }] 49 2 #[] #[])
  fields := #[]
  methods := #[k1m0, k1m1, k1m2, k1m3, k1m4]
  instanceTypes := #[]
  staticTypes := #[]
  resolved := Array.replicate 73 none
  statics := none }

def pool2 : Array CpInfo := pool [(1, .methodref 2 3), (0, .class_ 4), (0, .nameAndType 5 6), (0, u "java/lang/Object"), (0, u "<init>"), (0, u "()V"), (0, .fieldref 8 9), (0, .class_ 10), (0, .nameAndType 11 12), (0, u "com/example/verdict/verdict/Action"), (0, u "kind"), (0, u "Lcom/example/verdict/verdict/Action$Kind;"), (0, .fieldref 8 14), (0, .nameAndType 15 16), (0, u "argument"), (0, u "Ljava/lang/String;"), (1, .class_ 20), (1, u "com/example/verdict/verdict/Action$Kind"), (20, .methodref 42 43), (0, .class_ 44), (0, .nameAndType 45 46), (0, u "java/util/Objects"), (0, u "equals"), (0, u "(Ljava/lang/Object;Ljava/lang/Object;)Z"), (6, u "KEEP"), (2, u "(Lcom/example/verdict/verdict/Action$Kind;Ljava/lang/String;)V"), (2, u "Lcom/example/verdict/verdict/Action;"), (2, u "DISCARD"), (4, u "CHALLENGE"), (4, u "LEARN_KEY"), (8, u "(Ljava/lang/Object;)Z")] 23

def k2c0 : Code := { maxStack := 2, maxLocals := 3, code := prog_1_method_1_code, exceptionTable := #[], attributes := #[] }
def k2m0 : Method := { name := "<init>", desc := "(Lcom/example/verdict/verdict/Action$Kind;Ljava/lang/String;)V", sig := { parameters := [(.object "com/example/verdict/verdict/Action$Kind"), (.object "java/lang/String")], returnType := none }, accessFlags := 0, code := some k2c0 }
def k2c1 : Code := { maxStack := 2, maxLocals := 3, code := prog_1_method_5_code, exceptionTable := #[], attributes := #[] }
def k2m1 : Method := { name := "equals", desc := "(Ljava/lang/Object;)Z", sig := { parameters := [(.object "java/lang/Object")], returnType := some .boolean }, accessFlags := 1, code := some k2c1 }
/-- com/example/verdict/verdict/Action -/
def k2 : Class := { plain "com/example/verdict/verdict/Action" (some 0) with
  accessFlags := 48
  interfaces := #[]
  cf := some (fileOf pool2 8 #[.nestMembers #[18]] #[{ accessFlags := 0, nameIndex := 5, descriptorIndex := 56, attributes := #[] }, { accessFlags := 1, nameIndex := 45, descriptorIndex := 81, attributes := #[] }] 48 2 #[] #[{ accessFlags := 24, nameIndex := 53, descriptorIndex := 59, attributes := #[] }, { accessFlags := 24, nameIndex := 62, descriptorIndex := 59, attributes := #[] }, { accessFlags := 24, nameIndex := 67, descriptorIndex := 59, attributes := #[] }, { accessFlags := 24, nameIndex := 72, descriptorIndex := 59, attributes := #[] }, { accessFlags := 18, nameIndex := 11, descriptorIndex := 12, attributes := #[] }, { accessFlags := 18, nameIndex := 15, descriptorIndex := 16, attributes := #[] }])
  fields := #[{ name := "KEEP", type := (.object "com/example/verdict/verdict/Action"), accessFlags := 24, slot := 0, constantValue := 0 }, { name := "DISCARD", type := (.object "com/example/verdict/verdict/Action"), accessFlags := 24, slot := 1, constantValue := 0 }, { name := "CHALLENGE", type := (.object "com/example/verdict/verdict/Action"), accessFlags := 24, slot := 2, constantValue := 0 }, { name := "LEARN_KEY", type := (.object "com/example/verdict/verdict/Action"), accessFlags := 24, slot := 3, constantValue := 0 }, { name := "kind", type := (.object "com/example/verdict/verdict/Action$Kind"), accessFlags := 18, slot := 0, constantValue := 0 }, { name := "argument", type := (.object "java/lang/String"), accessFlags := 18, slot := 1, constantValue := 0 }]
  methods := #[k2m0, k2m1]
  instanceTypes := #[(.object "com/example/verdict/verdict/Action$Kind"), (.object "java/lang/String")]
  staticTypes := #[(.object "com/example/verdict/verdict/Action"), (.object "com/example/verdict/verdict/Action"), (.object "com/example/verdict/verdict/Action"), (.object "com/example/verdict/verdict/Action")]
  resolved := Array.replicate 105 none
  statics := none }

def pool3 : Array CpInfo := pool [(1, .class_ 2), (0, u "java/lang/constant/Constable"), (0, .class_ 4), (0, u "java/lang/Object")] 6

/-- java/lang/constant/Constable -/
def k3 : Class := { plain "java/lang/constant/Constable" (some 0) with
  accessFlags := 1537
  interfaces := #[]
  cf := some (fileOf pool3 1 #[] #[] 1537 3 #[] #[])
  fields := #[]
  methods := #[]
  instanceTypes := #[]
  staticTypes := #[]
  resolved := Array.replicate 11 none
  statics := none }

def pool4 : Array CpInfo := pool [(1, .class_ 2), (0, u "java/lang/Comparable"), (0, .class_ 4), (0, u "java/lang/Object")] 7

/-- java/lang/Comparable -/
def k4 : Class := { plain "java/lang/Comparable" (some 0) with
  accessFlags := 1537
  interfaces := #[]
  cf := some (fileOf pool4 1 #[] #[] 1537 3 #[] #[])
  fields := #[]
  methods := #[]
  instanceTypes := #[]
  staticTypes := #[]
  resolved := Array.replicate 12 none
  statics := none }

def pool5 : Array CpInfo := pool [(1, .class_ 2), (0, u "java/io/Serializable"), (0, .class_ 4), (0, u "java/lang/Object")] 2

/-- java/io/Serializable -/
def k5 : Class := { plain "java/io/Serializable" (some 0) with
  accessFlags := 1537
  interfaces := #[]
  cf := some (fileOf pool5 1 #[] #[] 1537 3 #[] #[])
  fields := #[]
  methods := #[]
  instanceTypes := #[]
  staticTypes := #[]
  resolved := Array.replicate 7 none
  statics := none }

def pool6 : Array CpInfo := pool [(2, .class_ 4), (1, u "java/lang/Enum"), (0, u "name"), (0, u "Ljava/lang/String;"), (2, u "ordinal"), (0, u "I"), (1, .class_ 14), (1, u "java/lang/Object"), (4, u "hash"), (86, .class_ 108), (1, u "java/lang/Enum$EnumDesc"), (2, .class_ 112), (0, u "java/lang/constant/Constable"), (0, .class_ 114), (0, u "java/lang/Comparable"), (0, .class_ 116), (0, u "java/io/Serializable")] 87

/-- java/lang/Enum -/
def k6 : Class := { plain "java/lang/Enum" (some 0) with
  accessFlags := 1057
  interfaces := #[3, 4, 5]
  cf := some (fileOf pool6 2 #[.nestMembers #[106]] #[] 1057 12 #[111, 113, 115] #[{ accessFlags := 18, nameIndex := 5, descriptorIndex := 6, attributes := #[] }, { accessFlags := 18, nameIndex := 9, descriptorIndex := 10, attributes := #[] }, { accessFlags := 2, nameIndex := 19, descriptorIndex := 10, attributes := #[] }])
  fields := #[{ name := "name", type := (.object "java/lang/String"), accessFlags := 18, slot := 0, constantValue := 0 }, { name := "ordinal", type := .int, accessFlags := 18, slot := 1, constantValue := 0 }, { name := "hash", type := .int, accessFlags := 2, slot := 2, constantValue := 0 }]
  methods := #[]
  instanceTypes := #[(.object "java/lang/String"), .int, .int]
  staticTypes := #[]
  resolved := Array.replicate 204 none
  statics := none }

def pool7 : Array CpInfo := pool [(1, .class_ 2), (0, u "com/example/verdict/verdict/Action$Kind"), (2, u "KEEP"), (0, u "Lcom/example/verdict/verdict/Action$Kind;"), (2, u "DISCARD"), (2, u "BOUNCE"), (2, u "REDIRECT"), (2, u "CHALLENGE"), (2, u "LEARN_KEY"), (2, u "INOCULATE"), (2, u "$VALUES"), (0, u "[Lcom/example/verdict/verdict/Action$Kind;"), (6, .class_ 37), (1, u "java/lang/Enum"), (8, u "policyId"), (0, u "Ljava/lang/String;"), (51, .class_ 100), (0, u "com/example/verdict/verdict/Action")] 2

/-- com/example/verdict/verdict/Action$Kind -/
def k7 : Class := { plain "com/example/verdict/verdict/Action$Kind" (some 6) with
  accessFlags := 16432
  interfaces := #[]
  cf := some (fileOf pool7 1 #[.nestHost 99] #[] 16432 35 #[] #[{ accessFlags := 16409, nameIndex := 5, descriptorIndex := 6, attributes := #[] }, { accessFlags := 16409, nameIndex := 9, descriptorIndex := 6, attributes := #[] }, { accessFlags := 16409, nameIndex := 12, descriptorIndex := 6, attributes := #[] }, { accessFlags := 16409, nameIndex := 15, descriptorIndex := 6, attributes := #[] }, { accessFlags := 16409, nameIndex := 18, descriptorIndex := 6, attributes := #[] }, { accessFlags := 16409, nameIndex := 21, descriptorIndex := 6, attributes := #[] }, { accessFlags := 16409, nameIndex := 24, descriptorIndex := 6, attributes := #[] }, { accessFlags := 18, nameIndex := 46, descriptorIndex := 47, attributes := #[] }, { accessFlags := 4122, nameIndex := 27, descriptorIndex := 28, attributes := #[] }])
  fields := #[{ name := "KEEP", type := (.object "com/example/verdict/verdict/Action$Kind"), accessFlags := 16409, slot := 0, constantValue := 0 }, { name := "DISCARD", type := (.object "com/example/verdict/verdict/Action$Kind"), accessFlags := 16409, slot := 1, constantValue := 0 }, { name := "BOUNCE", type := (.object "com/example/verdict/verdict/Action$Kind"), accessFlags := 16409, slot := 2, constantValue := 0 }, { name := "REDIRECT", type := (.object "com/example/verdict/verdict/Action$Kind"), accessFlags := 16409, slot := 3, constantValue := 0 }, { name := "CHALLENGE", type := (.object "com/example/verdict/verdict/Action$Kind"), accessFlags := 16409, slot := 4, constantValue := 0 }, { name := "LEARN_KEY", type := (.object "com/example/verdict/verdict/Action$Kind"), accessFlags := 16409, slot := 5, constantValue := 0 }, { name := "INOCULATE", type := (.object "com/example/verdict/verdict/Action$Kind"), accessFlags := 16409, slot := 6, constantValue := 0 }, { name := "policyId", type := (.object "java/lang/String"), accessFlags := 18, slot := 3, constantValue := 0 }, { name := "$VALUES", type := (.array (.object "com/example/verdict/verdict/Action$Kind")), accessFlags := 4122, slot := 7, constantValue := 0 }]
  methods := #[]
  instanceTypes := #[(.object "java/lang/String"), .int, .int, (.object "java/lang/String")]
  staticTypes := #[(.object "com/example/verdict/verdict/Action$Kind"), (.object "com/example/verdict/verdict/Action$Kind"), (.object "com/example/verdict/verdict/Action$Kind"), (.object "com/example/verdict/verdict/Action$Kind"), (.object "com/example/verdict/verdict/Action$Kind"), (.object "com/example/verdict/verdict/Action$Kind"), (.object "com/example/verdict/verdict/Action$Kind"), (.array (.object "com/example/verdict/verdict/Action$Kind"))]
  resolved := Array.replicate 103 none
  statics := some 0 }

def pool8 : Array CpInfo := pool [(2, .class_ 4), (1, u "java/lang/CharSequence"), (42, .class_ 48), (0, u "java/lang/CharSequence$1CodePointIterator"), (10, .class_ 60), (0, u "java/lang/CharSequence$1CharIterator"), (5, .class_ 67), (0, u "java/lang/Object")] 63

/-- java/lang/CharSequence -/
def k8 : Class := { plain "java/lang/CharSequence" (some 0) with
  accessFlags := 1537
  interfaces := #[]
  cf := some (fileOf pool8 2 #[.nestMembers #[47, 59]] #[] 1537 66 #[] #[])
  fields := #[]
  methods := #[]
  instanceTypes := #[]
  staticTypes := #[]
  resolved := Array.replicate 131 none
  statics := none }

def pool9 : Array CpInfo := pool [(1, .class_ 2), (0, u "java/lang/constant/ConstantDesc"), (0, .class_ 4), (0, u "java/lang/Object")] 32

/-- java/lang/constant/ConstantDesc -/
def k9 : Class := { plain "java/lang/constant/ConstantDesc" (some 0) with
  accessFlags := 1537
  interfaces := #[]
  cf := some (fileOf pool9 1 #[] #[] 1537 3 #[] #[])
  fields := #[]
  methods := #[]
  instanceTypes := #[]
  staticTypes := #[]
  resolved := Array.replicate 37 none
  statics := none }

def pool10 : Array CpInfo := pool [(1, .methodref 2 3), (0, .class_ 4), (0, .nameAndType 5 6), (0, u "java/lang/Object"), (0, u "<init>"), (0, u "()V"), (0, .string 8), (0, u ""), (0, .fieldref 10 11), (0, .class_ 12), (0, .nameAndType 13 14), (0, u "java/lang/String"), (0, u "value"), (0, u "[B"), (0, .fieldref 10 16), (0, .nameAndType 17 18), (0, u "coder"), (0, u "B"), (2, u "hash"), (0, u "I"), (2, u "hashIsZero"), (0, u "Z"), (0, .methodref 10 28), (0, .nameAndType 5 29), (0, u "([CIILjava/lang/Void;)V"), (8, .fieldref 10 39), (0, .nameAndType 40 26), (0, u "COMPACT_STRINGS"), (1, .class_ 44), (1, u "java/lang/StringUTF16"), (0, u "compress"), (1, .methodref 42 48), (0, .nameAndType 49 50), (0, u "coderFromArrayLen"), (0, u "([BI)B"), (2, u "toBytes"), (53, .class_ 109), (1, u "java/lang/StringLatin1"), (67, .methodref 42 178), (0, .nameAndType 45 179), (0, u "([CII)[B"), (29, .methodref 10 210), (0, .nameAndType 5 211), (0, u "([BB)V"), (157, u "(C)Z"), (171, .methodref 107 542), (0, .nameAndType 543 544), (0, u "equals"), (0, u "([B[B)Z"), (28, u "(Ljava/lang/Object;)Z"), (1, .class_ 576), (0, u "java/lang/CharSequence"), (22, u "CASE_INSENSITIVE_ORDER"), (0, u "Ljava/util/Comparator;"), (181, u "valueOf"), (0, u "(C)Ljava/lang/String;"), (226, u "([C)V"), (4, .methodref 107 1016), (0, .nameAndType 1017 369), (0, u "canEncode"), (0, .methodref 107 1019), (0, .nameAndType 53 1020), (0, u "(C)[B"), (80, u "serialPersistentFields"), (0, u "[Ljava/io/ObjectStreamField;"), (0, .class_ 1104), (0, u "java/lang/String$CaseInsensitiveComparator"), (1, .class_ 1107), (0, u "java/io/Serializable"), (0, .class_ 1109), (0, u "java/lang/Comparable"), (0, .class_ 1111), (0, u "java/lang/constant/Constable"), (0, .class_ 1113), (0, u "java/lang/constant/ConstantDesc"), (2, u "serialVersionUID"), (0, u "J"), (3, u "REPL"), (0, u "C"), (2, u "LATIN1"), (1, u "UTF16")] 323

def k10m0 : Method := { name := "<init>", desc := "()V", sig := { parameters := [], returnType := none }, accessFlags := 1, code := none }
def k10c1 : Code := { maxStack := 5, maxLocals := 2, code := jdk_42_method_3_code, exceptionTable := #[], attributes := #[] }
def k10m1 : Method := { name := "<init>", desc := "([C)V", sig := { parameters := [(.array .char)], returnType := none }, accessFlags := 1, code := some k10c1 }
def k10c2 : Code := { maxStack := 2, maxLocals := 3, code := jdk_42_method_66_code, exceptionTable := #[], attributes := #[] }
def k10m2 : Method := { name := "equals", desc := "(Ljava/lang/Object;)Z", sig := { parameters := [(.object "java/lang/Object")], returnType := some .boolean }, accessFlags := 1, code := some k10c2 }
def k10c3 : Code := { maxStack := 4, maxLocals := 1, code := jdk_42_method_139_code, exceptionTable := #[], attributes := #[] }
def k10m3 : Method := { name := "valueOf", desc := "(C)Ljava/lang/String;", sig := { parameters := [.char], returnType := some (.object "java/lang/String") }, accessFlags := 9, code := some k10c3 }
def k10c4 : Code := { maxStack := 4, maxLocals := 6, code := jdk_42_method_149_code, exceptionTable := #[], attributes := #[] }
def k10m4 : Method := { name := "<init>", desc := "([CIILjava/lang/Void;)V", sig := { parameters := [(.array .char), .int, .int, (.object "java/lang/Void")], returnType := none }, accessFlags := 2, code := some k10c4 }
def k10c5 : Code := { maxStack := 2, maxLocals := 3, code := jdk_42_method_151_code, exceptionTable := #[], attributes := #[] }
def k10m5 : Method := { name := "<init>", desc := "([BB)V", sig := { parameters := [(.array .byte), .byte], returnType := none }, accessFlags := 0, code := some k10c5 }
/-- java/lang/String -/
def k10 : Class := { plain "java/lang/String" (some 0) with
  accessFlags := 49
  interfaces := #[5, 4, 8, 3, 9]
  cf := some (fileOf pool10 10 #[.nestMembers #[1103]] #[{ accessFlags := 1, nameIndex := 5, descriptorIndex := 6, attributes := #[] }, { accessFlags := 1, nameIndex := 5, descriptorIndex := 1010, attributes := #[] }, { accessFlags := 1, nameIndex := 543, descriptorIndex := 573, attributes := #[] }, { accessFlags := 9, nameIndex := 782, descriptorIndex := 783, attributes := #[] }, { accessFlags := 2, nameIndex := 5, descriptorIndex := 29, attributes := #[] }, { accessFlags := 0, nameIndex := 5, descriptorIndex := 211, attributes := #[] }] 49 2 #[1106, 1108, 575, 1110, 1112] #[{ accessFlags := 18, nameIndex := 13, descriptorIndex := 14, attributes := #[] }, { accessFlags := 18, nameIndex := 17, descriptorIndex := 18, attributes := #[] }, { accessFlags := 2, nameIndex := 21, descriptorIndex := 22, attributes := #[] }, { accessFlags := 2, nameIndex := 25, descriptorIndex := 26, attributes := #[] }, { accessFlags := 26, nameIndex := 1116, descriptorIndex := 1117, attributes := #[] }, { accessFlags := 24, nameIndex := 40, descriptorIndex := 26, attributes := #[] }, { accessFlags := 26, nameIndex := 1101, descriptorIndex := 1102, attributes := #[] }, { accessFlags := 26, nameIndex := 1121, descriptorIndex := 1122, attributes := #[] }, { accessFlags := 25, nameIndex := 599, descriptorIndex := 600, attributes := #[] }, { accessFlags := 24, nameIndex := 1125, descriptorIndex := 18, attributes := #[] }, { accessFlags := 24, nameIndex := 1127, descriptorIndex := 18, attributes := #[] }])
  fields := #[{ name := "value", type := (.array .byte), accessFlags := 18, slot := 0, constantValue := 0 }, { name := "coder", type := .byte, accessFlags := 18, slot := 1, constantValue := 0 }, { name := "hash", type := .int, accessFlags := 2, slot := 2, constantValue := 0 }, { name := "hashIsZero", type := .boolean, accessFlags := 2, slot := 3, constantValue := 0 }, { name := "serialVersionUID", type := .long, accessFlags := 26, slot := 0, constantValue := 0 }, { name := "COMPACT_STRINGS", type := .boolean, accessFlags := 24, slot := 1, constantValue := 0 }, { name := "serialPersistentFields", type := (.array (.object "java/io/ObjectStreamField")), accessFlags := 26, slot := 2, constantValue := 0 }, { name := "REPL", type := .char, accessFlags := 26, slot := 3, constantValue := 0 }, { name := "CASE_INSENSITIVE_ORDER", type := (.object "java/util/Comparator"), accessFlags := 25, slot := 4, constantValue := 0 }, { name := "LATIN1", type := .byte, accessFlags := 24, slot := 5, constantValue := 0 }, { name := "UTF16", type := .byte, accessFlags := 24, slot := 6, constantValue := 0 }]
  methods := #[k10m0, k10m1, k10m2, k10m3, k10m4, k10m5]
  instanceTypes := #[(.array .byte), .byte, .int, .boolean]
  staticTypes := #[.long, .boolean, (.array (.object "java/io/ObjectStreamField")), .char, (.object "java/util/Comparator"), .byte, .byte]
  resolved := Array.replicate 1451 none
  statics := some 1 }

def pool11 : Array CpInfo := pool [(6, .class_ 8), (1, u "java/lang/Object"), (0, u "<init>"), (0, u "()V"), (1, .class_ 14), (1, u "java/lang/StringUTF16"), (31, u "$assertionsDisabled"), (0, u "Z"), (13, u "HI_BYTE_SHIFT"), (0, u "I"), (2, u "LO_BYTE_SHIFT"), (49, .methodref 12 116), (0, .nameAndType 117 118), (0, u "compress"), (0, u "([CI[BII)I"), (3, u "([CII)[B"), (138, u "coderFromArrayLen"), (0, u "([BI)B"), (106, .class_ 371), (1, u "java/lang/StringUTF16$LinesSpliterator"), (58, u "MAX_LENGTH"), (196, .class_ 628), (0, u "java/lang/StringUTF16$CodePointsSpliterator"), (0, .class_ 630), (0, u "java/lang/StringUTF16$CharsSpliterator")] 4

def k11m0 : Method := { name := "<init>", desc := "()V", sig := { parameters := [], returnType := none }, accessFlags := 0, code := none }
def k11c1 : Code := { maxStack := 2, maxLocals := 2, code := jdk_52_method_15_code, exceptionTable := #[], attributes := #[] }
def k11m1 : Method := { name := "coderFromArrayLen", desc := "([BI)B", sig := { parameters := [(.array .byte), .int], returnType := some .byte }, accessFlags := 8, code := some k11c1 }
def k11c2 : Code := { maxStack := 5, maxLocals := 6, code := jdk_52_method_16_code, exceptionTable := #[], attributes := #[] }
def k11m2 : Method := { name := "compress", desc := "([CII)[B", sig := { parameters := [(.array .char), .int, .int], returnType := some (.array .byte) }, accessFlags := 9, code := some k11c2 }
def k11c3 : Code := { maxStack := 3, maxLocals := 7, code := jdk_52_method_21_code, exceptionTable := #[], attributes := #[] }
def k11m3 : Method := { name := "compress", desc := "([CI[BII)I", sig := { parameters := [(.array .char), .int, (.array .byte), .int, .int], returnType := some .int }, accessFlags := 9, code := some k11c3 }
/-- java/lang/StringUTF16 -/
def k11 : Class := { plain "java/lang/StringUTF16" (some 0) with
  accessFlags := 48
  interfaces := #[]
  cf := some (fileOf pool11 12 #[.nestMembers #[627, 629, 369]] #[{ accessFlags := 0, nameIndex := 9, descriptorIndex := 10, attributes := #[] }, { accessFlags := 8, nameIndex := 261, descriptorIndex := 262, attributes := #[] }, { accessFlags := 9, nameIndex := 117, descriptorIndex := 122, attributes := #[] }, { accessFlags := 9, nameIndex := 117, descriptorIndex := 118, attributes := #[] }] 48 6 #[] #[{ accessFlags := 26, nameIndex := 61, descriptorIndex := 62, attributes := #[] }, { accessFlags := 26, nameIndex := 65, descriptorIndex := 62, attributes := #[] }, { accessFlags := 24, nameIndex := 430, descriptorIndex := 62, attributes := #[] }, { accessFlags := 4120, nameIndex := 46, descriptorIndex := 47, attributes := #[] }])
  fields := #[{ name := "HI_BYTE_SHIFT", type := .int, accessFlags := 26, slot := 0, constantValue := 0 }, { name := "LO_BYTE_SHIFT", type := .int, accessFlags := 26, slot := 1, constantValue := 0 }, { name := "MAX_LENGTH", type := .int, accessFlags := 24, slot := 2, constantValue := 0 }, { name := "$assertionsDisabled", type := .boolean, accessFlags := 4120, slot := 3, constantValue := 0 }]
  methods := #[k11m0, k11m1, k11m2, k11m3]
  instanceTypes := #[]
  staticTypes := #[.int, .int, .int, .boolean]
  resolved := Array.replicate 635 none
  statics := none }

def pool12 : Array CpInfo := pool [(4, .class_ 6), (1, u "java/lang/Object"), (0, u "<init>"), (0, u "()V"), (5, .class_ 16), (1, u "java/lang/StringLatin1"), (73, u "canEncode"), (14, u "(C)Z"), (15, u "$assertionsDisabled"), (0, u "Z"), (98, .class_ 223), (1, u "java/lang/StringLatin1$LinesSpliterator"), (57, u "equals"), (0, u "([B[B)Z"), (97, u "toBytes"), (1, u "(C)[B"), (7, .class_ 391), (0, u "java/lang/StringLatin1$CharsSpliterator")] 3

def k12m0 : Method := { name := "<init>", desc := "()V", sig := { parameters := [], returnType := none }, accessFlags := 0, code := none }
def k12c1 : Code := { maxStack := 2, maxLocals := 1, code := jdk_43_method_3_code, exceptionTable := #[], attributes := #[] }
def k12m1 : Method := { name := "canEncode", desc := "(C)Z", sig := { parameters := [.char], returnType := some .boolean }, accessFlags := 9, code := some k12c1 }
def k12c2 : Code := { maxStack := 3, maxLocals := 3, code := jdk_43_method_13_code, exceptionTable := #[], attributes := #[] }
def k12m2 : Method := { name := "equals", desc := "([B[B)Z", sig := { parameters := [(.array .byte), (.array .byte)], returnType := some .boolean }, accessFlags := 9, code := some k12c2 }
def k12c3 : Code := { maxStack := 4, maxLocals := 1, code := jdk_43_method_46_code, exceptionTable := #[], attributes := #[] }
def k12m3 : Method := { name := "toBytes", desc := "(C)[B", sig := { parameters := [.char], returnType := some (.array .byte) }, accessFlags := 9, code := some k12c3 }
/-- java/lang/StringLatin1 -/
def k12 : Class := { plain "java/lang/StringLatin1" (some 0) with
  accessFlags := 48
  interfaces := #[]
  cf := some (fileOf pool12 14 #[.nestMembers #[390, 221]] #[{ accessFlags := 0, nameIndex := 7, descriptorIndex := 8, attributes := #[] }, { accessFlags := 9, nameIndex := 90, descriptorIndex := 105, attributes := #[] }, { accessFlags := 9, nameIndex := 281, descriptorIndex := 282, attributes := #[] }, { accessFlags := 9, nameIndex := 380, descriptorIndex := 382, attributes := #[] }] 48 4 #[] #[{ accessFlags := 4120, nameIndex := 121, descriptorIndex := 122, attributes := #[] }])
  fields := #[{ name := "$assertionsDisabled", type := .boolean, accessFlags := 4120, slot := 0, constantValue := 0 }]
  methods := #[k12m0, k12m1, k12m2, k12m3]
  instanceTypes := #[]
  staticTypes := #[.boolean]
  resolved := Array.replicate 395 none
  statics := none }

def pool13 : Array CpInfo := pool [(2, .class_ 4), (1, u "java/lang/Object"), (0, u "<init>"), (0, u "()V"), (7, .methodref 2 15), (0, .nameAndType 16 17), (0, u "equals"), (0, u "(Ljava/lang/Object;)Z"), (5, u "(Ljava/lang/Object;Ljava/lang/Object;)Z"), (18, .class_ 44), (1, u "java/util/Objects")] 139

def k13m0 : Method := { name := "<init>", desc := "()V", sig := { parameters := [], returnType := none }, accessFlags := 2, code := none }
def k13c1 : Code := { maxStack := 2, maxLocals := 2, code := jdk_31_method_2_code, exceptionTable := #[], attributes := #[] }
def k13m1 : Method := { name := "equals", desc := "(Ljava/lang/Object;Ljava/lang/Object;)Z", sig := { parameters := [(.object "java/lang/Object"), (.object "java/lang/Object")], returnType := some .boolean }, accessFlags := 9, code := some k13c1 }
/-- java/util/Objects -/
def k13 : Class := { plain "java/util/Objects" (some 0) with
  accessFlags := 49
  interfaces := #[]
  cf := some (fileOf pool13 42 #[] #[{ accessFlags := 2, nameIndex := 5, descriptorIndex := 6, attributes := #[] }, { accessFlags := 9, nameIndex := 16, descriptorIndex := 23, attributes := #[] }] 49 2 #[] #[])
  fields := #[]
  methods := #[k13m0, k13m1]
  instanceTypes := #[]
  staticTypes := #[]
  resolved := Array.replicate 184 none
  statics := none }

def pool14 : Array CpInfo := pool [(2, .class_ 4), (1, u "java/lang/Object"), (0, u "<init>"), (0, u "()V"), (17, .class_ 26), (1, u "jdk/internal/util/Preconditions"), (28, .class_ 56), (0, u "jdk/internal/util/Preconditions$4"), (57, .class_ 115), (0, u "jdk/internal/util/Preconditions$1"), (7, u "SIOOBE_FORMATTER"), (0, u "Ljava/util/function/BiFunction;"), (0, .class_ 126), (0, u "jdk/internal/util/Preconditions$2"), (3, u "AIOOBE_FORMATTER"), (0, .class_ 132), (0, u "jdk/internal/util/Preconditions$3"), (3, u "IOOBE_FORMATTER")] 57

def k14m0 : Method := { name := "<init>", desc := "()V", sig := { parameters := [], returnType := none }, accessFlags := 1, code := none }
/-- jdk/internal/util/Preconditions -/
def k14 : Class := { plain "jdk/internal/util/Preconditions" (some 0) with
  accessFlags := 33
  interfaces := #[]
  cf := some (fileOf pool14 24 #[.nestMembers #[55, 131, 125, 114]] #[{ accessFlags := 1, nameIndex := 5, descriptorIndex := 6, attributes := #[] }] 33 2 #[] #[{ accessFlags := 25, nameIndex := 123, descriptorIndex := 124, attributes := #[] }, { accessFlags := 25, nameIndex := 130, descriptorIndex := 124, attributes := #[] }, { accessFlags := 25, nameIndex := 136, descriptorIndex := 124, attributes := #[] }])
  fields := #[{ name := "SIOOBE_FORMATTER", type := (.object "java/util/function/BiFunction"), accessFlags := 25, slot := 0, constantValue := 0 }, { name := "AIOOBE_FORMATTER", type := (.object "java/util/function/BiFunction"), accessFlags := 25, slot := 1, constantValue := 0 }, { name := "IOOBE_FORMATTER", type := (.object "java/util/function/BiFunction"), accessFlags := 25, slot := 2, constantValue := 0 }]
  methods := #[k14m0]
  instanceTypes := #[]
  staticTypes := #[(.object "java/util/function/BiFunction"), (.object "java/util/function/BiFunction"), (.object "java/util/function/BiFunction")]
  resolved := Array.replicate 194 none
  statics := some 2 }

def pool15 : Array CpInfo := pool [(9, u "<init>"), (6, .class_ 18), (1, u "java/lang/Object"), (0, u "()V"), (1, .class_ 23), (1, u "jdk/internal/util/ArraysSupport"), (0, u "LOG2_ARRAY_LONG_INDEX_SCALE"), (0, u "I"), (2, u "U"), (0, u "Ljdk/internal/misc/Unsafe;"), (8, u "BIG_ENDIAN"), (0, u "Z"), (8, u "LOG2_BYTE_BIT_SIZE"), (4, u "LOG2_ARRAY_INT_INDEX_SCALE"), (54, u "JLA"), (0, u "Ljdk/internal/access/JavaLangAccess;"), (11, u "LOG2_ARRAY_BOOLEAN_INDEX_SCALE"), (9, u "LOG2_ARRAY_BYTE_INDEX_SCALE"), (5, u "LOG2_ARRAY_CHAR_INDEX_SCALE"), (5, u "LOG2_ARRAY_SHORT_INDEX_SCALE"), (18, u "LOG2_ARRAY_FLOAT_INDEX_SCALE"), (24, u "LOG2_ARRAY_DOUBLE_INDEX_SCALE"), (89, u "T_BOOLEAN"), (2, u "T_CHAR"), (1, u "T_FLOAT"), (1, u "T_DOUBLE"), (1, u "T_BYTE"), (1, u "T_SHORT"), (1, u "T_INT"), (1, u "T_LONG"), (1, u "SOFT_MAX_ARRAY_LENGTH")] 83

def k15m0 : Method := { name := "<init>", desc := "()V", sig := { parameters := [], returnType := none }, accessFlags := 2, code := none }
/-- jdk/internal/util/ArraysSupport -/
def k15 : Class := { plain "jdk/internal/util/ArraysSupport" (some 0) with
  accessFlags := 33
  interfaces := #[]
  cf := some (fileOf pool15 21 #[] #[{ accessFlags := 2, nameIndex := 9, descriptorIndex := 19, attributes := #[] }] 33 16 #[] #[{ accessFlags := 24, nameIndex := 28, descriptorIndex := 29, attributes := #[] }, { accessFlags := 26, nameIndex := 38, descriptorIndex := 39, attributes := #[] }, { accessFlags := 25, nameIndex := 121, descriptorIndex := 25, attributes := #[] }, { accessFlags := 25, nameIndex := 131, descriptorIndex := 25, attributes := #[] }, { accessFlags := 25, nameIndex := 137, descriptorIndex := 25, attributes := #[] }, { accessFlags := 25, nameIndex := 143, descriptorIndex := 25, attributes := #[] }, { accessFlags := 25, nameIndex := 53, descriptorIndex := 25, attributes := #[] }, { accessFlags := 25, nameIndex := 24, descriptorIndex := 25, attributes := #[] }, { accessFlags := 25, nameIndex := 162, descriptorIndex := 25, attributes := #[] }, { accessFlags := 25, nameIndex := 187, descriptorIndex := 25, attributes := #[] }, { accessFlags := 26, nameIndex := 48, descriptorIndex := 25, attributes := #[] }, { accessFlags := 25, nameIndex := 277, descriptorIndex := 25, attributes := #[] }, { accessFlags := 25, nameIndex := 280, descriptorIndex := 25, attributes := #[] }, { accessFlags := 25, nameIndex := 282, descriptorIndex := 25, attributes := #[] }, { accessFlags := 25, nameIndex := 284, descriptorIndex := 25, attributes := #[] }, { accessFlags := 25, nameIndex := 286, descriptorIndex := 25, attributes := #[] }, { accessFlags := 25, nameIndex := 288, descriptorIndex := 25, attributes := #[] }, { accessFlags := 25, nameIndex := 290, descriptorIndex := 25, attributes := #[] }, { accessFlags := 25, nameIndex := 292, descriptorIndex := 25, attributes := #[] }, { accessFlags := 26, nameIndex := 108, descriptorIndex := 109, attributes := #[] }, { accessFlags := 25, nameIndex := 294, descriptorIndex := 25, attributes := #[] }])
  fields := #[{ name := "U", type := (.object "jdk/internal/misc/Unsafe"), accessFlags := 24, slot := 0, constantValue := 0 }, { name := "BIG_ENDIAN", type := .boolean, accessFlags := 26, slot := 1, constantValue := 0 }, { name := "LOG2_ARRAY_BOOLEAN_INDEX_SCALE", type := .int, accessFlags := 25, slot := 2, constantValue := 0 }, { name := "LOG2_ARRAY_BYTE_INDEX_SCALE", type := .int, accessFlags := 25, slot := 3, constantValue := 0 }, { name := "LOG2_ARRAY_CHAR_INDEX_SCALE", type := .int, accessFlags := 25, slot := 4, constantValue := 0 }, { name := "LOG2_ARRAY_SHORT_INDEX_SCALE", type := .int, accessFlags := 25, slot := 5, constantValue := 0 }, { name := "LOG2_ARRAY_INT_INDEX_SCALE", type := .int, accessFlags := 25, slot := 6, constantValue := 0 }, { name := "LOG2_ARRAY_LONG_INDEX_SCALE", type := .int, accessFlags := 25, slot := 7, constantValue := 0 }, { name := "LOG2_ARRAY_FLOAT_INDEX_SCALE", type := .int, accessFlags := 25, slot := 8, constantValue := 0 }, { name := "LOG2_ARRAY_DOUBLE_INDEX_SCALE", type := .int, accessFlags := 25, slot := 9, constantValue := 0 }, { name := "LOG2_BYTE_BIT_SIZE", type := .int, accessFlags := 26, slot := 10, constantValue := 0 }, { name := "T_BOOLEAN", type := .int, accessFlags := 25, slot := 11, constantValue := 0 }, { name := "T_CHAR", type := .int, accessFlags := 25, slot := 12, constantValue := 0 }, { name := "T_FLOAT", type := .int, accessFlags := 25, slot := 13, constantValue := 0 }, { name := "T_DOUBLE", type := .int, accessFlags := 25, slot := 14, constantValue := 0 }, { name := "T_BYTE", type := .int, accessFlags := 25, slot := 15, constantValue := 0 }, { name := "T_SHORT", type := .int, accessFlags := 25, slot := 16, constantValue := 0 }, { name := "T_INT", type := .int, accessFlags := 25, slot := 17, constantValue := 0 }, { name := "T_LONG", type := .int, accessFlags := 25, slot := 18, constantValue := 0 }, { name := "JLA", type := (.object "jdk/internal/access/JavaLangAccess"), accessFlags := 26, slot := 19, constantValue := 0 }, { name := "SOFT_MAX_ARRAY_LENGTH", type := .int, accessFlags := 25, slot := 20, constantValue := 0 }]
  methods := #[k15m0]
  instanceTypes := #[]
  staticTypes := #[(.object "jdk/internal/misc/Unsafe"), .boolean, .int, .int, .int, .int, .int, .int, .int, .int, .int, .int, .int, .int, .int, .int, .int, .int, .int, (.object "jdk/internal/access/JavaLangAccess"), .int]
  resolved := Array.replicate 378 none
  statics := none }

def pool16 : Array CpInfo := pool [(1, u "java/lang/Cloneable"), (0, .class_ 1), (0, u "java/lang/Object"), (0, .class_ 3)] 3

/-- java/lang/Cloneable -/
def k16 : Class := { plain "java/lang/Cloneable" (some 0) with
  accessFlags := 1537
  interfaces := #[]
  cf := some (fileOf pool16 2 #[] #[] 1537 4 #[] #[])
  fields := #[]
  methods := #[]
  instanceTypes := #[]
  staticTypes := #[]
  resolved := Array.replicate 8 none
  statics := none }

/-- the primitive byte -/
def k17 : Class := { plain "byte" none with kind := .primitive 'B', accessFlags := 0x411 }
/-- [B -/
def k18 : Class := { plain "[B" (some 0) with kind := .array 17 .byte, interfaces := #[16, 5], accessFlags := 1041 }

/-- the primitive char -/
def k19 : Class := { plain "char" none with kind := .primitive 'C', accessFlags := 0x411 }
/-- [C -/
def k20 : Class := { plain "[C" (some 0) with kind := .array 19 .char, interfaces := #[16, 5], accessFlags := 1041 }

/-- the primitive int -/
def k21 : Class := { plain "int" none with kind := .primitive 'I', accessFlags := 0x411 }
/-- [I -/
def k22 : Class := { plain "[I" (some 0) with kind := .array 21 .int, interfaces := #[16, 5], accessFlags := 1041 }

def heap : Heap := #[{ cls := 7, slots := #[.ref 3, .ref 4, .ref 5, .ref 6, .ref 7, .ref 8, .ref 9, .null], vm := .statics 7 },
  { cls := 10, slots := #[.long 0, .int 1, .null, .int 0, .null, .int 0, .int 0], vm := .statics 10 },
  { cls := 14, slots := #[.null, .null, .null], vm := .statics 14 },
  { cls := 7, slots := #[.null, .int 0, .int 0, .null], vm := .none },
  { cls := 7, slots := #[.null, .int 1, .int 0, .null], vm := .none },
  { cls := 7, slots := #[.null, .int 2, .int 0, .null], vm := .none },
  { cls := 7, slots := #[.null, .int 3, .int 0, .null], vm := .none },
  { cls := 7, slots := #[.null, .int 4, .int 0, .null], vm := .none },
  { cls := 7, slots := #[.null, .int 5, .int 0, .null], vm := .none },
  { cls := 7, slots := #[.null, .int 6, .int 0, .null], vm := .none }]
def classes : Array Class := #[k0, k1, k2, k3, k4, k5, k6, k7, k8, k9, k10, k11, k12, k13, k14, k15, k16, k17, k18, k19, k20, k21, k22]
def interned : List (Array UInt16 × Addr) := []
def slotsUsed : Nat := 46
def theMethod : MethodId := ⟨1, 4⟩
def args0 : Array Value := #[.int 1, .int 2, .int 3, .int 4, .int 5, .int 6]
def aboutOver (below : List Frame) : State where
  vm := { classes := classes, interned := interned.toArray }
  heap := heap
  slotsUsed := slotsUsed
  threads := #[{ frames := .invoking theMethod args0 :: below }]
def below0 : List Frame := [.native { method := ⟨0, 0⟩, args := #[] }]
def about1 : State := aboutOver below0
def p0 : Program := .bare "" "" ""
def e0 : Env := launch0.env 0 0 0
theorem w_frames : about1.frames = Frame.invoking theMethod args0 :: below0 := rfl
set_option maxRecDepth 65536 in
theorem w_args : argsFit about1.vm theMethod args0 = true := by decide +kernel
set_option maxRecDepth 65536 in
theorem w_heap : heapFits about1 = true := by decide +kernel
set_option maxRecDepth 65536 in
theorem w_runnable : about1.curStatus? = some .runnable := by decide +kernel
set_option maxRecDepth 65536 in
theorem w_alone : about1.alone = true := by decide +kernel
set_option maxRecDepth 65536 in
theorem w_named : about1.methodNamed? x = some theMethod := by decide +kernel
set_option maxRecDepth 65536 in
theorem w_hears : about1.hears theMethod below0 = true := by decide +kernel
set_option maxRecDepth 65536 in
theorem w_ripe : about1.ripe theMethod args0 below0 = true := by decide +kernel
theorem w_running : about1.status = .running := rfl
set_option maxRecDepth 65536 in
theorem w_room : about1.hasRoom e0.platform room_1 = true :=
  launch0.hasRoom_least _ room_1 (by decide +kernel) (by decide +kernel) (by decide +kernel) (by decide +kernel) (by decide +kernel) (by decide +kernel)
theorem allAtoms_all (ts : List Jvm.Cond) (a : Array Jvm.Value) (st : Jvm.State) : (allAtoms ts).before a st = ts.all (fun c => c.before a st) := by
  induction ts with
  | nil => rfl
  | cons c t ih =>
    show (Jvm.Cond.and c (allAtoms t)).before a st = _
    rw [Jvm.Cond.before_and, ih, List.all_cons]
def words1 : List Jvm.Cond := Jvm.Cond.code x code maxLocals ret :: tables_1
/-- a 'code' word, met by the world's own term for the bytes: nothing is compared byte by byte -/
theorem code_word {y : MethodName} {bytes : ByteArray} {mx : Nat} {rt : Option FieldType} {a : Array Value} {s : State} {m : MethodId} {meth : Method} {c : Code} (h1 : s.methodNamed? y = some m) (h2 : s.vm.method? m = some meth) (h3 : meth.code = some c) (h4 : c.code = bytes)
    (h5 : (c.maxLocals == mx && c.exceptionTable.isEmpty && decide (c.maxStack ≤ mostOperands) && decide (meth.sig.returnType = rt) && !meth.locks && decide (parseMethodDescriptor y.desc = some meth.sig)) = true) : (Jvm.Cond.code y bytes mx rt).before a s = true := by
  simp only [Bool.and_eq_true, beq_iff_eq, Bool.not_eq_true', decide_eq_true_eq] at h5
  obtain ⟨⟨⟨⟨⟨g1, g2⟩, g3⟩, g4⟩, g5⟩, g6⟩ := h5
  simp [Cond.before, Cond.holds, Cond.value, h1, h2, h3, h4, g1, g2, g3, g4, g5, g6]
def isCode : Jvm.Cond → Bool
  | .code _ _ _ _ => true
  | _ => false
theorem all_split {L : List Jvm.Cond} {P : Jvm.Cond → Bool} (h1 : L.all (fun c => isCode c || P c) = true) (h2 : ∀ c ∈ L.filter isCode, P c = true) : L.all P = true := by
  refine List.all_eq_true.mpr fun c hc => ?_
  have h := List.all_eq_true.mp h1 c hc
  rcases Bool.eq_false_or_eq_true (isCode c) with hi | hi
  · exact h2 c (List.mem_filter.mpr ⟨hc, hi⟩)
  · simpa [hi] using h
set_option maxRecDepth 65536 in
theorem w_c0 : (Jvm.Cond.code x code maxLocals ret).before args0 about1 = true := code_word (m := ⟨1, 4⟩) (meth := k1m4) (c := k1c4) (by decide +kernel) rfl rfl rfl (by decide +kernel)
set_option maxRecDepth 65536 in
theorem w_c1 : (Jvm.Cond.code ({ cls := "com/example/verdict/verdict/ActionEqualsPinLaw", name := "kindOf", desc := "(I)Lcom/example/verdict/verdict/Action$Kind;" } : Jvm.MethodName) method_2_code (1 : Nat) (Option.some (Jvm.ClassFile.FieldType.object "com/example/verdict/verdict/Action$Kind"))).before args0 about1 = true := code_word (m := ⟨1, 1⟩) (meth := k1m1) (c := k1c1) (by decide +kernel) rfl rfl rfl (by decide +kernel)
set_option maxRecDepth 65536 in
theorem w_c2 : (Jvm.Cond.code ({ cls := "com/example/verdict/verdict/ActionEqualsPinLaw", name := "arg", desc := "(II)Ljava/lang/String;" } : Jvm.MethodName) method_3_code (3 : Nat) (Option.some (Jvm.ClassFile.FieldType.object "java/lang/String"))).before args0 about1 = true := code_word (m := ⟨1, 2⟩) (meth := k1m2) (c := k1c2) (by decide +kernel) rfl rfl rfl (by decide +kernel)
set_option maxRecDepth 65536 in
theorem w_c3 : (Jvm.Cond.code ({ cls := "java/lang/String", name := "<init>", desc := "([C)V" } : Jvm.MethodName) jdk_42_method_3_code (2 : Nat) (Option.none : Option Jvm.ClassFile.FieldType)).before args0 about1 = true := code_word (m := ⟨10, 1⟩) (meth := k10m1) (c := k10c1) (by decide +kernel) rfl rfl rfl (by decide +kernel)
set_option maxRecDepth 65536 in
theorem w_c4 : (Jvm.Cond.code ({ cls := "java/lang/String", name := "<init>", desc := "([CIILjava/lang/Void;)V" } : Jvm.MethodName) jdk_42_method_149_code (6 : Nat) (Option.none : Option Jvm.ClassFile.FieldType)).before args0 about1 = true := code_word (m := ⟨10, 4⟩) (meth := k10m4) (c := k10c4) (by decide +kernel) rfl rfl rfl (by decide +kernel)
set_option maxRecDepth 65536 in
theorem w_c5 : (Jvm.Cond.code ({ cls := "java/lang/Object", name := "<init>", desc := "()V" } : Jvm.MethodName) object_method_1_code (1 : Nat) (Option.none : Option Jvm.ClassFile.FieldType)).before args0 about1 = true := code_word (m := ⟨0, 0⟩) (meth := k0m0) (c := k0c0) (by decide +kernel) rfl rfl rfl (by decide +kernel)
set_option maxRecDepth 65536 in
theorem w_c6 : (Jvm.Cond.code ({ cls := "java/lang/StringUTF16", name := "compress", desc := "([CII)[B" } : Jvm.MethodName) jdk_52_method_16_code (6 : Nat) (Option.some (Jvm.ClassFile.FieldType.array Jvm.ClassFile.FieldType.byte))).before args0 about1 = true := code_word (m := ⟨11, 2⟩) (meth := k11m2) (c := k11c2) (by decide +kernel) rfl rfl rfl (by decide +kernel)
set_option maxRecDepth 65536 in
theorem w_c7 : (Jvm.Cond.code ({ cls := "java/lang/StringUTF16", name := "compress", desc := "([CI[BII)I" } : Jvm.MethodName) jdk_52_method_21_code (7 : Nat) (Option.some Jvm.ClassFile.FieldType.int)).before args0 about1 = true := code_word (m := ⟨11, 3⟩) (meth := k11m3) (c := k11c3) (by decide +kernel) rfl rfl rfl (by decide +kernel)
set_option maxRecDepth 65536 in
theorem w_c8 : (Jvm.Cond.code ({ cls := "java/lang/StringUTF16", name := "coderFromArrayLen", desc := "([BI)B" } : Jvm.MethodName) jdk_52_method_15_code (2 : Nat) (Option.some Jvm.ClassFile.FieldType.byte)).before args0 about1 = true := code_word (m := ⟨11, 1⟩) (meth := k11m1) (c := k11c1) (by decide +kernel) rfl rfl rfl (by decide +kernel)
set_option maxRecDepth 65536 in
theorem w_c9 : (Jvm.Cond.code ({ cls := "com/example/verdict/verdict/Action", name := "<init>", desc := "(Lcom/example/verdict/verdict/Action$Kind;Ljava/lang/String;)V" } : Jvm.MethodName) prog_1_method_1_code (3 : Nat) (Option.none : Option Jvm.ClassFile.FieldType)).before args0 about1 = true := code_word (m := ⟨2, 0⟩) (meth := k2m0) (c := k2c0) (by decide +kernel) rfl rfl rfl (by decide +kernel)
set_option maxRecDepth 65536 in
theorem w_c10 : (Jvm.Cond.code ({ cls := "com/example/verdict/verdict/Action", name := "equals", desc := "(Ljava/lang/Object;)Z" } : Jvm.MethodName) prog_1_method_5_code (3 : Nat) (Option.some Jvm.ClassFile.FieldType.boolean)).before args0 about1 = true := code_word (m := ⟨2, 1⟩) (meth := k2m1) (c := k2c1) (by decide +kernel) rfl rfl rfl (by decide +kernel)
set_option maxRecDepth 65536 in
theorem w_c11 : (Jvm.Cond.code ({ cls := "java/lang/String", name := "valueOf", desc := "(C)Ljava/lang/String;" } : Jvm.MethodName) jdk_42_method_139_code (1 : Nat) (Option.some (Jvm.ClassFile.FieldType.object "java/lang/String"))).before args0 about1 = true := code_word (m := ⟨10, 3⟩) (meth := k10m3) (c := k10c3) (by decide +kernel) rfl rfl rfl (by decide +kernel)
set_option maxRecDepth 65536 in
theorem w_c12 : (Jvm.Cond.code ({ cls := "java/lang/StringLatin1", name := "canEncode", desc := "(C)Z" } : Jvm.MethodName) jdk_43_method_3_code (1 : Nat) (Option.some Jvm.ClassFile.FieldType.boolean)).before args0 about1 = true := code_word (m := ⟨12, 1⟩) (meth := k12m1) (c := k12c1) (by decide +kernel) rfl rfl rfl (by decide +kernel)
set_option maxRecDepth 65536 in
theorem w_c13 : (Jvm.Cond.code ({ cls := "java/lang/StringLatin1", name := "toBytes", desc := "(C)[B" } : Jvm.MethodName) jdk_43_method_46_code (1 : Nat) (Option.some (Jvm.ClassFile.FieldType.array Jvm.ClassFile.FieldType.byte))).before args0 about1 = true := code_word (m := ⟨12, 3⟩) (meth := k12m3) (c := k12c3) (by decide +kernel) rfl rfl rfl (by decide +kernel)
set_option maxRecDepth 65536 in
theorem w_c14 : (Jvm.Cond.code ({ cls := "java/lang/String", name := "<init>", desc := "([BB)V" } : Jvm.MethodName) jdk_42_method_151_code (3 : Nat) (Option.none : Option Jvm.ClassFile.FieldType)).before args0 about1 = true := code_word (m := ⟨10, 5⟩) (meth := k10m5) (c := k10c5) (by decide +kernel) rfl rfl rfl (by decide +kernel)
set_option maxRecDepth 65536 in
theorem w_c15 : (Jvm.Cond.code ({ cls := "java/util/Objects", name := "equals", desc := "(Ljava/lang/Object;Ljava/lang/Object;)Z" } : Jvm.MethodName) jdk_31_method_2_code (2 : Nat) (Option.some Jvm.ClassFile.FieldType.boolean)).before args0 about1 = true := code_word (m := ⟨13, 1⟩) (meth := k13m1) (c := k13c1) (by decide +kernel) rfl rfl rfl (by decide +kernel)
set_option maxRecDepth 65536 in
theorem w_c16 : (Jvm.Cond.code ({ cls := "java/lang/String", name := "equals", desc := "(Ljava/lang/Object;)Z" } : Jvm.MethodName) jdk_42_method_66_code (3 : Nat) (Option.some Jvm.ClassFile.FieldType.boolean)).before args0 about1 = true := code_word (m := ⟨10, 2⟩) (meth := k10m2) (c := k10c2) (by decide +kernel) rfl rfl rfl (by decide +kernel)
set_option maxRecDepth 65536 in
theorem w_c17 : (Jvm.Cond.code ({ cls := "java/lang/StringLatin1", name := "equals", desc := "([B[B)Z" } : Jvm.MethodName) jdk_43_method_13_code (3 : Nat) (Option.some Jvm.ClassFile.FieldType.boolean)).before args0 about1 = true := code_word (m := ⟨12, 2⟩) (meth := k12m2) (c := k12c2) (by decide +kernel) rfl rfl rfl (by decide +kernel)
set_option maxRecDepth 65536 in
theorem w_c18 : (Jvm.Cond.code ({ cls := "com/example/verdict/verdict/ActionEqualsPinLaw", name := "sameArg", desc := "(IIII)Z" } : Jvm.MethodName) method_4_code (4 : Nat) (Option.some Jvm.ClassFile.FieldType.boolean)).before args0 about1 = true := code_word (m := ⟨1, 3⟩) (meth := k1m3) (c := k1c3) (by decide +kernel) rfl rfl rfl (by decide +kernel)
def codes1 : List Jvm.Cond := [Jvm.Cond.code x code maxLocals ret, Jvm.Cond.code ({ cls := "com/example/verdict/verdict/ActionEqualsPinLaw", name := "kindOf", desc := "(I)Lcom/example/verdict/verdict/Action$Kind;" } : Jvm.MethodName) method_2_code (1 : Nat) (Option.some (Jvm.ClassFile.FieldType.object "com/example/verdict/verdict/Action$Kind")), Jvm.Cond.code ({ cls := "com/example/verdict/verdict/ActionEqualsPinLaw", name := "arg", desc := "(II)Ljava/lang/String;" } : Jvm.MethodName) method_3_code (3 : Nat) (Option.some (Jvm.ClassFile.FieldType.object "java/lang/String")), Jvm.Cond.code ({ cls := "java/lang/String", name := "<init>", desc := "([C)V" } : Jvm.MethodName) jdk_42_method_3_code (2 : Nat) (Option.none : Option Jvm.ClassFile.FieldType), Jvm.Cond.code ({ cls := "java/lang/String", name := "<init>", desc := "([CIILjava/lang/Void;)V" } : Jvm.MethodName) jdk_42_method_149_code (6 : Nat) (Option.none : Option Jvm.ClassFile.FieldType), Jvm.Cond.code ({ cls := "java/lang/Object", name := "<init>", desc := "()V" } : Jvm.MethodName) object_method_1_code (1 : Nat) (Option.none : Option Jvm.ClassFile.FieldType), Jvm.Cond.code ({ cls := "java/lang/StringUTF16", name := "compress", desc := "([CII)[B" } : Jvm.MethodName) jdk_52_method_16_code (6 : Nat) (Option.some (Jvm.ClassFile.FieldType.array Jvm.ClassFile.FieldType.byte)), Jvm.Cond.code ({ cls := "java/lang/StringUTF16", name := "compress", desc := "([CI[BII)I" } : Jvm.MethodName) jdk_52_method_21_code (7 : Nat) (Option.some Jvm.ClassFile.FieldType.int), Jvm.Cond.code ({ cls := "java/lang/StringUTF16", name := "coderFromArrayLen", desc := "([BI)B" } : Jvm.MethodName) jdk_52_method_15_code (2 : Nat) (Option.some Jvm.ClassFile.FieldType.byte), Jvm.Cond.code ({ cls := "com/example/verdict/verdict/Action", name := "<init>", desc := "(Lcom/example/verdict/verdict/Action$Kind;Ljava/lang/String;)V" } : Jvm.MethodName) prog_1_method_1_code (3 : Nat) (Option.none : Option Jvm.ClassFile.FieldType), Jvm.Cond.code ({ cls := "com/example/verdict/verdict/Action", name := "equals", desc := "(Ljava/lang/Object;)Z" } : Jvm.MethodName) prog_1_method_5_code (3 : Nat) (Option.some Jvm.ClassFile.FieldType.boolean), Jvm.Cond.code ({ cls := "java/lang/String", name := "valueOf", desc := "(C)Ljava/lang/String;" } : Jvm.MethodName) jdk_42_method_139_code (1 : Nat) (Option.some (Jvm.ClassFile.FieldType.object "java/lang/String")), Jvm.Cond.code ({ cls := "java/lang/StringLatin1", name := "canEncode", desc := "(C)Z" } : Jvm.MethodName) jdk_43_method_3_code (1 : Nat) (Option.some Jvm.ClassFile.FieldType.boolean), Jvm.Cond.code ({ cls := "java/lang/StringLatin1", name := "toBytes", desc := "(C)[B" } : Jvm.MethodName) jdk_43_method_46_code (1 : Nat) (Option.some (Jvm.ClassFile.FieldType.array Jvm.ClassFile.FieldType.byte)), Jvm.Cond.code ({ cls := "java/lang/String", name := "<init>", desc := "([BB)V" } : Jvm.MethodName) jdk_42_method_151_code (3 : Nat) (Option.none : Option Jvm.ClassFile.FieldType), Jvm.Cond.code ({ cls := "java/util/Objects", name := "equals", desc := "(Ljava/lang/Object;Ljava/lang/Object;)Z" } : Jvm.MethodName) jdk_31_method_2_code (2 : Nat) (Option.some Jvm.ClassFile.FieldType.boolean), Jvm.Cond.code ({ cls := "java/lang/String", name := "equals", desc := "(Ljava/lang/Object;)Z" } : Jvm.MethodName) jdk_42_method_66_code (3 : Nat) (Option.some Jvm.ClassFile.FieldType.boolean), Jvm.Cond.code ({ cls := "java/lang/StringLatin1", name := "equals", desc := "([B[B)Z" } : Jvm.MethodName) jdk_43_method_13_code (3 : Nat) (Option.some Jvm.ClassFile.FieldType.boolean), Jvm.Cond.code ({ cls := "com/example/verdict/verdict/ActionEqualsPinLaw", name := "sameArg", desc := "(IIII)Z" } : Jvm.MethodName) method_4_code (4 : Nat) (Option.some Jvm.ClassFile.FieldType.boolean)]
set_option maxRecDepth 65536 in
theorem codes_eq : words1.filter isCode = codes1 := rfl
theorem w_codes : ∀ c ∈ words1.filter isCode, c.before args0 about1 = true := by
  rw [codes_eq]
  intro c hc
  simp only [codes1, List.mem_cons, List.not_mem_nil, or_false] at hc
  rcases hc with rfl | rfl | rfl | rfl | rfl | rfl | rfl | rfl | rfl | rfl | rfl | rfl | rfl | rfl | rfl | rfl | rfl | rfl | rfl
  · exact w_c0
  · exact w_c1
  · exact w_c2
  · exact w_c3
  · exact w_c4
  · exact w_c5
  · exact w_c6
  · exact w_c7
  · exact w_c8
  · exact w_c9
  · exact w_c10
  · exact w_c11
  · exact w_c12
  · exact w_c13
  · exact w_c14
  · exact w_c15
  · exact w_c16
  · exact w_c17
  · exact w_c18
set_option maxRecDepth 65536 in
theorem w_t1 : (words1.take 24).all (fun c => isCode c || c.before args0 about1) = true := by decide +kernel
set_option maxRecDepth 65536 in
theorem w_t2 : ((words1.drop 24).take 24).all (fun c => isCode c || c.before args0 about1) = true := by decide +kernel
set_option maxRecDepth 65536 in
theorem w_t3 : (((words1.drop 24).drop 24).take 24).all (fun c => isCode c || c.before args0 about1) = true := by decide +kernel
set_option maxRecDepth 65536 in
theorem w_t4 : ((((words1.drop 24).drop 24).drop 24).take 24).all (fun c => isCode c || c.before args0 about1) = true := by decide +kernel
set_option maxRecDepth 65536 in
theorem w_t5 : ((((words1.drop 24).drop 24).drop 24).drop 24).all (fun c => isCode c || c.before args0 about1) = true := by decide +kernel
theorem w_tables : (allAtoms (Jvm.Cond.code x code maxLocals ret :: tables_1)).before args0 about1 = true := by
  rw [allAtoms_all]
  show words1.all (fun c => c.before args0 about1) = true
  refine all_split ?_ w_codes
  rw [← List.take_append_drop 24 words1, List.all_append, w_t1, ← List.take_append_drop 24 (words1.drop 24), List.all_append, w_t2, ← List.take_append_drop 24 ((words1.drop 24).drop 24), List.all_append, w_t3, ← List.take_append_drop 24 (((words1.drop 24).drop 24).drop 24), List.all_append, w_t4, w_t5]
  rfl
set_option maxRecDepth 65536 in
theorem w_rest : rest_1_c.before args0 about1 = true := by decide +kernel
set_option maxRecDepth 65536 in
theorem w_case : (Jvm.Cond.and given_1 narrow_1).before args0 about1 = true := by decide +kernel
set_option maxRecDepth 65536 in
theorem w_consts : constsHeld consts_1 about1 := Jvm.Lit.constsHeldB_iff.mp (by decide +kernel)
theorem w_applies : (headSpec (Jvm.Cond.code x code maxLocals ret :: tables_1) room_1).applies x e0.platform about1 = true :=
  (Spec.applies_iff w_frames).mpr ⟨w_running, w_runnable, w_alone, w_named, w_hears, w_ripe, w_room, w_tables⟩
theorem atStart : AtStart classFile x code maxLocals ret World_1 tables_1 room_1 Calls_1 rest_1 Pre_1 launch0 p0 e0 about1 theMethod args0 below0 :=
  ⟨lists_1, trivial, launch0.admits_env _ _ _, launch0.least_env, fairChoices_fair.cas, fairChoices_fair.clock, w_frames, w_args, w_heap, w_applies, ⟨w_consts, trivial⟩, w_rest, w_case⟩
end start1
theorem witness_1 : WitnessClaimed_1 := ⟨start1.p0, start1.e0, start1.about1, start1.theMethod, start1.args0, start1.below0, start1.atStart⟩
end Jvm.Pilot.@@N@@
