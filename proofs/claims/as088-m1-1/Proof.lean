import JvmDerived
import JvmDerived.Pilot.@@N@@Statement
import JvmDerived.Pilot.@@N@@Code
set_option linter.unusedVariables false
set_option linter.unusedSimpArgs false
namespace Jvm.Pilot.@@N@@
open Jvm Jvm.ClassFile Sem Op Lib Jvm.Free Jvm.Stand Jvm.LawKit Jvm.RoadKit Bundle Jvm.Pilot.@@N@@.Jvm.D
/-! ### the form of my walks: what is left to do from a state -/
def Go (p : Program) (e : Env) (below : List Frame) (P : Outcome → State → Prop) (S : State) : Prop :=
  ∃ s₂ o, Steps p.tables e below S s₂ ∧ s₂.status = .running ∧ Ended s₂ below o ∧ P o s₂
def PQ (s : State) (Q : Option Value → Heap → List Loc → Prop) (C S : Nat) : Outcome → State → Prop :=
  fun o U' => ∃ v L, o = .returned v ∧ Q v U'.heap L ∧ FrameEnd s o U' L C S
theorem Go.by {p : Program} {e : Env} {below : List Frame} {P : Outcome → State → Prop} {S S' : State} (k : ∀ t, Steps p.tables e below S' t → Steps p.tables e below S t) (h : Go p e below P S') : Go p e below P S := by
  obtain ⟨t, o, h1, h2⟩ := h
  exact ⟨t, o, k t h1, h2⟩
theorem Go.fin {p : Program} {l : Launch} {e : Env} {R : Room} {s : State} {m : MethodId} {args : Array Value} {below : List Frame} {meth : Method} {c : Code} {T : State} {locs : List Loc} {k n C S : Nat} {v : Option Value} {Q : Option Value → Heap → List Loc → Prop} {S0 : State}
    (X : Stand p l e R s m args below meth c T locs k n) (hlk : meth.locks = false) (hv : meth.sig.returnType = none → v = none) (hk : k ≤ C) (hn : n ≤ S) (hQ : Q v T.heap locs)
    (hst : ∀ fs, (∀ (f : JFrame) (acts : List Action), f.method = m → f.locked = none → f.entered = [] → (doReturn e (T.setTop f) acts v).1 = T.setFrames fs) → Steps p.tables e below S0 (T.setFrames fs)) : Go p e below (PQ s Q C S) S0 := by
  obtain ⟨fs, hr, hrun, hended, hW, hsame⟩ := X.leave (v := v) hv hlk
  exact ⟨_, _, hst fs hr, hrun, hended, v, locs, rfl, hQ, ⟨_, rfl⟩, hW, hsame.mono hk hn⟩
/-! ### from a case's words to facts -/
section OwnWords
variable {args : Array Value} {s : State} {t : Term} {C n d : String} {a : Addr} {z : Int32}
theorem own_fint (hx : t.eval args s none [] s = some (.ref a)) (h : (Cond.eq (.field t C n d) (.int z)).value args s none s [] = some true) : Fld s s.heap a C n d (.int z) := by
  refine Fld.start ?_
  have e1 : (Term.field t C n d).eval args s none [] s = s.fieldOf? a C n d := fld_at hx
  cases hf : s.fieldOf? a C n d with
  | none => simp [Cond.value, e1, hf] at h
  | some v =>
    cases v <;> simp [Cond.value, e1, hf, Term.int_eval] at h
    subst h; rfl
theorem own_lenE {cl : Cell} {ty : FieldType} (ev : t.eval args s none [] s = some (.ref a)) (A : Arr s s.heap a cl ty) (h : (Cond.eq (.length t) (.int z)).value args s none s [] = some true) : cl.slots.size < 2 ^ 31 ∧ cl.slots.size.toInt32 = z := by
  have ha : s.arrayAt? a = some cl := Arr.fin (Vm.Alike.refl _) A
  by_cases hl : cl.slots.size < 2 ^ 31
  · have q := len_f (o := none) (idx := []) (first := s) ev ha hl
    simp [Cond.value, q, Term.int_eval] at h
    exact ⟨hl, h⟩
  · simp [Cond.value, Term.eval, ev, ha, hl] at h
theorem own_len {cl : Cell} {ty : FieldType} {N : Nat} (ev : t.eval args s none [] s = some (.ref a)) (A : Arr s s.heap a cl ty) (hz : z.toInt = N) (h : (Cond.eq (.length t) (.int z)).value args s none s [] = some true) : cl.slots.size = N := by
  obtain ⟨h1, h2⟩ := own_lenE ev A h
  have h3 := len_toInt h1
  rw [h2, hz] at h3
  omega
theorem own_elem {cl : Cell} {j : Int32} (ev : t.eval args s none [] s = some (.ref a)) (hc : s.heap[a]? = some cl) (h : (Cond.eq (.elem t (.int j)) (.int z)).value args s none s [] = some true) : cl.slots[j.toNatClampNeg]? = some (.int z) := by
  obtain ⟨x, y, e1, e2, -, -⟩ := cmp_v (Or.inl h)
  have q := (elem_in e1 ev rfl hc).2
  cases e2
  cases x <;> simp [Cond.value, e1, Term.int_eval] at h
  subst h; exact q
end OwnWords
/-! ### the end of a walk that may intern -/
def PQW (s Z : State) (EL : List (String × Nat)) (Q : Option Value → Heap → List Loc → Prop) (C S : Nat) : Outcome → State → Prop :=
  fun o U' => ∃ v L, o = .returned v ∧ Q v U'.heap L ∧ CHr Z EL s.vm s.heap U'.vm U'.heap ∧ ReturnedEndW s o U' L C S
theorem Go.finW {p : Program} {l : Launch} {e : Env} {R : Room} {s Z : State} {a0 : Array Value} {EL : List (String × Nat)} {vm0 : Vm} {k0 : Nat} {m : MethodId} {args : Array Value} {below : List Frame} {meth : Method} {c : Code} {T : State} {locs : List Loc} {k n C S : Nat} {v : Option Value} {Q : Option Value → Heap → List Loc → Prop} {S0 : State} {h0 H : Heap}
    (X : Stand p l e R (s.setVm vm0) m args below meth c T locs k n) (hlk : meth.locks = false) (hEL : EW Z a0 EL) (hv : meth.sig.returnType = none → v = none) (hk : k ≤ C) (hn : n ≤ S) (hh : s.heap = h0) (eT : T.heap = H) (hS : s.Since vm0 k0) (hk0 : k0 ≤ H.size) (hZ : Z.Warmed39 vm0) (hC : CHr Z EL s.vm h0 vm0 H) (hQ : Q v H locs)
    (hst : ∀ fs, (∀ (f : JFrame) (acts : List Action), f.method = m → f.locked = none → f.entered = [] → (doReturn e (T.setTop f) acts v).1 = T.setFrames fs) → Steps p.tables e below S0 (T.setFrames fs)) : Go p e below (PQW s Z EL Q C S) S0 := by
  subst eT hh
  obtain ⟨fs, hr, hrun, hended, hW1, hW2, hW3, hsame⟩ := X.leaveW hS hk0 (v := v) hv hlk
  have hc := CHr.trans hC (CHv.at X hZ hEL hC.1)
  exact ⟨_, _, hst fs hr, hrun, hended, v, locs, rfl, hQ, hc, hW1, hW2, hW3, hsame.mono hk hn⟩
/-! ### getfield where the entry stands resolved (the word fieldRef) -/
section OwnRef
variable {p : Program} {l : Launch} {e : Env} {R : Room} {s : State} {m : MethodId} {args : Array Value} {below : List Frame} {meth : Method} {c : Code} {T : State} {locs : List Loc} {cells slots : Nat} {Z : State} {a0 : Array Value} {h : Heap}
theorem own_getR (X : Stand p l e R s m args below meth c T locs cells slots) (hx : p.tables.exec = Jvm.exec) (hZ : Z.Warmed39 s.vm) {own R0 O n d : String} {index : Nat} (hown : s.vm.findClass own = some m.cls) (w : (Cond.fieldRef own index R0 n d).before a0 Z = true) (via : Via Z R0 O n d)
    (eT : T.heap = h) {a : Addr} {v : Value} (F : Fld Z h a O n d v) {g : JFrame} (hg : g.method = m) {rest : List Value} (hs : g.stack = .ref a :: rest) (hd : decode c.code g.pc = .ok (.getfield index, 3)) : ∃ T', Stand p l e R s m args below meth c T' locs cells slots ∧ T'.heap = h ∧ ∀ target, Steps p.tables e below (T'.setTop { g with pc := g.pc + 3, stack := v :: rest }) target → Steps p.tables e below (T.setTop g) target := by
  obtain ⟨cell, cf, k, i, f, h1, h2, h3, h4, -, -, h7⟩ := F
  have hU : Z.Warmed39 T.vm := wtrans hZ X.warmed
  have w' : (Cond.fieldRef own index R0 n d).before a0 (Z.setVm T.vm) = true := Cond.fieldRef_warmed39 hU w
  have hown' : (Z.setVm T.vm).vm.findClass own = some m.cls := by
    rw [State.vm_setVm, X.warmed.alike.findClass]; exact hown
  obtain ⟨c2, k2, i2, f2, hi2, hready⟩ := Cond.fieldRef_spec (s := Z.setVm T.vm) hown' w'
  obtain ⟨k', hi', -⟩ := State.fieldFound?_setVm (s := Z) hU.alike (via _ h2)
  cases hi2.symm.trans hi'
  refine ⟨T, X, eT, fun target hrest => ?_⟩
  subst hg
  have hc : T.heap[a]? = some cell := by rw [eT]; exact h1
  jvm_step X.here [hx, hd, getfield.wp_ready (e := e) (s := T) (f := g) X.here.top hready h3 hs hc h4 h7]
  exact hrest
end OwnRef
theorem pn_java_lang_Number : plainName "java/lang/Number" = true := by first | (simp [plainName, overriddenIn]; done) | decide +kernel
theorem d_jdk_18_method_1_code_0 : decode jdk_18_method_1_code 0 = .ok (.aload_n 0, 1) := by decide +kernel
theorem d_jdk_18_method_1_code_1 : decode jdk_18_method_1_code 1 = .ok (.invokespecial 1, 3) := by decide +kernel
theorem d_jdk_18_method_1_code_4 : decode jdk_18_method_1_code 4 = .ok (.return_, 1) := by decide +kernel
theorem pn_java_math_BigDecimal : plainName "java/math/BigDecimal" = true := by first | (simp [plainName, overriddenIn]; done) | decide +kernel
theorem d_jdk_17_method_1_code_0 : decode jdk_17_method_1_code 0 = .ok (.aload_n 0, 1) := by decide +kernel
theorem pd___V : parseMethodDescriptor "()V" = some ⟨[], none⟩ := by decide +kernel
theorem d_jdk_17_method_1_code_1 : decode jdk_17_method_1_code 1 = .ok (.invokespecial 11, 3) := by decide +kernel
theorem d_jdk_17_method_1_code_4 : decode jdk_17_method_1_code 4 = .ok (.aload_n 0, 1) := by decide +kernel
theorem d_jdk_17_method_1_code_5 : decode jdk_17_method_1_code 5 = .ok (.iload 4, 2) := by decide +kernel
theorem d_jdk_17_method_1_code_7 : decode jdk_17_method_1_code 7 = .ok (.putfield 17, 3) := by decide +kernel
theorem d_jdk_17_method_1_code_10 : decode jdk_17_method_1_code 10 = .ok (.aload_n 0, 1) := by decide +kernel
theorem d_jdk_17_method_1_code_11 : decode jdk_17_method_1_code 11 = .ok (.iload 5, 2) := by decide +kernel
theorem d_jdk_17_method_1_code_13 : decode jdk_17_method_1_code 13 = .ok (.putfield 21, 3) := by decide +kernel
theorem d_jdk_17_method_1_code_16 : decode jdk_17_method_1_code 16 = .ok (.aload_n 0, 1) := by decide +kernel
theorem d_jdk_17_method_1_code_17 : decode jdk_17_method_1_code 17 = .ok (.lload_n 2, 1) := by decide +kernel
theorem d_jdk_17_method_1_code_18 : decode jdk_17_method_1_code 18 = .ok (.putfield 24, 3) := by decide +kernel
theorem d_jdk_17_method_1_code_21 : decode jdk_17_method_1_code 21 = .ok (.aload_n 0, 1) := by decide +kernel
theorem d_jdk_17_method_1_code_22 : decode jdk_17_method_1_code 22 = .ok (.aload_n 1, 1) := by decide +kernel
theorem d_jdk_17_method_1_code_23 : decode jdk_17_method_1_code 23 = .ok (.putfield 28, 3) := by decide +kernel
theorem d_jdk_17_method_1_code_26 : decode jdk_17_method_1_code 26 = .ok (.return_, 1) := by decide +kernel
theorem d_jdk_17_method_21_code_0 : decode jdk_17_method_21_code 0 = .ok (.lload_n 0, 1) := by decide +kernel
theorem d_jdk_17_method_21_code_1 : decode jdk_17_method_21_code 1 = .ok (.lconst 0, 1) := by decide +kernel
theorem d_jdk_17_method_21_code_2 : decode jdk_17_method_21_code 2 = .ok (.lcmp, 1) := by decide +kernel
theorem d_jdk_17_method_21_code_3 : decode jdk_17_method_21_code 3 = .ok (.ifCond .lt 20, 3) := by decide +kernel
theorem d_jdk_17_method_21_code_23 : decode jdk_17_method_21_code 23 = .ok (.lload_n 0, 1) := by decide +kernel
theorem d_jdk_17_method_21_code_24 : decode jdk_17_method_21_code 24 = .ok (.ldc2_w 125, 3) := by decide +kernel
theorem d_jdk_17_method_21_code_27 : decode jdk_17_method_21_code 27 = .ok (.lcmp, 1) := by decide +kernel
theorem d_jdk_17_method_21_code_28 : decode jdk_17_method_21_code 28 = .ok (.ifCond .eq 15, 3) := by decide +kernel
theorem d_jdk_17_method_21_code_31 : decode jdk_17_method_21_code 31 = .ok (.new 3, 3) := by decide +kernel
theorem d_jdk_17_method_21_code_34 : decode jdk_17_method_21_code 34 = .ok (.dup, 1) := by decide +kernel
theorem d_jdk_17_method_21_code_35 : decode jdk_17_method_21_code 35 = .ok (.aconst_null, 1) := by decide +kernel
theorem d_jdk_17_method_21_code_36 : decode jdk_17_method_21_code 36 = .ok (.lload_n 0, 1) := by decide +kernel
theorem d_jdk_17_method_21_code_37 : decode jdk_17_method_21_code 37 = .ok (.iconst 0, 1) := by decide +kernel
theorem d_jdk_17_method_21_code_38 : decode jdk_17_method_21_code 38 = .ok (.iconst 0, 1) := by decide +kernel
theorem pd__Ljava_math_BigInteger_JII_V : parseMethodDescriptor "(Ljava/math/BigInteger;JII)V" = some ⟨[(.object "java/math/BigInteger"), .long, .int, .int], none⟩ := by decide +kernel
theorem d_jdk_17_method_21_code_39 : decode jdk_17_method_21_code 39 = .ok (.invokespecial 243, 3) := by decide +kernel
theorem d_jdk_17_method_21_code_42 : decode jdk_17_method_21_code 42 = .ok (.areturn, 1) := by decide +kernel
theorem d_jdk_17_method_21_code_6 : decode jdk_17_method_21_code 6 = .ok (.lload_n 0, 1) := by decide +kernel
theorem d_jdk_17_method_21_code_7 : decode jdk_17_method_21_code 7 = .ok (.getstatic 246, 3) := by decide +kernel
theorem d_jdk_17_method_21_code_10 : decode jdk_17_method_21_code 10 = .ok (.arraylength, 1) := by decide +kernel
theorem d_jdk_17_method_21_code_11 : decode jdk_17_method_21_code 11 = .ok (.i2l, 1) := by decide +kernel
theorem d_jdk_17_method_21_code_12 : decode jdk_17_method_21_code 12 = .ok (.lcmp, 1) := by decide +kernel
theorem d_jdk_17_method_21_code_13 : decode jdk_17_method_21_code 13 = .ok (.ifCond .ge 10, 3) := by decide +kernel
theorem d_jdk_17_method_21_code_16 : decode jdk_17_method_21_code 16 = .ok (.getstatic 246, 3) := by decide +kernel
theorem d_jdk_17_method_21_code_19 : decode jdk_17_method_21_code 19 = .ok (.lload_n 0, 1) := by decide +kernel
theorem d_jdk_17_method_21_code_20 : decode jdk_17_method_21_code 20 = .ok (.l2i, 1) := by decide +kernel
theorem d_jdk_17_method_21_code_21 : decode jdk_17_method_21_code 21 = .ok (.aaload, 1) := by decide +kernel
theorem d_jdk_17_method_21_code_22 : decode jdk_17_method_21_code 22 = .ok (.areturn, 1) := by decide +kernel
theorem d_jdk_17_method_24_code_0 : decode jdk_17_method_24_code 0 = .ok (.iload_n 0, 1) := by decide +kernel
theorem d_jdk_17_method_24_code_1 : decode jdk_17_method_24_code 1 = .ok (.ifCond .lt 17, 3) := by decide +kernel
theorem d_jdk_17_method_24_code_4 : decode jdk_17_method_24_code 4 = .ok (.iload_n 0, 1) := by decide +kernel
theorem d_jdk_17_method_24_code_5 : decode jdk_17_method_24_code 5 = .ok (.getstatic 250, 3) := by decide +kernel
theorem d_jdk_17_method_24_code_8 : decode jdk_17_method_24_code 8 = .ok (.arraylength, 1) := by decide +kernel
theorem d_jdk_17_method_24_code_9 : decode jdk_17_method_24_code 9 = .ok (.if_icmp .ge 9, 3) := by decide +kernel
theorem d_jdk_17_method_24_code_12 : decode jdk_17_method_24_code 12 = .ok (.getstatic 250, 3) := by decide +kernel
theorem d_jdk_17_method_24_code_15 : decode jdk_17_method_24_code 15 = .ok (.iload_n 0, 1) := by decide +kernel
theorem d_jdk_17_method_24_code_16 : decode jdk_17_method_24_code 16 = .ok (.aaload, 1) := by decide +kernel
theorem d_jdk_17_method_24_code_17 : decode jdk_17_method_24_code 17 = .ok (.areturn, 1) := by decide +kernel
theorem d_jdk_17_method_20_code_0 : decode jdk_17_method_20_code 0 = .ok (.iload_n 2, 1) := by decide +kernel
theorem d_jdk_17_method_20_code_1 : decode jdk_17_method_20_code 1 = .ok (.ifCond .ne 8, 3) := by decide +kernel
theorem d_jdk_17_method_20_code_4 : decode jdk_17_method_20_code 4 = .ok (.lload_n 0, 1) := by decide +kernel
theorem pd__J_Ljava_math_BigDecimal_ : parseMethodDescriptor "(J)Ljava/math/BigDecimal;" = some ⟨[.long], some (.object "java/math/BigDecimal")⟩ := by decide +kernel
theorem d_jdk_17_method_20_code_5 : decode jdk_17_method_20_code 5 = .ok (.invokestatic 236, 3) := by decide +kernel
theorem d_jdk_17_method_20_code_8 : decode jdk_17_method_20_code 8 = .ok (.areturn, 1) := by decide +kernel
theorem d_jdk_17_method_20_code_9 : decode jdk_17_method_20_code 9 = .ok (.lload_n 0, 1) := by decide +kernel
theorem d_jdk_17_method_20_code_10 : decode jdk_17_method_20_code 10 = .ok (.lconst 0, 1) := by decide +kernel
theorem d_jdk_17_method_20_code_11 : decode jdk_17_method_20_code 11 = .ok (.lcmp, 1) := by decide +kernel
theorem d_jdk_17_method_20_code_12 : decode jdk_17_method_20_code 12 = .ok (.ifCond .ne 8, 3) := by decide +kernel
theorem d_jdk_17_method_20_code_15 : decode jdk_17_method_20_code 15 = .ok (.iload_n 2, 1) := by decide +kernel
theorem pd__I_Ljava_math_BigDecimal_ : parseMethodDescriptor "(I)Ljava/math/BigDecimal;" = some ⟨[.int], some (.object "java/math/BigDecimal")⟩ := by decide +kernel
theorem d_jdk_17_method_20_code_16 : decode jdk_17_method_20_code 16 = .ok (.invokestatic 239, 3) := by decide +kernel
theorem d_jdk_17_method_20_code_19 : decode jdk_17_method_20_code 19 = .ok (.areturn, 1) := by decide +kernel
theorem d_jdk_17_method_20_code_20 : decode jdk_17_method_20_code 20 = .ok (.new 3, 3) := by decide +kernel
theorem d_jdk_17_method_20_code_23 : decode jdk_17_method_20_code 23 = .ok (.dup, 1) := by decide +kernel
theorem d_jdk_17_method_20_code_24 : decode jdk_17_method_20_code 24 = .ok (.lload_n 0, 1) := by decide +kernel
theorem d_jdk_17_method_20_code_25 : decode jdk_17_method_20_code 25 = .ok (.ldc2_w 125, 3) := by decide +kernel
theorem d_jdk_17_method_20_code_28 : decode jdk_17_method_20_code 28 = .ok (.lcmp, 1) := by decide +kernel
theorem d_jdk_17_method_20_code_29 : decode jdk_17_method_20_code 29 = .ok (.ifCond .ne 9, 3) := by decide +kernel
theorem d_jdk_17_method_20_code_38 : decode jdk_17_method_20_code 38 = .ok (.aconst_null, 1) := by decide +kernel
theorem d_jdk_17_method_20_code_39 : decode jdk_17_method_20_code 39 = .ok (.lload_n 0, 1) := by decide +kernel
theorem d_jdk_17_method_20_code_40 : decode jdk_17_method_20_code 40 = .ok (.iload_n 2, 1) := by decide +kernel
theorem d_jdk_17_method_20_code_41 : decode jdk_17_method_20_code 41 = .ok (.iconst 0, 1) := by decide +kernel
theorem d_jdk_17_method_20_code_42 : decode jdk_17_method_20_code 42 = .ok (.invokespecial 243, 3) := by decide +kernel
theorem d_jdk_17_method_20_code_45 : decode jdk_17_method_20_code 45 = .ok (.areturn, 1) := by decide +kernel
theorem d_jdk_17_method_132_code_0 : decode jdk_17_method_132_code 0 = .ok (.lload_n 0, 1) := by decide +kernel
theorem d_jdk_17_method_132_code_1 : decode jdk_17_method_132_code 1 = .ok (.lload_n 2, 1) := by decide +kernel
theorem d_jdk_17_method_132_code_2 : decode jdk_17_method_132_code 2 = .ok (.ladd, 1) := by decide +kernel
theorem d_jdk_17_method_132_code_3 : decode jdk_17_method_132_code 3 = .ok (.lstore 4, 2) := by decide +kernel
theorem d_jdk_17_method_132_code_5 : decode jdk_17_method_132_code 5 = .ok (.lload 4, 2) := by decide +kernel
theorem d_jdk_17_method_132_code_7 : decode jdk_17_method_132_code 7 = .ok (.lload_n 0, 1) := by decide +kernel
theorem d_jdk_17_method_132_code_8 : decode jdk_17_method_132_code 8 = .ok (.lxor, 1) := by decide +kernel
theorem d_jdk_17_method_132_code_9 : decode jdk_17_method_132_code 9 = .ok (.lload 4, 2) := by decide +kernel
theorem d_jdk_17_method_132_code_11 : decode jdk_17_method_132_code 11 = .ok (.lload_n 2, 1) := by decide +kernel
theorem d_jdk_17_method_132_code_12 : decode jdk_17_method_132_code 12 = .ok (.lxor, 1) := by decide +kernel
theorem d_jdk_17_method_132_code_13 : decode jdk_17_method_132_code 13 = .ok (.land, 1) := by decide +kernel
theorem d_jdk_17_method_132_code_14 : decode jdk_17_method_132_code 14 = .ok (.lconst 0, 1) := by decide +kernel
theorem d_jdk_17_method_132_code_15 : decode jdk_17_method_132_code 15 = .ok (.lcmp, 1) := by decide +kernel
theorem d_jdk_17_method_132_code_16 : decode jdk_17_method_132_code 16 = .ok (.ifCond .lt 6, 3) := by decide +kernel
theorem d_jdk_17_method_132_code_19 : decode jdk_17_method_132_code 19 = .ok (.lload 4, 2) := by decide +kernel
theorem d_jdk_17_method_132_code_21 : decode jdk_17_method_132_code 21 = .ok (.lreturn, 1) := by decide +kernel
theorem d_jdk_17_method_133_code_0 : decode jdk_17_method_133_code 0 = .ok (.lload_n 0, 1) := by decide +kernel
theorem d_jdk_17_method_133_code_1 : decode jdk_17_method_133_code 1 = .ok (.lload_n 2, 1) := by decide +kernel
theorem pd__JJ_J : parseMethodDescriptor "(JJ)J" = some ⟨[.long, .long], some .long⟩ := by decide +kernel
theorem d_jdk_17_method_133_code_2 : decode jdk_17_method_133_code 2 = .ok (.invokestatic 996, 3) := by decide +kernel
theorem d_jdk_17_method_133_code_5 : decode jdk_17_method_133_code 5 = .ok (.lstore 5, 2) := by decide +kernel
theorem d_jdk_17_method_133_code_7 : decode jdk_17_method_133_code 7 = .ok (.lload 5, 2) := by decide +kernel
theorem d_jdk_17_method_133_code_9 : decode jdk_17_method_133_code 9 = .ok (.ldc2_w 125, 3) := by decide +kernel
theorem d_jdk_17_method_133_code_12 : decode jdk_17_method_133_code 12 = .ok (.lcmp, 1) := by decide +kernel
theorem d_jdk_17_method_133_code_13 : decode jdk_17_method_133_code 13 = .ok (.ifCond .eq 11, 3) := by decide +kernel
theorem d_jdk_17_method_133_code_16 : decode jdk_17_method_133_code 16 = .ok (.lload 5, 2) := by decide +kernel
theorem d_jdk_17_method_133_code_18 : decode jdk_17_method_133_code 18 = .ok (.iload 4, 2) := by decide +kernel
theorem pd__JI_Ljava_math_BigDecimal_ : parseMethodDescriptor "(JI)Ljava/math/BigDecimal;" = some ⟨[.long, .int], some (.object "java/math/BigDecimal")⟩ := by decide +kernel
theorem d_jdk_17_method_133_code_20 : decode jdk_17_method_133_code 20 = .ok (.invokestatic 328, 3) := by decide +kernel
theorem d_jdk_17_method_133_code_23 : decode jdk_17_method_133_code 23 = .ok (.areturn, 1) := by decide +kernel
theorem d_jdk_17_method_134_code_0 : decode jdk_17_method_134_code 0 = .ok (.iload_n 2, 1) := by decide +kernel
theorem d_jdk_17_method_134_code_1 : decode jdk_17_method_134_code 1 = .ok (.i2l, 1) := by decide +kernel
theorem d_jdk_17_method_134_code_2 : decode jdk_17_method_134_code 2 = .ok (.iload 5, 2) := by decide +kernel
theorem d_jdk_17_method_134_code_4 : decode jdk_17_method_134_code 4 = .ok (.i2l, 1) := by decide +kernel
theorem d_jdk_17_method_134_code_5 : decode jdk_17_method_134_code 5 = .ok (.lsub, 1) := by decide +kernel
theorem d_jdk_17_method_134_code_6 : decode jdk_17_method_134_code 6 = .ok (.lstore 6, 2) := by decide +kernel
theorem d_jdk_17_method_134_code_8 : decode jdk_17_method_134_code 8 = .ok (.lload 6, 2) := by decide +kernel
theorem d_jdk_17_method_134_code_10 : decode jdk_17_method_134_code 10 = .ok (.lconst 0, 1) := by decide +kernel
theorem d_jdk_17_method_134_code_11 : decode jdk_17_method_134_code 11 = .ok (.lcmp, 1) := by decide +kernel
theorem d_jdk_17_method_134_code_12 : decode jdk_17_method_134_code 12 = .ok (.ifCond .ne 10, 3) := by decide +kernel
theorem d_jdk_17_method_134_code_15 : decode jdk_17_method_134_code 15 = .ok (.lload_n 0, 1) := by decide +kernel
theorem d_jdk_17_method_134_code_16 : decode jdk_17_method_134_code 16 = .ok (.lload_n 3, 1) := by decide +kernel
theorem d_jdk_17_method_134_code_17 : decode jdk_17_method_134_code 17 = .ok (.iload_n 2, 1) := by decide +kernel
theorem pd__JJI_Ljava_math_BigDecimal_ : parseMethodDescriptor "(JJI)Ljava/math/BigDecimal;" = some ⟨[.long, .long, .int], some (.object "java/math/BigDecimal")⟩ := by decide +kernel
theorem d_jdk_17_method_134_code_18 : decode jdk_17_method_134_code 18 = .ok (.invokestatic 1000, 3) := by decide +kernel
theorem d_jdk_17_method_134_code_21 : decode jdk_17_method_134_code 21 = .ok (.areturn, 1) := by decide +kernel
theorem d_jdk_17_method_29_code_0 : decode jdk_17_method_29_code 0 = .ok (.aload_n 0, 1) := by decide +kernel
theorem d_jdk_17_method_29_code_1 : decode jdk_17_method_29_code 1 = .ok (.getfield 24, 3) := by decide +kernel
theorem d_jdk_17_method_29_code_4 : decode jdk_17_method_29_code 4 = .ok (.ldc2_w 125, 3) := by decide +kernel
theorem d_jdk_17_method_29_code_7 : decode jdk_17_method_29_code 7 = .ok (.lcmp, 1) := by decide +kernel
theorem d_jdk_17_method_29_code_8 : decode jdk_17_method_29_code 8 = .ok (.ifCond .eq 58, 3) := by decide +kernel
theorem d_jdk_17_method_29_code_11 : decode jdk_17_method_29_code 11 = .ok (.aload_n 1, 1) := by decide +kernel
theorem d_jdk_17_method_29_code_12 : decode jdk_17_method_29_code 12 = .ok (.getfield 24, 3) := by decide +kernel
theorem d_jdk_17_method_29_code_15 : decode jdk_17_method_29_code 15 = .ok (.ldc2_w 125, 3) := by decide +kernel
theorem d_jdk_17_method_29_code_18 : decode jdk_17_method_29_code 18 = .ok (.lcmp, 1) := by decide +kernel
theorem d_jdk_17_method_29_code_19 : decode jdk_17_method_29_code 19 = .ok (.ifCond .eq 24, 3) := by decide +kernel
theorem d_jdk_17_method_29_code_22 : decode jdk_17_method_29_code 22 = .ok (.aload_n 0, 1) := by decide +kernel
theorem d_jdk_17_method_29_code_23 : decode jdk_17_method_29_code 23 = .ok (.getfield 24, 3) := by decide +kernel
theorem d_jdk_17_method_29_code_26 : decode jdk_17_method_29_code 26 = .ok (.aload_n 0, 1) := by decide +kernel
theorem d_jdk_17_method_29_code_27 : decode jdk_17_method_29_code 27 = .ok (.getfield 17, 3) := by decide +kernel
theorem d_jdk_17_method_29_code_30 : decode jdk_17_method_29_code 30 = .ok (.aload_n 1, 1) := by decide +kernel
theorem d_jdk_17_method_29_code_31 : decode jdk_17_method_29_code 31 = .ok (.getfield 24, 3) := by decide +kernel
theorem d_jdk_17_method_29_code_34 : decode jdk_17_method_29_code 34 = .ok (.lneg, 1) := by decide +kernel
theorem d_jdk_17_method_29_code_35 : decode jdk_17_method_29_code 35 = .ok (.aload_n 1, 1) := by decide +kernel
theorem d_jdk_17_method_29_code_36 : decode jdk_17_method_29_code 36 = .ok (.getfield 17, 3) := by decide +kernel
theorem pd__JIJI_Ljava_math_BigDecimal_ : parseMethodDescriptor "(JIJI)Ljava/math/BigDecimal;" = some ⟨[.long, .int, .long, .int], some (.object "java/math/BigDecimal")⟩ := by decide +kernel
theorem d_jdk_17_method_29_code_39 : decode jdk_17_method_29_code 39 = .ok (.invokestatic 257, 3) := by decide +kernel
theorem d_jdk_17_method_29_code_42 : decode jdk_17_method_29_code 42 = .ok (.areturn, 1) := by decide +kernel
theorem pn_com_example_frontmonth_frontmonth_BidAsk : plainName "com/example/frontmonth/frontmonth/BidAsk" = true := by first | (simp [plainName, overriddenIn]; done) | decide +kernel
theorem d_prog_4_method_4_code_0 : decode prog_4_method_4_code 0 = .ok (.aload_n 0, 1) := by decide +kernel
theorem d_prog_4_method_4_code_1 : decode prog_4_method_4_code 1 = .ok (.getfield 13, 3) := by decide +kernel
theorem d_prog_4_method_4_code_4 : decode prog_4_method_4_code 4 = .ok (.aload_n 0, 1) := by decide +kernel
theorem d_prog_4_method_4_code_5 : decode prog_4_method_4_code 5 = .ok (.getfield 7, 3) := by decide +kernel
theorem pd__Ljava_math_BigDecimal__Ljava_math_BigDecimal_ : parseMethodDescriptor "(Ljava/math/BigDecimal;)Ljava/math/BigDecimal;" = some ⟨[(.object "java/math/BigDecimal")], some (.object "java/math/BigDecimal")⟩ := by decide +kernel
theorem d_prog_4_method_4_code_8 : decode prog_4_method_4_code 8 = .ok (.invokevirtual 44, 3) := by decide +kernel
theorem d_prog_4_method_4_code_11 : decode prog_4_method_4_code 11 = .ok (.areturn, 1) := by decide +kernel
theorem pn_com_example_frontmonth_frontmonth_Quote : plainName "com/example/frontmonth/frontmonth/Quote" = true := by first | (simp [plainName, overriddenIn]; done) | decide +kernel
theorem d_prog_21_method_4_code_0 : decode prog_21_method_4_code 0 = .ok (.aload_n 0, 1) := by decide +kernel
theorem d_prog_21_method_4_code_1 : decode prog_21_method_4_code 1 = .ok (.getfield 13, 3) := by decide +kernel
theorem pd___Ljava_math_BigDecimal_ : parseMethodDescriptor "()Ljava/math/BigDecimal;" = some ⟨[], some (.object "java/math/BigDecimal")⟩ := by decide +kernel
theorem d_prog_21_method_4_code_4 : decode prog_21_method_4_code 4 = .ok (.invokevirtual 22, 3) := by decide +kernel
theorem d_prog_21_method_4_code_7 : decode prog_21_method_4_code 7 = .ok (.areturn, 1) := by decide +kernel
theorem pn_com_example_frontmonth_frontmonth_Spread : plainName "com/example/frontmonth/frontmonth/Spread" = true := by first | (simp [plainName, overriddenIn]; done) | decide +kernel
theorem d_prog_26_method_4_code_0 : decode prog_26_method_4_code 0 = .ok (.aload_n 0, 1) := by decide +kernel
theorem d_prog_26_method_4_code_1 : decode prog_26_method_4_code 1 = .ok (.getfield 7, 3) := by decide +kernel
theorem d_prog_26_method_4_code_4 : decode prog_26_method_4_code 4 = .ok (.ifnonnull 10, 3) := by decide +kernel
theorem d_prog_26_method_4_code_7 : decode prog_26_method_4_code 7 = .ok (.aload_n 1, 1) := by decide +kernel
theorem d_prog_26_method_4_code_8 : decode prog_26_method_4_code 8 = .ok (.invokevirtual 27, 3) := by decide +kernel
theorem d_prog_26_method_4_code_11 : decode prog_26_method_4_code 11 = .ok (.goto 7, 3) := by decide +kernel
theorem d_prog_26_method_4_code_18 : decode prog_26_method_4_code 18 = .ok (.areturn, 1) := by decide +kernel
theorem d_prog_26_method_4_code_14 : decode prog_26_method_4_code 14 = .ok (.aload_n 0, 1) := by decide +kernel
theorem d_prog_26_method_4_code_15 : decode prog_26_method_4_code 15 = .ok (.getfield 7, 3) := by decide +kernel
theorem d_prog_4_method_1_code_0 : decode prog_4_method_1_code 0 = .ok (.aload_n 0, 1) := by decide +kernel
theorem d_prog_4_method_1_code_1 : decode prog_4_method_1_code 1 = .ok (.invokespecial 1, 3) := by decide +kernel
theorem d_prog_4_method_1_code_4 : decode prog_4_method_1_code 4 = .ok (.aload_n 0, 1) := by decide +kernel
theorem d_prog_4_method_1_code_5 : decode prog_4_method_1_code 5 = .ok (.aload_n 1, 1) := by decide +kernel
theorem d_prog_4_method_1_code_6 : decode prog_4_method_1_code 6 = .ok (.putfield 7, 3) := by decide +kernel
theorem d_prog_4_method_1_code_9 : decode prog_4_method_1_code 9 = .ok (.aload_n 0, 1) := by decide +kernel
theorem d_prog_4_method_1_code_10 : decode prog_4_method_1_code 10 = .ok (.aload_n 2, 1) := by decide +kernel
theorem d_prog_4_method_1_code_11 : decode prog_4_method_1_code 11 = .ok (.putfield 13, 3) := by decide +kernel
theorem d_prog_4_method_1_code_14 : decode prog_4_method_1_code 14 = .ok (.return_, 1) := by decide +kernel
theorem d_prog_21_method_1_code_0 : decode prog_21_method_1_code 0 = .ok (.aload_n 0, 1) := by decide +kernel
theorem d_prog_21_method_1_code_1 : decode prog_21_method_1_code 1 = .ok (.invokespecial 1, 3) := by decide +kernel
theorem d_prog_21_method_1_code_4 : decode prog_21_method_1_code 4 = .ok (.aload_n 0, 1) := by decide +kernel
theorem d_prog_21_method_1_code_5 : decode prog_21_method_1_code 5 = .ok (.aload_n 1, 1) := by decide +kernel
theorem d_prog_21_method_1_code_6 : decode prog_21_method_1_code 6 = .ok (.putfield 7, 3) := by decide +kernel
theorem d_prog_21_method_1_code_9 : decode prog_21_method_1_code 9 = .ok (.aload_n 0, 1) := by decide +kernel
theorem d_prog_21_method_1_code_10 : decode prog_21_method_1_code 10 = .ok (.aload_n 2, 1) := by decide +kernel
theorem d_prog_21_method_1_code_11 : decode prog_21_method_1_code 11 = .ok (.putfield 13, 3) := by decide +kernel
theorem d_prog_21_method_1_code_14 : decode prog_21_method_1_code 14 = .ok (.return_, 1) := by decide +kernel
theorem d_prog_26_method_1_code_0 : decode prog_26_method_1_code 0 = .ok (.aload_n 0, 1) := by decide +kernel
theorem d_prog_26_method_1_code_1 : decode prog_26_method_1_code 1 = .ok (.invokespecial 1, 3) := by decide +kernel
theorem d_prog_26_method_1_code_4 : decode prog_26_method_1_code 4 = .ok (.aload_n 0, 1) := by decide +kernel
theorem d_prog_26_method_1_code_5 : decode prog_26_method_1_code 5 = .ok (.aload_n 1, 1) := by decide +kernel
theorem d_prog_26_method_1_code_6 : decode prog_26_method_1_code 6 = .ok (.putfield 7, 3) := by decide +kernel
theorem d_prog_26_method_1_code_9 : decode prog_26_method_1_code 9 = .ok (.return_, 1) := by decide +kernel
theorem d_prog_26_method_2_code_0 : decode prog_26_method_2_code 0 = .ok (.aload_n 0, 1) := by decide +kernel
theorem d_prog_26_method_2_code_1 : decode prog_26_method_2_code 1 = .ok (.getstatic 13, 3) := by decide +kernel
theorem d_prog_26_method_2_code_4 : decode prog_26_method_2_code 4 = .ok (.if_acmp .ne 8, 3) := by decide +kernel
theorem d_prog_26_method_2_code_7 : decode prog_26_method_2_code 7 = .ok (.aconst_null, 1) := by decide +kernel
theorem d_prog_26_method_2_code_8 : decode prog_26_method_2_code 8 = .ok (.astore_n 1, 1) := by decide +kernel
theorem d_prog_26_method_2_code_9 : decode prog_26_method_2_code 9 = .ok (.goto 7, 3) := by decide +kernel
theorem d_prog_26_method_2_code_16 : decode prog_26_method_2_code 16 = .ok (.new 8, 3) := by decide +kernel
theorem d_prog_26_method_2_code_19 : decode prog_26_method_2_code 19 = .ok (.dup, 1) := by decide +kernel
theorem d_prog_26_method_2_code_20 : decode prog_26_method_2_code 20 = .ok (.aload_n 1, 1) := by decide +kernel
theorem pd__Ljava_math_BigDecimal__V : parseMethodDescriptor "(Ljava/math/BigDecimal;)V" = some ⟨[(.object "java/math/BigDecimal")], none⟩ := by decide +kernel
theorem d_prog_26_method_2_code_21 : decode prog_26_method_2_code 21 = .ok (.invokespecial 24, 3) := by decide +kernel
theorem d_prog_26_method_2_code_24 : decode prog_26_method_2_code 24 = .ok (.areturn, 1) := by decide +kernel
theorem d_prog_26_method_2_code_12 : decode prog_26_method_2_code 12 = .ok (.getstatic 19, 3) := by decide +kernel
theorem d_prog_26_method_2_code_15 : decode prog_26_method_2_code 15 = .ok (.astore_n 1, 1) := by decide +kernel
theorem d_jdk_17_method_72_code_0 : decode jdk_17_method_72_code 0 = .ok (.aload_n 1, 1) := by decide +kernel
theorem d_jdk_17_method_72_code_1 : decode jdk_17_method_72_code 1 = .ok (.instanceof 3, 3) := by decide +kernel
theorem d_jdk_17_method_72_code_4 : decode jdk_17_method_72_code 4 = .ok (.ifCond .eq 11, 3) := by decide +kernel
theorem d_jdk_17_method_72_code_7 : decode jdk_17_method_72_code 7 = .ok (.aload_n 1, 1) := by decide +kernel
theorem d_jdk_17_method_72_code_8 : decode jdk_17_method_72_code 8 = .ok (.checkcast 3, 3) := by decide +kernel
theorem d_jdk_17_method_72_code_11 : decode jdk_17_method_72_code 11 = .ok (.astore_n 2, 1) := by decide +kernel
theorem d_jdk_17_method_72_code_12 : decode jdk_17_method_72_code 12 = .ok (.goto 5, 3) := by decide +kernel
theorem d_jdk_17_method_72_code_17 : decode jdk_17_method_72_code 17 = .ok (.aload_n 1, 1) := by decide +kernel
theorem d_jdk_17_method_72_code_18 : decode jdk_17_method_72_code 18 = .ok (.aload_n 0, 1) := by decide +kernel
theorem d_jdk_17_method_72_code_19 : decode jdk_17_method_72_code 19 = .ok (.if_acmp .ne 5, 3) := by decide +kernel
theorem d_jdk_17_method_72_code_22 : decode jdk_17_method_72_code 22 = .ok (.iconst 1, 1) := by decide +kernel
theorem d_jdk_17_method_72_code_23 : decode jdk_17_method_72_code 23 = .ok (.ireturn, 1) := by decide +kernel
theorem d_jdk_17_method_72_code_24 : decode jdk_17_method_72_code 24 = .ok (.aload_n 0, 1) := by decide +kernel
theorem d_jdk_17_method_72_code_25 : decode jdk_17_method_72_code 25 = .ok (.getfield 17, 3) := by decide +kernel
theorem d_jdk_17_method_72_code_28 : decode jdk_17_method_72_code 28 = .ok (.aload_n 2, 1) := by decide +kernel
theorem d_jdk_17_method_72_code_29 : decode jdk_17_method_72_code 29 = .ok (.getfield 17, 3) := by decide +kernel
theorem d_jdk_17_method_72_code_32 : decode jdk_17_method_72_code 32 = .ok (.if_icmp .eq 5, 3) := by decide +kernel
theorem d_jdk_17_method_72_code_37 : decode jdk_17_method_72_code 37 = .ok (.aload_n 0, 1) := by decide +kernel
theorem d_jdk_17_method_72_code_38 : decode jdk_17_method_72_code 38 = .ok (.getfield 24, 3) := by decide +kernel
theorem d_jdk_17_method_72_code_41 : decode jdk_17_method_72_code 41 = .ok (.lstore_n 3, 1) := by decide +kernel
theorem d_jdk_17_method_72_code_42 : decode jdk_17_method_72_code 42 = .ok (.aload_n 2, 1) := by decide +kernel
theorem d_jdk_17_method_72_code_43 : decode jdk_17_method_72_code 43 = .ok (.getfield 24, 3) := by decide +kernel
theorem d_jdk_17_method_72_code_46 : decode jdk_17_method_72_code 46 = .ok (.lstore 5, 2) := by decide +kernel
theorem d_jdk_17_method_72_code_48 : decode jdk_17_method_72_code 48 = .ok (.lload_n 3, 1) := by decide +kernel
theorem d_jdk_17_method_72_code_49 : decode jdk_17_method_72_code 49 = .ok (.ldc2_w 125, 3) := by decide +kernel
theorem d_jdk_17_method_72_code_52 : decode jdk_17_method_72_code 52 = .ok (.lcmp, 1) := by decide +kernel
theorem d_jdk_17_method_72_code_53 : decode jdk_17_method_72_code 53 = .ok (.ifCond .eq 34, 3) := by decide +kernel
theorem d_jdk_17_method_72_code_56 : decode jdk_17_method_72_code 56 = .ok (.lload 5, 2) := by decide +kernel
theorem d_jdk_17_method_72_code_58 : decode jdk_17_method_72_code 58 = .ok (.ldc2_w 125, 3) := by decide +kernel
theorem d_jdk_17_method_72_code_61 : decode jdk_17_method_72_code 61 = .ok (.lcmp, 1) := by decide +kernel
theorem d_jdk_17_method_72_code_62 : decode jdk_17_method_72_code 62 = .ok (.ifCond .ne 12, 3) := by decide +kernel
theorem d_jdk_17_method_72_code_74 : decode jdk_17_method_72_code 74 = .ok (.lload 5, 2) := by decide +kernel
theorem d_jdk_17_method_72_code_76 : decode jdk_17_method_72_code 76 = .ok (.lload_n 3, 1) := by decide +kernel
theorem d_jdk_17_method_72_code_77 : decode jdk_17_method_72_code 77 = .ok (.lcmp, 1) := by decide +kernel
theorem d_jdk_17_method_72_code_78 : decode jdk_17_method_72_code 78 = .ok (.ifCond .ne 7, 3) := by decide +kernel
theorem d_jdk_17_method_72_code_81 : decode jdk_17_method_72_code 81 = .ok (.iconst 1, 1) := by decide +kernel
theorem d_jdk_17_method_72_code_82 : decode jdk_17_method_72_code 82 = .ok (.goto 4, 3) := by decide +kernel
theorem d_jdk_17_method_72_code_86 : decode jdk_17_method_72_code 86 = .ok (.ireturn, 1) := by decide +kernel
theorem pn_com_example_frontmonth_frontmonth_SpreadOfPinLaw : plainName "com/example/frontmonth/frontmonth/SpreadOfPinLaw" = true := by first | (simp [plainName, overriddenIn]; done) | decide +kernel
theorem pd__Ljava_math_BigDecimal_Ljava_math_BigDecimal__V : parseMethodDescriptor "(Ljava/math/BigDecimal;Ljava/math/BigDecimal;)V" = some ⟨[(.object "java/math/BigDecimal"), (.object "java/math/BigDecimal")], none⟩ := by decide +kernel
theorem pd__Lcom_example_frontmonth_frontmonth_BidAsk_Lcom_example_frontmonth_frontmonth_BidAsk__V : parseMethodDescriptor "(Lcom/example/frontmonth/frontmonth/BidAsk;Lcom/example/frontmonth/frontmonth/BidAsk;)V" = some ⟨[(.object "com/example/frontmonth/frontmonth/BidAsk"), (.object "com/example/frontmonth/frontmonth/BidAsk")], none⟩ := by decide +kernel
theorem pd__Lcom_example_frontmonth_frontmonth_Spread_Word__Lcom_example_frontmonth_frontmonth_Spread_ : parseMethodDescriptor "(Lcom/example/frontmonth/frontmonth/Spread$Word;)Lcom/example/frontmonth/frontmonth/Spread;" = some ⟨[(.object "com/example/frontmonth/frontmonth/Spread$Word")], some (.object "com/example/frontmonth/frontmonth/Spread")⟩ := by decide +kernel
theorem pd__Lcom_example_frontmonth_frontmonth_Quote__Ljava_math_BigDecimal_ : parseMethodDescriptor "(Lcom/example/frontmonth/frontmonth/Quote;)Ljava/math/BigDecimal;" = some ⟨[(.object "com/example/frontmonth/frontmonth/Quote")], some (.object "java/math/BigDecimal")⟩ := by decide +kernel
theorem pd__Ljava_lang_Object__Z : parseMethodDescriptor "(Ljava/lang/Object;)Z" = some ⟨[(.object "java/lang/Object")], some .boolean⟩ := by decide +kernel
theorem tw_0 {Z : State} {a0 : Array Value} (hw : ∀ d ∈ tables_1, d.before a0 Z = true) : (Jvm.Cond.constantLong "com/example/frontmonth/frontmonth/SpreadOfPinLaw" (7 : Nat) (2147483647 : Int64) : Jvm.Cond).before a0 Z = true := hw _ (List.mem_of_getElem? (i := 0) rfl)
theorem tw_1 {Z : State} {a0 : Array Value} (hw : ∀ d ∈ tables_1, d.before a0 Z = true) : (Jvm.Cond.methodLink "com/example/frontmonth/frontmonth/SpreadOfPinLaw" (9 : Nat) ({ cls := "java/math/BigDecimal", name := "valueOf", desc := "(JI)Ljava/math/BigDecimal;" } : Jvm.MethodName) : Jvm.Cond).before a0 Z = true := hw _ (List.mem_of_getElem? (i := 1) rfl)
theorem tw_2 {Z : State} {a0 : Array Value} (hw : ∀ d ∈ tables_1, d.before a0 Z = true) : (Jvm.Cond.static ({ cls := "java/math/BigDecimal", name := "valueOf", desc := "(JI)Ljava/math/BigDecimal;" } : Jvm.MethodName) : Jvm.Cond).before a0 Z = true := hw _ (List.mem_of_getElem? (i := 2) rfl)
theorem tw_3 {Z : State} {a0 : Array Value} (hw : ∀ d ∈ tables_1, d.before a0 Z = true) : (Jvm.Cond.initialized "java/math/BigDecimal" : Jvm.Cond).before a0 Z = true := hw _ (List.mem_of_getElem? (i := 3) rfl)
theorem tw_4 {Z : State} {a0 : Array Value} (hw : ∀ d ∈ tables_1, d.before a0 Z = true) : (Jvm.Cond.code ({ cls := "java/math/BigDecimal", name := "valueOf", desc := "(JI)Ljava/math/BigDecimal;" } : Jvm.MethodName) jdk_17_method_20_code (3 : Nat) (Option.some (Jvm.ClassFile.FieldType.object "java/math/BigDecimal")) : Jvm.Cond).before a0 Z = true := hw _ (List.mem_of_getElem? (i := 4) rfl)
theorem tw_5 {Z : State} {a0 : Array Value} (hw : ∀ d ∈ tables_1, d.before a0 Z = true) : (Jvm.Cond.classLink "java/math/BigDecimal" (3 : Nat) "java/math/BigDecimal" : Jvm.Cond).before a0 Z = true := hw _ (List.mem_of_getElem? (i := 5) rfl)
theorem tw_6 {Z : State} {a0 : Array Value} (hw : ∀ d ∈ tables_1, d.before a0 Z = true) : (Jvm.Cond.instantiable "java/math/BigDecimal" (5 : Nat) : Jvm.Cond).before a0 Z = true := hw _ (List.mem_of_getElem? (i := 6) rfl)
theorem tw_7 {Z : State} {a0 : Array Value} (hw : ∀ d ∈ tables_1, d.before a0 Z = true) : (Jvm.Cond.constantLong "java/math/BigDecimal" (125 : Nat) (-9223372036854775808 : Int64) : Jvm.Cond).before a0 Z = true := hw _ (List.mem_of_getElem? (i := 7) rfl)
theorem tw_8 {Z : State} {a0 : Array Value} (hw : ∀ d ∈ tables_1, d.before a0 Z = true) : (Jvm.Cond.methodLink "java/math/BigDecimal" (243 : Nat) ({ cls := "java/math/BigDecimal", name := "<init>", desc := "(Ljava/math/BigInteger;JII)V" } : Jvm.MethodName) : Jvm.Cond).before a0 Z = true := hw _ (List.mem_of_getElem? (i := 8) rfl)
theorem tw_9 {Z : State} {a0 : Array Value} (hw : ∀ d ∈ tables_1, d.before a0 Z = true) : (Jvm.Cond.instanceMethod ({ cls := "java/math/BigDecimal", name := "<init>", desc := "(Ljava/math/BigInteger;JII)V" } : Jvm.MethodName) : Jvm.Cond).before a0 Z = true := hw _ (List.mem_of_getElem? (i := 9) rfl)
theorem tw_11 {Z : State} {a0 : Array Value} (hw : ∀ d ∈ tables_1, d.before a0 Z = true) : (Jvm.Cond.code ({ cls := "java/math/BigDecimal", name := "<init>", desc := "(Ljava/math/BigInteger;JII)V" } : Jvm.MethodName) jdk_17_method_1_code (6 : Nat) (Option.none : Option Jvm.ClassFile.FieldType) : Jvm.Cond).before a0 Z = true := hw _ (List.mem_of_getElem? (i := 11) rfl)
theorem tw_12 {Z : State} {a0 : Array Value} (hw : ∀ d ∈ tables_1, d.before a0 Z = true) : (Jvm.Cond.methodLink "java/math/BigDecimal" (11 : Nat) ({ cls := "java/lang/Number", name := "<init>", desc := "()V" } : Jvm.MethodName) : Jvm.Cond).before a0 Z = true := hw _ (List.mem_of_getElem? (i := 12) rfl)
theorem tw_13 {Z : State} {a0 : Array Value} (hw : ∀ d ∈ tables_1, d.before a0 Z = true) : (Jvm.Cond.instanceMethod ({ cls := "java/lang/Number", name := "<init>", desc := "()V" } : Jvm.MethodName) : Jvm.Cond).before a0 Z = true := hw _ (List.mem_of_getElem? (i := 13) rfl)
theorem tw_16 {Z : State} {a0 : Array Value} (hw : ∀ d ∈ tables_1, d.before a0 Z = true) : (Jvm.Cond.initialized "java/lang/Number" : Jvm.Cond).before a0 Z = true := hw _ (List.mem_of_getElem? (i := 16) rfl)
theorem tw_17 {Z : State} {a0 : Array Value} (hw : ∀ d ∈ tables_1, d.before a0 Z = true) : (Jvm.Cond.code ({ cls := "java/lang/Number", name := "<init>", desc := "()V" } : Jvm.MethodName) jdk_18_method_1_code (1 : Nat) (Option.none : Option Jvm.ClassFile.FieldType) : Jvm.Cond).before a0 Z = true := hw _ (List.mem_of_getElem? (i := 17) rfl)
theorem tw_18 {Z : State} {a0 : Array Value} (hw : ∀ d ∈ tables_1, d.before a0 Z = true) : (Jvm.Cond.methodLink "java/lang/Number" (1 : Nat) ({ cls := "java/lang/Object", name := "<init>", desc := "()V" } : Jvm.MethodName) : Jvm.Cond).before a0 Z = true := hw _ (List.mem_of_getElem? (i := 18) rfl)
theorem tw_19 {Z : State} {a0 : Array Value} (hw : ∀ d ∈ tables_1, d.before a0 Z = true) : (Jvm.Cond.instanceMethod ({ cls := "java/lang/Object", name := "<init>", desc := "()V" } : Jvm.MethodName) : Jvm.Cond).before a0 Z = true := hw _ (List.mem_of_getElem? (i := 19) rfl)
theorem tw_20 {Z : State} {a0 : Array Value} (hw : ∀ d ∈ tables_1, d.before a0 Z = true) : (Jvm.Cond.code ({ cls := "java/lang/Object", name := "<init>", desc := "()V" } : Jvm.MethodName) object_method_1_code (1 : Nat) (Option.none : Option Jvm.ClassFile.FieldType) : Jvm.Cond).before a0 Z = true := hw _ (List.mem_of_getElem? (i := 20) rfl)
theorem tw_21 {Z : State} {a0 : Array Value} (hw : ∀ d ∈ tables_1, d.before a0 Z = true) : (Jvm.Cond.fieldLink "java/math/BigDecimal" (17 : Nat) "java/math/BigDecimal" "scale" "I" : Jvm.Cond).before a0 Z = true := hw _ (List.mem_of_getElem? (i := 21) rfl)
theorem tw_22 {Z : State} {a0 : Array Value} (hw : ∀ d ∈ tables_1, d.before a0 Z = true) : (Jvm.Cond.laysFinal "java/math/BigDecimal" "java/math/BigDecimal" "scale" "I" : Jvm.Cond).before a0 Z = true := hw _ (List.mem_of_getElem? (i := 22) rfl)
theorem tw_23 {Z : State} {a0 : Array Value} (hw : ∀ d ∈ tables_1, d.before a0 Z = true) : (Jvm.Cond.fieldLink "java/math/BigDecimal" (21 : Nat) "java/math/BigDecimal" "precision" "I" : Jvm.Cond).before a0 Z = true := hw _ (List.mem_of_getElem? (i := 23) rfl)
theorem tw_24 {Z : State} {a0 : Array Value} (hw : ∀ d ∈ tables_1, d.before a0 Z = true) : (Jvm.Cond.lays "java/math/BigDecimal" "java/math/BigDecimal" "precision" "I" : Jvm.Cond).before a0 Z = true := hw _ (List.mem_of_getElem? (i := 24) rfl)
theorem tw_25 {Z : State} {a0 : Array Value} (hw : ∀ d ∈ tables_1, d.before a0 Z = true) : (Jvm.Cond.fieldLink "java/math/BigDecimal" (24 : Nat) "java/math/BigDecimal" "intCompact" "J" : Jvm.Cond).before a0 Z = true := hw _ (List.mem_of_getElem? (i := 25) rfl)
theorem tw_26 {Z : State} {a0 : Array Value} (hw : ∀ d ∈ tables_1, d.before a0 Z = true) : (Jvm.Cond.laysFinal "java/math/BigDecimal" "java/math/BigDecimal" "intCompact" "J" : Jvm.Cond).before a0 Z = true := hw _ (List.mem_of_getElem? (i := 26) rfl)
theorem tw_27 {Z : State} {a0 : Array Value} (hw : ∀ d ∈ tables_1, d.before a0 Z = true) : (Jvm.Cond.fieldLink "java/math/BigDecimal" (28 : Nat) "java/math/BigDecimal" "intVal" "Ljava/math/BigInteger;" : Jvm.Cond).before a0 Z = true := hw _ (List.mem_of_getElem? (i := 27) rfl)
theorem tw_28 {Z : State} {a0 : Array Value} (hw : ∀ d ∈ tables_1, d.before a0 Z = true) : (Jvm.Cond.laysFinal "java/math/BigDecimal" "java/math/BigDecimal" "intVal" "Ljava/math/BigInteger;" : Jvm.Cond).before a0 Z = true := hw _ (List.mem_of_getElem? (i := 28) rfl)
theorem tw_29 {Z : State} {a0 : Array Value} (hw : ∀ d ∈ tables_1, d.before a0 Z = true) : (Jvm.Cond.classLink "com/example/frontmonth/frontmonth/SpreadOfPinLaw" (15 : Nat) "com/example/frontmonth/frontmonth/Quote" : Jvm.Cond).before a0 Z = true := hw _ (List.mem_of_getElem? (i := 29) rfl)
theorem tw_30 {Z : State} {a0 : Array Value} (hw : ∀ d ∈ tables_1, d.before a0 Z = true) : (Jvm.Cond.instantiable "com/example/frontmonth/frontmonth/Quote" (2 : Nat) : Jvm.Cond).before a0 Z = true := hw _ (List.mem_of_getElem? (i := 30) rfl)
theorem tw_31 {Z : State} {a0 : Array Value} (hw : ∀ d ∈ tables_1, d.before a0 Z = true) : (Jvm.Cond.initialized "com/example/frontmonth/frontmonth/Quote" : Jvm.Cond).before a0 Z = true := hw _ (List.mem_of_getElem? (i := 31) rfl)
theorem tw_32 {Z : State} {a0 : Array Value} (hw : ∀ d ∈ tables_1, d.before a0 Z = true) : (Jvm.Cond.classLink "com/example/frontmonth/frontmonth/SpreadOfPinLaw" (17 : Nat) "com/example/frontmonth/frontmonth/BidAsk" : Jvm.Cond).before a0 Z = true := hw _ (List.mem_of_getElem? (i := 32) rfl)
theorem tw_33 {Z : State} {a0 : Array Value} (hw : ∀ d ∈ tables_1, d.before a0 Z = true) : (Jvm.Cond.instantiable "com/example/frontmonth/frontmonth/BidAsk" (2 : Nat) : Jvm.Cond).before a0 Z = true := hw _ (List.mem_of_getElem? (i := 33) rfl)
theorem tw_34 {Z : State} {a0 : Array Value} (hw : ∀ d ∈ tables_1, d.before a0 Z = true) : (Jvm.Cond.initialized "com/example/frontmonth/frontmonth/BidAsk" : Jvm.Cond).before a0 Z = true := hw _ (List.mem_of_getElem? (i := 34) rfl)
theorem tw_35 {Z : State} {a0 : Array Value} (hw : ∀ d ∈ tables_1, d.before a0 Z = true) : (Jvm.Cond.methodLink "com/example/frontmonth/frontmonth/SpreadOfPinLaw" (19 : Nat) ({ cls := "com/example/frontmonth/frontmonth/BidAsk", name := "<init>", desc := "(Ljava/math/BigDecimal;Ljava/math/BigDecimal;)V" } : Jvm.MethodName) : Jvm.Cond).before a0 Z = true := hw _ (List.mem_of_getElem? (i := 35) rfl)
theorem tw_36 {Z : State} {a0 : Array Value} (hw : ∀ d ∈ tables_1, d.before a0 Z = true) : (Jvm.Cond.instanceMethod ({ cls := "com/example/frontmonth/frontmonth/BidAsk", name := "<init>", desc := "(Ljava/math/BigDecimal;Ljava/math/BigDecimal;)V" } : Jvm.MethodName) : Jvm.Cond).before a0 Z = true := hw _ (List.mem_of_getElem? (i := 36) rfl)
theorem tw_37 {Z : State} {a0 : Array Value} (hw : ∀ d ∈ tables_1, d.before a0 Z = true) : (Jvm.Cond.code ({ cls := "com/example/frontmonth/frontmonth/BidAsk", name := "<init>", desc := "(Ljava/math/BigDecimal;Ljava/math/BigDecimal;)V" } : Jvm.MethodName) prog_4_method_1_code (3 : Nat) (Option.none : Option Jvm.ClassFile.FieldType) : Jvm.Cond).before a0 Z = true := hw _ (List.mem_of_getElem? (i := 37) rfl)
theorem tw_38 {Z : State} {a0 : Array Value} (hw : ∀ d ∈ tables_1, d.before a0 Z = true) : (Jvm.Cond.methodLink "com/example/frontmonth/frontmonth/BidAsk" (1 : Nat) ({ cls := "java/lang/Object", name := "<init>", desc := "()V" } : Jvm.MethodName) : Jvm.Cond).before a0 Z = true := hw _ (List.mem_of_getElem? (i := 38) rfl)
theorem tw_39 {Z : State} {a0 : Array Value} (hw : ∀ d ∈ tables_1, d.before a0 Z = true) : (Jvm.Cond.fieldLink "com/example/frontmonth/frontmonth/BidAsk" (7 : Nat) "com/example/frontmonth/frontmonth/BidAsk" "bid" "Ljava/math/BigDecimal;" : Jvm.Cond).before a0 Z = true := hw _ (List.mem_of_getElem? (i := 39) rfl)
theorem tw_40 {Z : State} {a0 : Array Value} (hw : ∀ d ∈ tables_1, d.before a0 Z = true) : (Jvm.Cond.laysFinal "com/example/frontmonth/frontmonth/BidAsk" "com/example/frontmonth/frontmonth/BidAsk" "bid" "Ljava/math/BigDecimal;" : Jvm.Cond).before a0 Z = true := hw _ (List.mem_of_getElem? (i := 40) rfl)
theorem tw_41 {Z : State} {a0 : Array Value} (hw : ∀ d ∈ tables_1, d.before a0 Z = true) : (Jvm.Cond.fieldLink "com/example/frontmonth/frontmonth/BidAsk" (13 : Nat) "com/example/frontmonth/frontmonth/BidAsk" "ask" "Ljava/math/BigDecimal;" : Jvm.Cond).before a0 Z = true := hw _ (List.mem_of_getElem? (i := 41) rfl)
theorem tw_42 {Z : State} {a0 : Array Value} (hw : ∀ d ∈ tables_1, d.before a0 Z = true) : (Jvm.Cond.laysFinal "com/example/frontmonth/frontmonth/BidAsk" "com/example/frontmonth/frontmonth/BidAsk" "ask" "Ljava/math/BigDecimal;" : Jvm.Cond).before a0 Z = true := hw _ (List.mem_of_getElem? (i := 42) rfl)
theorem tw_43 {Z : State} {a0 : Array Value} (hw : ∀ d ∈ tables_1, d.before a0 Z = true) : (Jvm.Cond.methodLink "com/example/frontmonth/frontmonth/SpreadOfPinLaw" (22 : Nat) ({ cls := "com/example/frontmonth/frontmonth/Quote", name := "<init>", desc := "(Lcom/example/frontmonth/frontmonth/BidAsk;Lcom/example/frontmonth/frontmonth/BidAsk;)V" } : Jvm.MethodName) : Jvm.Cond).before a0 Z = true := hw _ (List.mem_of_getElem? (i := 43) rfl)
theorem tw_44 {Z : State} {a0 : Array Value} (hw : ∀ d ∈ tables_1, d.before a0 Z = true) : (Jvm.Cond.instanceMethod ({ cls := "com/example/frontmonth/frontmonth/Quote", name := "<init>", desc := "(Lcom/example/frontmonth/frontmonth/BidAsk;Lcom/example/frontmonth/frontmonth/BidAsk;)V" } : Jvm.MethodName) : Jvm.Cond).before a0 Z = true := hw _ (List.mem_of_getElem? (i := 44) rfl)
theorem tw_45 {Z : State} {a0 : Array Value} (hw : ∀ d ∈ tables_1, d.before a0 Z = true) : (Jvm.Cond.code ({ cls := "com/example/frontmonth/frontmonth/Quote", name := "<init>", desc := "(Lcom/example/frontmonth/frontmonth/BidAsk;Lcom/example/frontmonth/frontmonth/BidAsk;)V" } : Jvm.MethodName) prog_21_method_1_code (3 : Nat) (Option.none : Option Jvm.ClassFile.FieldType) : Jvm.Cond).before a0 Z = true := hw _ (List.mem_of_getElem? (i := 45) rfl)
theorem tw_46 {Z : State} {a0 : Array Value} (hw : ∀ d ∈ tables_1, d.before a0 Z = true) : (Jvm.Cond.methodLink "com/example/frontmonth/frontmonth/Quote" (1 : Nat) ({ cls := "java/lang/Object", name := "<init>", desc := "()V" } : Jvm.MethodName) : Jvm.Cond).before a0 Z = true := hw _ (List.mem_of_getElem? (i := 46) rfl)
theorem tw_47 {Z : State} {a0 : Array Value} (hw : ∀ d ∈ tables_1, d.before a0 Z = true) : (Jvm.Cond.fieldLink "com/example/frontmonth/frontmonth/Quote" (7 : Nat) "com/example/frontmonth/frontmonth/Quote" "expiring" "Lcom/example/frontmonth/frontmonth/BidAsk;" : Jvm.Cond).before a0 Z = true := hw _ (List.mem_of_getElem? (i := 47) rfl)
theorem tw_48 {Z : State} {a0 : Array Value} (hw : ∀ d ∈ tables_1, d.before a0 Z = true) : (Jvm.Cond.laysFinal "com/example/frontmonth/frontmonth/Quote" "com/example/frontmonth/frontmonth/Quote" "expiring" "Lcom/example/frontmonth/frontmonth/BidAsk;" : Jvm.Cond).before a0 Z = true := hw _ (List.mem_of_getElem? (i := 48) rfl)
theorem tw_49 {Z : State} {a0 : Array Value} (hw : ∀ d ∈ tables_1, d.before a0 Z = true) : (Jvm.Cond.fieldLink "com/example/frontmonth/frontmonth/Quote" (13 : Nat) "com/example/frontmonth/frontmonth/Quote" "next" "Lcom/example/frontmonth/frontmonth/BidAsk;" : Jvm.Cond).before a0 Z = true := hw _ (List.mem_of_getElem? (i := 49) rfl)
theorem tw_50 {Z : State} {a0 : Array Value} (hw : ∀ d ∈ tables_1, d.before a0 Z = true) : (Jvm.Cond.laysFinal "com/example/frontmonth/frontmonth/Quote" "com/example/frontmonth/frontmonth/Quote" "next" "Lcom/example/frontmonth/frontmonth/BidAsk;" : Jvm.Cond).before a0 Z = true := hw _ (List.mem_of_getElem? (i := 50) rfl)
theorem tw_51 {Z : State} {a0 : Array Value} (hw : ∀ d ∈ tables_1, d.before a0 Z = true) : (Jvm.Cond.fieldLink "com/example/frontmonth/frontmonth/SpreadOfPinLaw" (31 : Nat) "com/example/frontmonth/frontmonth/Spread$Word" "NONE" "Lcom/example/frontmonth/frontmonth/Spread$Word;" : Jvm.Cond).before a0 Z = true := hw _ (List.mem_of_getElem? (i := 51) rfl)
theorem tw_52 {Z : State} {a0 : Array Value} (hw : ∀ d ∈ tables_1, d.before a0 Z = true) : (Jvm.Cond.initialized "com/example/frontmonth/frontmonth/Spread$Word" : Jvm.Cond).before a0 Z = true := hw _ (List.mem_of_getElem? (i := 52) rfl)
theorem tw_53 {Z : State} {a0 : Array Value} (hw : ∀ d ∈ tables_1, d.before a0 Z = true) : (Jvm.Cond.laysStatic "com/example/frontmonth/frontmonth/Spread$Word" "NONE" "Lcom/example/frontmonth/frontmonth/Spread$Word;" : Jvm.Cond).before a0 Z = true := hw _ (List.mem_of_getElem? (i := 53) rfl)
theorem tw_54 {Z : State} {a0 : Array Value} (hw : ∀ d ∈ tables_1, d.before a0 Z = true) : (Jvm.Cond.methodLink "com/example/frontmonth/frontmonth/SpreadOfPinLaw" (34 : Nat) ({ cls := "com/example/frontmonth/frontmonth/Spread", name := "of", desc := "(Lcom/example/frontmonth/frontmonth/Spread$Word;)Lcom/example/frontmonth/frontmonth/Spread;" } : Jvm.MethodName) : Jvm.Cond).before a0 Z = true := hw _ (List.mem_of_getElem? (i := 54) rfl)
theorem tw_55 {Z : State} {a0 : Array Value} (hw : ∀ d ∈ tables_1, d.before a0 Z = true) : (Jvm.Cond.static ({ cls := "com/example/frontmonth/frontmonth/Spread", name := "of", desc := "(Lcom/example/frontmonth/frontmonth/Spread$Word;)Lcom/example/frontmonth/frontmonth/Spread;" } : Jvm.MethodName) : Jvm.Cond).before a0 Z = true := hw _ (List.mem_of_getElem? (i := 55) rfl)
theorem tw_56 {Z : State} {a0 : Array Value} (hw : ∀ d ∈ tables_1, d.before a0 Z = true) : (Jvm.Cond.initialized "com/example/frontmonth/frontmonth/Spread" : Jvm.Cond).before a0 Z = true := hw _ (List.mem_of_getElem? (i := 56) rfl)
theorem tw_57 {Z : State} {a0 : Array Value} (hw : ∀ d ∈ tables_1, d.before a0 Z = true) : (Jvm.Cond.code ({ cls := "com/example/frontmonth/frontmonth/Spread", name := "of", desc := "(Lcom/example/frontmonth/frontmonth/Spread$Word;)Lcom/example/frontmonth/frontmonth/Spread;" } : Jvm.MethodName) prog_26_method_2_code (2 : Nat) (Option.some (Jvm.ClassFile.FieldType.object "com/example/frontmonth/frontmonth/Spread")) : Jvm.Cond).before a0 Z = true := hw _ (List.mem_of_getElem? (i := 57) rfl)
theorem tw_58 {Z : State} {a0 : Array Value} (hw : ∀ d ∈ tables_1, d.before a0 Z = true) : (Jvm.Cond.fieldLink "com/example/frontmonth/frontmonth/Spread" (13 : Nat) "com/example/frontmonth/frontmonth/Spread$Word" "QUOTED" "Lcom/example/frontmonth/frontmonth/Spread$Word;" : Jvm.Cond).before a0 Z = true := hw _ (List.mem_of_getElem? (i := 58) rfl)
theorem tw_59 {Z : State} {a0 : Array Value} (hw : ∀ d ∈ tables_1, d.before a0 Z = true) : (Jvm.Cond.laysStatic "com/example/frontmonth/frontmonth/Spread$Word" "QUOTED" "Lcom/example/frontmonth/frontmonth/Spread$Word;" : Jvm.Cond).before a0 Z = true := hw _ (List.mem_of_getElem? (i := 59) rfl)
theorem tw_60 {Z : State} {a0 : Array Value} (hw : ∀ d ∈ tables_1, d.before a0 Z = true) : (Jvm.Cond.fieldLink "com/example/frontmonth/frontmonth/Spread" (19 : Nat) "java/math/BigDecimal" "ZERO" "Ljava/math/BigDecimal;" : Jvm.Cond).before a0 Z = true := hw _ (List.mem_of_getElem? (i := 60) rfl)
theorem tw_61 {Z : State} {a0 : Array Value} (hw : ∀ d ∈ tables_1, d.before a0 Z = true) : (Jvm.Cond.classLink "com/example/frontmonth/frontmonth/Spread" (8 : Nat) "com/example/frontmonth/frontmonth/Spread" : Jvm.Cond).before a0 Z = true := hw _ (List.mem_of_getElem? (i := 61) rfl)
theorem tw_62 {Z : State} {a0 : Array Value} (hw : ∀ d ∈ tables_1, d.before a0 Z = true) : (Jvm.Cond.instantiable "com/example/frontmonth/frontmonth/Spread" (1 : Nat) : Jvm.Cond).before a0 Z = true := hw _ (List.mem_of_getElem? (i := 62) rfl)
theorem tw_63 {Z : State} {a0 : Array Value} (hw : ∀ d ∈ tables_1, d.before a0 Z = true) : (Jvm.Cond.methodLink "com/example/frontmonth/frontmonth/Spread" (24 : Nat) ({ cls := "com/example/frontmonth/frontmonth/Spread", name := "<init>", desc := "(Ljava/math/BigDecimal;)V" } : Jvm.MethodName) : Jvm.Cond).before a0 Z = true := hw _ (List.mem_of_getElem? (i := 63) rfl)
theorem tw_64 {Z : State} {a0 : Array Value} (hw : ∀ d ∈ tables_1, d.before a0 Z = true) : (Jvm.Cond.instanceMethod ({ cls := "com/example/frontmonth/frontmonth/Spread", name := "<init>", desc := "(Ljava/math/BigDecimal;)V" } : Jvm.MethodName) : Jvm.Cond).before a0 Z = true := hw _ (List.mem_of_getElem? (i := 64) rfl)
theorem tw_65 {Z : State} {a0 : Array Value} (hw : ∀ d ∈ tables_1, d.before a0 Z = true) : (Jvm.Cond.code ({ cls := "com/example/frontmonth/frontmonth/Spread", name := "<init>", desc := "(Ljava/math/BigDecimal;)V" } : Jvm.MethodName) prog_26_method_1_code (2 : Nat) (Option.none : Option Jvm.ClassFile.FieldType) : Jvm.Cond).before a0 Z = true := hw _ (List.mem_of_getElem? (i := 65) rfl)
theorem tw_66 {Z : State} {a0 : Array Value} (hw : ∀ d ∈ tables_1, d.before a0 Z = true) : (Jvm.Cond.methodLink "com/example/frontmonth/frontmonth/Spread" (1 : Nat) ({ cls := "java/lang/Object", name := "<init>", desc := "()V" } : Jvm.MethodName) : Jvm.Cond).before a0 Z = true := hw _ (List.mem_of_getElem? (i := 66) rfl)
theorem tw_67 {Z : State} {a0 : Array Value} (hw : ∀ d ∈ tables_1, d.before a0 Z = true) : (Jvm.Cond.fieldLink "com/example/frontmonth/frontmonth/Spread" (7 : Nat) "com/example/frontmonth/frontmonth/Spread" "stated" "Ljava/math/BigDecimal;" : Jvm.Cond).before a0 Z = true := hw _ (List.mem_of_getElem? (i := 67) rfl)
theorem tw_68 {Z : State} {a0 : Array Value} (hw : ∀ d ∈ tables_1, d.before a0 Z = true) : (Jvm.Cond.laysFinal "com/example/frontmonth/frontmonth/Spread" "com/example/frontmonth/frontmonth/Spread" "stated" "Ljava/math/BigDecimal;" : Jvm.Cond).before a0 Z = true := hw _ (List.mem_of_getElem? (i := 68) rfl)
theorem tw_69 {Z : State} {a0 : Array Value} (hw : ∀ d ∈ tables_1, d.before a0 Z = true) : (Jvm.Cond.methodLink "com/example/frontmonth/frontmonth/SpreadOfPinLaw" (40 : Nat) ({ cls := "com/example/frontmonth/frontmonth/Spread", name := "perUnit", desc := "(Lcom/example/frontmonth/frontmonth/Quote;)Ljava/math/BigDecimal;" } : Jvm.MethodName) : Jvm.Cond).before a0 Z = true := hw _ (List.mem_of_getElem? (i := 69) rfl)
theorem tw_70 {Z : State} {a0 : Array Value} (hw : ∀ d ∈ tables_1, d.before a0 Z = true) : (Jvm.Cond.declares ({ cls := "com/example/frontmonth/frontmonth/Spread", name := "perUnit", desc := "(Lcom/example/frontmonth/frontmonth/Quote;)Ljava/math/BigDecimal;" } : Jvm.MethodName) : Jvm.Cond).before a0 Z = true := hw _ (List.mem_of_getElem? (i := 70) rfl)
theorem tw_71 {Z : State} {a0 : Array Value} (hw : ∀ d ∈ tables_1, d.before a0 Z = true) : (Jvm.Cond.instanceMethod ({ cls := "com/example/frontmonth/frontmonth/Spread", name := "perUnit", desc := "(Lcom/example/frontmonth/frontmonth/Quote;)Ljava/math/BigDecimal;" } : Jvm.MethodName) : Jvm.Cond).before a0 Z = true := hw _ (List.mem_of_getElem? (i := 71) rfl)
theorem tw_72 {Z : State} {a0 : Array Value} (hw : ∀ d ∈ tables_1, d.before a0 Z = true) : (Jvm.Cond.selects "com/example/frontmonth/frontmonth/Spread" ({ cls := "com/example/frontmonth/frontmonth/Spread", name := "perUnit", desc := "(Lcom/example/frontmonth/frontmonth/Quote;)Ljava/math/BigDecimal;" } : Jvm.MethodName) ({ cls := "com/example/frontmonth/frontmonth/Spread", name := "perUnit", desc := "(Lcom/example/frontmonth/frontmonth/Quote;)Ljava/math/BigDecimal;" } : Jvm.MethodName) : Jvm.Cond).before a0 Z = true := hw _ (List.mem_of_getElem? (i := 72) rfl)
theorem tw_73 {Z : State} {a0 : Array Value} (hw : ∀ d ∈ tables_1, d.before a0 Z = true) : (Jvm.Cond.code ({ cls := "com/example/frontmonth/frontmonth/Spread", name := "perUnit", desc := "(Lcom/example/frontmonth/frontmonth/Quote;)Ljava/math/BigDecimal;" } : Jvm.MethodName) prog_26_method_4_code (2 : Nat) (Option.some (Jvm.ClassFile.FieldType.object "java/math/BigDecimal")) : Jvm.Cond).before a0 Z = true := hw _ (List.mem_of_getElem? (i := 73) rfl)
theorem tw_74 {Z : State} {a0 : Array Value} (hw : ∀ d ∈ tables_1, d.before a0 Z = true) : (Jvm.Cond.fieldLink "com/example/frontmonth/frontmonth/SpreadOfPinLaw" (44 : Nat) "java/math/BigDecimal" "ZERO" "Ljava/math/BigDecimal;" : Jvm.Cond).before a0 Z = true := hw _ (List.mem_of_getElem? (i := 74) rfl)
theorem tw_75 {Z : State} {a0 : Array Value} (hw : ∀ d ∈ tables_1, d.before a0 Z = true) : (Jvm.Cond.methodLink "com/example/frontmonth/frontmonth/SpreadOfPinLaw" (48 : Nat) ({ cls := "java/math/BigDecimal", name := "equals", desc := "(Ljava/lang/Object;)Z" } : Jvm.MethodName) : Jvm.Cond).before a0 Z = true := hw _ (List.mem_of_getElem? (i := 75) rfl)
theorem tw_76 {Z : State} {a0 : Array Value} (hw : ∀ d ∈ tables_1, d.before a0 Z = true) : (Jvm.Cond.declares ({ cls := "java/math/BigDecimal", name := "equals", desc := "(Ljava/lang/Object;)Z" } : Jvm.MethodName) : Jvm.Cond).before a0 Z = true := hw _ (List.mem_of_getElem? (i := 76) rfl)
theorem tw_77 {Z : State} {a0 : Array Value} (hw : ∀ d ∈ tables_1, d.before a0 Z = true) : (Jvm.Cond.instanceMethod ({ cls := "java/math/BigDecimal", name := "equals", desc := "(Ljava/lang/Object;)Z" } : Jvm.MethodName) : Jvm.Cond).before a0 Z = true := hw _ (List.mem_of_getElem? (i := 77) rfl)
theorem tw_78 {Z : State} {a0 : Array Value} (hw : ∀ d ∈ tables_1, d.before a0 Z = true) : (Jvm.Cond.selects "java/math/BigDecimal" ({ cls := "java/math/BigDecimal", name := "equals", desc := "(Ljava/lang/Object;)Z" } : Jvm.MethodName) ({ cls := "java/math/BigDecimal", name := "equals", desc := "(Ljava/lang/Object;)Z" } : Jvm.MethodName) : Jvm.Cond).before a0 Z = true := hw _ (List.mem_of_getElem? (i := 78) rfl)
theorem tw_79 {Z : State} {a0 : Array Value} (hw : ∀ d ∈ tables_1, d.before a0 Z = true) : (Jvm.Cond.code ({ cls := "java/math/BigDecimal", name := "equals", desc := "(Ljava/lang/Object;)Z" } : Jvm.MethodName) jdk_17_method_72_code (7 : Nat) (Option.some Jvm.ClassFile.FieldType.boolean) : Jvm.Cond).before a0 Z = true := hw _ (List.mem_of_getElem? (i := 79) rfl)
theorem tw_80 {Z : State} {a0 : Array Value} (hw : ∀ d ∈ tables_1, d.before a0 Z = true) : (Jvm.Cond.fieldLink "com/example/frontmonth/frontmonth/SpreadOfPinLaw" (25 : Nat) "com/example/frontmonth/frontmonth/Spread$Word" "QUOTED" "Lcom/example/frontmonth/frontmonth/Spread$Word;" : Jvm.Cond).before a0 Z = true := hw _ (List.mem_of_getElem? (i := 80) rfl)
theorem tw_81 {Z : State} {a0 : Array Value} (hw : ∀ d ∈ tables_1, d.before a0 Z = true) : (Jvm.Cond.methodLink "com/example/frontmonth/frontmonth/Spread" (27 : Nat) ({ cls := "com/example/frontmonth/frontmonth/Quote", name := "newSpread", desc := "()Ljava/math/BigDecimal;" } : Jvm.MethodName) : Jvm.Cond).before a0 Z = true := hw _ (List.mem_of_getElem? (i := 81) rfl)
theorem tw_82 {Z : State} {a0 : Array Value} (hw : ∀ d ∈ tables_1, d.before a0 Z = true) : (Jvm.Cond.declares ({ cls := "com/example/frontmonth/frontmonth/Quote", name := "newSpread", desc := "()Ljava/math/BigDecimal;" } : Jvm.MethodName) : Jvm.Cond).before a0 Z = true := hw _ (List.mem_of_getElem? (i := 82) rfl)
theorem tw_83 {Z : State} {a0 : Array Value} (hw : ∀ d ∈ tables_1, d.before a0 Z = true) : (Jvm.Cond.instanceMethod ({ cls := "com/example/frontmonth/frontmonth/Quote", name := "newSpread", desc := "()Ljava/math/BigDecimal;" } : Jvm.MethodName) : Jvm.Cond).before a0 Z = true := hw _ (List.mem_of_getElem? (i := 83) rfl)
theorem tw_84 {Z : State} {a0 : Array Value} (hw : ∀ d ∈ tables_1, d.before a0 Z = true) : (Jvm.Cond.selects "com/example/frontmonth/frontmonth/Quote" ({ cls := "com/example/frontmonth/frontmonth/Quote", name := "newSpread", desc := "()Ljava/math/BigDecimal;" } : Jvm.MethodName) ({ cls := "com/example/frontmonth/frontmonth/Quote", name := "newSpread", desc := "()Ljava/math/BigDecimal;" } : Jvm.MethodName) : Jvm.Cond).before a0 Z = true := hw _ (List.mem_of_getElem? (i := 84) rfl)
theorem tw_85 {Z : State} {a0 : Array Value} (hw : ∀ d ∈ tables_1, d.before a0 Z = true) : (Jvm.Cond.code ({ cls := "com/example/frontmonth/frontmonth/Quote", name := "newSpread", desc := "()Ljava/math/BigDecimal;" } : Jvm.MethodName) prog_21_method_4_code (1 : Nat) (Option.some (Jvm.ClassFile.FieldType.object "java/math/BigDecimal")) : Jvm.Cond).before a0 Z = true := hw _ (List.mem_of_getElem? (i := 85) rfl)
theorem tw_86 {Z : State} {a0 : Array Value} (hw : ∀ d ∈ tables_1, d.before a0 Z = true) : (Jvm.Cond.methodLink "com/example/frontmonth/frontmonth/Quote" (22 : Nat) ({ cls := "com/example/frontmonth/frontmonth/BidAsk", name := "spread", desc := "()Ljava/math/BigDecimal;" } : Jvm.MethodName) : Jvm.Cond).before a0 Z = true := hw _ (List.mem_of_getElem? (i := 86) rfl)
theorem tw_87 {Z : State} {a0 : Array Value} (hw : ∀ d ∈ tables_1, d.before a0 Z = true) : (Jvm.Cond.declares ({ cls := "com/example/frontmonth/frontmonth/BidAsk", name := "spread", desc := "()Ljava/math/BigDecimal;" } : Jvm.MethodName) : Jvm.Cond).before a0 Z = true := hw _ (List.mem_of_getElem? (i := 87) rfl)
theorem tw_88 {Z : State} {a0 : Array Value} (hw : ∀ d ∈ tables_1, d.before a0 Z = true) : (Jvm.Cond.instanceMethod ({ cls := "com/example/frontmonth/frontmonth/BidAsk", name := "spread", desc := "()Ljava/math/BigDecimal;" } : Jvm.MethodName) : Jvm.Cond).before a0 Z = true := hw _ (List.mem_of_getElem? (i := 88) rfl)
theorem tw_89 {Z : State} {a0 : Array Value} (hw : ∀ d ∈ tables_1, d.before a0 Z = true) : (Jvm.Cond.selects "com/example/frontmonth/frontmonth/BidAsk" ({ cls := "com/example/frontmonth/frontmonth/BidAsk", name := "spread", desc := "()Ljava/math/BigDecimal;" } : Jvm.MethodName) ({ cls := "com/example/frontmonth/frontmonth/BidAsk", name := "spread", desc := "()Ljava/math/BigDecimal;" } : Jvm.MethodName) : Jvm.Cond).before a0 Z = true := hw _ (List.mem_of_getElem? (i := 89) rfl)
theorem tw_90 {Z : State} {a0 : Array Value} (hw : ∀ d ∈ tables_1, d.before a0 Z = true) : (Jvm.Cond.code ({ cls := "com/example/frontmonth/frontmonth/BidAsk", name := "spread", desc := "()Ljava/math/BigDecimal;" } : Jvm.MethodName) prog_4_method_4_code (1 : Nat) (Option.some (Jvm.ClassFile.FieldType.object "java/math/BigDecimal")) : Jvm.Cond).before a0 Z = true := hw _ (List.mem_of_getElem? (i := 90) rfl)
theorem tw_91 {Z : State} {a0 : Array Value} (hw : ∀ d ∈ tables_1, d.before a0 Z = true) : (Jvm.Cond.methodLink "com/example/frontmonth/frontmonth/BidAsk" (44 : Nat) ({ cls := "java/math/BigDecimal", name := "subtract", desc := "(Ljava/math/BigDecimal;)Ljava/math/BigDecimal;" } : Jvm.MethodName) : Jvm.Cond).before a0 Z = true := hw _ (List.mem_of_getElem? (i := 91) rfl)
theorem tw_92 {Z : State} {a0 : Array Value} (hw : ∀ d ∈ tables_1, d.before a0 Z = true) : (Jvm.Cond.declares ({ cls := "java/math/BigDecimal", name := "subtract", desc := "(Ljava/math/BigDecimal;)Ljava/math/BigDecimal;" } : Jvm.MethodName) : Jvm.Cond).before a0 Z = true := hw _ (List.mem_of_getElem? (i := 92) rfl)
theorem tw_93 {Z : State} {a0 : Array Value} (hw : ∀ d ∈ tables_1, d.before a0 Z = true) : (Jvm.Cond.instanceMethod ({ cls := "java/math/BigDecimal", name := "subtract", desc := "(Ljava/math/BigDecimal;)Ljava/math/BigDecimal;" } : Jvm.MethodName) : Jvm.Cond).before a0 Z = true := hw _ (List.mem_of_getElem? (i := 93) rfl)
theorem tw_94 {Z : State} {a0 : Array Value} (hw : ∀ d ∈ tables_1, d.before a0 Z = true) : (Jvm.Cond.selects "java/math/BigDecimal" ({ cls := "java/math/BigDecimal", name := "subtract", desc := "(Ljava/math/BigDecimal;)Ljava/math/BigDecimal;" } : Jvm.MethodName) ({ cls := "java/math/BigDecimal", name := "subtract", desc := "(Ljava/math/BigDecimal;)Ljava/math/BigDecimal;" } : Jvm.MethodName) : Jvm.Cond).before a0 Z = true := hw _ (List.mem_of_getElem? (i := 94) rfl)
theorem tw_95 {Z : State} {a0 : Array Value} (hw : ∀ d ∈ tables_1, d.before a0 Z = true) : (Jvm.Cond.code ({ cls := "java/math/BigDecimal", name := "subtract", desc := "(Ljava/math/BigDecimal;)Ljava/math/BigDecimal;" } : Jvm.MethodName) jdk_17_method_29_code (2 : Nat) (Option.some (Jvm.ClassFile.FieldType.object "java/math/BigDecimal")) : Jvm.Cond).before a0 Z = true := hw _ (List.mem_of_getElem? (i := 95) rfl)
theorem tw_96 {Z : State} {a0 : Array Value} (hw : ∀ d ∈ tables_1, d.before a0 Z = true) : (Jvm.Cond.methodLink "java/math/BigDecimal" (257 : Nat) ({ cls := "java/math/BigDecimal", name := "add", desc := "(JIJI)Ljava/math/BigDecimal;" } : Jvm.MethodName) : Jvm.Cond).before a0 Z = true := hw _ (List.mem_of_getElem? (i := 96) rfl)
theorem tw_97 {Z : State} {a0 : Array Value} (hw : ∀ d ∈ tables_1, d.before a0 Z = true) : (Jvm.Cond.static ({ cls := "java/math/BigDecimal", name := "add", desc := "(JIJI)Ljava/math/BigDecimal;" } : Jvm.MethodName) : Jvm.Cond).before a0 Z = true := hw _ (List.mem_of_getElem? (i := 97) rfl)
theorem tw_98 {Z : State} {a0 : Array Value} (hw : ∀ d ∈ tables_1, d.before a0 Z = true) : (Jvm.Cond.code ({ cls := "java/math/BigDecimal", name := "add", desc := "(JIJI)Ljava/math/BigDecimal;" } : Jvm.MethodName) jdk_17_method_134_code (12 : Nat) (Option.some (Jvm.ClassFile.FieldType.object "java/math/BigDecimal")) : Jvm.Cond).before a0 Z = true := hw _ (List.mem_of_getElem? (i := 98) rfl)
theorem tw_99 {Z : State} {a0 : Array Value} (hw : ∀ d ∈ tables_1, d.before a0 Z = true) : (Jvm.Cond.methodLink "java/math/BigDecimal" (1000 : Nat) ({ cls := "java/math/BigDecimal", name := "add", desc := "(JJI)Ljava/math/BigDecimal;" } : Jvm.MethodName) : Jvm.Cond).before a0 Z = true := hw _ (List.mem_of_getElem? (i := 99) rfl)
theorem tw_100 {Z : State} {a0 : Array Value} (hw : ∀ d ∈ tables_1, d.before a0 Z = true) : (Jvm.Cond.static ({ cls := "java/math/BigDecimal", name := "add", desc := "(JJI)Ljava/math/BigDecimal;" } : Jvm.MethodName) : Jvm.Cond).before a0 Z = true := hw _ (List.mem_of_getElem? (i := 100) rfl)
theorem tw_101 {Z : State} {a0 : Array Value} (hw : ∀ d ∈ tables_1, d.before a0 Z = true) : (Jvm.Cond.code ({ cls := "java/math/BigDecimal", name := "add", desc := "(JJI)Ljava/math/BigDecimal;" } : Jvm.MethodName) jdk_17_method_133_code (7 : Nat) (Option.some (Jvm.ClassFile.FieldType.object "java/math/BigDecimal")) : Jvm.Cond).before a0 Z = true := hw _ (List.mem_of_getElem? (i := 101) rfl)
theorem tw_102 {Z : State} {a0 : Array Value} (hw : ∀ d ∈ tables_1, d.before a0 Z = true) : (Jvm.Cond.methodLink "java/math/BigDecimal" (996 : Nat) ({ cls := "java/math/BigDecimal", name := "add", desc := "(JJ)J" } : Jvm.MethodName) : Jvm.Cond).before a0 Z = true := hw _ (List.mem_of_getElem? (i := 102) rfl)
theorem tw_103 {Z : State} {a0 : Array Value} (hw : ∀ d ∈ tables_1, d.before a0 Z = true) : (Jvm.Cond.static ({ cls := "java/math/BigDecimal", name := "add", desc := "(JJ)J" } : Jvm.MethodName) : Jvm.Cond).before a0 Z = true := hw _ (List.mem_of_getElem? (i := 103) rfl)
theorem tw_104 {Z : State} {a0 : Array Value} (hw : ∀ d ∈ tables_1, d.before a0 Z = true) : (Jvm.Cond.code ({ cls := "java/math/BigDecimal", name := "add", desc := "(JJ)J" } : Jvm.MethodName) jdk_17_method_132_code (6 : Nat) (Option.some Jvm.ClassFile.FieldType.long) : Jvm.Cond).before a0 Z = true := hw _ (List.mem_of_getElem? (i := 104) rfl)
theorem tw_105 {Z : State} {a0 : Array Value} (hw : ∀ d ∈ tables_1, d.before a0 Z = true) : (Jvm.Cond.methodLink "java/math/BigDecimal" (328 : Nat) ({ cls := "java/math/BigDecimal", name := "valueOf", desc := "(JI)Ljava/math/BigDecimal;" } : Jvm.MethodName) : Jvm.Cond).before a0 Z = true := hw _ (List.mem_of_getElem? (i := 105) rfl)
theorem tw_106 {Z : State} {a0 : Array Value} (hw : ∀ d ∈ tables_1, d.before a0 Z = true) : (Jvm.Cond.methodLink "java/math/BigDecimal" (236 : Nat) ({ cls := "java/math/BigDecimal", name := "valueOf", desc := "(J)Ljava/math/BigDecimal;" } : Jvm.MethodName) : Jvm.Cond).before a0 Z = true := hw _ (List.mem_of_getElem? (i := 106) rfl)
theorem tw_107 {Z : State} {a0 : Array Value} (hw : ∀ d ∈ tables_1, d.before a0 Z = true) : (Jvm.Cond.static ({ cls := "java/math/BigDecimal", name := "valueOf", desc := "(J)Ljava/math/BigDecimal;" } : Jvm.MethodName) : Jvm.Cond).before a0 Z = true := hw _ (List.mem_of_getElem? (i := 107) rfl)
theorem tw_108 {Z : State} {a0 : Array Value} (hw : ∀ d ∈ tables_1, d.before a0 Z = true) : (Jvm.Cond.code ({ cls := "java/math/BigDecimal", name := "valueOf", desc := "(J)Ljava/math/BigDecimal;" } : Jvm.MethodName) jdk_17_method_21_code (2 : Nat) (Option.some (Jvm.ClassFile.FieldType.object "java/math/BigDecimal")) : Jvm.Cond).before a0 Z = true := hw _ (List.mem_of_getElem? (i := 108) rfl)
theorem tw_109 {Z : State} {a0 : Array Value} (hw : ∀ d ∈ tables_1, d.before a0 Z = true) : (Jvm.Cond.fieldLink "java/math/BigDecimal" (246 : Nat) "java/math/BigDecimal" "ZERO_THROUGH_TEN" "[Ljava/math/BigDecimal;" : Jvm.Cond).before a0 Z = true := hw _ (List.mem_of_getElem? (i := 109) rfl)
theorem tw_110 {Z : State} {a0 : Array Value} (hw : ∀ d ∈ tables_1, d.before a0 Z = true) : (Jvm.Cond.methodLink "java/math/BigDecimal" (239 : Nat) ({ cls := "java/math/BigDecimal", name := "zeroValueOf", desc := "(I)Ljava/math/BigDecimal;" } : Jvm.MethodName) : Jvm.Cond).before a0 Z = true := hw _ (List.mem_of_getElem? (i := 110) rfl)
theorem tw_111 {Z : State} {a0 : Array Value} (hw : ∀ d ∈ tables_1, d.before a0 Z = true) : (Jvm.Cond.static ({ cls := "java/math/BigDecimal", name := "zeroValueOf", desc := "(I)Ljava/math/BigDecimal;" } : Jvm.MethodName) : Jvm.Cond).before a0 Z = true := hw _ (List.mem_of_getElem? (i := 111) rfl)
theorem tw_112 {Z : State} {a0 : Array Value} (hw : ∀ d ∈ tables_1, d.before a0 Z = true) : (Jvm.Cond.code ({ cls := "java/math/BigDecimal", name := "zeroValueOf", desc := "(I)Ljava/math/BigDecimal;" } : Jvm.MethodName) jdk_17_method_24_code (1 : Nat) (Option.some (Jvm.ClassFile.FieldType.object "java/math/BigDecimal")) : Jvm.Cond).before a0 Z = true := hw _ (List.mem_of_getElem? (i := 112) rfl)
theorem tw_113 {Z : State} {a0 : Array Value} (hw : ∀ d ∈ tables_1, d.before a0 Z = true) : (Jvm.Cond.fieldLink "java/math/BigDecimal" (250 : Nat) "java/math/BigDecimal" "ZERO_SCALED_BY" "[Ljava/math/BigDecimal;" : Jvm.Cond).before a0 Z = true := hw _ (List.mem_of_getElem? (i := 113) rfl)
/-! ### BigDecimals that hold a compact value -/
def BD (Z : State) (h : Heap) (a : Addr) (v : Int64) (sc : Int32) : Prop := Exa Z h a "java/math/BigDecimal" ∧ Fld Z h a "java/math/BigDecimal" "intCompact" "J" (.long v) ∧ Fld Z h a "java/math/BigDecimal" "scale" "I" (.int sc)
theorem BD.lt {Z : State} {h : Heap} {a : Addr} {v : Int64} {sc : Int32} (B : BD Z h a v sc) : a < h.size := B.1.lt
theorem BD.ext {Z : State} {h h' : Heap} {a : Addr} {v : Int64} {sc : Int32} (B : BD Z h a v sc) (E : Ext h h') : BD Z h' a v sc := ⟨Exa.ext E B.1, Fld.ext E B.2.1, Fld.ext E B.2.2⟩
theorem BD.other {Z : State} {h h' : Heap} {a b : Addr} {v : Int64} {sc : Int32} {sl : Nat} {w : Value} (B : BD Z h a v sc) (W : Wr h h' b sl w) (ne : a ≠ b) : BD Z h' a v sc := ⟨Exa.wr W B.1, Fld.other W B.2.1 (Or.inl ne), Fld.other W B.2.2 (Or.inl ne)⟩
theorem BD.keep {Z : State} {h h' : Heap} {a : Addr} {v : Int64} {sc : Int32} {ws : List Addr} (B : BD Z h a v sc) (K : Keep h h' ws) (q : a ∉ ws) : BD Z h' a v sc := ⟨Exa.keep B.1 K, Fld.keep B.2.1 K q, Fld.keep B.2.2 K q⟩
/-- a static table of them -/
def BDs (Z : State) (a : Addr) (cl : Cell) (N : Nat) (val : Nat → Int64) (sc : Nat → Int32) : Prop := Arr Z Z.heap a cl (.object "java/math/BigDecimal") ∧ cl.slots.size = N ∧ ∀ i, i < N → ∃ b, cl.slots[i]? = some (.ref b) ∧ BD Z Z.heap b (val i) (sc i)
theorem own_flong {args : Array Value} {s : State} {t : Term} {C n d : String} {a : Addr} {z : Int64} (hx : t.eval args s none [] s = some (.ref a)) (h : (Cond.eq (.field t C n d) (.long z)).value args s none s [] = some true) : Fld s s.heap a C n d (.long z) := by
  refine Fld.start ?_
  have e1 : (Term.field t C n d).eval args s none [] s = s.fieldOf? a C n d := fld_at hx
  have e2 : (Term.long z).eval args s none [] s = some (.long z) := rfl
  cases hf : s.fieldOf? a C n d with
  | none => simp [Cond.value, e1, hf] at h
  | some v =>
    cases v <;> simp [Cond.value, e1, hf, e2] at h
    subst h; rfl
/-! ### numbers -/
theorem own_i64 {x : Int64} {n : Int} (h : x.toInt = n) (hn : n ≠ -9223372036854775808) : ¬ x = (-9223372036854775808 : Int64) := fun e => by
  rw [e] at h; exact hn (h.symm.trans (by decide))
theorem own_gap (p : Int32) : 0 ≤ (p.toInt64 &&& (2147483647 : Int64)).toInt ∧ (p.toInt64 &&& (2147483647 : Int64)).toInt < 2147483648 := by
  have h := c_maskL p.toInt64 2147483647 31 (by decide) (by decide)
  omega
theorem own_bid (p : Int32) : -2147483648 ≤ (p.toInt64).toInt ∧ (p.toInt64).toInt < 2147483648 := by
  have h := c_i2l p
  have r := rng32 p
  omega
theorem own_ask (p q : Int32) : (p.toInt64 + (q.toInt64 &&& (2147483647 : Int64))).toInt = (p.toInt64).toInt + (q.toInt64 &&& (2147483647 : Int64)).toInt := by
  have h1 := own_bid p
  have h2 := own_gap q
  have h3 := c_ladd p.toInt64 (q.toInt64 &&& (2147483647 : Int64))
  have h4 := rng64 (p.toInt64 + (q.toInt64 &&& (2147483647 : Int64)))
  omega
theorem own_m1 (p : Int32) : ¬ (p.toInt64) = (-9223372036854775808 : Int64) := own_i64 rfl (by have := own_bid p; omega)
theorem own_m2 (p q : Int32) : ¬ ((p.toInt64) + (q.toInt64 &&& (2147483647 : Int64))) = (-9223372036854775808 : Int64) := own_i64 rfl (by have := own_bid p; have := own_gap q; have := own_ask p q; omega)
theorem own_m4 (q : Int32) : ¬ (q.toInt64 &&& (2147483647 : Int64)) = (-9223372036854775808 : Int64) := own_i64 rfl (by have := own_gap q; omega)
theorem own_dif (p q : Int32) : ((p.toInt64) + (q.toInt64 &&& (2147483647 : Int64))) + (-(p.toInt64)) = (q.toInt64 &&& (2147483647 : Int64)) := by
  apply Int64.toInt_inj.mp
  have h1 := own_bid p
  have h2 := own_gap q
  have h3 := own_ask p q
  have h4 := c_lneg p.toInt64
  have h5 := rng64 (-(p.toInt64))
  have h6 := c_ladd ((p.toInt64) + (q.toInt64 &&& (2147483647 : Int64))) (-(p.toInt64))
  have h7 := rng64 (((p.toInt64) + (q.toInt64 &&& (2147483647 : Int64))) + (-(p.toInt64)))
  omega
theorem own_m3 (p q : Int32) : ¬ (((p.toInt64) + (q.toInt64 &&& (2147483647 : Int64))) + (-(p.toInt64))) = (-9223372036854775808 : Int64) := by rw [own_dif]; exact own_m4 q
theorem own_ov (p q : Int32) : ¬ (((((p.toInt64) + (q.toInt64 &&& (2147483647 : Int64))) + (-(p.toInt64))) ^^^ ((p.toInt64) + (q.toInt64 &&& (2147483647 : Int64)))) &&& ((((p.toInt64) + (q.toInt64 &&& (2147483647 : Int64))) + (-(p.toInt64))) ^^^ (-(p.toInt64)))) < (0 : Int64) := by
  have h1 := own_bid p
  have h2 := own_gap q
  have h3 := own_ask p q
  have h4 := c_lneg p.toInt64
  have h5 := rng64 (-(p.toInt64))
  rw [XT.and_neg64, XT.xor_neg64, XT.xor_neg64, own_dif, XT.negI64, XT.negI64, XT.negI64]
  omega
theorem own_sc (p : Int32) : ¬ (p &&& (7 : Int32)) < 0 ∧ (p &&& (7 : Int32)) < 16 := by
  have h := c_mask p 7 3 (by decide) (by decide)
  rw [Int32.lt_iff_toInt_lt, Int32.lt_iff_toInt_lt]
  have h0 : (0 : Int32).toInt = 0 := rfl
  have h1 : (16 : Int32).toInt = 16 := rfl
  omega
theorem own_idxL {v : Int64} (h0 : ¬ v < (0 : Int64)) (h1 : v < ((11 : Int32).toInt64)) : ¬ v.toInt32 < 0 ∧ (v.toInt32).toNatClampNeg < 11 ∧ Int64.ofNat (v.toInt32).toNatClampNeg = v := by
  rw [Int64.lt_iff_toInt_lt] at h0 h1
  have e0 : (0 : Int64).toInt = 0 := rfl
  have e1 : ((11 : Int32).toInt64).toInt = 11 := by decide
  have c := c_l2i v
  have r := rng32 v.toInt32
  have e : (v.toInt32).toInt = v.toInt := by omega
  have z0 : (0 : Int32).toInt = 0 := rfl
  have hn : (v.toInt32).toNatClampNeg = v.toInt.toNat := by
    simp only [Int32.toNatClampNeg, e]
  refine ⟨?_, ?_, ?_⟩
  · rw [Int32.lt_iff_toInt_lt]; omega
  · omega
  · apply Int64.toInt_inj.mp
    rw [hn, Int64.toInt_ofNat_of_lt (by omega)]; omega
theorem own_idxI {s : Int32} (h0 : ¬ s < 0) (h1 : s < 16) : ¬ s < 0 ∧ s.toNatClampNeg < 16 ∧ Int32.ofNat s.toNatClampNeg = s := by
  refine ⟨h0, ?_, (back32 h0).1⟩
  rw [Int32.lt_iff_toInt_lt] at h0 h1
  have z0 : (0 : Int32).toInt = 0 := rfl
  have z1 : (16 : Int32).toInt = 16 := rfl
  simp only [Int32.toNatClampNeg]; omega
def Q_numInit (Z : State) (a1 : Addr) (h0 : Heap) (n0 : Nat) (v : Option Value) (h : Heap) (L : List Loc) : Prop := v = none ∧ Fr n0 L ∧ h = h0
theorem ef_numInit (m : MethodId) (a1 : Addr) : entryFrame m #[(.ref a1)] 1 = mkF m 0 #[.val (.ref a1)] [] := by first | (simp [entryFrame, mkF, argsToLocals, Value.category]; done) | rfl
set_option maxRecDepth 65536 in
set_option maxHeartbeats 40000000 in
theorem rm_numInit (l : Launch) (Z : State) (a0 : Array Value) (hw : ∀ d ∈ tables_1, d.before a0 Z = true) (ws : List Jvm.Cond) (a1 : Addr) (h0 : Heap) (n0 : Nat) (Z0 : n0 ≤ h0.size) :
    MetFree l (⟨"java/lang/Number", "<init>", "()V"⟩ : MethodName) (head1 (Jvm.Cond.code (⟨"java/lang/Number", "<init>", "()V"⟩ : MethodName) jdk_18_method_1_code 1 none :: ws) ({ frames := 1, cells := 0, slots := 0, locals := 12 } : Room)) (fun a U => a = #[(.ref a1)] ∧ Z.Warmed39 U.vm ∧ U.heap = h0) (fun _ _ _ _ _ => True) (fun _ U o U' => ∃ v L, o = .returned v ∧ Q_numInit Z a1 h0 n0 v U'.heap L ∧ FrameEnd U o U' L ({ frames := 1, cells := 0, slots := 0, locals := 12 } : Room).cells ({ frames := 1, cells := 0, slots := 0, locals := 12 } : Room).slots) := by
  refine MetFree.of_bodySF (plainFor_of_name pn_java_lang_Number) hisR ?_
  intro p e s m args below meth c s₁ Bd hml0 hP hK
  obtain ⟨rfl, hZ, hh⟩ := hP
  have hx := Bd.exec
  have hby := Bd.bytes
  have hml : c.maxLocals = 1 := hml0
  have hown : s.vm.findClass "java/lang/Number" = some m.cls := findClass_of_methodNamed Bd.named
  have hnm := (name_of_methodNamed Bd.named Bd.method).1
  have X0 : Stand p l e ({ frames := 1, cells := 0, slots := 0, locals := 12 } : Room) s m #[(.ref a1)] below meth c s₁ [] 0 0 := Stand.of_body Bd
  have e0 : s₁.heap = h0 := by rw [← hh, Bd.state]; rfl
  have N0 := Fr.nil n0
  have hlk : meth.locks = false := Bd.notSynchronized
  obtain ⟨P, hP⟩ : ∃ P : Outcome → State → Prop, P = PQ s (Q_numInit Z a1 h0 n0) ({ frames := 1, cells := 0, slots := 0, locals := 12 } : Room).cells ({ frames := 1, cells := 0, slots := 0, locals := 12 } : Room).slots := ⟨_, rfl⟩
  have fin : ∀ {T : State} {locs : List Loc} {k n : Nat} {v : Option Value} {S0 : State}, Stand p l e ({ frames := 1, cells := 0, slots := 0, locals := 12 } : Room) s m #[(.ref a1)] below meth c T locs k n → (meth.sig.returnType = none → v = none) → k ≤ ({ frames := 1, cells := 0, slots := 0, locals := 12 } : Room).cells → n ≤ ({ frames := 1, cells := 0, slots := 0, locals := 12 } : Room).slots → Q_numInit Z a1 h0 n0 v T.heap locs → (∀ fs, (∀ (f : JFrame) (acts : List Action), f.method = m → f.locked = none → f.entered = [] → (doReturn e (T.setTop f) acts v).1 = T.setFrames fs) → Steps p.tables e below S0 (T.setFrames fs)) → Go p e below P S0 := fun X hv hk hn hQ hst => hP ▸ Go.fin X hlk hv hk hn hQ hst
  suffices hgo : Go p e below P (s₁.setTop (mkF m 0 #[.val (.ref a1)] [])) by
    rw [hP] at hgo
    exact Go.by (fun t k => castTop (ef_numInit m a1) k) hgo
  show Go p e below P (s₁.setTop (mkF m 0 #[.val (.ref a1)] []))
  refine Go.by (fun _ => XS.aloadN X0.here hx rfl (hb hby d_jdk_18_method_1_code_0) rfl rfl) ?_
  show Go p e below P (s₁.setTop (mkF m 1 #[.val (.ref a1)] [(.ref a1)]))
  obtain ⟨T1, X1, e1, st1⟩ := initO X0 hx hZ hown (tw_18 hw) (tw_19 hw) (tw_20 hw) e0 (g := (mkF m 1 #[.val (.ref a1)] [(.ref a1)])) rfl (by rw [hml]; rfl) rfl (hb hby d_jdk_18_method_1_code_1) (by decide) (W := 0) (by show 2 * 0 + _ ≤ _; exact Nat.le_of_eq rfl) (by decide)
  refine Go.by st1 ?_
  show Go p e below P (T1.setTop (mkF m 4 #[.val (.ref a1)] []))
  refine fin X1 (v := none) (fun _ => rfl) (by decide) (by decide) ?_ (fun fs hr => X1.returnOut hx Bd.returns (hb hby d_jdk_18_method_1_code_4) hr)
  show Q_numInit Z a1 h0 n0 _ T1.heap _
  rw [e1]
  exact ⟨rfl, N0, rfl⟩
def Q_bdInit (Z : State) (a0_ : Addr) (v2 : Int64) (s3 : Int32) (p4 : Int32) (h0 : Heap) (n0 : Nat) (v : Option Value) (h : Heap) (L : List Loc) : Prop := v = none ∧ Fr n0 L ∧ Keep h0 h [a0_] ∧ Fld Z h a0_ "java/math/BigDecimal" "scale" "I" (.int s3) ∧ Fld Z h a0_ "java/math/BigDecimal" "precision" "I" (.int p4) ∧ Fld Z h a0_ "java/math/BigDecimal" "intCompact" "J" (.long v2) ∧ Fld Z h a0_ "java/math/BigDecimal" "intVal" "Ljava/math/BigInteger;" .null
theorem ef_bdInit (m : MethodId) (a0_ : Addr) (v2 : Int64) (s3 : Int32) (p4 : Int32) : entryFrame m #[(.ref a0_), .null, (.long v2), (.int s3), (.int p4)] 6 = mkF m 0 #[.val (.ref a0_), .val .null, .val (.long v2), .second, .val (.int s3), .val (.int p4)] [] := by first | (simp [entryFrame, mkF, argsToLocals, Value.category]; done) | rfl
set_option maxRecDepth 65536 in
set_option maxHeartbeats 40000000 in
theorem rm_bdInit (l : Launch) (Z : State) (a0 : Array Value) (hw : ∀ d ∈ tables_1, d.before a0 Z = true) (ws : List Jvm.Cond) (a0_ : Addr) (v2 : Int64) (s3 : Int32) (p4 : Int32) (h0 : Heap) (n0 : Nat) (Z0 : n0 ≤ h0.size) (E0 : Exa Z h0 a0_ "java/math/BigDecimal") (g_a0_ : n0 ≤ a0_) (F0_scale : Fld Z h0 a0_ "java/math/BigDecimal" "scale" "I" (.int (0 : Int32))) (F0_precision : Fld Z h0 a0_ "java/math/BigDecimal" "precision" "I" (.int (0 : Int32))) (F0_intCompact : Fld Z h0 a0_ "java/math/BigDecimal" "intCompact" "J" (.long (0 : Int64))) (F0_intVal : Fld Z h0 a0_ "java/math/BigDecimal" "intVal" "Ljava/math/BigInteger;" .null) :
    MetFree l (⟨"java/math/BigDecimal", "<init>", "(Ljava/math/BigInteger;JII)V"⟩ : MethodName) (head1 (Jvm.Cond.code (⟨"java/math/BigDecimal", "<init>", "(Ljava/math/BigInteger;JII)V"⟩ : MethodName) jdk_17_method_1_code 6 none :: ws) ({ frames := 2, cells := 0, slots := 0, locals := 40 } : Room)) (fun a U => a = #[(.ref a0_), .null, (.long v2), (.int s3), (.int p4)] ∧ Z.Warmed39 U.vm ∧ U.heap = h0) (fun _ _ _ _ _ => True) (fun _ U o U' => ∃ v L, o = .returned v ∧ Q_bdInit Z a0_ v2 s3 p4 h0 n0 v U'.heap L ∧ FrameEnd U o U' L ({ frames := 2, cells := 0, slots := 0, locals := 40 } : Room).cells ({ frames := 2, cells := 0, slots := 0, locals := 40 } : Room).slots) := by
  refine MetFree.of_bodySF (plainFor_of_name pn_java_math_BigDecimal) hisR ?_
  intro p e s m args below meth c s₁ Bd hml0 hP hK
  obtain ⟨rfl, hZ, hh⟩ := hP
  have hx := Bd.exec
  have hby := Bd.bytes
  have hml : c.maxLocals = 6 := hml0
  have hown : s.vm.findClass "java/math/BigDecimal" = some m.cls := findClass_of_methodNamed Bd.named
  have hnm := (name_of_methodNamed Bd.named Bd.method).1
  have X0 : Stand p l e ({ frames := 2, cells := 0, slots := 0, locals := 40 } : Room) s m #[(.ref a0_), .null, (.long v2), (.int s3), (.int p4)] below meth c s₁ [] 0 0 := Stand.of_body Bd
  have e0 : s₁.heap = h0 := by rw [← hh, Bd.state]; rfl
  have N0 := Fr.nil n0
  have hlk : meth.locks = false := Bd.notSynchronized
  obtain ⟨P, hP⟩ : ∃ P : Outcome → State → Prop, P = PQ s (Q_bdInit Z a0_ v2 s3 p4 h0 n0) ({ frames := 2, cells := 0, slots := 0, locals := 40 } : Room).cells ({ frames := 2, cells := 0, slots := 0, locals := 40 } : Room).slots := ⟨_, rfl⟩
  have fin : ∀ {T : State} {locs : List Loc} {k n : Nat} {v : Option Value} {S0 : State}, Stand p l e ({ frames := 2, cells := 0, slots := 0, locals := 40 } : Room) s m #[(.ref a0_), .null, (.long v2), (.int s3), (.int p4)] below meth c T locs k n → (meth.sig.returnType = none → v = none) → k ≤ ({ frames := 2, cells := 0, slots := 0, locals := 40 } : Room).cells → n ≤ ({ frames := 2, cells := 0, slots := 0, locals := 40 } : Room).slots → Q_bdInit Z a0_ v2 s3 p4 h0 n0 v T.heap locs → (∀ fs, (∀ (f : JFrame) (acts : List Action), f.method = m → f.locked = none → f.entered = [] → (doReturn e (T.setTop f) acts v).1 = T.setFrames fs) → Steps p.tables e below S0 (T.setFrames fs)) → Go p e below P S0 := fun X hv hk hn hQ hst => hP ▸ Go.fin X hlk hv hk hn hQ hst
  suffices hgo : Go p e below P (s₁.setTop (mkF m 0 #[.val (.ref a0_), .val .null, .val (.long v2), .second, .val (.int s3), .val (.int p4)] [])) by
    rw [hP] at hgo
    exact Go.by (fun t k => castTop (ef_bdInit m a0_ v2 s3 p4) k) hgo
  show Go p e below P (s₁.setTop (mkF m 0 #[.val (.ref a0_), .val .null, .val (.long v2), .second, .val (.int s3), .val (.int p4)] []))
  refine Go.by (fun _ => XS.aloadN X0.here hx rfl (hb hby d_jdk_17_method_1_code_0) rfl rfl) ?_
  show Go p e below P (s₁.setTop (mkF m 1 #[.val (.ref a0_), .val .null, .val (.long v2), .second, .val (.int s3), .val (.int p4)] [(.ref a0_)]))
  obtain ⟨_, _, ⟨T1, L1, k1, n1⟩, -, X1, ⟨Lc1, hQ1, l1, y1, z1⟩, st1⟩ := X0.specialBack hx (y := (⟨"java/lang/Number", "<init>", "()V"⟩ : MethodName)) rfl hown (mvT hZ (tw_12 hw)) (mvT hZ (tw_13 hw)) (mvT hZ (tw_17 hw)) (by decide) (backOf (W := 0) (rm_numInit l Z a0 hw [] a0_ h0 n0 Z0 ) hZ (tw_17 hw) (tw_16 hw) (by decide) (by decide)) (g := (mkF m 1 #[.val (.ref a0_), .val .null, .val (.long v2), .second, .val (.int s3), .val (.int p4)] [(.ref a0_)])) rfl (by rw [hml]; rfl) (Steps.refl _) (a := a0_) (argsL := []) (rest := []) (lenOf pd___V rfl) rfl (by show 2 * 0 + _ ≤ _; exact Nat.le_of_eq rfl) (hb hby d_jdk_17_method_1_code_1) (fun _ _ => ⟨rfl, e0, (by decide : 0 + 0 ≤ _), (by decide : 0 + 0 ≤ _)⟩)
  dsimp only [Pt.U, Pt.locs, Pt.cells, Pt.slots] at X1 l1 y1 z1 st1 hQ1
  subst l1 y1 z1
  obtain ⟨rfl, N1q, q1⟩ := hQ1
  have N1 := Fr.app N0 N1q
  refine Go.by (fun t k => st1.trans k) ?_
  show Go p e below P (T1.setTop (mkF m 4 #[.val (.ref a0_), .val .null, .val (.long v2), .second, .val (.int s3), .val (.int p4)] []))
  refine Go.by (fun _ => XS.aloadN X1.here hx rfl (hb hby d_jdk_17_method_1_code_4) rfl rfl) ?_
  show Go p e below P (T1.setTop (mkF m 5 #[.val (.ref a0_), .val .null, .val (.long v2), .second, .val (.int s3), .val (.int p4)] [(.ref a0_)]))
  refine Go.by (fun _ => XS.iload X1.here hx rfl (hb hby d_jdk_17_method_1_code_5) rfl) ?_
  show Go p e below P (T1.setTop (mkF m 7 #[.val (.ref a0_), .val .null, .val (.long v2), .second, .val (.int s3), .val (.int p4)] [(.int s3), (.ref a0_)]))
  obtain ⟨T2, h2, X2, e2, W2, st2⟩ := putF X1 hx hZ hown (host := "") (Or.inl (tw_21 hw)) Via.refl q1 F0_scale E0 (Or.inr ⟨(tw_22 hw), rfl, hnm⟩) (tw_6 hw) (ty := .int) (by decide) rfl rfl (g := (mkF m 7 #[.val (.ref a0_), .val .null, .val (.long v2), .second, .val (.int s3), .val (.int p4)] [(.int s3), (.ref a0_)])) rfl rfl (hb hby d_jdk_17_method_1_code_7)
  refine Go.by st2 ?_
  have N2 := Fr.snoc X2 N1 g_a0_
  have f2_0 : n0 ≤ h2.size := (Nat.le_trans Z0 (Keep.of_wr W2).1)
  have f2_1 : Keep h0 h2 [a0_] := (Keep.wr (Keep.refl h0 [a0_]) W2 (Or.inl (List.mem_of_getElem? (i := 0) rfl)))
  have f2_2 : Exa Z h2 a0_ "java/math/BigDecimal" := (Exa.wr W2 E0)
  have f2_3 : Fld Z h2 a0_ "java/math/BigDecimal" "scale" "I" (.int s3) := (Fld.same W2 F0_scale)
  have f2_4 : Fld Z h2 a0_ "java/math/BigDecimal" "precision" "I" (.int (0 : Int32)) := (Fld.other W2 F0_precision (Or.inr (slot_ne (Or.inl (tw_24 hw)) (Or.inr (tw_22 hw)) (by decide) (t := .int) (t' := .int) (by decide) (by decide))))
  have f2_5 : Fld Z h2 a0_ "java/math/BigDecimal" "intCompact" "J" (.long (0 : Int64)) := (Fld.other W2 F0_intCompact (Or.inr (slot_ne (Or.inr (tw_26 hw)) (Or.inr (tw_22 hw)) (by decide) (t := .long) (t' := .int) (by decide) (by decide))))
  have f2_6 : Fld Z h2 a0_ "java/math/BigDecimal" "intVal" "Ljava/math/BigInteger;" .null := (Fld.other W2 F0_intVal (Or.inr (slot_ne (Or.inr (tw_28 hw)) (Or.inr (tw_22 hw)) (by decide) (t := (.object "java/math/BigInteger")) (t' := .int) (by decide) (by decide))))
  show Go p e below P (T2.setTop (mkF m 10 #[.val (.ref a0_), .val .null, .val (.long v2), .second, .val (.int s3), .val (.int p4)] []))
  refine Go.by (fun _ => XS.aloadN X2.here hx rfl (hb hby d_jdk_17_method_1_code_10) rfl rfl) ?_
  show Go p e below P (T2.setTop (mkF m 11 #[.val (.ref a0_), .val .null, .val (.long v2), .second, .val (.int s3), .val (.int p4)] [(.ref a0_)]))
  refine Go.by (fun _ => XS.iload X2.here hx rfl (hb hby d_jdk_17_method_1_code_11) rfl) ?_
  show Go p e below P (T2.setTop (mkF m 13 #[.val (.ref a0_), .val .null, .val (.long v2), .second, .val (.int s3), .val (.int p4)] [(.int p4), (.ref a0_)]))
  obtain ⟨T3, h3, X3, e3, W3, st3⟩ := putF X2 hx hZ hown (host := "") (Or.inl (tw_23 hw)) Via.refl e2 f2_4 f2_2 (Or.inl (tw_24 hw)) (tw_6 hw) (ty := .int) (by decide) rfl rfl (g := (mkF m 13 #[.val (.ref a0_), .val .null, .val (.long v2), .second, .val (.int s3), .val (.int p4)] [(.int p4), (.ref a0_)])) rfl rfl (hb hby d_jdk_17_method_1_code_13)
  refine Go.by st3 ?_
  have N3 := Fr.snoc X3 N2 g_a0_
  have f3_0 : n0 ≤ h3.size := (Nat.le_trans f2_0 (Keep.of_wr W3).1)
  have f3_1 : Keep h0 h3 [a0_] := (Keep.wr f2_1 W3 (Or.inl (List.mem_of_getElem? (i := 0) rfl)))
  have f3_2 : Exa Z h3 a0_ "java/math/BigDecimal" := (Exa.wr W3 f2_2)
  have f3_3 : Fld Z h3 a0_ "java/math/BigDecimal" "scale" "I" (.int s3) := (Fld.other W3 f2_3 (Or.inr (slot_ne (Or.inr (tw_22 hw)) (Or.inl (tw_24 hw)) (by decide) (t := .int) (t' := .int) (by decide) (by decide))))
  have f3_4 : Fld Z h3 a0_ "java/math/BigDecimal" "precision" "I" (.int p4) := (Fld.same W3 f2_4)
  have f3_5 : Fld Z h3 a0_ "java/math/BigDecimal" "intCompact" "J" (.long (0 : Int64)) := (Fld.other W3 f2_5 (Or.inr (slot_ne (Or.inr (tw_26 hw)) (Or.inl (tw_24 hw)) (by decide) (t := .long) (t' := .int) (by decide) (by decide))))
  have f3_6 : Fld Z h3 a0_ "java/math/BigDecimal" "intVal" "Ljava/math/BigInteger;" .null := (Fld.other W3 f2_6 (Or.inr (slot_ne (Or.inr (tw_28 hw)) (Or.inl (tw_24 hw)) (by decide) (t := (.object "java/math/BigInteger")) (t' := .int) (by decide) (by decide))))
  show Go p e below P (T3.setTop (mkF m 16 #[.val (.ref a0_), .val .null, .val (.long v2), .second, .val (.int s3), .val (.int p4)] []))
  refine Go.by (fun _ => XS.aloadN X3.here hx rfl (hb hby d_jdk_17_method_1_code_16) rfl rfl) ?_
  show Go p e below P (T3.setTop (mkF m 17 #[.val (.ref a0_), .val .null, .val (.long v2), .second, .val (.int s3), .val (.int p4)] [(.ref a0_)]))
  refine Go.by (fun _ => XS.lloadN X3.here hx rfl (hb hby d_jdk_17_method_1_code_17) rfl) ?_
  show Go p e below P (T3.setTop (mkF m 18 #[.val (.ref a0_), .val .null, .val (.long v2), .second, .val (.int s3), .val (.int p4)] [(.long v2), (.ref a0_)]))
  obtain ⟨T4, h4, X4, e4, W4, st4⟩ := putF X3 hx hZ hown (host := "") (Or.inl (tw_25 hw)) Via.refl e3 f3_5 f3_2 (Or.inr ⟨(tw_26 hw), rfl, hnm⟩) (tw_6 hw) (ty := .long) (by decide) rfl rfl (g := (mkF m 18 #[.val (.ref a0_), .val .null, .val (.long v2), .second, .val (.int s3), .val (.int p4)] [(.long v2), (.ref a0_)])) rfl rfl (hb hby d_jdk_17_method_1_code_18)
  refine Go.by st4 ?_
  have N4 := Fr.snoc X4 N3 g_a0_
  have f4_0 : n0 ≤ h4.size := (Nat.le_trans f3_0 (Keep.of_wr W4).1)
  have f4_1 : Keep h0 h4 [a0_] := (Keep.wr f3_1 W4 (Or.inl (List.mem_of_getElem? (i := 0) rfl)))
  have f4_2 : Exa Z h4 a0_ "java/math/BigDecimal" := (Exa.wr W4 f3_2)
  have f4_3 : Fld Z h4 a0_ "java/math/BigDecimal" "scale" "I" (.int s3) := (Fld.other W4 f3_3 (Or.inr (slot_ne (Or.inr (tw_22 hw)) (Or.inr (tw_26 hw)) (by decide) (t := .int) (t' := .long) (by decide) (by decide))))
  have f4_4 : Fld Z h4 a0_ "java/math/BigDecimal" "precision" "I" (.int p4) := (Fld.other W4 f3_4 (Or.inr (slot_ne (Or.inl (tw_24 hw)) (Or.inr (tw_26 hw)) (by decide) (t := .int) (t' := .long) (by decide) (by decide))))
  have f4_5 : Fld Z h4 a0_ "java/math/BigDecimal" "intCompact" "J" (.long v2) := (Fld.same W4 f3_5)
  have f4_6 : Fld Z h4 a0_ "java/math/BigDecimal" "intVal" "Ljava/math/BigInteger;" .null := (Fld.other W4 f3_6 (Or.inr (slot_ne (Or.inr (tw_28 hw)) (Or.inr (tw_26 hw)) (by decide) (t := (.object "java/math/BigInteger")) (t' := .long) (by decide) (by decide))))
  show Go p e below P (T4.setTop (mkF m 21 #[.val (.ref a0_), .val .null, .val (.long v2), .second, .val (.int s3), .val (.int p4)] []))
  refine Go.by (fun _ => XS.aloadN X4.here hx rfl (hb hby d_jdk_17_method_1_code_21) rfl rfl) ?_
  show Go p e below P (T4.setTop (mkF m 22 #[.val (.ref a0_), .val .null, .val (.long v2), .second, .val (.int s3), .val (.int p4)] [(.ref a0_)]))
  refine Go.by (fun _ => XS.aloadN X4.here hx rfl (hb hby d_jdk_17_method_1_code_22) rfl rfl) ?_
  show Go p e below P (T4.setTop (mkF m 23 #[.val (.ref a0_), .val .null, .val (.long v2), .second, .val (.int s3), .val (.int p4)] [.null, (.ref a0_)]))
  obtain ⟨T5, h5, X5, e5, W5, st5⟩ := putF X4 hx hZ hown (host := "") (Or.inl (tw_27 hw)) Via.refl e4 f4_6 f4_2 (Or.inr ⟨(tw_28 hw), rfl, hnm⟩) (tw_6 hw) (ty := (.object "java/math/BigInteger")) (by decide) rfl rfl (g := (mkF m 23 #[.val (.ref a0_), .val .null, .val (.long v2), .second, .val (.int s3), .val (.int p4)] [.null, (.ref a0_)])) rfl rfl (hb hby d_jdk_17_method_1_code_23)
  refine Go.by st5 ?_
  have N5 := Fr.snoc X5 N4 g_a0_
  have f5_0 : n0 ≤ h5.size := (Nat.le_trans f4_0 (Keep.of_wr W5).1)
  have f5_1 : Keep h0 h5 [a0_] := (Keep.wr f4_1 W5 (Or.inl (List.mem_of_getElem? (i := 0) rfl)))
  have f5_2 : Exa Z h5 a0_ "java/math/BigDecimal" := (Exa.wr W5 f4_2)
  have f5_3 : Fld Z h5 a0_ "java/math/BigDecimal" "scale" "I" (.int s3) := (Fld.other W5 f4_3 (Or.inr (slot_ne (Or.inr (tw_22 hw)) (Or.inr (tw_28 hw)) (by decide) (t := .int) (t' := (.object "java/math/BigInteger")) (by decide) (by decide))))
  have f5_4 : Fld Z h5 a0_ "java/math/BigDecimal" "precision" "I" (.int p4) := (Fld.other W5 f4_4 (Or.inr (slot_ne (Or.inl (tw_24 hw)) (Or.inr (tw_28 hw)) (by decide) (t := .int) (t' := (.object "java/math/BigInteger")) (by decide) (by decide))))
  have f5_5 : Fld Z h5 a0_ "java/math/BigDecimal" "intCompact" "J" (.long v2) := (Fld.other W5 f4_5 (Or.inr (slot_ne (Or.inr (tw_26 hw)) (Or.inr (tw_28 hw)) (by decide) (t := .long) (t' := (.object "java/math/BigInteger")) (by decide) (by decide))))
  have f5_6 : Fld Z h5 a0_ "java/math/BigDecimal" "intVal" "Ljava/math/BigInteger;" .null := (Fld.same W5 f4_6)
  show Go p e below P (T5.setTop (mkF m 26 #[.val (.ref a0_), .val .null, .val (.long v2), .second, .val (.int s3), .val (.int p4)] []))
  refine fin X5 (v := none) (fun _ => rfl) (by decide) (by decide) ?_ (fun fs hr => X5.returnOut hx Bd.returns (hb hby d_jdk_17_method_1_code_26) hr)
  show Q_bdInit Z a0_ v2 s3 p4 h0 n0 _ T5.heap _
  rw [e5]
  exact ⟨rfl, N5, f5_1, f5_3, f5_4, f5_5, f5_6⟩
def Q_valueOfJ (Z : State) (v0 : Int64) (aZ : Addr) (aT : Addr) (clT : Cell) (aS : Addr) (clS : Cell) (h0 : Heap) (n0 : Nat) (v : Option Value) (h : Heap) (L : List Loc) : Prop := ∃ b, v = some (.ref b) ∧ Fr n0 L ∧ Keep h0 h [] ∧ BD Z h b v0 (0 : Int32)
theorem ef_valueOfJ (m : MethodId) (v0 : Int64) (aZ : Addr) (aT : Addr) (clT : Cell) (aS : Addr) (clS : Cell) : entryFrame m #[(.long v0)] 2 = mkF m 0 #[.val (.long v0), .second] [] := by first | (simp [entryFrame, mkF, argsToLocals, Value.category]; done) | rfl
set_option maxRecDepth 65536 in
set_option maxHeartbeats 40000000 in
theorem rm_valueOfJ (l : Launch) (Z : State) (a0 : Array Value) (hw : ∀ d ∈ tables_1, d.before a0 Z = true) (ws : List Jvm.Cond) (v0 : Int64) (aZ : Addr) (aT : Addr) (clT : Cell) (aS : Addr) (clS : Cell) (h0 : Heap) (n0 : Nat) (Z0 : n0 ≤ h0.size) (O0 : Old Z n0 h0) (SZ : Sta Z Z.heap "java/math/BigDecimal" "ZERO" "Ljava/math/BigDecimal;" (.ref aZ)) (BZ : BD Z Z.heap aZ (0 : Int64) (0 : Int32)) (ST : Sta Z Z.heap "java/math/BigDecimal" "ZERO_THROUGH_TEN" "[Ljava/math/BigDecimal;" (.ref aT)) (BT : BDs Z aT clT 11 (fun i => Int64.ofNat i) (fun _ => 0)) (SS : Sta Z Z.heap "java/math/BigDecimal" "ZERO_SCALED_BY" "[Ljava/math/BigDecimal;" (.ref aS)) (BS : BDs Z aS clS 16 (fun _ => 0) (fun i => Int32.ofNat i)) (hmin : ¬ v0 = (-9223372036854775808 : Int64)) :
    MetFree l (⟨"java/math/BigDecimal", "valueOf", "(J)Ljava/math/BigDecimal;"⟩ : MethodName) (head1 (Jvm.Cond.code (⟨"java/math/BigDecimal", "valueOf", "(J)Ljava/math/BigDecimal;"⟩ : MethodName) jdk_17_method_21_code 2 (some (.object "java/math/BigDecimal")) :: ws) ({ frames := 3, cells := 1, slots := 5, locals := 72 } : Room)) (fun a U => a = #[(.long v0)] ∧ Z.Warmed39 U.vm ∧ U.heap = h0) (fun _ _ _ _ _ => True) (fun _ U o U' => ∃ v L, o = .returned v ∧ Q_valueOfJ Z v0 aZ aT clT aS clS h0 n0 v U'.heap L ∧ FrameEnd U o U' L ({ frames := 3, cells := 1, slots := 5, locals := 72 } : Room).cells ({ frames := 3, cells := 1, slots := 5, locals := 72 } : Room).slots) := by
  refine MetFree.of_bodySF (plainFor_of_name pn_java_math_BigDecimal) hisR ?_
  intro p e s m args below meth c s₁ Bd hml0 hP hK
  obtain ⟨rfl, hZ, hh⟩ := hP
  have hx := Bd.exec
  have hby := Bd.bytes
  have hml : c.maxLocals = 2 := hml0
  have hown : s.vm.findClass "java/math/BigDecimal" = some m.cls := findClass_of_methodNamed Bd.named
  have hnm := (name_of_methodNamed Bd.named Bd.method).1
  have X0 : Stand p l e ({ frames := 3, cells := 1, slots := 5, locals := 72 } : Room) s m #[(.long v0)] below meth c s₁ [] 0 0 := Stand.of_body Bd
  have e0 : s₁.heap = h0 := by rw [← hh, Bd.state]; rfl
  have N0 := Fr.nil n0
  have hlk : meth.locks = false := Bd.notSynchronized
  obtain ⟨P, hP⟩ : ∃ P : Outcome → State → Prop, P = PQ s (Q_valueOfJ Z v0 aZ aT clT aS clS h0 n0) ({ frames := 3, cells := 1, slots := 5, locals := 72 } : Room).cells ({ frames := 3, cells := 1, slots := 5, locals := 72 } : Room).slots := ⟨_, rfl⟩
  have fin : ∀ {T : State} {locs : List Loc} {k n : Nat} {v : Option Value} {S0 : State}, Stand p l e ({ frames := 3, cells := 1, slots := 5, locals := 72 } : Room) s m #[(.long v0)] below meth c T locs k n → (meth.sig.returnType = none → v = none) → k ≤ ({ frames := 3, cells := 1, slots := 5, locals := 72 } : Room).cells → n ≤ ({ frames := 3, cells := 1, slots := 5, locals := 72 } : Room).slots → Q_valueOfJ Z v0 aZ aT clT aS clS h0 n0 v T.heap locs → (∀ fs, (∀ (f : JFrame) (acts : List Action), f.method = m → f.locked = none → f.entered = [] → (doReturn e (T.setTop f) acts v).1 = T.setFrames fs) → Steps p.tables e below S0 (T.setFrames fs)) → Go p e below P S0 := fun X hv hk hn hQ hst => hP ▸ Go.fin X hlk hv hk hn hQ hst
  suffices hgo : Go p e below P (s₁.setTop (mkF m 0 #[.val (.long v0), .second] [])) by
    rw [hP] at hgo
    exact Go.by (fun t k => castTop (ef_valueOfJ m v0 aZ aT clT aS clS) k) hgo
  show Go p e below P (s₁.setTop (mkF m 0 #[.val (.long v0), .second] []))
  refine Go.by (fun _ => XS.lloadN X0.here hx rfl (hb hby d_jdk_17_method_21_code_0) rfl) ?_
  show Go p e below P (s₁.setTop (mkF m 1 #[.val (.long v0), .second] [(.long v0)]))
  refine Go.by (fun _ => XS.lconst X0.here hx rfl (hb hby d_jdk_17_method_21_code_1)) ?_
  show Go p e below P (s₁.setTop (mkF m 2 #[.val (.long v0), .second] [(.long (0 : Int64)), (.long v0)]))
  refine Go.by (fun _ => XS.lcmp X0.here hx rfl (hb hby d_jdk_17_method_21_code_2) rfl) ?_
  show Go p e below P (s₁.setTop (mkF m 3 #[.val (.long v0), .second] [(.int (lcmpW v0 (0 : Int64)))]))
  by_cases hc3_1 : v0 < (0 : Int64)
  · refine Go.by (fun _ => XS.ifYes X0.here hx rfl (pc0 := 3) (pc' := 23) rfl (hb hby d_jdk_17_method_21_code_3) rfl (XT.ll_lt_t hc3_1) (by decide) (by decide)) ?_
    show Go p e below P (s₁.setTop (mkF m 23 #[.val (.long v0), .second] []))
    refine Go.by (fun _ => XS.lloadN X0.here hx rfl (hb hby d_jdk_17_method_21_code_23) rfl) ?_
    show Go p e below P (s₁.setTop (mkF m 24 #[.val (.long v0), .second] [(.long v0)]))
    refine Go.by (fun _ => Jvm.Stand.ldc2J X0 hx hown (mvT hZ (tw_7 hw)) rfl (hb hby d_jdk_17_method_21_code_24)) ?_
    show Go p e below P (s₁.setTop (mkF m 27 #[.val (.long v0), .second] [(.long (-9223372036854775808 : Int64)), (.long v0)]))
    refine Go.by (fun _ => XS.lcmp X0.here hx rfl (hb hby d_jdk_17_method_21_code_27) rfl) ?_
    show Go p e below P (s₁.setTop (mkF m 28 #[.val (.long v0), .second] [(.int (lcmpW v0 (-9223372036854775808 : Int64)))]))
    refine Go.by (fun _ => XS.ifNo X0.here hx rfl (hb hby d_jdk_17_method_21_code_28) rfl (XT.ll_eq_f hmin)) ?_
    show Go p e below P (s₁.setTop (mkF m 31 #[.val (.long v0), .second] []))
    obtain ⟨T2, h2, X2, e2, E2, A2, D2, U2, st2⟩ := newO X0 hx hZ hown (tw_5 hw) (tw_6 hw) (tw_3 hw) e0 (g := (mkF m 31 #[.val (.long v0), .second] [])) rfl (hb hby d_jdk_17_method_21_code_31) (by decide) (by decide)
    obtain ⟨b2, g2⟩ : ∃ z, z = h0.size := ⟨_, rfl⟩
    rw [← g2] at A2 D2 U2 st2
    have g_b2 : n0 ≤ b2 := Nat.le_trans Z0 (Nat.le_of_eq g2.symm)
    have sz_b2 : h0.size ≤ b2 := Nat.le_trans (Keep.refl h0 []).1 (Nat.le_of_eq g2.symm)
    have f2_0 : n0 ≤ h2.size := (Nat.le_trans Z0 E2.1)
    have f2_1 : Keep h0 h2 [] := (Keep.ext (Keep.refl h0 []) E2)
    have f2_2 : Old Z n0 h2 := (Old.ext O0 E2)
    refine Go.by st2 ?_
    have F2_scale : Fld Z h2 b2 "java/math/BigDecimal" "scale" "I" (.int (0 : Int32)) := D2 (Or.inr (tw_22 hw)) (ty := .int) (by decide)
    have F2_precision : Fld Z h2 b2 "java/math/BigDecimal" "precision" "I" (.int (0 : Int32)) := D2 (Or.inl (tw_24 hw)) (ty := .int) (by decide)
    have F2_intCompact : Fld Z h2 b2 "java/math/BigDecimal" "intCompact" "J" (.long (0 : Int64)) := D2 (Or.inr (tw_26 hw)) (ty := .long) (by decide)
    have F2_intVal : Fld Z h2 b2 "java/math/BigDecimal" "intVal" "Ljava/math/BigInteger;" .null := D2 (Or.inr (tw_28 hw)) (ty := (.object "java/math/BigInteger")) (by decide)
    show Go p e below P (T2.setTop (mkF m 34 #[.val (.long v0), .second] [(.ref b2)]))
    refine Go.by (fun _ => XS.dup X2.here hx rfl (hb hby d_jdk_17_method_21_code_34) rfl rfl) ?_
    show Go p e below P (T2.setTop (mkF m 35 #[.val (.long v0), .second] [(.ref b2), (.ref b2)]))
    refine Go.by (fun _ => XS.aconstNull X2.here hx rfl (hb hby d_jdk_17_method_21_code_35)) ?_
    show Go p e below P (T2.setTop (mkF m 36 #[.val (.long v0), .second] [.null, (.ref b2), (.ref b2)]))
    refine Go.by (fun _ => XS.lloadN X2.here hx rfl (hb hby d_jdk_17_method_21_code_36) rfl) ?_
    show Go p e below P (T2.setTop (mkF m 37 #[.val (.long v0), .second] [(.long v0), .null, (.ref b2), (.ref b2)]))
    refine Go.by (fun _ => XS.iconst X2.here hx rfl (hb hby d_jdk_17_method_21_code_37)) ?_
    show Go p e below P (T2.setTop (mkF m 38 #[.val (.long v0), .second] [(.int (0 : Int32)), (.long v0), .null, (.ref b2), (.ref b2)]))
    refine Go.by (fun _ => XS.iconst X2.here hx rfl (hb hby d_jdk_17_method_21_code_38)) ?_
    show Go p e below P (T2.setTop (mkF m 39 #[.val (.long v0), .second] [(.int (0 : Int32)), (.int (0 : Int32)), (.long v0), .null, (.ref b2), (.ref b2)]))
    obtain ⟨_, _, ⟨T3, L3, k3, n3⟩, -, X3, ⟨Lc3, hQ3, l3, y3, z3⟩, st3⟩ := X2.specialBack hx (y := (⟨"java/math/BigDecimal", "<init>", "(Ljava/math/BigInteger;JII)V"⟩ : MethodName)) rfl hown (mvT hZ (tw_8 hw)) (mvT hZ (tw_9 hw)) (mvT hZ (tw_11 hw)) (by decide) (backOf (W := 1) (rm_bdInit l Z a0 hw [] b2 v0 (0 : Int32) (0 : Int32) h2 n0 f2_0 A2 g_b2 F2_scale F2_precision F2_intCompact F2_intVal) hZ (tw_11 hw) (tw_3 hw) (by decide) (by decide)) (g := (mkF m 39 #[.val (.long v0), .second] [(.int (0 : Int32)), (.int (0 : Int32)), (.long v0), .null, (.ref b2), (.ref b2)])) rfl (by rw [hml]; rfl) (Steps.refl _) (a := b2) (argsL := [.null, (.long v0), (.int (0 : Int32)), (.int (0 : Int32))]) (rest := [(.ref b2)]) (lenOf pd__Ljava_math_BigInteger_JII_V rfl) rfl (by show 2 * 0 + _ ≤ _; exact Nat.le_of_eq rfl) (hb hby d_jdk_17_method_21_code_39) (fun _ _ => ⟨rfl, e2, (by decide : 1 + 0 ≤ _), (by decide : 5 + 0 ≤ _)⟩)
    dsimp only [Pt.U, Pt.locs, Pt.cells, Pt.slots] at X3 l3 y3 z3 st3 hQ3
    subst l3 y3 z3
    obtain ⟨rfl, N3q, K3, G3_0, G3_1, G3_2, G3_3⟩ := hQ3
    have N3 := Fr.app N0 N3q
    refine Go.by (fun t k => st3.trans k) ?_
    have f3_0 : n0 ≤ T3.heap.size := (Nat.le_trans f2_0 K3.1)
    have f3_1 : Keep h0 T3.heap [] := (Keep.trans f2_1 K3 (allS (Or.inr sz_b2) all0))
    have f3_2 : Old Z n0 T3.heap := (Old.keep f2_2 K3 (allS g_b2 all0))
    have f3_3 : Exa Z T3.heap b2 "java/math/BigDecimal" := (Exa.keep A2 K3)
    have B_b2 : BD Z T3.heap b2 v0 (0 : Int32) := ⟨f3_3, G3_2, G3_0⟩
    show Go p e below P (T3.setTop (mkF m 42 #[.val (.long v0), .second] [(.ref b2)]))
    refine fin X3 (v := some (.ref b2)) (fun h => by rw [Bd.returns] at h; cases h) (by decide) (by decide) ?_ (fun fs hr => retOut X3 hx Bd.returns rfl (Or.inr (Or.inr (Or.inr (Or.inr ⟨rfl, rfl, rfl⟩)))) (hb hby d_jdk_17_method_21_code_42) hr)
    show Q_valueOfJ Z v0 aZ aT clT aS clS h0 n0 _ T3.heap _
    exact ⟨b2, rfl, N3, f3_1, B_b2⟩
  · refine Go.by (fun _ => XS.ifNo X0.here hx rfl (hb hby d_jdk_17_method_21_code_3) rfl (XT.ll_lt_f hc3_1)) ?_
    show Go p e below P (s₁.setTop (mkF m 6 #[.val (.long v0), .second] []))
    refine Go.by (fun _ => XS.lloadN X0.here hx rfl (hb hby d_jdk_17_method_21_code_6) rfl) ?_
    show Go p e below P (s₁.setTop (mkF m 7 #[.val (.long v0), .second] [(.long v0)]))
    obtain ⟨T4, X4, e4, st4⟩ := getS2 X0 hx hZ hown (host := "") (Or.inl (tw_109 hw)) Via.refl e0 (ST.ext O0.2) (g := (mkF m 7 #[.val (.long v0), .second] [(.long v0)])) rfl (hb hby d_jdk_17_method_21_code_7)
    refine Go.by st4 ?_
    show Go p e below P (T4.setTop (mkF m 10 #[.val (.long v0), .second] [(.ref aT), (.long v0)]))
    have hl5 : (clT.slots.size).toInt32 = (11 : Int32) := by rw [BT.2.1]; decide
    refine Go.by (X4.arraylength hx (by rw [e4]; exact (Arr.ext O0.2 BT.1).1) (State.isArrayOf_alike hZ.alike BT.1.2.1) (g := (mkF m 10 #[.val (.long v0), .second] [(.ref aT), (.long v0)])) rfl rfl (hb hby d_jdk_17_method_21_code_10)) ?_
    rw [hl5]
    show Go p e below P (T4.setTop (mkF m 11 #[.val (.long v0), .second] [(.int (11 : Int32)), (.long v0)]))
    refine Go.by (fun _ => XS.i2l X4.here hx rfl (hb hby d_jdk_17_method_21_code_11) rfl) ?_
    show Go p e below P (T4.setTop (mkF m 12 #[.val (.long v0), .second] [(.long ((11 : Int32).toInt64)), (.long v0)]))
    refine Go.by (fun _ => XS.lcmp X4.here hx rfl (hb hby d_jdk_17_method_21_code_12) rfl) ?_
    show Go p e below P (T4.setTop (mkF m 13 #[.val (.long v0), .second] [(.int (lcmpW v0 ((11 : Int32).toInt64)))]))
    by_cases hc13_6 : v0 < ((11 : Int32).toInt64)
    · refine Go.by (fun _ => XS.ifNo X4.here hx rfl (hb hby d_jdk_17_method_21_code_13) rfl (XT.ll_ge_f hc13_6)) ?_
      show Go p e below P (T4.setTop (mkF m 16 #[.val (.long v0), .second] []))
      obtain ⟨T7, X7, e7, st7⟩ := getS2 X4 hx hZ hown (host := "") (Or.inl (tw_109 hw)) Via.refl e4 (ST.ext O0.2) (g := (mkF m 16 #[.val (.long v0), .second] [])) rfl (hb hby d_jdk_17_method_21_code_16)
      refine Go.by st7 ?_
      show Go p e below P (T7.setTop (mkF m 19 #[.val (.long v0), .second] [(.ref aT)]))
      refine Go.by (fun _ => XS.lloadN X7.here hx rfl (hb hby d_jdk_17_method_21_code_19) rfl) ?_
      show Go p e below P (T7.setTop (mkF m 20 #[.val (.long v0), .second] [(.long v0), (.ref aT)]))
      refine Go.by (fun _ => XS.l2i X7.here hx rfl (hb hby d_jdk_17_method_21_code_20) rfl) ?_
      show Go p e below P (T7.setTop (mkF m 21 #[.val (.long v0), .second] [(.int (v0.toInt32)), (.ref aT)]))
      obtain ⟨hng8, hj8, hval8⟩ := own_idxL hc3_1 hc13_6
      obtain ⟨b8, hb8, BB8⟩ := BT.2.2 ((v0.toInt32)).toNatClampNeg hj8
      have hin8 : ¬ ((v0.toInt32) < 0 ∨ clT.slots.size ≤ ((v0.toInt32)).toNatClampNeg) := fun q => q.elim hng8 (fun r => absurd hj8 (Nat.not_lt.mpr (BT.2.1 ▸ r)))
      have B_b8 : BD Z h0 b8 v0 (0 : Int32) := by have q := BB8.ext O0.2; dsimp only at q; rw [hval8] at q; exact q
      refine Go.by (X7.aaload hx (j := (v0.toInt32)) (v := (.ref b8)) (by rw [e7]; exact (Arr.ext O0.2 BT.1).1) (State.isArrayOf_alike hZ.alike BT.1.2.1) rfl BT.1.2.2 hin8 hb8 (g := (mkF m 21 #[.val (.long v0), .second] [(.int (v0.toInt32)), (.ref aT)])) rfl rfl (hb hby d_jdk_17_method_21_code_21)) ?_
      show Go p e below P (T7.setTop (mkF m 22 #[.val (.long v0), .second] [(.ref b8)]))
      refine fin X7 (v := some (.ref b8)) (fun h => by rw [Bd.returns] at h; cases h) (by decide) (by decide) ?_ (fun fs hr => retOut X7 hx Bd.returns rfl (Or.inr (Or.inr (Or.inr (Or.inr ⟨rfl, rfl, rfl⟩)))) (hb hby d_jdk_17_method_21_code_22) hr)
      show Q_valueOfJ Z v0 aZ aT clT aS clS h0 n0 _ T7.heap _
      rw [e7]
      exact ⟨b8, rfl, N0, (Keep.refl h0 []), B_b8⟩
    · refine Go.by (fun _ => XS.ifYes X4.here hx rfl (pc0 := 13) (pc' := 23) rfl (hb hby d_jdk_17_method_21_code_13) rfl (XT.ll_ge_t hc13_6) (by decide) (by decide)) ?_
      show Go p e below P (T4.setTop (mkF m 23 #[.val (.long v0), .second] []))
      refine Go.by (fun _ => XS.lloadN X4.here hx rfl (hb hby d_jdk_17_method_21_code_23) rfl) ?_
      show Go p e below P (T4.setTop (mkF m 24 #[.val (.long v0), .second] [(.long v0)]))
      refine Go.by (fun _ => Jvm.Stand.ldc2J X4 hx hown (mvT hZ (tw_7 hw)) rfl (hb hby d_jdk_17_method_21_code_24)) ?_
      show Go p e below P (T4.setTop (mkF m 27 #[.val (.long v0), .second] [(.long (-9223372036854775808 : Int64)), (.long v0)]))
      refine Go.by (fun _ => XS.lcmp X4.here hx rfl (hb hby d_jdk_17_method_21_code_27) rfl) ?_
      show Go p e below P (T4.setTop (mkF m 28 #[.val (.long v0), .second] [(.int (lcmpW v0 (-9223372036854775808 : Int64)))]))
      refine Go.by (fun _ => XS.ifNo X4.here hx rfl (hb hby d_jdk_17_method_21_code_28) rfl (XT.ll_eq_f hmin)) ?_
      show Go p e below P (T4.setTop (mkF m 31 #[.val (.long v0), .second] []))
      obtain ⟨T9, h9, X9, e9, E9, A9, D9, U9, st9⟩ := newO X4 hx hZ hown (tw_5 hw) (tw_6 hw) (tw_3 hw) e4 (g := (mkF m 31 #[.val (.long v0), .second] [])) rfl (hb hby d_jdk_17_method_21_code_31) (by decide) (by decide)
      obtain ⟨b9, g9⟩ : ∃ z, z = h0.size := ⟨_, rfl⟩
      rw [← g9] at A9 D9 U9 st9
      have g_b9 : n0 ≤ b9 := Nat.le_trans Z0 (Nat.le_of_eq g9.symm)
      have sz_b9 : h0.size ≤ b9 := Nat.le_trans (Keep.refl h0 []).1 (Nat.le_of_eq g9.symm)
      have f9_0 : n0 ≤ h9.size := (Nat.le_trans Z0 E9.1)
      have f9_1 : Keep h0 h9 [] := (Keep.ext (Keep.refl h0 []) E9)
      have f9_2 : Old Z n0 h9 := (Old.ext O0 E9)
      refine Go.by st9 ?_
      have F9_scale : Fld Z h9 b9 "java/math/BigDecimal" "scale" "I" (.int (0 : Int32)) := D9 (Or.inr (tw_22 hw)) (ty := .int) (by decide)
      have F9_precision : Fld Z h9 b9 "java/math/BigDecimal" "precision" "I" (.int (0 : Int32)) := D9 (Or.inl (tw_24 hw)) (ty := .int) (by decide)
      have F9_intCompact : Fld Z h9 b9 "java/math/BigDecimal" "intCompact" "J" (.long (0 : Int64)) := D9 (Or.inr (tw_26 hw)) (ty := .long) (by decide)
      have F9_intVal : Fld Z h9 b9 "java/math/BigDecimal" "intVal" "Ljava/math/BigInteger;" .null := D9 (Or.inr (tw_28 hw)) (ty := (.object "java/math/BigInteger")) (by decide)
      show Go p e below P (T9.setTop (mkF m 34 #[.val (.long v0), .second] [(.ref b9)]))
      refine Go.by (fun _ => XS.dup X9.here hx rfl (hb hby d_jdk_17_method_21_code_34) rfl rfl) ?_
      show Go p e below P (T9.setTop (mkF m 35 #[.val (.long v0), .second] [(.ref b9), (.ref b9)]))
      refine Go.by (fun _ => XS.aconstNull X9.here hx rfl (hb hby d_jdk_17_method_21_code_35)) ?_
      show Go p e below P (T9.setTop (mkF m 36 #[.val (.long v0), .second] [.null, (.ref b9), (.ref b9)]))
      refine Go.by (fun _ => XS.lloadN X9.here hx rfl (hb hby d_jdk_17_method_21_code_36) rfl) ?_
      show Go p e below P (T9.setTop (mkF m 37 #[.val (.long v0), .second] [(.long v0), .null, (.ref b9), (.ref b9)]))
      refine Go.by (fun _ => XS.iconst X9.here hx rfl (hb hby d_jdk_17_method_21_code_37)) ?_
      show Go p e below P (T9.setTop (mkF m 38 #[.val (.long v0), .second] [(.int (0 : Int32)), (.long v0), .null, (.ref b9), (.ref b9)]))
      refine Go.by (fun _ => XS.iconst X9.here hx rfl (hb hby d_jdk_17_method_21_code_38)) ?_
      show Go p e below P (T9.setTop (mkF m 39 #[.val (.long v0), .second] [(.int (0 : Int32)), (.int (0 : Int32)), (.long v0), .null, (.ref b9), (.ref b9)]))
      obtain ⟨_, _, ⟨T10, L10, k10, n10⟩, -, X10, ⟨Lc10, hQ10, l10, y10, z10⟩, st10⟩ := X9.specialBack hx (y := (⟨"java/math/BigDecimal", "<init>", "(Ljava/math/BigInteger;JII)V"⟩ : MethodName)) rfl hown (mvT hZ (tw_8 hw)) (mvT hZ (tw_9 hw)) (mvT hZ (tw_11 hw)) (by decide) (backOf (W := 1) (rm_bdInit l Z a0 hw [] b9 v0 (0 : Int32) (0 : Int32) h9 n0 f9_0 A9 g_b9 F9_scale F9_precision F9_intCompact F9_intVal) hZ (tw_11 hw) (tw_3 hw) (by decide) (by decide)) (g := (mkF m 39 #[.val (.long v0), .second] [(.int (0 : Int32)), (.int (0 : Int32)), (.long v0), .null, (.ref b9), (.ref b9)])) rfl (by rw [hml]; rfl) (Steps.refl _) (a := b9) (argsL := [.null, (.long v0), (.int (0 : Int32)), (.int (0 : Int32))]) (rest := [(.ref b9)]) (lenOf pd__Ljava_math_BigInteger_JII_V rfl) rfl (by show 2 * 0 + _ ≤ _; exact Nat.le_of_eq rfl) (hb hby d_jdk_17_method_21_code_39) (fun _ _ => ⟨rfl, e9, (by decide : 1 + 0 ≤ _), (by decide : 5 + 0 ≤ _)⟩)
      dsimp only [Pt.U, Pt.locs, Pt.cells, Pt.slots] at X10 l10 y10 z10 st10 hQ10
      subst l10 y10 z10
      obtain ⟨rfl, N10q, K10, G10_0, G10_1, G10_2, G10_3⟩ := hQ10
      have N10 := Fr.app N0 N10q
      refine Go.by (fun t k => st10.trans k) ?_
      have f10_0 : n0 ≤ T10.heap.size := (Nat.le_trans f9_0 K10.1)
      have f10_1 : Keep h0 T10.heap [] := (Keep.trans f9_1 K10 (allS (Or.inr sz_b9) all0))
      have f10_2 : Old Z n0 T10.heap := (Old.keep f9_2 K10 (allS g_b9 all0))
      have f10_3 : Exa Z T10.heap b9 "java/math/BigDecimal" := (Exa.keep A9 K10)
      have B_b9 : BD Z T10.heap b9 v0 (0 : Int32) := ⟨f10_3, G10_2, G10_0⟩
      show Go p e below P (T10.setTop (mkF m 42 #[.val (.long v0), .second] [(.ref b9)]))
      refine fin X10 (v := some (.ref b9)) (fun h => by rw [Bd.returns] at h; cases h) (by decide) (by decide) ?_ (fun fs hr => retOut X10 hx Bd.returns rfl (Or.inr (Or.inr (Or.inr (Or.inr ⟨rfl, rfl, rfl⟩)))) (hb hby d_jdk_17_method_21_code_42) hr)
      show Q_valueOfJ Z v0 aZ aT clT aS clS h0 n0 _ T10.heap _
      exact ⟨b9, rfl, N10, f10_1, B_b9⟩
def Q_zeroValueOf (Z : State) (s0 : Int32) (aZ : Addr) (aT : Addr) (clT : Cell) (aS : Addr) (clS : Cell) (h0 : Heap) (n0 : Nat) (v : Option Value) (h : Heap) (L : List Loc) : Prop := ∃ b, v = some (.ref b) ∧ Fr n0 L ∧ Keep h0 h [] ∧ BD Z h b (0 : Int64) s0
theorem ef_zeroValueOf (m : MethodId) (s0 : Int32) (aZ : Addr) (aT : Addr) (clT : Cell) (aS : Addr) (clS : Cell) : entryFrame m #[(.int s0)] 1 = mkF m 0 #[.val (.int s0)] [] := by first | (simp [entryFrame, mkF, argsToLocals, Value.category]; done) | rfl
set_option maxRecDepth 65536 in
set_option maxHeartbeats 40000000 in
theorem rm_zeroValueOf (l : Launch) (Z : State) (a0 : Array Value) (hw : ∀ d ∈ tables_1, d.before a0 Z = true) (ws : List Jvm.Cond) (s0 : Int32) (aZ : Addr) (aT : Addr) (clT : Cell) (aS : Addr) (clS : Cell) (h0 : Heap) (n0 : Nat) (Z0 : n0 ≤ h0.size) (O0 : Old Z n0 h0) (SZ : Sta Z Z.heap "java/math/BigDecimal" "ZERO" "Ljava/math/BigDecimal;" (.ref aZ)) (BZ : BD Z Z.heap aZ (0 : Int64) (0 : Int32)) (ST : Sta Z Z.heap "java/math/BigDecimal" "ZERO_THROUGH_TEN" "[Ljava/math/BigDecimal;" (.ref aT)) (BT : BDs Z aT clT 11 (fun i => Int64.ofNat i) (fun _ => 0)) (SS : Sta Z Z.heap "java/math/BigDecimal" "ZERO_SCALED_BY" "[Ljava/math/BigDecimal;" (.ref aS)) (BS : BDs Z aS clS 16 (fun _ => 0) (fun i => Int32.ofNat i)) (hs0 : ¬ s0 < 0) (hs1 : s0 < 16) :
    MetFree l (⟨"java/math/BigDecimal", "zeroValueOf", "(I)Ljava/math/BigDecimal;"⟩ : MethodName) (head1 (Jvm.Cond.code (⟨"java/math/BigDecimal", "zeroValueOf", "(I)Ljava/math/BigDecimal;"⟩ : MethodName) jdk_17_method_24_code 1 (some (.object "java/math/BigDecimal")) :: ws) ({ frames := 0, cells := 0, slots := 0, locals := 0 } : Room)) (fun a U => a = #[(.int s0)] ∧ Z.Warmed39 U.vm ∧ U.heap = h0) (fun _ _ _ _ _ => True) (fun _ U o U' => ∃ v L, o = .returned v ∧ Q_zeroValueOf Z s0 aZ aT clT aS clS h0 n0 v U'.heap L ∧ FrameEnd U o U' L ({ frames := 0, cells := 0, slots := 0, locals := 0 } : Room).cells ({ frames := 0, cells := 0, slots := 0, locals := 0 } : Room).slots) := by
  refine MetFree.of_bodySF (plainFor_of_name pn_java_math_BigDecimal) hisR ?_
  intro p e s m args below meth c s₁ Bd hml0 hP hK
  obtain ⟨rfl, hZ, hh⟩ := hP
  have hx := Bd.exec
  have hby := Bd.bytes
  have hml : c.maxLocals = 1 := hml0
  have hown : s.vm.findClass "java/math/BigDecimal" = some m.cls := findClass_of_methodNamed Bd.named
  have hnm := (name_of_methodNamed Bd.named Bd.method).1
  have X0 : Stand p l e ({ frames := 0, cells := 0, slots := 0, locals := 0 } : Room) s m #[(.int s0)] below meth c s₁ [] 0 0 := Stand.of_body Bd
  have e0 : s₁.heap = h0 := by rw [← hh, Bd.state]; rfl
  have N0 := Fr.nil n0
  have hlk : meth.locks = false := Bd.notSynchronized
  obtain ⟨P, hP⟩ : ∃ P : Outcome → State → Prop, P = PQ s (Q_zeroValueOf Z s0 aZ aT clT aS clS h0 n0) ({ frames := 0, cells := 0, slots := 0, locals := 0 } : Room).cells ({ frames := 0, cells := 0, slots := 0, locals := 0 } : Room).slots := ⟨_, rfl⟩
  have fin : ∀ {T : State} {locs : List Loc} {k n : Nat} {v : Option Value} {S0 : State}, Stand p l e ({ frames := 0, cells := 0, slots := 0, locals := 0 } : Room) s m #[(.int s0)] below meth c T locs k n → (meth.sig.returnType = none → v = none) → k ≤ ({ frames := 0, cells := 0, slots := 0, locals := 0 } : Room).cells → n ≤ ({ frames := 0, cells := 0, slots := 0, locals := 0 } : Room).slots → Q_zeroValueOf Z s0 aZ aT clT aS clS h0 n0 v T.heap locs → (∀ fs, (∀ (f : JFrame) (acts : List Action), f.method = m → f.locked = none → f.entered = [] → (doReturn e (T.setTop f) acts v).1 = T.setFrames fs) → Steps p.tables e below S0 (T.setFrames fs)) → Go p e below P S0 := fun X hv hk hn hQ hst => hP ▸ Go.fin X hlk hv hk hn hQ hst
  suffices hgo : Go p e below P (s₁.setTop (mkF m 0 #[.val (.int s0)] [])) by
    rw [hP] at hgo
    exact Go.by (fun t k => castTop (ef_zeroValueOf m s0 aZ aT clT aS clS) k) hgo
  show Go p e below P (s₁.setTop (mkF m 0 #[.val (.int s0)] []))
  refine Go.by (fun _ => XS.iloadN X0.here hx rfl (hb hby d_jdk_17_method_24_code_0) rfl) ?_
  show Go p e below P (s₁.setTop (mkF m 1 #[.val (.int s0)] [(.int s0)]))
  refine Go.by (fun _ => XS.ifNo X0.here hx rfl (hb hby d_jdk_17_method_24_code_1) rfl (XT.i0_lt_f hs0)) ?_
  show Go p e below P (s₁.setTop (mkF m 4 #[.val (.int s0)] []))
  refine Go.by (fun _ => XS.iloadN X0.here hx rfl (hb hby d_jdk_17_method_24_code_4) rfl) ?_
  show Go p e below P (s₁.setTop (mkF m 5 #[.val (.int s0)] [(.int s0)]))
  obtain ⟨T1, X1, e1, st1⟩ := getS2 X0 hx hZ hown (host := "") (Or.inl (tw_113 hw)) Via.refl e0 (SS.ext O0.2) (g := (mkF m 5 #[.val (.int s0)] [(.int s0)])) rfl (hb hby d_jdk_17_method_24_code_5)
  refine Go.by st1 ?_
  show Go p e below P (T1.setTop (mkF m 8 #[.val (.int s0)] [(.ref aS), (.int s0)]))
  have hl2 : (clS.slots.size).toInt32 = (16 : Int32) := by rw [BS.2.1]; decide
  refine Go.by (X1.arraylength hx (by rw [e1]; exact (Arr.ext O0.2 BS.1).1) (State.isArrayOf_alike hZ.alike BS.1.2.1) (g := (mkF m 8 #[.val (.int s0)] [(.ref aS), (.int s0)])) rfl rfl (hb hby d_jdk_17_method_24_code_8)) ?_
  rw [hl2]
  show Go p e below P (T1.setTop (mkF m 9 #[.val (.int s0)] [(.int (16 : Int32)), (.int s0)]))
  refine Go.by (fun _ => XS.icmpNo X1.here hx rfl (hb hby d_jdk_17_method_24_code_9) rfl (XT.ii_ge_f hs1)) ?_
  show Go p e below P (T1.setTop (mkF m 12 #[.val (.int s0)] []))
  obtain ⟨T3, X3, e3, st3⟩ := getS2 X1 hx hZ hown (host := "") (Or.inl (tw_113 hw)) Via.refl e1 (SS.ext O0.2) (g := (mkF m 12 #[.val (.int s0)] [])) rfl (hb hby d_jdk_17_method_24_code_12)
  refine Go.by st3 ?_
  show Go p e below P (T3.setTop (mkF m 15 #[.val (.int s0)] [(.ref aS)]))
  refine Go.by (fun _ => XS.iloadN X3.here hx rfl (hb hby d_jdk_17_method_24_code_15) rfl) ?_
  show Go p e below P (T3.setTop (mkF m 16 #[.val (.int s0)] [(.int s0), (.ref aS)]))
  obtain ⟨hng4, hj4, hval4⟩ := own_idxI hs0 hs1
  obtain ⟨b4, hb4, BB4⟩ := BS.2.2 (s0).toNatClampNeg hj4
  have hin4 : ¬ (s0 < 0 ∨ clS.slots.size ≤ (s0).toNatClampNeg) := fun q => q.elim hng4 (fun r => absurd hj4 (Nat.not_lt.mpr (BS.2.1 ▸ r)))
  have B_b4 : BD Z h0 b4 (0 : Int64) s0 := by have q := BB4.ext O0.2; dsimp only at q; rw [hval4] at q; exact q
  refine Go.by (X3.aaload hx (j := s0) (v := (.ref b4)) (by rw [e3]; exact (Arr.ext O0.2 BS.1).1) (State.isArrayOf_alike hZ.alike BS.1.2.1) rfl BS.1.2.2 hin4 hb4 (g := (mkF m 16 #[.val (.int s0)] [(.int s0), (.ref aS)])) rfl rfl (hb hby d_jdk_17_method_24_code_16)) ?_
  show Go p e below P (T3.setTop (mkF m 17 #[.val (.int s0)] [(.ref b4)]))
  refine fin X3 (v := some (.ref b4)) (fun h => by rw [Bd.returns] at h; cases h) (by decide) (by decide) ?_ (fun fs hr => retOut X3 hx Bd.returns rfl (Or.inr (Or.inr (Or.inr (Or.inr ⟨rfl, rfl, rfl⟩)))) (hb hby d_jdk_17_method_24_code_17) hr)
  show Q_zeroValueOf Z s0 aZ aT clT aS clS h0 n0 _ T3.heap _
  rw [e3]
  exact ⟨b4, rfl, N0, (Keep.refl h0 []), B_b4⟩
def Q_valueOfJI (Z : State) (v0 : Int64) (s1_ : Int32) (aZ : Addr) (aT : Addr) (clT : Cell) (aS : Addr) (clS : Cell) (h0 : Heap) (n0 : Nat) (v : Option Value) (h : Heap) (L : List Loc) : Prop := ∃ b, v = some (.ref b) ∧ Fr n0 L ∧ Keep h0 h [] ∧ BD Z h b v0 s1_
theorem ef_valueOfJI (m : MethodId) (v0 : Int64) (s1_ : Int32) (aZ : Addr) (aT : Addr) (clT : Cell) (aS : Addr) (clS : Cell) : entryFrame m #[(.long v0), (.int s1_)] 3 = mkF m 0 #[.val (.long v0), .second, .val (.int s1_)] [] := by first | (simp [entryFrame, mkF, argsToLocals, Value.category]; done) | rfl
set_option maxRecDepth 65536 in
set_option maxHeartbeats 40000000 in
theorem rm_valueOfJI (l : Launch) (Z : State) (a0 : Array Value) (hw : ∀ d ∈ tables_1, d.before a0 Z = true) (ws : List Jvm.Cond) (v0 : Int64) (s1_ : Int32) (aZ : Addr) (aT : Addr) (clT : Cell) (aS : Addr) (clS : Cell) (h0 : Heap) (n0 : Nat) (Z0 : n0 ≤ h0.size) (O0 : Old Z n0 h0) (SZ : Sta Z Z.heap "java/math/BigDecimal" "ZERO" "Ljava/math/BigDecimal;" (.ref aZ)) (BZ : BD Z Z.heap aZ (0 : Int64) (0 : Int32)) (ST : Sta Z Z.heap "java/math/BigDecimal" "ZERO_THROUGH_TEN" "[Ljava/math/BigDecimal;" (.ref aT)) (BT : BDs Z aT clT 11 (fun i => Int64.ofNat i) (fun _ => 0)) (SS : Sta Z Z.heap "java/math/BigDecimal" "ZERO_SCALED_BY" "[Ljava/math/BigDecimal;" (.ref aS)) (BS : BDs Z aS clS 16 (fun _ => 0) (fun i => Int32.ofNat i)) (hmin : ¬ v0 = (-9223372036854775808 : Int64)) (hs0 : ¬ s1_ < 0) (hs1 : s1_ < 16) :
    MetFree l (⟨"java/math/BigDecimal", "valueOf", "(JI)Ljava/math/BigDecimal;"⟩ : MethodName) (head1 (Jvm.Cond.code (⟨"java/math/BigDecimal", "valueOf", "(JI)Ljava/math/BigDecimal;"⟩ : MethodName) jdk_17_method_20_code 3 (some (.object "java/math/BigDecimal")) :: ws) ({ frames := 4, cells := 1, slots := 5, locals := 90 } : Room)) (fun a U => a = #[(.long v0), (.int s1_)] ∧ Z.Warmed39 U.vm ∧ U.heap = h0) (fun _ _ _ _ _ => True) (fun _ U o U' => ∃ v L, o = .returned v ∧ Q_valueOfJI Z v0 s1_ aZ aT clT aS clS h0 n0 v U'.heap L ∧ FrameEnd U o U' L ({ frames := 4, cells := 1, slots := 5, locals := 90 } : Room).cells ({ frames := 4, cells := 1, slots := 5, locals := 90 } : Room).slots) := by
  refine MetFree.of_bodySF (plainFor_of_name pn_java_math_BigDecimal) hisR ?_
  intro p e s m args below meth c s₁ Bd hml0 hP hK
  obtain ⟨rfl, hZ, hh⟩ := hP
  have hx := Bd.exec
  have hby := Bd.bytes
  have hml : c.maxLocals = 3 := hml0
  have hown : s.vm.findClass "java/math/BigDecimal" = some m.cls := findClass_of_methodNamed Bd.named
  have hnm := (name_of_methodNamed Bd.named Bd.method).1
  have X0 : Stand p l e ({ frames := 4, cells := 1, slots := 5, locals := 90 } : Room) s m #[(.long v0), (.int s1_)] below meth c s₁ [] 0 0 := Stand.of_body Bd
  have e0 : s₁.heap = h0 := by rw [← hh, Bd.state]; rfl
  have N0 := Fr.nil n0
  have hlk : meth.locks = false := Bd.notSynchronized
  obtain ⟨P, hP⟩ : ∃ P : Outcome → State → Prop, P = PQ s (Q_valueOfJI Z v0 s1_ aZ aT clT aS clS h0 n0) ({ frames := 4, cells := 1, slots := 5, locals := 90 } : Room).cells ({ frames := 4, cells := 1, slots := 5, locals := 90 } : Room).slots := ⟨_, rfl⟩
  have fin : ∀ {T : State} {locs : List Loc} {k n : Nat} {v : Option Value} {S0 : State}, Stand p l e ({ frames := 4, cells := 1, slots := 5, locals := 90 } : Room) s m #[(.long v0), (.int s1_)] below meth c T locs k n → (meth.sig.returnType = none → v = none) → k ≤ ({ frames := 4, cells := 1, slots := 5, locals := 90 } : Room).cells → n ≤ ({ frames := 4, cells := 1, slots := 5, locals := 90 } : Room).slots → Q_valueOfJI Z v0 s1_ aZ aT clT aS clS h0 n0 v T.heap locs → (∀ fs, (∀ (f : JFrame) (acts : List Action), f.method = m → f.locked = none → f.entered = [] → (doReturn e (T.setTop f) acts v).1 = T.setFrames fs) → Steps p.tables e below S0 (T.setFrames fs)) → Go p e below P S0 := fun X hv hk hn hQ hst => hP ▸ Go.fin X hlk hv hk hn hQ hst
  suffices hgo : Go p e below P (s₁.setTop (mkF m 0 #[.val (.long v0), .second, .val (.int s1_)] [])) by
    rw [hP] at hgo
    exact Go.by (fun t k => castTop (ef_valueOfJI m v0 s1_ aZ aT clT aS clS) k) hgo
  show Go p e below P (s₁.setTop (mkF m 0 #[.val (.long v0), .second, .val (.int s1_)] []))
  refine Go.by (fun _ => XS.iloadN X0.here hx rfl (hb hby d_jdk_17_method_20_code_0) rfl) ?_
  show Go p e below P (s₁.setTop (mkF m 1 #[.val (.long v0), .second, .val (.int s1_)] [(.int s1_)]))
  by_cases hc1_1 : s1_ = (0 : Int32)
  · refine Go.by (fun _ => XS.ifNo X0.here hx rfl (hb hby d_jdk_17_method_20_code_1) rfl (XT.i0_ne_f hc1_1)) ?_
    show Go p e below P (s₁.setTop (mkF m 4 #[.val (.long v0), .second, .val (.int s1_)] []))
    refine Go.by (fun _ => XS.lloadN X0.here hx rfl (hb hby d_jdk_17_method_20_code_4) rfl) ?_
    show Go p e below P (s₁.setTop (mkF m 5 #[.val (.long v0), .second, .val (.int s1_)] [(.long v0)]))
    obtain ⟨_, _, ⟨T2, L2, k2, n2⟩, -, X2, ⟨Lc2, hQ2, l2, y2, z2⟩, st2⟩ := Jvm.LawKit.callS X0 hx (y := (⟨"java/math/BigDecimal", "valueOf", "(J)Ljava/math/BigDecimal;"⟩ : MethodName)) hown (mvT hZ (tw_106 hw)) (mvT hZ (tw_107 hw)) (mvT hZ (tw_3 hw)) (mvT hZ (tw_108 hw)) (by decide) (backOf (W := 0) (rm_valueOfJ l Z a0 hw [] v0 aZ aT clT aS clS h0 n0 Z0 O0 SZ BZ ST BT SS BS hmin) hZ (tw_108 hw) (tw_3 hw) (by decide) (by decide)) (g := (mkF m 5 #[.val (.long v0), .second, .val (.int s1_)] [(.long v0)])) rfl (by rw [hml]; rfl) (argsL := [(.long v0)]) (rest := []) (lenOf pd__J_Ljava_math_BigDecimal_ rfl) rfl (by show 2 * 0 + _ ≤ _; exact Nat.le_of_eq rfl) (hb hby d_jdk_17_method_20_code_5) (fun _ _ => ⟨rfl, e0, (by decide : 0 + 1 ≤ _), (by decide : 0 + 5 ≤ _)⟩)
    dsimp only [Pt.U, Pt.locs, Pt.cells, Pt.slots] at X2 l2 y2 z2 st2 hQ2
    subst l2 y2 z2
    obtain ⟨b2, rfl, N2q, K2, B2⟩ := hQ2
    have N2 := Fr.app N0 N2q
    refine Go.by (fun t k => st2 t k) ?_
    have f2_0 : n0 ≤ T2.heap.size := (Nat.le_trans Z0 K2.1)
    have f2_1 : Keep h0 T2.heap [] := (Keep.trans (Keep.refl h0 []) K2 all0)
    have f2_2 : Old Z n0 T2.heap := (Old.keep O0 K2 all0)
    rw [← hc1_1] at B2
    show Go p e below P (T2.setTop (mkF m 8 #[.val (.long v0), .second, .val (.int s1_)] [(.ref b2)]))
    refine fin X2 (v := some (.ref b2)) (fun h => by rw [Bd.returns] at h; cases h) (by decide) (by decide) ?_ (fun fs hr => retOut X2 hx Bd.returns rfl (Or.inr (Or.inr (Or.inr (Or.inr ⟨rfl, rfl, rfl⟩)))) (hb hby d_jdk_17_method_20_code_8) hr)
    show Q_valueOfJI Z v0 s1_ aZ aT clT aS clS h0 n0 _ T2.heap _
    exact ⟨b2, rfl, N2, f2_1, B2⟩
  · refine Go.by (fun _ => XS.ifYes X0.here hx rfl (pc0 := 1) (pc' := 9) rfl (hb hby d_jdk_17_method_20_code_1) rfl (XT.i0_ne_t hc1_1) (by decide) (by decide)) ?_
    show Go p e below P (s₁.setTop (mkF m 9 #[.val (.long v0), .second, .val (.int s1_)] []))
    refine Go.by (fun _ => XS.lloadN X0.here hx rfl (hb hby d_jdk_17_method_20_code_9) rfl) ?_
    show Go p e below P (s₁.setTop (mkF m 10 #[.val (.long v0), .second, .val (.int s1_)] [(.long v0)]))
    refine Go.by (fun _ => XS.lconst X0.here hx rfl (hb hby d_jdk_17_method_20_code_10)) ?_
    show Go p e below P (s₁.setTop (mkF m 11 #[.val (.long v0), .second, .val (.int s1_)] [(.long (0 : Int64)), (.long v0)]))
    refine Go.by (fun _ => XS.lcmp X0.here hx rfl (hb hby d_jdk_17_method_20_code_11) rfl) ?_
    show Go p e below P (s₁.setTop (mkF m 12 #[.val (.long v0), .second, .val (.int s1_)] [(.int (lcmpW v0 (0 : Int64)))]))
    by_cases hc12_3 : v0 = (0 : Int64)
    · refine Go.by (fun _ => XS.ifNo X0.here hx rfl (hb hby d_jdk_17_method_20_code_12) rfl (XT.ll_ne_f hc12_3)) ?_
      show Go p e below P (s₁.setTop (mkF m 15 #[.val (.long v0), .second, .val (.int s1_)] []))
      refine Go.by (fun _ => XS.iloadN X0.here hx rfl (hb hby d_jdk_17_method_20_code_15) rfl) ?_
      show Go p e below P (s₁.setTop (mkF m 16 #[.val (.long v0), .second, .val (.int s1_)] [(.int s1_)]))
      obtain ⟨_, _, ⟨T4, L4, k4, n4⟩, -, X4, ⟨Lc4, hQ4, l4, y4, z4⟩, st4⟩ := Jvm.LawKit.callS X0 hx (y := (⟨"java/math/BigDecimal", "zeroValueOf", "(I)Ljava/math/BigDecimal;"⟩ : MethodName)) hown (mvT hZ (tw_110 hw)) (mvT hZ (tw_111 hw)) (mvT hZ (tw_3 hw)) (mvT hZ (tw_112 hw)) (by decide) (backOf (W := 0) (rm_zeroValueOf l Z a0 hw [] s1_ aZ aT clT aS clS h0 n0 Z0 O0 SZ BZ ST BT SS BS hs0 hs1) hZ (tw_112 hw) (tw_3 hw) (by decide) (by decide)) (g := (mkF m 16 #[.val (.long v0), .second, .val (.int s1_)] [(.int s1_)])) rfl (by rw [hml]; rfl) (argsL := [(.int s1_)]) (rest := []) (lenOf pd__I_Ljava_math_BigDecimal_ rfl) rfl (by show 2 * 0 + _ ≤ _; exact Nat.le_of_eq rfl) (hb hby d_jdk_17_method_20_code_16) (fun _ _ => ⟨rfl, e0, (by decide : 0 + 0 ≤ _), (by decide : 0 + 0 ≤ _)⟩)
      dsimp only [Pt.U, Pt.locs, Pt.cells, Pt.slots] at X4 l4 y4 z4 st4 hQ4
      subst l4 y4 z4
      obtain ⟨b4, rfl, N4q, K4, B4⟩ := hQ4
      have N4 := Fr.app N0 N4q
      refine Go.by (fun t k => st4 t k) ?_
      have f4_0 : n0 ≤ T4.heap.size := (Nat.le_trans Z0 K4.1)
      have f4_1 : Keep h0 T4.heap [] := (Keep.trans (Keep.refl h0 []) K4 all0)
      have f4_2 : Old Z n0 T4.heap := (Old.keep O0 K4 all0)
      rw [← hc12_3] at B4
      show Go p e below P (T4.setTop (mkF m 19 #[.val (.long v0), .second, .val (.int s1_)] [(.ref b4)]))
      refine fin X4 (v := some (.ref b4)) (fun h => by rw [Bd.returns] at h; cases h) (by decide) (by decide) ?_ (fun fs hr => retOut X4 hx Bd.returns rfl (Or.inr (Or.inr (Or.inr (Or.inr ⟨rfl, rfl, rfl⟩)))) (hb hby d_jdk_17_method_20_code_19) hr)
      show Q_valueOfJI Z v0 s1_ aZ aT clT aS clS h0 n0 _ T4.heap _
      exact ⟨b4, rfl, N4, f4_1, B4⟩
    · refine Go.by (fun _ => XS.ifYes X0.here hx rfl (pc0 := 12) (pc' := 20) rfl (hb hby d_jdk_17_method_20_code_12) rfl (XT.ll_ne_t hc12_3) (by decide) (by decide)) ?_
      show Go p e below P (s₁.setTop (mkF m 20 #[.val (.long v0), .second, .val (.int s1_)] []))
      obtain ⟨T5, h5, X5, e5, E5, A5, D5, U5, st5⟩ := newO X0 hx hZ hown (tw_5 hw) (tw_6 hw) (tw_3 hw) e0 (g := (mkF m 20 #[.val (.long v0), .second, .val (.int s1_)] [])) rfl (hb hby d_jdk_17_method_20_code_20) (by decide) (by decide)
      obtain ⟨b5, g5⟩ : ∃ z, z = h0.size := ⟨_, rfl⟩
      rw [← g5] at A5 D5 U5 st5
      have g_b5 : n0 ≤ b5 := Nat.le_trans Z0 (Nat.le_of_eq g5.symm)
      have sz_b5 : h0.size ≤ b5 := Nat.le_trans (Keep.refl h0 []).1 (Nat.le_of_eq g5.symm)
      have f5_0 : n0 ≤ h5.size := (Nat.le_trans Z0 E5.1)
      have f5_1 : Keep h0 h5 [] := (Keep.ext (Keep.refl h0 []) E5)
      have f5_2 : Old Z n0 h5 := (Old.ext O0 E5)
      refine Go.by st5 ?_
      have F5_scale : Fld Z h5 b5 "java/math/BigDecimal" "scale" "I" (.int (0 : Int32)) := D5 (Or.inr (tw_22 hw)) (ty := .int) (by decide)
      have F5_precision : Fld Z h5 b5 "java/math/BigDecimal" "precision" "I" (.int (0 : Int32)) := D5 (Or.inl (tw_24 hw)) (ty := .int) (by decide)
      have F5_intCompact : Fld Z h5 b5 "java/math/BigDecimal" "intCompact" "J" (.long (0 : Int64)) := D5 (Or.inr (tw_26 hw)) (ty := .long) (by decide)
      have F5_intVal : Fld Z h5 b5 "java/math/BigDecimal" "intVal" "Ljava/math/BigInteger;" .null := D5 (Or.inr (tw_28 hw)) (ty := (.object "java/math/BigInteger")) (by decide)
      show Go p e below P (T5.setTop (mkF m 23 #[.val (.long v0), .second, .val (.int s1_)] [(.ref b5)]))
      refine Go.by (fun _ => XS.dup X5.here hx rfl (hb hby d_jdk_17_method_20_code_23) rfl rfl) ?_
      show Go p e below P (T5.setTop (mkF m 24 #[.val (.long v0), .second, .val (.int s1_)] [(.ref b5), (.ref b5)]))
      refine Go.by (fun _ => XS.lloadN X5.here hx rfl (hb hby d_jdk_17_method_20_code_24) rfl) ?_
      show Go p e below P (T5.setTop (mkF m 25 #[.val (.long v0), .second, .val (.int s1_)] [(.long v0), (.ref b5), (.ref b5)]))
      refine Go.by (fun _ => Jvm.Stand.ldc2J X5 hx hown (mvT hZ (tw_7 hw)) rfl (hb hby d_jdk_17_method_20_code_25)) ?_
      show Go p e below P (T5.setTop (mkF m 28 #[.val (.long v0), .second, .val (.int s1_)] [(.long (-9223372036854775808 : Int64)), (.long v0), (.ref b5), (.ref b5)]))
      refine Go.by (fun _ => XS.lcmp X5.here hx rfl (hb hby d_jdk_17_method_20_code_28) rfl) ?_
      show Go p e below P (T5.setTop (mkF m 29 #[.val (.long v0), .second, .val (.int s1_)] [(.int (lcmpW v0 (-9223372036854775808 : Int64))), (.ref b5), (.ref b5)]))
      refine Go.by (fun _ => XS.ifYes X5.here hx rfl (pc0 := 29) (pc' := 38) rfl (hb hby d_jdk_17_method_20_code_29) rfl (XT.ll_ne_t hmin) (by decide) (by decide)) ?_
      show Go p e below P (T5.setTop (mkF m 38 #[.val (.long v0), .second, .val (.int s1_)] [(.ref b5), (.ref b5)]))
      refine Go.by (fun _ => XS.aconstNull X5.here hx rfl (hb hby d_jdk_17_method_20_code_38)) ?_
      show Go p e below P (T5.setTop (mkF m 39 #[.val (.long v0), .second, .val (.int s1_)] [.null, (.ref b5), (.ref b5)]))
      refine Go.by (fun _ => XS.lloadN X5.here hx rfl (hb hby d_jdk_17_method_20_code_39) rfl) ?_
      show Go p e below P (T5.setTop (mkF m 40 #[.val (.long v0), .second, .val (.int s1_)] [(.long v0), .null, (.ref b5), (.ref b5)]))
      refine Go.by (fun _ => XS.iloadN X5.here hx rfl (hb hby d_jdk_17_method_20_code_40) rfl) ?_
      show Go p e below P (T5.setTop (mkF m 41 #[.val (.long v0), .second, .val (.int s1_)] [(.int s1_), (.long v0), .null, (.ref b5), (.ref b5)]))
      refine Go.by (fun _ => XS.iconst X5.here hx rfl (hb hby d_jdk_17_method_20_code_41)) ?_
      show Go p e below P (T5.setTop (mkF m 42 #[.val (.long v0), .second, .val (.int s1_)] [(.int (0 : Int32)), (.int s1_), (.long v0), .null, (.ref b5), (.ref b5)]))
      obtain ⟨_, _, ⟨T6, L6, k6, n6⟩, -, X6, ⟨Lc6, hQ6, l6, y6, z6⟩, st6⟩ := X5.specialBack hx (y := (⟨"java/math/BigDecimal", "<init>", "(Ljava/math/BigInteger;JII)V"⟩ : MethodName)) rfl hown (mvT hZ (tw_8 hw)) (mvT hZ (tw_9 hw)) (mvT hZ (tw_11 hw)) (by decide) (backOf (W := 1) (rm_bdInit l Z a0 hw [] b5 v0 s1_ (0 : Int32) h5 n0 f5_0 A5 g_b5 F5_scale F5_precision F5_intCompact F5_intVal) hZ (tw_11 hw) (tw_3 hw) (by decide) (by decide)) (g := (mkF m 42 #[.val (.long v0), .second, .val (.int s1_)] [(.int (0 : Int32)), (.int s1_), (.long v0), .null, (.ref b5), (.ref b5)])) rfl (by rw [hml]; rfl) (Steps.refl _) (a := b5) (argsL := [.null, (.long v0), (.int s1_), (.int (0 : Int32))]) (rest := [(.ref b5)]) (lenOf pd__Ljava_math_BigInteger_JII_V rfl) rfl (by show 2 * 0 + _ ≤ _; exact Nat.le_of_eq rfl) (hb hby d_jdk_17_method_20_code_42) (fun _ _ => ⟨rfl, e5, (by decide : 1 + 0 ≤ _), (by decide : 5 + 0 ≤ _)⟩)
      dsimp only [Pt.U, Pt.locs, Pt.cells, Pt.slots] at X6 l6 y6 z6 st6 hQ6
      subst l6 y6 z6
      obtain ⟨rfl, N6q, K6, G6_0, G6_1, G6_2, G6_3⟩ := hQ6
      have N6 := Fr.app N0 N6q
      refine Go.by (fun t k => st6.trans k) ?_
      have f6_0 : n0 ≤ T6.heap.size := (Nat.le_trans f5_0 K6.1)
      have f6_1 : Keep h0 T6.heap [] := (Keep.trans f5_1 K6 (allS (Or.inr sz_b5) all0))
      have f6_2 : Old Z n0 T6.heap := (Old.keep f5_2 K6 (allS g_b5 all0))
      have f6_3 : Exa Z T6.heap b5 "java/math/BigDecimal" := (Exa.keep A5 K6)
      have B_b5 : BD Z T6.heap b5 v0 s1_ := ⟨f6_3, G6_2, G6_0⟩
      show Go p e below P (T6.setTop (mkF m 45 #[.val (.long v0), .second, .val (.int s1_)] [(.ref b5)]))
      refine fin X6 (v := some (.ref b5)) (fun h => by rw [Bd.returns] at h; cases h) (by decide) (by decide) ?_ (fun fs hr => retOut X6 hx Bd.returns rfl (Or.inr (Or.inr (Or.inr (Or.inr ⟨rfl, rfl, rfl⟩)))) (hb hby d_jdk_17_method_20_code_45) hr)
      show Q_valueOfJI Z v0 s1_ aZ aT clT aS clS h0 n0 _ T6.heap _
      exact ⟨b5, rfl, N6, f6_1, B_b5⟩
def Q_addJJ (Z : State) (x0 : Int64) (x1 : Int64) (h0 : Heap) (n0 : Nat) (v : Option Value) (h : Heap) (L : List Loc) : Prop := v = some (.long (x0 + x1)) ∧ Fr n0 L ∧ h = h0
theorem ef_addJJ (m : MethodId) (x0 : Int64) (x1 : Int64) : entryFrame m #[(.long x0), (.long x1)] 6 = mkF m 0 #[.val (.long x0), .second, .val (.long x1), .second, .unset, .unset] [] := by first | (simp [entryFrame, mkF, argsToLocals, Value.category]; done) | rfl
set_option maxRecDepth 65536 in
set_option maxHeartbeats 40000000 in
theorem rm_addJJ (l : Launch) (Z : State) (a0 : Array Value) (hw : ∀ d ∈ tables_1, d.before a0 Z = true) (ws : List Jvm.Cond) (x0 : Int64) (x1 : Int64) (h0 : Heap) (n0 : Nat) (Z0 : n0 ≤ h0.size) (hov : ¬ (((x0 + x1) ^^^ x0) &&& ((x0 + x1) ^^^ x1)) < (0 : Int64)) :
    MetFree l (⟨"java/math/BigDecimal", "add", "(JJ)J"⟩ : MethodName) (head1 (Jvm.Cond.code (⟨"java/math/BigDecimal", "add", "(JJ)J"⟩ : MethodName) jdk_17_method_132_code 6 (some .long) :: ws) ({ frames := 0, cells := 0, slots := 0, locals := 0 } : Room)) (fun a U => a = #[(.long x0), (.long x1)] ∧ Z.Warmed39 U.vm ∧ U.heap = h0) (fun _ _ _ _ _ => True) (fun _ U o U' => ∃ v L, o = .returned v ∧ Q_addJJ Z x0 x1 h0 n0 v U'.heap L ∧ FrameEnd U o U' L ({ frames := 0, cells := 0, slots := 0, locals := 0 } : Room).cells ({ frames := 0, cells := 0, slots := 0, locals := 0 } : Room).slots) := by
  refine MetFree.of_bodySF (plainFor_of_name pn_java_math_BigDecimal) hisR ?_
  intro p e s m args below meth c s₁ Bd hml0 hP hK
  obtain ⟨rfl, hZ, hh⟩ := hP
  have hx := Bd.exec
  have hby := Bd.bytes
  have hml : c.maxLocals = 6 := hml0
  have hown : s.vm.findClass "java/math/BigDecimal" = some m.cls := findClass_of_methodNamed Bd.named
  have hnm := (name_of_methodNamed Bd.named Bd.method).1
  have X0 : Stand p l e ({ frames := 0, cells := 0, slots := 0, locals := 0 } : Room) s m #[(.long x0), (.long x1)] below meth c s₁ [] 0 0 := Stand.of_body Bd
  have e0 : s₁.heap = h0 := by rw [← hh, Bd.state]; rfl
  have N0 := Fr.nil n0
  have hlk : meth.locks = false := Bd.notSynchronized
  obtain ⟨P, hP⟩ : ∃ P : Outcome → State → Prop, P = PQ s (Q_addJJ Z x0 x1 h0 n0) ({ frames := 0, cells := 0, slots := 0, locals := 0 } : Room).cells ({ frames := 0, cells := 0, slots := 0, locals := 0 } : Room).slots := ⟨_, rfl⟩
  have fin : ∀ {T : State} {locs : List Loc} {k n : Nat} {v : Option Value} {S0 : State}, Stand p l e ({ frames := 0, cells := 0, slots := 0, locals := 0 } : Room) s m #[(.long x0), (.long x1)] below meth c T locs k n → (meth.sig.returnType = none → v = none) → k ≤ ({ frames := 0, cells := 0, slots := 0, locals := 0 } : Room).cells → n ≤ ({ frames := 0, cells := 0, slots := 0, locals := 0 } : Room).slots → Q_addJJ Z x0 x1 h0 n0 v T.heap locs → (∀ fs, (∀ (f : JFrame) (acts : List Action), f.method = m → f.locked = none → f.entered = [] → (doReturn e (T.setTop f) acts v).1 = T.setFrames fs) → Steps p.tables e below S0 (T.setFrames fs)) → Go p e below P S0 := fun X hv hk hn hQ hst => hP ▸ Go.fin X hlk hv hk hn hQ hst
  suffices hgo : Go p e below P (s₁.setTop (mkF m 0 #[.val (.long x0), .second, .val (.long x1), .second, .unset, .unset] [])) by
    rw [hP] at hgo
    exact Go.by (fun t k => castTop (ef_addJJ m x0 x1) k) hgo
  show Go p e below P (s₁.setTop (mkF m 0 #[.val (.long x0), .second, .val (.long x1), .second, .unset, .unset] []))
  refine Go.by (fun _ => XS.lloadN X0.here hx rfl (hb hby d_jdk_17_method_132_code_0) rfl) ?_
  show Go p e below P (s₁.setTop (mkF m 1 #[.val (.long x0), .second, .val (.long x1), .second, .unset, .unset] [(.long x0)]))
  refine Go.by (fun _ => XS.lloadN X0.here hx rfl (hb hby d_jdk_17_method_132_code_1) rfl) ?_
  show Go p e below P (s₁.setTop (mkF m 2 #[.val (.long x0), .second, .val (.long x1), .second, .unset, .unset] [(.long x1), (.long x0)]))
  refine Go.by (fun _ => XS.ladd X0.here hx rfl (hb hby d_jdk_17_method_132_code_2) rfl) ?_
  show Go p e below P (s₁.setTop (mkF m 3 #[.val (.long x0), .second, .val (.long x1), .second, .unset, .unset] [(.long (x0 + x1))]))
  refine Go.by (fun _ => XS.lstore X0.here hx rfl (hb hby d_jdk_17_method_132_code_3) rfl (l' := #[.val (.long x0), .second, .val (.long x1), .second, .val (.long (x0 + x1)), .second]) rfl) ?_
  show Go p e below P (s₁.setTop (mkF m 5 #[.val (.long x0), .second, .val (.long x1), .second, .val (.long (x0 + x1)), .second] []))
  refine Go.by (fun _ => XS.lload X0.here hx rfl (hb hby d_jdk_17_method_132_code_5) rfl) ?_
  show Go p e below P (s₁.setTop (mkF m 7 #[.val (.long x0), .second, .val (.long x1), .second, .val (.long (x0 + x1)), .second] [(.long (x0 + x1))]))
  refine Go.by (fun _ => XS.lloadN X0.here hx rfl (hb hby d_jdk_17_method_132_code_7) rfl) ?_
  show Go p e below P (s₁.setTop (mkF m 8 #[.val (.long x0), .second, .val (.long x1), .second, .val (.long (x0 + x1)), .second] [(.long x0), (.long (x0 + x1))]))
  refine Go.by (fun _ => XS.lxor X0.here hx rfl (hb hby d_jdk_17_method_132_code_8) rfl) ?_
  show Go p e below P (s₁.setTop (mkF m 9 #[.val (.long x0), .second, .val (.long x1), .second, .val (.long (x0 + x1)), .second] [(.long ((x0 + x1) ^^^ x0))]))
  refine Go.by (fun _ => XS.lload X0.here hx rfl (hb hby d_jdk_17_method_132_code_9) rfl) ?_
  show Go p e below P (s₁.setTop (mkF m 11 #[.val (.long x0), .second, .val (.long x1), .second, .val (.long (x0 + x1)), .second] [(.long (x0 + x1)), (.long ((x0 + x1) ^^^ x0))]))
  refine Go.by (fun _ => XS.lloadN X0.here hx rfl (hb hby d_jdk_17_method_132_code_11) rfl) ?_
  show Go p e below P (s₁.setTop (mkF m 12 #[.val (.long x0), .second, .val (.long x1), .second, .val (.long (x0 + x1)), .second] [(.long x1), (.long (x0 + x1)), (.long ((x0 + x1) ^^^ x0))]))
  refine Go.by (fun _ => XS.lxor X0.here hx rfl (hb hby d_jdk_17_method_132_code_12) rfl) ?_
  show Go p e below P (s₁.setTop (mkF m 13 #[.val (.long x0), .second, .val (.long x1), .second, .val (.long (x0 + x1)), .second] [(.long ((x0 + x1) ^^^ x1)), (.long ((x0 + x1) ^^^ x0))]))
  refine Go.by (fun _ => XS.land X0.here hx rfl (hb hby d_jdk_17_method_132_code_13) rfl) ?_
  show Go p e below P (s₁.setTop (mkF m 14 #[.val (.long x0), .second, .val (.long x1), .second, .val (.long (x0 + x1)), .second] [(.long (((x0 + x1) ^^^ x0) &&& ((x0 + x1) ^^^ x1)))]))
  refine Go.by (fun _ => XS.lconst X0.here hx rfl (hb hby d_jdk_17_method_132_code_14)) ?_
  show Go p e below P (s₁.setTop (mkF m 15 #[.val (.long x0), .second, .val (.long x1), .second, .val (.long (x0 + x1)), .second] [(.long (0 : Int64)), (.long (((x0 + x1) ^^^ x0) &&& ((x0 + x1) ^^^ x1)))]))
  refine Go.by (fun _ => XS.lcmp X0.here hx rfl (hb hby d_jdk_17_method_132_code_15) rfl) ?_
  show Go p e below P (s₁.setTop (mkF m 16 #[.val (.long x0), .second, .val (.long x1), .second, .val (.long (x0 + x1)), .second] [(.int (lcmpW (((x0 + x1) ^^^ x0) &&& ((x0 + x1) ^^^ x1)) (0 : Int64)))]))
  refine Go.by (fun _ => XS.ifNo X0.here hx rfl (hb hby d_jdk_17_method_132_code_16) rfl (XT.ll_lt_f hov)) ?_
  show Go p e below P (s₁.setTop (mkF m 19 #[.val (.long x0), .second, .val (.long x1), .second, .val (.long (x0 + x1)), .second] []))
  refine Go.by (fun _ => XS.lload X0.here hx rfl (hb hby d_jdk_17_method_132_code_19) rfl) ?_
  show Go p e below P (s₁.setTop (mkF m 21 #[.val (.long x0), .second, .val (.long x1), .second, .val (.long (x0 + x1)), .second] [(.long (x0 + x1))]))
  refine fin X0 (v := some (.long (x0 + x1))) (fun h => by rw [Bd.returns] at h; cases h) (by decide) (by decide) ?_ (fun fs hr => retOut X0 hx Bd.returns rfl (Or.inr (Or.inl ⟨rfl, rfl, _, rfl⟩)) (hb hby d_jdk_17_method_132_code_21) hr)
  show Q_addJJ Z x0 x1 h0 n0 _ s₁.heap _
  rw [e0]
  exact ⟨rfl, N0, rfl⟩
def Q_addJJI (Z : State) (x0 : Int64) (x1 : Int64) (s2 : Int32) (aZ : Addr) (aT : Addr) (clT : Cell) (aS : Addr) (clS : Cell) (h0 : Heap) (n0 : Nat) (v : Option Value) (h : Heap) (L : List Loc) : Prop := ∃ b, v = some (.ref b) ∧ Fr n0 L ∧ Keep h0 h [] ∧ BD Z h b (x0 + x1) s2
theorem ef_addJJI (m : MethodId) (x0 : Int64) (x1 : Int64) (s2 : Int32) (aZ : Addr) (aT : Addr) (clT : Cell) (aS : Addr) (clS : Cell) : entryFrame m #[(.long x0), (.long x1), (.int s2)] 7 = mkF m 0 #[.val (.long x0), .second, .val (.long x1), .second, .val (.int s2), .unset, .unset] [] := by first | (simp [entryFrame, mkF, argsToLocals, Value.category]; done) | rfl
set_option maxRecDepth 65536 in
set_option maxHeartbeats 40000000 in
theorem rm_addJJI (l : Launch) (Z : State) (a0 : Array Value) (hw : ∀ d ∈ tables_1, d.before a0 Z = true) (ws : List Jvm.Cond) (x0 : Int64) (x1 : Int64) (s2 : Int32) (aZ : Addr) (aT : Addr) (clT : Cell) (aS : Addr) (clS : Cell) (h0 : Heap) (n0 : Nat) (Z0 : n0 ≤ h0.size) (O0 : Old Z n0 h0) (SZ : Sta Z Z.heap "java/math/BigDecimal" "ZERO" "Ljava/math/BigDecimal;" (.ref aZ)) (BZ : BD Z Z.heap aZ (0 : Int64) (0 : Int32)) (ST : Sta Z Z.heap "java/math/BigDecimal" "ZERO_THROUGH_TEN" "[Ljava/math/BigDecimal;" (.ref aT)) (BT : BDs Z aT clT 11 (fun i => Int64.ofNat i) (fun _ => 0)) (SS : Sta Z Z.heap "java/math/BigDecimal" "ZERO_SCALED_BY" "[Ljava/math/BigDecimal;" (.ref aS)) (BS : BDs Z aS clS 16 (fun _ => 0) (fun i => Int32.ofNat i)) (hov : ¬ (((x0 + x1) ^^^ x0) &&& ((x0 + x1) ^^^ x1)) < (0 : Int64)) (hmin : ¬ (x0 + x1) = (-9223372036854775808 : Int64)) (hs0 : ¬ s2 < 0) (hs1 : s2 < 16) :
    MetFree l (⟨"java/math/BigDecimal", "add", "(JJI)Ljava/math/BigDecimal;"⟩ : MethodName) (head1 (Jvm.Cond.code (⟨"java/math/BigDecimal", "add", "(JJI)Ljava/math/BigDecimal;"⟩ : MethodName) jdk_17_method_133_code 7 (some (.object "java/math/BigDecimal")) :: ws) ({ frames := 5, cells := 1, slots := 5, locals := 110 } : Room)) (fun a U => a = #[(.long x0), (.long x1), (.int s2)] ∧ Z.Warmed39 U.vm ∧ U.heap = h0) (fun _ _ _ _ _ => True) (fun _ U o U' => ∃ v L, o = .returned v ∧ Q_addJJI Z x0 x1 s2 aZ aT clT aS clS h0 n0 v U'.heap L ∧ FrameEnd U o U' L ({ frames := 5, cells := 1, slots := 5, locals := 110 } : Room).cells ({ frames := 5, cells := 1, slots := 5, locals := 110 } : Room).slots) := by
  refine MetFree.of_bodySF (plainFor_of_name pn_java_math_BigDecimal) hisR ?_
  intro p e s m args below meth c s₁ Bd hml0 hP hK
  obtain ⟨rfl, hZ, hh⟩ := hP
  have hx := Bd.exec
  have hby := Bd.bytes
  have hml : c.maxLocals = 7 := hml0
  have hown : s.vm.findClass "java/math/BigDecimal" = some m.cls := findClass_of_methodNamed Bd.named
  have hnm := (name_of_methodNamed Bd.named Bd.method).1
  have X0 : Stand p l e ({ frames := 5, cells := 1, slots := 5, locals := 110 } : Room) s m #[(.long x0), (.long x1), (.int s2)] below meth c s₁ [] 0 0 := Stand.of_body Bd
  have e0 : s₁.heap = h0 := by rw [← hh, Bd.state]; rfl
  have N0 := Fr.nil n0
  have hlk : meth.locks = false := Bd.notSynchronized
  obtain ⟨P, hP⟩ : ∃ P : Outcome → State → Prop, P = PQ s (Q_addJJI Z x0 x1 s2 aZ aT clT aS clS h0 n0) ({ frames := 5, cells := 1, slots := 5, locals := 110 } : Room).cells ({ frames := 5, cells := 1, slots := 5, locals := 110 } : Room).slots := ⟨_, rfl⟩
  have fin : ∀ {T : State} {locs : List Loc} {k n : Nat} {v : Option Value} {S0 : State}, Stand p l e ({ frames := 5, cells := 1, slots := 5, locals := 110 } : Room) s m #[(.long x0), (.long x1), (.int s2)] below meth c T locs k n → (meth.sig.returnType = none → v = none) → k ≤ ({ frames := 5, cells := 1, slots := 5, locals := 110 } : Room).cells → n ≤ ({ frames := 5, cells := 1, slots := 5, locals := 110 } : Room).slots → Q_addJJI Z x0 x1 s2 aZ aT clT aS clS h0 n0 v T.heap locs → (∀ fs, (∀ (f : JFrame) (acts : List Action), f.method = m → f.locked = none → f.entered = [] → (doReturn e (T.setTop f) acts v).1 = T.setFrames fs) → Steps p.tables e below S0 (T.setFrames fs)) → Go p e below P S0 := fun X hv hk hn hQ hst => hP ▸ Go.fin X hlk hv hk hn hQ hst
  suffices hgo : Go p e below P (s₁.setTop (mkF m 0 #[.val (.long x0), .second, .val (.long x1), .second, .val (.int s2), .unset, .unset] [])) by
    rw [hP] at hgo
    exact Go.by (fun t k => castTop (ef_addJJI m x0 x1 s2 aZ aT clT aS clS) k) hgo
  show Go p e below P (s₁.setTop (mkF m 0 #[.val (.long x0), .second, .val (.long x1), .second, .val (.int s2), .unset, .unset] []))
  refine Go.by (fun _ => XS.lloadN X0.here hx rfl (hb hby d_jdk_17_method_133_code_0) rfl) ?_
  show Go p e below P (s₁.setTop (mkF m 1 #[.val (.long x0), .second, .val (.long x1), .second, .val (.int s2), .unset, .unset] [(.long x0)]))
  refine Go.by (fun _ => XS.lloadN X0.here hx rfl (hb hby d_jdk_17_method_133_code_1) rfl) ?_
  show Go p e below P (s₁.setTop (mkF m 2 #[.val (.long x0), .second, .val (.long x1), .second, .val (.int s2), .unset, .unset] [(.long x1), (.long x0)]))
  obtain ⟨_, _, ⟨T1, L1, k1, n1⟩, -, X1, ⟨Lc1, hQ1, l1, y1, z1⟩, st1⟩ := Jvm.LawKit.callS X0 hx (y := (⟨"java/math/BigDecimal", "add", "(JJ)J"⟩ : MethodName)) hown (mvT hZ (tw_102 hw)) (mvT hZ (tw_103 hw)) (mvT hZ (tw_3 hw)) (mvT hZ (tw_104 hw)) (by decide) (backOf (W := 0) (rm_addJJ l Z a0 hw [] x0 x1 h0 n0 Z0 hov) hZ (tw_104 hw) (tw_3 hw) (by decide) (by decide)) (g := (mkF m 2 #[.val (.long x0), .second, .val (.long x1), .second, .val (.int s2), .unset, .unset] [(.long x1), (.long x0)])) rfl (by rw [hml]; rfl) (argsL := [(.long x0), (.long x1)]) (rest := []) (lenOf pd__JJ_J rfl) rfl (by show 2 * 0 + _ ≤ _; exact Nat.le_of_eq rfl) (hb hby d_jdk_17_method_133_code_2) (fun _ _ => ⟨rfl, e0, (by decide : 0 + 0 ≤ _), (by decide : 0 + 0 ≤ _)⟩)
  dsimp only [Pt.U, Pt.locs, Pt.cells, Pt.slots] at X1 l1 y1 z1 st1 hQ1
  subst l1 y1 z1
  obtain ⟨rfl, N1q, q1⟩ := hQ1
  have N1 := Fr.app N0 N1q
  refine Go.by (fun t k => st1 t k) ?_
  show Go p e below P (T1.setTop (mkF m 5 #[.val (.long x0), .second, .val (.long x1), .second, .val (.int s2), .unset, .unset] [(.long (x0 + x1))]))
  refine Go.by (fun _ => XS.lstore X1.here hx rfl (hb hby d_jdk_17_method_133_code_5) rfl (l' := #[.val (.long x0), .second, .val (.long x1), .second, .val (.int s2), .val (.long (x0 + x1)), .second]) rfl) ?_
  show Go p e below P (T1.setTop (mkF m 7 #[.val (.long x0), .second, .val (.long x1), .second, .val (.int s2), .val (.long (x0 + x1)), .second] []))
  refine Go.by (fun _ => XS.lload X1.here hx rfl (hb hby d_jdk_17_method_133_code_7) rfl) ?_
  show Go p e below P (T1.setTop (mkF m 9 #[.val (.long x0), .second, .val (.long x1), .second, .val (.int s2), .val (.long (x0 + x1)), .second] [(.long (x0 + x1))]))
  refine Go.by (fun _ => Jvm.Stand.ldc2J X1 hx hown (mvT hZ (tw_7 hw)) rfl (hb hby d_jdk_17_method_133_code_9)) ?_
  show Go p e below P (T1.setTop (mkF m 12 #[.val (.long x0), .second, .val (.long x1), .second, .val (.int s2), .val (.long (x0 + x1)), .second] [(.long (-9223372036854775808 : Int64)), (.long (x0 + x1))]))
  refine Go.by (fun _ => XS.lcmp X1.here hx rfl (hb hby d_jdk_17_method_133_code_12) rfl) ?_
  show Go p e below P (T1.setTop (mkF m 13 #[.val (.long x0), .second, .val (.long x1), .second, .val (.int s2), .val (.long (x0 + x1)), .second] [(.int (lcmpW (x0 + x1) (-9223372036854775808 : Int64)))]))
  refine Go.by (fun _ => XS.ifNo X1.here hx rfl (hb hby d_jdk_17_method_133_code_13) rfl (XT.ll_eq_f hmin)) ?_
  show Go p e below P (T1.setTop (mkF m 16 #[.val (.long x0), .second, .val (.long x1), .second, .val (.int s2), .val (.long (x0 + x1)), .second] []))
  refine Go.by (fun _ => XS.lload X1.here hx rfl (hb hby d_jdk_17_method_133_code_16) rfl) ?_
  show Go p e below P (T1.setTop (mkF m 18 #[.val (.long x0), .second, .val (.long x1), .second, .val (.int s2), .val (.long (x0 + x1)), .second] [(.long (x0 + x1))]))
  refine Go.by (fun _ => XS.iload X1.here hx rfl (hb hby d_jdk_17_method_133_code_18) rfl) ?_
  show Go p e below P (T1.setTop (mkF m 20 #[.val (.long x0), .second, .val (.long x1), .second, .val (.int s2), .val (.long (x0 + x1)), .second] [(.int s2), (.long (x0 + x1))]))
  obtain ⟨_, _, ⟨T2, L2, k2, n2⟩, -, X2, ⟨Lc2, hQ2, l2, y2, z2⟩, st2⟩ := Jvm.LawKit.callS X1 hx (y := (⟨"java/math/BigDecimal", "valueOf", "(JI)Ljava/math/BigDecimal;"⟩ : MethodName)) hown (mvT hZ (tw_105 hw)) (mvT hZ (tw_2 hw)) (mvT hZ (tw_3 hw)) (mvT hZ (tw_4 hw)) (by decide) (backOf (W := 0) (rm_valueOfJI l Z a0 hw [] (x0 + x1) s2 aZ aT clT aS clS h0 n0 Z0 O0 SZ BZ ST BT SS BS hmin hs0 hs1) hZ (tw_4 hw) (tw_3 hw) (by decide) (by decide)) (g := (mkF m 20 #[.val (.long x0), .second, .val (.long x1), .second, .val (.int s2), .val (.long (x0 + x1)), .second] [(.int s2), (.long (x0 + x1))])) rfl (by rw [hml]; rfl) (argsL := [(.long (x0 + x1)), (.int s2)]) (rest := []) (lenOf pd__JI_Ljava_math_BigDecimal_ rfl) rfl (by show 2 * 0 + _ ≤ _; exact Nat.le_of_eq rfl) (hb hby d_jdk_17_method_133_code_20) (fun _ _ => ⟨rfl, q1, (by decide : 0 + 1 ≤ _), (by decide : 0 + 5 ≤ _)⟩)
  dsimp only [Pt.U, Pt.locs, Pt.cells, Pt.slots] at X2 l2 y2 z2 st2 hQ2
  subst l2 y2 z2
  obtain ⟨b2, rfl, N2q, K2, B2⟩ := hQ2
  have N2 := Fr.app N1 N2q
  refine Go.by (fun t k => st2 t k) ?_
  have f2_0 : n0 ≤ T2.heap.size := (Nat.le_trans Z0 K2.1)
  have f2_1 : Keep h0 T2.heap [] := (Keep.trans (Keep.refl h0 []) K2 all0)
  have f2_2 : Old Z n0 T2.heap := (Old.keep O0 K2 all0)
  show Go p e below P (T2.setTop (mkF m 23 #[.val (.long x0), .second, .val (.long x1), .second, .val (.int s2), .val (.long (x0 + x1)), .second] [(.ref b2)]))
  refine fin X2 (v := some (.ref b2)) (fun h => by rw [Bd.returns] at h; cases h) (by decide) (by decide) ?_ (fun fs hr => retOut X2 hx Bd.returns rfl (Or.inr (Or.inr (Or.inr (Or.inr ⟨rfl, rfl, rfl⟩)))) (hb hby d_jdk_17_method_133_code_23) hr)
  show Q_addJJI Z x0 x1 s2 aZ aT clT aS clS h0 n0 _ T2.heap _
  exact ⟨b2, rfl, N2, f2_1, B2⟩
def Q_addJIJI (Z : State) (x0 : Int64) (x1 : Int64) (s2 : Int32) (aZ : Addr) (aT : Addr) (clT : Cell) (aS : Addr) (clS : Cell) (h0 : Heap) (n0 : Nat) (v : Option Value) (h : Heap) (L : List Loc) : Prop := ∃ b, v = some (.ref b) ∧ Fr n0 L ∧ Keep h0 h [] ∧ BD Z h b (x0 + x1) s2
theorem ef_addJIJI (m : MethodId) (x0 : Int64) (x1 : Int64) (s2 : Int32) (aZ : Addr) (aT : Addr) (clT : Cell) (aS : Addr) (clS : Cell) : entryFrame m #[(.long x0), (.int s2), (.long x1), (.int s2)] 12 = mkF m 0 #[.val (.long x0), .second, .val (.int s2), .val (.long x1), .second, .val (.int s2), .unset, .unset, .unset, .unset, .unset, .unset] [] := by first | (simp [entryFrame, mkF, argsToLocals, Value.category]; done) | rfl
set_option maxRecDepth 65536 in
set_option maxHeartbeats 40000000 in
theorem rm_addJIJI (l : Launch) (Z : State) (a0 : Array Value) (hw : ∀ d ∈ tables_1, d.before a0 Z = true) (ws : List Jvm.Cond) (x0 : Int64) (x1 : Int64) (s2 : Int32) (aZ : Addr) (aT : Addr) (clT : Cell) (aS : Addr) (clS : Cell) (h0 : Heap) (n0 : Nat) (Z0 : n0 ≤ h0.size) (O0 : Old Z n0 h0) (SZ : Sta Z Z.heap "java/math/BigDecimal" "ZERO" "Ljava/math/BigDecimal;" (.ref aZ)) (BZ : BD Z Z.heap aZ (0 : Int64) (0 : Int32)) (ST : Sta Z Z.heap "java/math/BigDecimal" "ZERO_THROUGH_TEN" "[Ljava/math/BigDecimal;" (.ref aT)) (BT : BDs Z aT clT 11 (fun i => Int64.ofNat i) (fun _ => 0)) (SS : Sta Z Z.heap "java/math/BigDecimal" "ZERO_SCALED_BY" "[Ljava/math/BigDecimal;" (.ref aS)) (BS : BDs Z aS clS 16 (fun _ => 0) (fun i => Int32.ofNat i)) (hov : ¬ (((x0 + x1) ^^^ x0) &&& ((x0 + x1) ^^^ x1)) < (0 : Int64)) (hmin : ¬ (x0 + x1) = (-9223372036854775808 : Int64)) (hs0 : ¬ s2 < 0) (hs1 : s2 < 16) :
    MetFree l (⟨"java/math/BigDecimal", "add", "(JIJI)Ljava/math/BigDecimal;"⟩ : MethodName) (head1 (Jvm.Cond.code (⟨"java/math/BigDecimal", "add", "(JIJI)Ljava/math/BigDecimal;"⟩ : MethodName) jdk_17_method_134_code 12 (some (.object "java/math/BigDecimal")) :: ws) ({ frames := 6, cells := 1, slots := 5, locals := 140 } : Room)) (fun a U => a = #[(.long x0), (.int s2), (.long x1), (.int s2)] ∧ Z.Warmed39 U.vm ∧ U.heap = h0) (fun _ _ _ _ _ => True) (fun _ U o U' => ∃ v L, o = .returned v ∧ Q_addJIJI Z x0 x1 s2 aZ aT clT aS clS h0 n0 v U'.heap L ∧ FrameEnd U o U' L ({ frames := 6, cells := 1, slots := 5, locals := 140 } : Room).cells ({ frames := 6, cells := 1, slots := 5, locals := 140 } : Room).slots) := by
  refine MetFree.of_bodySF (plainFor_of_name pn_java_math_BigDecimal) hisR ?_
  intro p e s m args below meth c s₁ Bd hml0 hP hK
  obtain ⟨rfl, hZ, hh⟩ := hP
  have hx := Bd.exec
  have hby := Bd.bytes
  have hml : c.maxLocals = 12 := hml0
  have hown : s.vm.findClass "java/math/BigDecimal" = some m.cls := findClass_of_methodNamed Bd.named
  have hnm := (name_of_methodNamed Bd.named Bd.method).1
  have X0 : Stand p l e ({ frames := 6, cells := 1, slots := 5, locals := 140 } : Room) s m #[(.long x0), (.int s2), (.long x1), (.int s2)] below meth c s₁ [] 0 0 := Stand.of_body Bd
  have e0 : s₁.heap = h0 := by rw [← hh, Bd.state]; rfl
  have N0 := Fr.nil n0
  have hlk : meth.locks = false := Bd.notSynchronized
  obtain ⟨P, hP⟩ : ∃ P : Outcome → State → Prop, P = PQ s (Q_addJIJI Z x0 x1 s2 aZ aT clT aS clS h0 n0) ({ frames := 6, cells := 1, slots := 5, locals := 140 } : Room).cells ({ frames := 6, cells := 1, slots := 5, locals := 140 } : Room).slots := ⟨_, rfl⟩
  have fin : ∀ {T : State} {locs : List Loc} {k n : Nat} {v : Option Value} {S0 : State}, Stand p l e ({ frames := 6, cells := 1, slots := 5, locals := 140 } : Room) s m #[(.long x0), (.int s2), (.long x1), (.int s2)] below meth c T locs k n → (meth.sig.returnType = none → v = none) → k ≤ ({ frames := 6, cells := 1, slots := 5, locals := 140 } : Room).cells → n ≤ ({ frames := 6, cells := 1, slots := 5, locals := 140 } : Room).slots → Q_addJIJI Z x0 x1 s2 aZ aT clT aS clS h0 n0 v T.heap locs → (∀ fs, (∀ (f : JFrame) (acts : List Action), f.method = m → f.locked = none → f.entered = [] → (doReturn e (T.setTop f) acts v).1 = T.setFrames fs) → Steps p.tables e below S0 (T.setFrames fs)) → Go p e below P S0 := fun X hv hk hn hQ hst => hP ▸ Go.fin X hlk hv hk hn hQ hst
  suffices hgo : Go p e below P (s₁.setTop (mkF m 0 #[.val (.long x0), .second, .val (.int s2), .val (.long x1), .second, .val (.int s2), .unset, .unset, .unset, .unset, .unset, .unset] [])) by
    rw [hP] at hgo
    exact Go.by (fun t k => castTop (ef_addJIJI m x0 x1 s2 aZ aT clT aS clS) k) hgo
  show Go p e below P (s₁.setTop (mkF m 0 #[.val (.long x0), .second, .val (.int s2), .val (.long x1), .second, .val (.int s2), .unset, .unset, .unset, .unset, .unset, .unset] []))
  refine Go.by (fun _ => XS.iloadN X0.here hx rfl (hb hby d_jdk_17_method_134_code_0) rfl) ?_
  show Go p e below P (s₁.setTop (mkF m 1 #[.val (.long x0), .second, .val (.int s2), .val (.long x1), .second, .val (.int s2), .unset, .unset, .unset, .unset, .unset, .unset] [(.int s2)]))
  refine Go.by (fun _ => XS.i2l X0.here hx rfl (hb hby d_jdk_17_method_134_code_1) rfl) ?_
  show Go p e below P (s₁.setTop (mkF m 2 #[.val (.long x0), .second, .val (.int s2), .val (.long x1), .second, .val (.int s2), .unset, .unset, .unset, .unset, .unset, .unset] [(.long (s2.toInt64))]))
  refine Go.by (fun _ => XS.iload X0.here hx rfl (hb hby d_jdk_17_method_134_code_2) rfl) ?_
  show Go p e below P (s₁.setTop (mkF m 4 #[.val (.long x0), .second, .val (.int s2), .val (.long x1), .second, .val (.int s2), .unset, .unset, .unset, .unset, .unset, .unset] [(.int s2), (.long (s2.toInt64))]))
  refine Go.by (fun _ => XS.i2l X0.here hx rfl (hb hby d_jdk_17_method_134_code_4) rfl) ?_
  show Go p e below P (s₁.setTop (mkF m 5 #[.val (.long x0), .second, .val (.int s2), .val (.long x1), .second, .val (.int s2), .unset, .unset, .unset, .unset, .unset, .unset] [(.long (s2.toInt64)), (.long (s2.toInt64))]))
  refine Go.by (fun _ => XS.lsub X0.here hx rfl (hb hby d_jdk_17_method_134_code_5) rfl) ?_
  show Go p e below P (s₁.setTop (mkF m 6 #[.val (.long x0), .second, .val (.int s2), .val (.long x1), .second, .val (.int s2), .unset, .unset, .unset, .unset, .unset, .unset] [(.long ((s2.toInt64) - (s2.toInt64)))]))
  refine Go.by (fun _ => XS.lstore X0.here hx rfl (hb hby d_jdk_17_method_134_code_6) rfl (l' := #[.val (.long x0), .second, .val (.int s2), .val (.long x1), .second, .val (.int s2), .val (.long ((s2.toInt64) - (s2.toInt64))), .second, .unset, .unset, .unset, .unset]) rfl) ?_
  show Go p e below P (s₁.setTop (mkF m 8 #[.val (.long x0), .second, .val (.int s2), .val (.long x1), .second, .val (.int s2), .val (.long ((s2.toInt64) - (s2.toInt64))), .second, .unset, .unset, .unset, .unset] []))
  refine Go.by (fun _ => XS.lload X0.here hx rfl (hb hby d_jdk_17_method_134_code_8) rfl) ?_
  show Go p e below P (s₁.setTop (mkF m 10 #[.val (.long x0), .second, .val (.int s2), .val (.long x1), .second, .val (.int s2), .val (.long ((s2.toInt64) - (s2.toInt64))), .second, .unset, .unset, .unset, .unset] [(.long ((s2.toInt64) - (s2.toInt64)))]))
  refine Go.by (fun _ => XS.lconst X0.here hx rfl (hb hby d_jdk_17_method_134_code_10)) ?_
  show Go p e below P (s₁.setTop (mkF m 11 #[.val (.long x0), .second, .val (.int s2), .val (.long x1), .second, .val (.int s2), .val (.long ((s2.toInt64) - (s2.toInt64))), .second, .unset, .unset, .unset, .unset] [(.long (0 : Int64)), (.long ((s2.toInt64) - (s2.toInt64)))]))
  refine Go.by (fun _ => XS.lcmp X0.here hx rfl (hb hby d_jdk_17_method_134_code_11) rfl) ?_
  show Go p e below P (s₁.setTop (mkF m 12 #[.val (.long x0), .second, .val (.int s2), .val (.long x1), .second, .val (.int s2), .val (.long ((s2.toInt64) - (s2.toInt64))), .second, .unset, .unset, .unset, .unset] [(.int (lcmpW ((s2.toInt64) - (s2.toInt64)) (0 : Int64)))]))
  refine Go.by (fun _ => XS.ifNo X0.here hx rfl (hb hby d_jdk_17_method_134_code_12) rfl (XT.ll_ne_f (Int64.sub_self _))) ?_
  show Go p e below P (s₁.setTop (mkF m 15 #[.val (.long x0), .second, .val (.int s2), .val (.long x1), .second, .val (.int s2), .val (.long ((s2.toInt64) - (s2.toInt64))), .second, .unset, .unset, .unset, .unset] []))
  refine Go.by (fun _ => XS.lloadN X0.here hx rfl (hb hby d_jdk_17_method_134_code_15) rfl) ?_
  show Go p e below P (s₁.setTop (mkF m 16 #[.val (.long x0), .second, .val (.int s2), .val (.long x1), .second, .val (.int s2), .val (.long ((s2.toInt64) - (s2.toInt64))), .second, .unset, .unset, .unset, .unset] [(.long x0)]))
  refine Go.by (fun _ => XS.lloadN X0.here hx rfl (hb hby d_jdk_17_method_134_code_16) rfl) ?_
  show Go p e below P (s₁.setTop (mkF m 17 #[.val (.long x0), .second, .val (.int s2), .val (.long x1), .second, .val (.int s2), .val (.long ((s2.toInt64) - (s2.toInt64))), .second, .unset, .unset, .unset, .unset] [(.long x1), (.long x0)]))
  refine Go.by (fun _ => XS.iloadN X0.here hx rfl (hb hby d_jdk_17_method_134_code_17) rfl) ?_
  show Go p e below P (s₁.setTop (mkF m 18 #[.val (.long x0), .second, .val (.int s2), .val (.long x1), .second, .val (.int s2), .val (.long ((s2.toInt64) - (s2.toInt64))), .second, .unset, .unset, .unset, .unset] [(.int s2), (.long x1), (.long x0)]))
  obtain ⟨_, _, ⟨T1, L1, k1, n1⟩, -, X1, ⟨Lc1, hQ1, l1, y1, z1⟩, st1⟩ := Jvm.LawKit.callS X0 hx (y := (⟨"java/math/BigDecimal", "add", "(JJI)Ljava/math/BigDecimal;"⟩ : MethodName)) hown (mvT hZ (tw_99 hw)) (mvT hZ (tw_100 hw)) (mvT hZ (tw_3 hw)) (mvT hZ (tw_101 hw)) (by decide) (backOf (W := 0) (rm_addJJI l Z a0 hw [] x0 x1 s2 aZ aT clT aS clS h0 n0 Z0 O0 SZ BZ ST BT SS BS hov hmin hs0 hs1) hZ (tw_101 hw) (tw_3 hw) (by decide) (by decide)) (g := (mkF m 18 #[.val (.long x0), .second, .val (.int s2), .val (.long x1), .second, .val (.int s2), .val (.long ((s2.toInt64) - (s2.toInt64))), .second, .unset, .unset, .unset, .unset] [(.int s2), (.long x1), (.long x0)])) rfl (by rw [hml]; rfl) (argsL := [(.long x0), (.long x1), (.int s2)]) (rest := []) (lenOf pd__JJI_Ljava_math_BigDecimal_ rfl) rfl (by show 2 * 0 + _ ≤ _; exact Nat.le_of_eq rfl) (hb hby d_jdk_17_method_134_code_18) (fun _ _ => ⟨rfl, e0, (by decide : 0 + 1 ≤ _), (by decide : 0 + 5 ≤ _)⟩)
  dsimp only [Pt.U, Pt.locs, Pt.cells, Pt.slots] at X1 l1 y1 z1 st1 hQ1
  subst l1 y1 z1
  obtain ⟨b1, rfl, N1q, K1, B1⟩ := hQ1
  have N1 := Fr.app N0 N1q
  refine Go.by (fun t k => st1 t k) ?_
  have f1_0 : n0 ≤ T1.heap.size := (Nat.le_trans Z0 K1.1)
  have f1_1 : Keep h0 T1.heap [] := (Keep.trans (Keep.refl h0 []) K1 all0)
  have f1_2 : Old Z n0 T1.heap := (Old.keep O0 K1 all0)
  show Go p e below P (T1.setTop (mkF m 21 #[.val (.long x0), .second, .val (.int s2), .val (.long x1), .second, .val (.int s2), .val (.long ((s2.toInt64) - (s2.toInt64))), .second, .unset, .unset, .unset, .unset] [(.ref b1)]))
  refine fin X1 (v := some (.ref b1)) (fun h => by rw [Bd.returns] at h; cases h) (by decide) (by decide) ?_ (fun fs hr => retOut X1 hx Bd.returns rfl (Or.inr (Or.inr (Or.inr (Or.inr ⟨rfl, rfl, rfl⟩)))) (hb hby d_jdk_17_method_134_code_21) hr)
  show Q_addJIJI Z x0 x1 s2 aZ aT clT aS clS h0 n0 _ T1.heap _
  exact ⟨b1, rfl, N1, f1_1, B1⟩
def Q_subtract (Z : State) (a0_ : Addr) (a1_ : Addr) (x0 : Int64) (x1 : Int64) (s2 : Int32) (aZ : Addr) (aT : Addr) (clT : Cell) (aS : Addr) (clS : Cell) (h0 : Heap) (n0 : Nat) (v : Option Value) (h : Heap) (L : List Loc) : Prop := ∃ b, v = some (.ref b) ∧ Fr n0 L ∧ Keep h0 h [] ∧ BD Z h b (x0 + (-x1)) s2
theorem ef_subtract (m : MethodId) (a0_ : Addr) (a1_ : Addr) (x0 : Int64) (x1 : Int64) (s2 : Int32) (aZ : Addr) (aT : Addr) (clT : Cell) (aS : Addr) (clS : Cell) : entryFrame m #[(.ref a0_), (.ref a1_)] 2 = mkF m 0 #[.val (.ref a0_), .val (.ref a1_)] [] := by first | (simp [entryFrame, mkF, argsToLocals, Value.category]; done) | rfl
set_option maxRecDepth 65536 in
set_option maxHeartbeats 40000000 in
theorem rm_subtract (l : Launch) (Z : State) (a0 : Array Value) (hw : ∀ d ∈ tables_1, d.before a0 Z = true) (ws : List Jvm.Cond) (a0_ : Addr) (a1_ : Addr) (x0 : Int64) (x1 : Int64) (s2 : Int32) (aZ : Addr) (aT : Addr) (clT : Cell) (aS : Addr) (clS : Cell) (h0 : Heap) (n0 : Nat) (Z0 : n0 ≤ h0.size) (O0 : Old Z n0 h0) (SZ : Sta Z Z.heap "java/math/BigDecimal" "ZERO" "Ljava/math/BigDecimal;" (.ref aZ)) (BZ : BD Z Z.heap aZ (0 : Int64) (0 : Int32)) (ST : Sta Z Z.heap "java/math/BigDecimal" "ZERO_THROUGH_TEN" "[Ljava/math/BigDecimal;" (.ref aT)) (BT : BDs Z aT clT 11 (fun i => Int64.ofNat i) (fun _ => 0)) (SS : Sta Z Z.heap "java/math/BigDecimal" "ZERO_SCALED_BY" "[Ljava/math/BigDecimal;" (.ref aS)) (BS : BDs Z aS clS 16 (fun _ => 0) (fun i => Int32.ofNat i)) (B0 : BD Z h0 a0_ x0 s2) (B1 : BD Z h0 a1_ x1 s2) (hm0 : ¬ x0 = (-9223372036854775808 : Int64)) (hm1 : ¬ x1 = (-9223372036854775808 : Int64)) (hov : ¬ (((x0 + (-x1)) ^^^ x0) &&& ((x0 + (-x1)) ^^^ (-x1))) < (0 : Int64)) (hmin : ¬ (x0 + (-x1)) = (-9223372036854775808 : Int64)) (hs0 : ¬ s2 < 0) (hs1 : s2 < 16) :
    MetFree l (⟨"java/math/BigDecimal", "subtract", "(Ljava/math/BigDecimal;)Ljava/math/BigDecimal;"⟩ : MethodName) (head1 (Jvm.Cond.code (⟨"java/math/BigDecimal", "subtract", "(Ljava/math/BigDecimal;)Ljava/math/BigDecimal;"⟩ : MethodName) jdk_17_method_29_code 2 (some (.object "java/math/BigDecimal")) :: ws) ({ frames := 7, cells := 1, slots := 5, locals := 180 } : Room)) (fun a U => a = #[(.ref a0_), (.ref a1_)] ∧ Z.Warmed39 U.vm ∧ U.heap = h0) (fun _ _ _ _ _ => True) (fun _ U o U' => ∃ v L, o = .returned v ∧ Q_subtract Z a0_ a1_ x0 x1 s2 aZ aT clT aS clS h0 n0 v U'.heap L ∧ FrameEnd U o U' L ({ frames := 7, cells := 1, slots := 5, locals := 180 } : Room).cells ({ frames := 7, cells := 1, slots := 5, locals := 180 } : Room).slots) := by
  refine MetFree.of_bodySF (plainFor_of_name pn_java_math_BigDecimal) hisR ?_
  intro p e s m args below meth c s₁ Bd hml0 hP hK
  obtain ⟨rfl, hZ, hh⟩ := hP
  have hx := Bd.exec
  have hby := Bd.bytes
  have hml : c.maxLocals = 2 := hml0
  have hown : s.vm.findClass "java/math/BigDecimal" = some m.cls := findClass_of_methodNamed Bd.named
  have hnm := (name_of_methodNamed Bd.named Bd.method).1
  have X0 : Stand p l e ({ frames := 7, cells := 1, slots := 5, locals := 180 } : Room) s m #[(.ref a0_), (.ref a1_)] below meth c s₁ [] 0 0 := Stand.of_body Bd
  have e0 : s₁.heap = h0 := by rw [← hh, Bd.state]; rfl
  have N0 := Fr.nil n0
  have hlk : meth.locks = false := Bd.notSynchronized
  obtain ⟨P, hP⟩ : ∃ P : Outcome → State → Prop, P = PQ s (Q_subtract Z a0_ a1_ x0 x1 s2 aZ aT clT aS clS h0 n0) ({ frames := 7, cells := 1, slots := 5, locals := 180 } : Room).cells ({ frames := 7, cells := 1, slots := 5, locals := 180 } : Room).slots := ⟨_, rfl⟩
  have fin : ∀ {T : State} {locs : List Loc} {k n : Nat} {v : Option Value} {S0 : State}, Stand p l e ({ frames := 7, cells := 1, slots := 5, locals := 180 } : Room) s m #[(.ref a0_), (.ref a1_)] below meth c T locs k n → (meth.sig.returnType = none → v = none) → k ≤ ({ frames := 7, cells := 1, slots := 5, locals := 180 } : Room).cells → n ≤ ({ frames := 7, cells := 1, slots := 5, locals := 180 } : Room).slots → Q_subtract Z a0_ a1_ x0 x1 s2 aZ aT clT aS clS h0 n0 v T.heap locs → (∀ fs, (∀ (f : JFrame) (acts : List Action), f.method = m → f.locked = none → f.entered = [] → (doReturn e (T.setTop f) acts v).1 = T.setFrames fs) → Steps p.tables e below S0 (T.setFrames fs)) → Go p e below P S0 := fun X hv hk hn hQ hst => hP ▸ Go.fin X hlk hv hk hn hQ hst
  suffices hgo : Go p e below P (s₁.setTop (mkF m 0 #[.val (.ref a0_), .val (.ref a1_)] [])) by
    rw [hP] at hgo
    exact Go.by (fun t k => castTop (ef_subtract m a0_ a1_ x0 x1 s2 aZ aT clT aS clS) k) hgo
  show Go p e below P (s₁.setTop (mkF m 0 #[.val (.ref a0_), .val (.ref a1_)] []))
  refine Go.by (fun _ => XS.aloadN X0.here hx rfl (hb hby d_jdk_17_method_29_code_0) rfl rfl) ?_
  show Go p e below P (s₁.setTop (mkF m 1 #[.val (.ref a0_), .val (.ref a1_)] [(.ref a0_)]))
  obtain ⟨T1, X1, e1, st1⟩ := getF X0 hx hZ hown (host := "") (Or.inl (tw_25 hw)) Via.refl e0 B0.2.1 (g := (mkF m 1 #[.val (.ref a0_), .val (.ref a1_)] [(.ref a0_)])) rfl rfl (hb hby d_jdk_17_method_29_code_1)
  refine Go.by st1 ?_
  show Go p e below P (T1.setTop (mkF m 4 #[.val (.ref a0_), .val (.ref a1_)] [(.long x0)]))
  refine Go.by (fun _ => Jvm.Stand.ldc2J X1 hx hown (mvT hZ (tw_7 hw)) rfl (hb hby d_jdk_17_method_29_code_4)) ?_
  show Go p e below P (T1.setTop (mkF m 7 #[.val (.ref a0_), .val (.ref a1_)] [(.long (-9223372036854775808 : Int64)), (.long x0)]))
  refine Go.by (fun _ => XS.lcmp X1.here hx rfl (hb hby d_jdk_17_method_29_code_7) rfl) ?_
  show Go p e below P (T1.setTop (mkF m 8 #[.val (.ref a0_), .val (.ref a1_)] [(.int (lcmpW x0 (-9223372036854775808 : Int64)))]))
  refine Go.by (fun _ => XS.ifNo X1.here hx rfl (hb hby d_jdk_17_method_29_code_8) rfl (XT.ll_eq_f hm0)) ?_
  show Go p e below P (T1.setTop (mkF m 11 #[.val (.ref a0_), .val (.ref a1_)] []))
  refine Go.by (fun _ => XS.aloadN X1.here hx rfl (hb hby d_jdk_17_method_29_code_11) rfl rfl) ?_
  show Go p e below P (T1.setTop (mkF m 12 #[.val (.ref a0_), .val (.ref a1_)] [(.ref a1_)]))
  obtain ⟨T2, X2, e2, st2⟩ := getF X1 hx hZ hown (host := "") (Or.inl (tw_25 hw)) Via.refl e1 B1.2.1 (g := (mkF m 12 #[.val (.ref a0_), .val (.ref a1_)] [(.ref a1_)])) rfl rfl (hb hby d_jdk_17_method_29_code_12)
  refine Go.by st2 ?_
  show Go p e below P (T2.setTop (mkF m 15 #[.val (.ref a0_), .val (.ref a1_)] [(.long x1)]))
  refine Go.by (fun _ => Jvm.Stand.ldc2J X2 hx hown (mvT hZ (tw_7 hw)) rfl (hb hby d_jdk_17_method_29_code_15)) ?_
  show Go p e below P (T2.setTop (mkF m 18 #[.val (.ref a0_), .val (.ref a1_)] [(.long (-9223372036854775808 : Int64)), (.long x1)]))
  refine Go.by (fun _ => XS.lcmp X2.here hx rfl (hb hby d_jdk_17_method_29_code_18) rfl) ?_
  show Go p e below P (T2.setTop (mkF m 19 #[.val (.ref a0_), .val (.ref a1_)] [(.int (lcmpW x1 (-9223372036854775808 : Int64)))]))
  refine Go.by (fun _ => XS.ifNo X2.here hx rfl (hb hby d_jdk_17_method_29_code_19) rfl (XT.ll_eq_f hm1)) ?_
  show Go p e below P (T2.setTop (mkF m 22 #[.val (.ref a0_), .val (.ref a1_)] []))
  refine Go.by (fun _ => XS.aloadN X2.here hx rfl (hb hby d_jdk_17_method_29_code_22) rfl rfl) ?_
  show Go p e below P (T2.setTop (mkF m 23 #[.val (.ref a0_), .val (.ref a1_)] [(.ref a0_)]))
  obtain ⟨T3, X3, e3, st3⟩ := getF X2 hx hZ hown (host := "") (Or.inl (tw_25 hw)) Via.refl e2 B0.2.1 (g := (mkF m 23 #[.val (.ref a0_), .val (.ref a1_)] [(.ref a0_)])) rfl rfl (hb hby d_jdk_17_method_29_code_23)
  refine Go.by st3 ?_
  show Go p e below P (T3.setTop (mkF m 26 #[.val (.ref a0_), .val (.ref a1_)] [(.long x0)]))
  refine Go.by (fun _ => XS.aloadN X3.here hx rfl (hb hby d_jdk_17_method_29_code_26) rfl rfl) ?_
  show Go p e below P (T3.setTop (mkF m 27 #[.val (.ref a0_), .val (.ref a1_)] [(.ref a0_), (.long x0)]))
  obtain ⟨T4, X4, e4, st4⟩ := getF X3 hx hZ hown (host := "") (Or.inl (tw_21 hw)) Via.refl e3 B0.2.2 (g := (mkF m 27 #[.val (.ref a0_), .val (.ref a1_)] [(.ref a0_), (.long x0)])) rfl rfl (hb hby d_jdk_17_method_29_code_27)
  refine Go.by st4 ?_
  show Go p e below P (T4.setTop (mkF m 30 #[.val (.ref a0_), .val (.ref a1_)] [(.int s2), (.long x0)]))
  refine Go.by (fun _ => XS.aloadN X4.here hx rfl (hb hby d_jdk_17_method_29_code_30) rfl rfl) ?_
  show Go p e below P (T4.setTop (mkF m 31 #[.val (.ref a0_), .val (.ref a1_)] [(.ref a1_), (.int s2), (.long x0)]))
  obtain ⟨T5, X5, e5, st5⟩ := getF X4 hx hZ hown (host := "") (Or.inl (tw_25 hw)) Via.refl e4 B1.2.1 (g := (mkF m 31 #[.val (.ref a0_), .val (.ref a1_)] [(.ref a1_), (.int s2), (.long x0)])) rfl rfl (hb hby d_jdk_17_method_29_code_31)
  refine Go.by st5 ?_
  show Go p e below P (T5.setTop (mkF m 34 #[.val (.ref a0_), .val (.ref a1_)] [(.long x1), (.int s2), (.long x0)]))
  refine Go.by (fun _ => XS.lneg X5.here hx rfl (hb hby d_jdk_17_method_29_code_34) rfl) ?_
  show Go p e below P (T5.setTop (mkF m 35 #[.val (.ref a0_), .val (.ref a1_)] [(.long (-x1)), (.int s2), (.long x0)]))
  refine Go.by (fun _ => XS.aloadN X5.here hx rfl (hb hby d_jdk_17_method_29_code_35) rfl rfl) ?_
  show Go p e below P (T5.setTop (mkF m 36 #[.val (.ref a0_), .val (.ref a1_)] [(.ref a1_), (.long (-x1)), (.int s2), (.long x0)]))
  obtain ⟨T6, X6, e6, st6⟩ := getF X5 hx hZ hown (host := "") (Or.inl (tw_21 hw)) Via.refl e5 B1.2.2 (g := (mkF m 36 #[.val (.ref a0_), .val (.ref a1_)] [(.ref a1_), (.long (-x1)), (.int s2), (.long x0)])) rfl rfl (hb hby d_jdk_17_method_29_code_36)
  refine Go.by st6 ?_
  show Go p e below P (T6.setTop (mkF m 39 #[.val (.ref a0_), .val (.ref a1_)] [(.int s2), (.long (-x1)), (.int s2), (.long x0)]))
  obtain ⟨_, _, ⟨T7, L7, k7, n7⟩, -, X7, ⟨Lc7, hQ7, l7, y7, z7⟩, st7⟩ := Jvm.LawKit.callS X6 hx (y := (⟨"java/math/BigDecimal", "add", "(JIJI)Ljava/math/BigDecimal;"⟩ : MethodName)) hown (mvT hZ (tw_96 hw)) (mvT hZ (tw_97 hw)) (mvT hZ (tw_3 hw)) (mvT hZ (tw_98 hw)) (by decide) (backOf (W := 0) (rm_addJIJI l Z a0 hw [] x0 (-x1) s2 aZ aT clT aS clS h0 n0 Z0 O0 SZ BZ ST BT SS BS hov hmin hs0 hs1) hZ (tw_98 hw) (tw_3 hw) (by decide) (by decide)) (g := (mkF m 39 #[.val (.ref a0_), .val (.ref a1_)] [(.int s2), (.long (-x1)), (.int s2), (.long x0)])) rfl (by rw [hml]; rfl) (argsL := [(.long x0), (.int s2), (.long (-x1)), (.int s2)]) (rest := []) (lenOf pd__JIJI_Ljava_math_BigDecimal_ rfl) rfl (by show 2 * 0 + _ ≤ _; exact Nat.le_of_eq rfl) (hb hby d_jdk_17_method_29_code_39) (fun _ _ => ⟨rfl, e6, (by decide : 0 + 1 ≤ _), (by decide : 0 + 5 ≤ _)⟩)
  dsimp only [Pt.U, Pt.locs, Pt.cells, Pt.slots] at X7 l7 y7 z7 st7 hQ7
  subst l7 y7 z7
  obtain ⟨b7, rfl, N7q, K7, B7⟩ := hQ7
  have N7 := Fr.app N0 N7q
  refine Go.by (fun t k => st7 t k) ?_
  have f7_0 : n0 ≤ T7.heap.size := (Nat.le_trans Z0 K7.1)
  have f7_1 : Keep h0 T7.heap [] := (Keep.trans (Keep.refl h0 []) K7 all0)
  have f7_2 : Old Z n0 T7.heap := (Old.keep O0 K7 all0)
  have f7_3 : Exa Z T7.heap a0_ "java/math/BigDecimal" := (Exa.keep B0.1 K7)
  have f7_4 : Fld Z T7.heap a0_ "java/math/BigDecimal" "intCompact" "J" (.long x0) := (Fld.keep B0.2.1 K7 nin0)
  have f7_5 : Fld Z T7.heap a0_ "java/math/BigDecimal" "scale" "I" (.int s2) := (Fld.keep B0.2.2 K7 nin0)
  have f7_6 : Exa Z T7.heap a1_ "java/math/BigDecimal" := (Exa.keep B1.1 K7)
  have f7_7 : Fld Z T7.heap a1_ "java/math/BigDecimal" "intCompact" "J" (.long x1) := (Fld.keep B1.2.1 K7 nin0)
  have f7_8 : Fld Z T7.heap a1_ "java/math/BigDecimal" "scale" "I" (.int s2) := (Fld.keep B1.2.2 K7 nin0)
  show Go p e below P (T7.setTop (mkF m 42 #[.val (.ref a0_), .val (.ref a1_)] [(.ref b7)]))
  refine fin X7 (v := some (.ref b7)) (fun h => by rw [Bd.returns] at h; cases h) (by decide) (by decide) ?_ (fun fs hr => retOut X7 hx Bd.returns rfl (Or.inr (Or.inr (Or.inr (Or.inr ⟨rfl, rfl, rfl⟩)))) (hb hby d_jdk_17_method_29_code_42) hr)
  show Q_subtract Z a0_ a1_ x0 x1 s2 aZ aT clT aS clS h0 n0 _ T7.heap _
  exact ⟨b7, rfl, N7, f7_1, B7⟩
def Q_spread (Z : State) (a0_ : Addr) (aa : Addr) (ab : Addr) (x0 : Int64) (x1 : Int64) (s2 : Int32) (aZ : Addr) (aT : Addr) (clT : Cell) (aS : Addr) (clS : Cell) (h0 : Heap) (n0 : Nat) (v : Option Value) (h : Heap) (L : List Loc) : Prop := ∃ b, v = some (.ref b) ∧ Fr n0 L ∧ Keep h0 h [] ∧ BD Z h b (x0 + (-x1)) s2
theorem ef_spread (m : MethodId) (a0_ : Addr) (aa : Addr) (ab : Addr) (x0 : Int64) (x1 : Int64) (s2 : Int32) (aZ : Addr) (aT : Addr) (clT : Cell) (aS : Addr) (clS : Cell) : entryFrame m #[(.ref a0_)] 1 = mkF m 0 #[.val (.ref a0_)] [] := by first | (simp [entryFrame, mkF, argsToLocals, Value.category]; done) | rfl
set_option maxRecDepth 65536 in
set_option maxHeartbeats 40000000 in
theorem rm_spread (l : Launch) (Z : State) (a0 : Array Value) (hw : ∀ d ∈ tables_1, d.before a0 Z = true) (ws : List Jvm.Cond) (a0_ : Addr) (aa : Addr) (ab : Addr) (x0 : Int64) (x1 : Int64) (s2 : Int32) (aZ : Addr) (aT : Addr) (clT : Cell) (aS : Addr) (clS : Cell) (h0 : Heap) (n0 : Nat) (Z0 : n0 ≤ h0.size) (O0 : Old Z n0 h0) (SZ : Sta Z Z.heap "java/math/BigDecimal" "ZERO" "Ljava/math/BigDecimal;" (.ref aZ)) (BZ : BD Z Z.heap aZ (0 : Int64) (0 : Int32)) (ST : Sta Z Z.heap "java/math/BigDecimal" "ZERO_THROUGH_TEN" "[Ljava/math/BigDecimal;" (.ref aT)) (BT : BDs Z aT clT 11 (fun i => Int64.ofNat i) (fun _ => 0)) (SS : Sta Z Z.heap "java/math/BigDecimal" "ZERO_SCALED_BY" "[Ljava/math/BigDecimal;" (.ref aS)) (BS : BDs Z aS clS 16 (fun _ => 0) (fun i => Int32.ofNat i)) (Fa : Fld Z h0 a0_ "com/example/frontmonth/frontmonth/BidAsk" "ask" "Ljava/math/BigDecimal;" (.ref aa)) (Fb : Fld Z h0 a0_ "com/example/frontmonth/frontmonth/BidAsk" "bid" "Ljava/math/BigDecimal;" (.ref ab)) (B0 : BD Z h0 aa x0 s2) (B1 : BD Z h0 ab x1 s2) (hm0 : ¬ x0 = (-9223372036854775808 : Int64)) (hm1 : ¬ x1 = (-9223372036854775808 : Int64)) (hov : ¬ (((x0 + (-x1)) ^^^ x0) &&& ((x0 + (-x1)) ^^^ (-x1))) < (0 : Int64)) (hmin : ¬ (x0 + (-x1)) = (-9223372036854775808 : Int64)) (hs0 : ¬ s2 < 0) (hs1 : s2 < 16) :
    MetFree l (⟨"com/example/frontmonth/frontmonth/BidAsk", "spread", "()Ljava/math/BigDecimal;"⟩ : MethodName) (head1 (Jvm.Cond.code (⟨"com/example/frontmonth/frontmonth/BidAsk", "spread", "()Ljava/math/BigDecimal;"⟩ : MethodName) prog_4_method_4_code 1 (some (.object "java/math/BigDecimal")) :: ws) ({ frames := 8, cells := 1, slots := 5, locals := 200 } : Room)) (fun a U => a = #[(.ref a0_)] ∧ Z.Warmed39 U.vm ∧ U.heap = h0) (fun _ _ _ _ _ => True) (fun _ U o U' => ∃ v L, o = .returned v ∧ Q_spread Z a0_ aa ab x0 x1 s2 aZ aT clT aS clS h0 n0 v U'.heap L ∧ FrameEnd U o U' L ({ frames := 8, cells := 1, slots := 5, locals := 200 } : Room).cells ({ frames := 8, cells := 1, slots := 5, locals := 200 } : Room).slots) := by
  refine MetFree.of_bodySF (plainFor_of_name pn_com_example_frontmonth_frontmonth_BidAsk) hisR ?_
  intro p e s m args below meth c s₁ Bd hml0 hP hK
  obtain ⟨rfl, hZ, hh⟩ := hP
  have hx := Bd.exec
  have hby := Bd.bytes
  have hml : c.maxLocals = 1 := hml0
  have hown : s.vm.findClass "com/example/frontmonth/frontmonth/BidAsk" = some m.cls := findClass_of_methodNamed Bd.named
  have hnm := (name_of_methodNamed Bd.named Bd.method).1
  have X0 : Stand p l e ({ frames := 8, cells := 1, slots := 5, locals := 200 } : Room) s m #[(.ref a0_)] below meth c s₁ [] 0 0 := Stand.of_body Bd
  have e0 : s₁.heap = h0 := by rw [← hh, Bd.state]; rfl
  have N0 := Fr.nil n0
  have hlk : meth.locks = false := Bd.notSynchronized
  obtain ⟨P, hP⟩ : ∃ P : Outcome → State → Prop, P = PQ s (Q_spread Z a0_ aa ab x0 x1 s2 aZ aT clT aS clS h0 n0) ({ frames := 8, cells := 1, slots := 5, locals := 200 } : Room).cells ({ frames := 8, cells := 1, slots := 5, locals := 200 } : Room).slots := ⟨_, rfl⟩
  have fin : ∀ {T : State} {locs : List Loc} {k n : Nat} {v : Option Value} {S0 : State}, Stand p l e ({ frames := 8, cells := 1, slots := 5, locals := 200 } : Room) s m #[(.ref a0_)] below meth c T locs k n → (meth.sig.returnType = none → v = none) → k ≤ ({ frames := 8, cells := 1, slots := 5, locals := 200 } : Room).cells → n ≤ ({ frames := 8, cells := 1, slots := 5, locals := 200 } : Room).slots → Q_spread Z a0_ aa ab x0 x1 s2 aZ aT clT aS clS h0 n0 v T.heap locs → (∀ fs, (∀ (f : JFrame) (acts : List Action), f.method = m → f.locked = none → f.entered = [] → (doReturn e (T.setTop f) acts v).1 = T.setFrames fs) → Steps p.tables e below S0 (T.setFrames fs)) → Go p e below P S0 := fun X hv hk hn hQ hst => hP ▸ Go.fin X hlk hv hk hn hQ hst
  suffices hgo : Go p e below P (s₁.setTop (mkF m 0 #[.val (.ref a0_)] [])) by
    rw [hP] at hgo
    exact Go.by (fun t k => castTop (ef_spread m a0_ aa ab x0 x1 s2 aZ aT clT aS clS) k) hgo
  show Go p e below P (s₁.setTop (mkF m 0 #[.val (.ref a0_)] []))
  refine Go.by (fun _ => XS.aloadN X0.here hx rfl (hb hby d_prog_4_method_4_code_0) rfl rfl) ?_
  show Go p e below P (s₁.setTop (mkF m 1 #[.val (.ref a0_)] [(.ref a0_)]))
  obtain ⟨T1, X1, e1, st1⟩ := getF X0 hx hZ hown (host := "") (Or.inl (tw_41 hw)) Via.refl e0 Fa (g := (mkF m 1 #[.val (.ref a0_)] [(.ref a0_)])) rfl rfl (hb hby d_prog_4_method_4_code_1)
  refine Go.by st1 ?_
  show Go p e below P (T1.setTop (mkF m 4 #[.val (.ref a0_)] [(.ref aa)]))
  refine Go.by (fun _ => XS.aloadN X1.here hx rfl (hb hby d_prog_4_method_4_code_4) rfl rfl) ?_
  show Go p e below P (T1.setTop (mkF m 5 #[.val (.ref a0_)] [(.ref a0_), (.ref aa)]))
  obtain ⟨T2, X2, e2, st2⟩ := getF X1 hx hZ hown (host := "") (Or.inl (tw_39 hw)) Via.refl e1 Fb (g := (mkF m 5 #[.val (.ref a0_)] [(.ref a0_), (.ref aa)])) rfl rfl (hb hby d_prog_4_method_4_code_5)
  refine Go.by st2 ?_
  show Go p e below P (T2.setTop (mkF m 8 #[.val (.ref a0_)] [(.ref ab), (.ref aa)]))
  obtain ⟨cq3, kq3, q3a, q3b, q3c⟩ := isOf hZ e2 B0.1
  obtain ⟨_, _, ⟨T3, L3, k3, n3⟩, -, X3, ⟨Lc3, hQ3, l3, y3, z3⟩, st3⟩ := X2.virtualBack hx (y := (⟨"java/math/BigDecimal", "subtract", "(Ljava/math/BigDecimal;)Ljava/math/BigDecimal;"⟩ : MethodName)) (z := (⟨"java/math/BigDecimal", "subtract", "(Ljava/math/BigDecimal;)Ljava/math/BigDecimal;"⟩ : MethodName)) hown (mvT hZ (tw_91 hw)) (mvT hZ (tw_92 hw)) (notFace_of_selects (args := #[]) (mvT hZ (tw_94 hw))) (mvT hZ (tw_94 hw)) (mvT hZ (tw_93 hw)) (by decide) (backOf (W := 0) (rm_subtract l Z a0 hw [] aa ab x0 x1 s2 aZ aT clT aS clS h0 n0 Z0 O0 SZ BZ ST BT SS BS B0 B1 hm0 hm1 hov hmin hs0 hs1) hZ (tw_95 hw) (tw_3 hw) (by decide) (by decide)) q3a q3c (g := (mkF m 8 #[.val (.ref a0_)] [(.ref ab), (.ref aa)])) rfl (by rw [hml]; rfl) (Steps.refl _) (argsL := [(.ref ab)]) (rest := []) (lenOf pd__Ljava_math_BigDecimal__Ljava_math_BigDecimal_ rfl) rfl (by show 2 * 0 + _ ≤ _; exact Nat.le_of_eq rfl) (hb hby d_prog_4_method_4_code_8) (fun _ _ => ⟨rfl, e2, (by decide : 0 + 1 ≤ _), (by decide : 0 + 5 ≤ _)⟩)
  dsimp only [Pt.U, Pt.locs, Pt.cells, Pt.slots] at X3 l3 y3 z3 st3 hQ3
  subst l3 y3 z3
  obtain ⟨b3, rfl, N3q, K3, B3⟩ := hQ3
  have N3 := Fr.app N0 N3q
  refine Go.by (fun t k => st3.trans k) ?_
  have f3_0 : n0 ≤ T3.heap.size := (Nat.le_trans Z0 K3.1)
  have f3_1 : Keep h0 T3.heap [] := (Keep.trans (Keep.refl h0 []) K3 all0)
  have f3_2 : Old Z n0 T3.heap := (Old.keep O0 K3 all0)
  have f3_3 : Fld Z T3.heap a0_ "com/example/frontmonth/frontmonth/BidAsk" "ask" "Ljava/math/BigDecimal;" (.ref aa) := (Fld.keep Fa K3 nin0)
  have f3_4 : Fld Z T3.heap a0_ "com/example/frontmonth/frontmonth/BidAsk" "bid" "Ljava/math/BigDecimal;" (.ref ab) := (Fld.keep Fb K3 nin0)
  have f3_5 : BD Z T3.heap aa x0 s2 := (BD.keep B0 K3 nin0)
  have f3_6 : BD Z T3.heap ab x1 s2 := (BD.keep B1 K3 nin0)
  have f3_7 : Exa Z T3.heap aa "java/math/BigDecimal" := (Exa.keep B0.1 K3)
  show Go p e below P (T3.setTop (mkF m 11 #[.val (.ref a0_)] [(.ref b3)]))
  refine fin X3 (v := some (.ref b3)) (fun h => by rw [Bd.returns] at h; cases h) (by decide) (by decide) ?_ (fun fs hr => retOut X3 hx Bd.returns rfl (Or.inr (Or.inr (Or.inr (Or.inr ⟨rfl, rfl, rfl⟩)))) (hb hby d_prog_4_method_4_code_11) hr)
  show Q_spread Z a0_ aa ab x0 x1 s2 aZ aT clT aS clS h0 n0 _ T3.heap _
  exact ⟨b3, rfl, N3, f3_1, B3⟩
def Q_newSpread (Z : State) (a0_ : Addr) (a1_ : Addr) (aa : Addr) (ab : Addr) (x0 : Int64) (x1 : Int64) (s2 : Int32) (aZ : Addr) (aT : Addr) (clT : Cell) (aS : Addr) (clS : Cell) (h0 : Heap) (n0 : Nat) (v : Option Value) (h : Heap) (L : List Loc) : Prop := ∃ b, v = some (.ref b) ∧ Fr n0 L ∧ Keep h0 h [] ∧ BD Z h b (x0 + (-x1)) s2
theorem ef_newSpread (m : MethodId) (a0_ : Addr) (a1_ : Addr) (aa : Addr) (ab : Addr) (x0 : Int64) (x1 : Int64) (s2 : Int32) (aZ : Addr) (aT : Addr) (clT : Cell) (aS : Addr) (clS : Cell) : entryFrame m #[(.ref a0_)] 1 = mkF m 0 #[.val (.ref a0_)] [] := by first | (simp [entryFrame, mkF, argsToLocals, Value.category]; done) | rfl
set_option maxRecDepth 65536 in
set_option maxHeartbeats 40000000 in
theorem rm_newSpread (l : Launch) (Z : State) (a0 : Array Value) (hw : ∀ d ∈ tables_1, d.before a0 Z = true) (ws : List Jvm.Cond) (a0_ : Addr) (a1_ : Addr) (aa : Addr) (ab : Addr) (x0 : Int64) (x1 : Int64) (s2 : Int32) (aZ : Addr) (aT : Addr) (clT : Cell) (aS : Addr) (clS : Cell) (h0 : Heap) (n0 : Nat) (Z0 : n0 ≤ h0.size) (O0 : Old Z n0 h0) (SZ : Sta Z Z.heap "java/math/BigDecimal" "ZERO" "Ljava/math/BigDecimal;" (.ref aZ)) (BZ : BD Z Z.heap aZ (0 : Int64) (0 : Int32)) (ST : Sta Z Z.heap "java/math/BigDecimal" "ZERO_THROUGH_TEN" "[Ljava/math/BigDecimal;" (.ref aT)) (BT : BDs Z aT clT 11 (fun i => Int64.ofNat i) (fun _ => 0)) (SS : Sta Z Z.heap "java/math/BigDecimal" "ZERO_SCALED_BY" "[Ljava/math/BigDecimal;" (.ref aS)) (BS : BDs Z aS clS 16 (fun _ => 0) (fun i => Int32.ofNat i)) (Fn : Fld Z h0 a0_ "com/example/frontmonth/frontmonth/Quote" "next" "Lcom/example/frontmonth/frontmonth/BidAsk;" (.ref a1_)) (En : Exa Z h0 a1_ "com/example/frontmonth/frontmonth/BidAsk") (Fa : Fld Z h0 a1_ "com/example/frontmonth/frontmonth/BidAsk" "ask" "Ljava/math/BigDecimal;" (.ref aa)) (Fb : Fld Z h0 a1_ "com/example/frontmonth/frontmonth/BidAsk" "bid" "Ljava/math/BigDecimal;" (.ref ab)) (B0 : BD Z h0 aa x0 s2) (B1 : BD Z h0 ab x1 s2) (hm0 : ¬ x0 = (-9223372036854775808 : Int64)) (hm1 : ¬ x1 = (-9223372036854775808 : Int64)) (hov : ¬ (((x0 + (-x1)) ^^^ x0) &&& ((x0 + (-x1)) ^^^ (-x1))) < (0 : Int64)) (hmin : ¬ (x0 + (-x1)) = (-9223372036854775808 : Int64)) (hs0 : ¬ s2 < 0) (hs1 : s2 < 16) :
    MetFree l (⟨"com/example/frontmonth/frontmonth/Quote", "newSpread", "()Ljava/math/BigDecimal;"⟩ : MethodName) (head1 (Jvm.Cond.code (⟨"com/example/frontmonth/frontmonth/Quote", "newSpread", "()Ljava/math/BigDecimal;"⟩ : MethodName) prog_21_method_4_code 1 (some (.object "java/math/BigDecimal")) :: ws) ({ frames := 9, cells := 1, slots := 5, locals := 215 } : Room)) (fun a U => a = #[(.ref a0_)] ∧ Z.Warmed39 U.vm ∧ U.heap = h0) (fun _ _ _ _ _ => True) (fun _ U o U' => ∃ v L, o = .returned v ∧ Q_newSpread Z a0_ a1_ aa ab x0 x1 s2 aZ aT clT aS clS h0 n0 v U'.heap L ∧ FrameEnd U o U' L ({ frames := 9, cells := 1, slots := 5, locals := 215 } : Room).cells ({ frames := 9, cells := 1, slots := 5, locals := 215 } : Room).slots) := by
  refine MetFree.of_bodySF (plainFor_of_name pn_com_example_frontmonth_frontmonth_Quote) hisR ?_
  intro p e s m args below meth c s₁ Bd hml0 hP hK
  obtain ⟨rfl, hZ, hh⟩ := hP
  have hx := Bd.exec
  have hby := Bd.bytes
  have hml : c.maxLocals = 1 := hml0
  have hown : s.vm.findClass "com/example/frontmonth/frontmonth/Quote" = some m.cls := findClass_of_methodNamed Bd.named
  have hnm := (name_of_methodNamed Bd.named Bd.method).1
  have X0 : Stand p l e ({ frames := 9, cells := 1, slots := 5, locals := 215 } : Room) s m #[(.ref a0_)] below meth c s₁ [] 0 0 := Stand.of_body Bd
  have e0 : s₁.heap = h0 := by rw [← hh, Bd.state]; rfl
  have N0 := Fr.nil n0
  have hlk : meth.locks = false := Bd.notSynchronized
  obtain ⟨P, hP⟩ : ∃ P : Outcome → State → Prop, P = PQ s (Q_newSpread Z a0_ a1_ aa ab x0 x1 s2 aZ aT clT aS clS h0 n0) ({ frames := 9, cells := 1, slots := 5, locals := 215 } : Room).cells ({ frames := 9, cells := 1, slots := 5, locals := 215 } : Room).slots := ⟨_, rfl⟩
  have fin : ∀ {T : State} {locs : List Loc} {k n : Nat} {v : Option Value} {S0 : State}, Stand p l e ({ frames := 9, cells := 1, slots := 5, locals := 215 } : Room) s m #[(.ref a0_)] below meth c T locs k n → (meth.sig.returnType = none → v = none) → k ≤ ({ frames := 9, cells := 1, slots := 5, locals := 215 } : Room).cells → n ≤ ({ frames := 9, cells := 1, slots := 5, locals := 215 } : Room).slots → Q_newSpread Z a0_ a1_ aa ab x0 x1 s2 aZ aT clT aS clS h0 n0 v T.heap locs → (∀ fs, (∀ (f : JFrame) (acts : List Action), f.method = m → f.locked = none → f.entered = [] → (doReturn e (T.setTop f) acts v).1 = T.setFrames fs) → Steps p.tables e below S0 (T.setFrames fs)) → Go p e below P S0 := fun X hv hk hn hQ hst => hP ▸ Go.fin X hlk hv hk hn hQ hst
  suffices hgo : Go p e below P (s₁.setTop (mkF m 0 #[.val (.ref a0_)] [])) by
    rw [hP] at hgo
    exact Go.by (fun t k => castTop (ef_newSpread m a0_ a1_ aa ab x0 x1 s2 aZ aT clT aS clS) k) hgo
  show Go p e below P (s₁.setTop (mkF m 0 #[.val (.ref a0_)] []))
  refine Go.by (fun _ => XS.aloadN X0.here hx rfl (hb hby d_prog_21_method_4_code_0) rfl rfl) ?_
  show Go p e below P (s₁.setTop (mkF m 1 #[.val (.ref a0_)] [(.ref a0_)]))
  obtain ⟨T1, X1, e1, st1⟩ := getF X0 hx hZ hown (host := "") (Or.inl (tw_49 hw)) Via.refl e0 Fn (g := (mkF m 1 #[.val (.ref a0_)] [(.ref a0_)])) rfl rfl (hb hby d_prog_21_method_4_code_1)
  refine Go.by st1 ?_
  show Go p e below P (T1.setTop (mkF m 4 #[.val (.ref a0_)] [(.ref a1_)]))
  obtain ⟨cq2, kq2, q2a, q2b, q2c⟩ := isOf hZ e1 En
  obtain ⟨_, _, ⟨T2, L2, k2, n2⟩, -, X2, ⟨Lc2, hQ2, l2, y2, z2⟩, st2⟩ := X1.virtualBack hx (y := (⟨"com/example/frontmonth/frontmonth/BidAsk", "spread", "()Ljava/math/BigDecimal;"⟩ : MethodName)) (z := (⟨"com/example/frontmonth/frontmonth/BidAsk", "spread", "()Ljava/math/BigDecimal;"⟩ : MethodName)) hown (mvT hZ (tw_86 hw)) (mvT hZ (tw_87 hw)) (notFace_of_selects (args := #[]) (mvT hZ (tw_89 hw))) (mvT hZ (tw_89 hw)) (mvT hZ (tw_88 hw)) (by decide) (backOf (W := 0) (rm_spread l Z a0 hw [] a1_ aa ab x0 x1 s2 aZ aT clT aS clS h0 n0 Z0 O0 SZ BZ ST BT SS BS Fa Fb B0 B1 hm0 hm1 hov hmin hs0 hs1) hZ (tw_90 hw) (tw_34 hw) (by decide) (by decide)) q2a q2c (g := (mkF m 4 #[.val (.ref a0_)] [(.ref a1_)])) rfl (by rw [hml]; rfl) (Steps.refl _) (argsL := []) (rest := []) (lenOf pd___Ljava_math_BigDecimal_ rfl) rfl (by show 2 * 0 + _ ≤ _; exact Nat.le_of_eq rfl) (hb hby d_prog_21_method_4_code_4) (fun _ _ => ⟨rfl, e1, (by decide : 0 + 1 ≤ _), (by decide : 0 + 5 ≤ _)⟩)
  dsimp only [Pt.U, Pt.locs, Pt.cells, Pt.slots] at X2 l2 y2 z2 st2 hQ2
  subst l2 y2 z2
  obtain ⟨b2, rfl, N2q, K2, B2⟩ := hQ2
  have N2 := Fr.app N0 N2q
  refine Go.by (fun t k => st2.trans k) ?_
  have f2_0 : n0 ≤ T2.heap.size := (Nat.le_trans Z0 K2.1)
  have f2_1 : Keep h0 T2.heap [] := (Keep.trans (Keep.refl h0 []) K2 all0)
  have f2_2 : Old Z n0 T2.heap := (Old.keep O0 K2 all0)
  have f2_3 : Fld Z T2.heap a0_ "com/example/frontmonth/frontmonth/Quote" "next" "Lcom/example/frontmonth/frontmonth/BidAsk;" (.ref a1_) := (Fld.keep Fn K2 nin0)
  have f2_4 : Exa Z T2.heap a1_ "com/example/frontmonth/frontmonth/BidAsk" := (Exa.keep En K2)
  have f2_5 : Fld Z T2.heap a1_ "com/example/frontmonth/frontmonth/BidAsk" "ask" "Ljava/math/BigDecimal;" (.ref aa) := (Fld.keep Fa K2 nin0)
  have f2_6 : Fld Z T2.heap a1_ "com/example/frontmonth/frontmonth/BidAsk" "bid" "Ljava/math/BigDecimal;" (.ref ab) := (Fld.keep Fb K2 nin0)
  have f2_7 : BD Z T2.heap aa x0 s2 := (BD.keep B0 K2 nin0)
  have f2_8 : BD Z T2.heap ab x1 s2 := (BD.keep B1 K2 nin0)
  show Go p e below P (T2.setTop (mkF m 7 #[.val (.ref a0_)] [(.ref b2)]))
  refine fin X2 (v := some (.ref b2)) (fun h => by rw [Bd.returns] at h; cases h) (by decide) (by decide) ?_ (fun fs hr => retOut X2 hx Bd.returns rfl (Or.inr (Or.inr (Or.inr (Or.inr ⟨rfl, rfl, rfl⟩)))) (hb hby d_prog_21_method_4_code_7) hr)
  show Q_newSpread Z a0_ a1_ aa ab x0 x1 s2 aZ aT clT aS clS h0 n0 _ T2.heap _
  exact ⟨b2, rfl, N2, f2_1, B2⟩
def Q_perUnitQ (Z : State) (a0_ : Addr) (a2_ : Addr) (a1_ : Addr) (aa : Addr) (ab : Addr) (x0 : Int64) (x1 : Int64) (s2 : Int32) (aZ : Addr) (aT : Addr) (clT : Cell) (aS : Addr) (clS : Cell) (h0 : Heap) (n0 : Nat) (v : Option Value) (h : Heap) (L : List Loc) : Prop := ∃ b, v = some (.ref b) ∧ Fr n0 L ∧ Keep h0 h [] ∧ BD Z h b (x0 + (-x1)) s2
theorem ef_perUnitQ (m : MethodId) (a0_ : Addr) (a2_ : Addr) (a1_ : Addr) (aa : Addr) (ab : Addr) (x0 : Int64) (x1 : Int64) (s2 : Int32) (aZ : Addr) (aT : Addr) (clT : Cell) (aS : Addr) (clS : Cell) : entryFrame m #[(.ref a0_), (.ref a2_)] 2 = mkF m 0 #[.val (.ref a0_), .val (.ref a2_)] [] := by first | (simp [entryFrame, mkF, argsToLocals, Value.category]; done) | rfl
set_option maxRecDepth 65536 in
set_option maxHeartbeats 40000000 in
theorem rm_perUnitQ (l : Launch) (Z : State) (a0 : Array Value) (hw : ∀ d ∈ tables_1, d.before a0 Z = true) (ws : List Jvm.Cond) (a0_ : Addr) (a2_ : Addr) (a1_ : Addr) (aa : Addr) (ab : Addr) (x0 : Int64) (x1 : Int64) (s2 : Int32) (aZ : Addr) (aT : Addr) (clT : Cell) (aS : Addr) (clS : Cell) (h0 : Heap) (n0 : Nat) (Z0 : n0 ≤ h0.size) (O0 : Old Z n0 h0) (SZ : Sta Z Z.heap "java/math/BigDecimal" "ZERO" "Ljava/math/BigDecimal;" (.ref aZ)) (BZ : BD Z Z.heap aZ (0 : Int64) (0 : Int32)) (ST : Sta Z Z.heap "java/math/BigDecimal" "ZERO_THROUGH_TEN" "[Ljava/math/BigDecimal;" (.ref aT)) (BT : BDs Z aT clT 11 (fun i => Int64.ofNat i) (fun _ => 0)) (SS : Sta Z Z.heap "java/math/BigDecimal" "ZERO_SCALED_BY" "[Ljava/math/BigDecimal;" (.ref aS)) (BS : BDs Z aS clS 16 (fun _ => 0) (fun i => Int32.ofNat i)) (Fs : Fld Z h0 a0_ "com/example/frontmonth/frontmonth/Spread" "stated" "Ljava/math/BigDecimal;" .null) (Eq : Exa Z h0 a2_ "com/example/frontmonth/frontmonth/Quote") (Fn : Fld Z h0 a2_ "com/example/frontmonth/frontmonth/Quote" "next" "Lcom/example/frontmonth/frontmonth/BidAsk;" (.ref a1_)) (En : Exa Z h0 a1_ "com/example/frontmonth/frontmonth/BidAsk") (Fa : Fld Z h0 a1_ "com/example/frontmonth/frontmonth/BidAsk" "ask" "Ljava/math/BigDecimal;" (.ref aa)) (Fb : Fld Z h0 a1_ "com/example/frontmonth/frontmonth/BidAsk" "bid" "Ljava/math/BigDecimal;" (.ref ab)) (B0 : BD Z h0 aa x0 s2) (B1 : BD Z h0 ab x1 s2) (hm0 : ¬ x0 = (-9223372036854775808 : Int64)) (hm1 : ¬ x1 = (-9223372036854775808 : Int64)) (hov : ¬ (((x0 + (-x1)) ^^^ x0) &&& ((x0 + (-x1)) ^^^ (-x1))) < (0 : Int64)) (hmin : ¬ (x0 + (-x1)) = (-9223372036854775808 : Int64)) (hs0 : ¬ s2 < 0) (hs1 : s2 < 16) :
    MetFree l (⟨"com/example/frontmonth/frontmonth/Spread", "perUnit", "(Lcom/example/frontmonth/frontmonth/Quote;)Ljava/math/BigDecimal;"⟩ : MethodName) (head1 (Jvm.Cond.code (⟨"com/example/frontmonth/frontmonth/Spread", "perUnit", "(Lcom/example/frontmonth/frontmonth/Quote;)Ljava/math/BigDecimal;"⟩ : MethodName) prog_26_method_4_code 2 (some (.object "java/math/BigDecimal")) :: ws) ({ frames := 10, cells := 1, slots := 5, locals := 230 } : Room)) (fun a U => a = #[(.ref a0_), (.ref a2_)] ∧ Z.Warmed39 U.vm ∧ U.heap = h0) (fun _ _ _ _ _ => True) (fun _ U o U' => ∃ v L, o = .returned v ∧ Q_perUnitQ Z a0_ a2_ a1_ aa ab x0 x1 s2 aZ aT clT aS clS h0 n0 v U'.heap L ∧ FrameEnd U o U' L ({ frames := 10, cells := 1, slots := 5, locals := 230 } : Room).cells ({ frames := 10, cells := 1, slots := 5, locals := 230 } : Room).slots) := by
  refine MetFree.of_bodySF (plainFor_of_name pn_com_example_frontmonth_frontmonth_Spread) hisR ?_
  intro p e s m args below meth c s₁ Bd hml0 hP hK
  obtain ⟨rfl, hZ, hh⟩ := hP
  have hx := Bd.exec
  have hby := Bd.bytes
  have hml : c.maxLocals = 2 := hml0
  have hown : s.vm.findClass "com/example/frontmonth/frontmonth/Spread" = some m.cls := findClass_of_methodNamed Bd.named
  have hnm := (name_of_methodNamed Bd.named Bd.method).1
  have X0 : Stand p l e ({ frames := 10, cells := 1, slots := 5, locals := 230 } : Room) s m #[(.ref a0_), (.ref a2_)] below meth c s₁ [] 0 0 := Stand.of_body Bd
  have e0 : s₁.heap = h0 := by rw [← hh, Bd.state]; rfl
  have N0 := Fr.nil n0
  have hlk : meth.locks = false := Bd.notSynchronized
  obtain ⟨P, hP⟩ : ∃ P : Outcome → State → Prop, P = PQ s (Q_perUnitQ Z a0_ a2_ a1_ aa ab x0 x1 s2 aZ aT clT aS clS h0 n0) ({ frames := 10, cells := 1, slots := 5, locals := 230 } : Room).cells ({ frames := 10, cells := 1, slots := 5, locals := 230 } : Room).slots := ⟨_, rfl⟩
  have fin : ∀ {T : State} {locs : List Loc} {k n : Nat} {v : Option Value} {S0 : State}, Stand p l e ({ frames := 10, cells := 1, slots := 5, locals := 230 } : Room) s m #[(.ref a0_), (.ref a2_)] below meth c T locs k n → (meth.sig.returnType = none → v = none) → k ≤ ({ frames := 10, cells := 1, slots := 5, locals := 230 } : Room).cells → n ≤ ({ frames := 10, cells := 1, slots := 5, locals := 230 } : Room).slots → Q_perUnitQ Z a0_ a2_ a1_ aa ab x0 x1 s2 aZ aT clT aS clS h0 n0 v T.heap locs → (∀ fs, (∀ (f : JFrame) (acts : List Action), f.method = m → f.locked = none → f.entered = [] → (doReturn e (T.setTop f) acts v).1 = T.setFrames fs) → Steps p.tables e below S0 (T.setFrames fs)) → Go p e below P S0 := fun X hv hk hn hQ hst => hP ▸ Go.fin X hlk hv hk hn hQ hst
  suffices hgo : Go p e below P (s₁.setTop (mkF m 0 #[.val (.ref a0_), .val (.ref a2_)] [])) by
    rw [hP] at hgo
    exact Go.by (fun t k => castTop (ef_perUnitQ m a0_ a2_ a1_ aa ab x0 x1 s2 aZ aT clT aS clS) k) hgo
  show Go p e below P (s₁.setTop (mkF m 0 #[.val (.ref a0_), .val (.ref a2_)] []))
  refine Go.by (fun _ => XS.aloadN X0.here hx rfl (hb hby d_prog_26_method_4_code_0) rfl rfl) ?_
  show Go p e below P (s₁.setTop (mkF m 1 #[.val (.ref a0_), .val (.ref a2_)] [(.ref a0_)]))
  obtain ⟨T1, X1, e1, st1⟩ := getF X0 hx hZ hown (host := "") (Or.inl (tw_67 hw)) Via.refl e0 Fs (g := (mkF m 1 #[.val (.ref a0_), .val (.ref a2_)] [(.ref a0_)])) rfl rfl (hb hby d_prog_26_method_4_code_1)
  refine Go.by st1 ?_
  show Go p e below P (T1.setTop (mkF m 4 #[.val (.ref a0_), .val (.ref a2_)] [.null]))
  refine Go.by (fun _ => XS.ifnonnullNo X1.here hx rfl (hb hby d_prog_26_method_4_code_4) rfl) ?_
  show Go p e below P (T1.setTop (mkF m 7 #[.val (.ref a0_), .val (.ref a2_)] []))
  refine Go.by (fun _ => XS.aloadN X1.here hx rfl (hb hby d_prog_26_method_4_code_7) rfl rfl) ?_
  show Go p e below P (T1.setTop (mkF m 8 #[.val (.ref a0_), .val (.ref a2_)] [(.ref a2_)]))
  obtain ⟨cq2, kq2, q2a, q2b, q2c⟩ := isOf hZ e1 Eq
  obtain ⟨_, _, ⟨T2, L2, k2, n2⟩, -, X2, ⟨Lc2, hQ2, l2, y2, z2⟩, st2⟩ := X1.virtualBack hx (y := (⟨"com/example/frontmonth/frontmonth/Quote", "newSpread", "()Ljava/math/BigDecimal;"⟩ : MethodName)) (z := (⟨"com/example/frontmonth/frontmonth/Quote", "newSpread", "()Ljava/math/BigDecimal;"⟩ : MethodName)) hown (mvT hZ (tw_81 hw)) (mvT hZ (tw_82 hw)) (notFace_of_selects (args := #[]) (mvT hZ (tw_84 hw))) (mvT hZ (tw_84 hw)) (mvT hZ (tw_83 hw)) (by decide) (backOf (W := 0) (rm_newSpread l Z a0 hw [] a2_ a1_ aa ab x0 x1 s2 aZ aT clT aS clS h0 n0 Z0 O0 SZ BZ ST BT SS BS Fn En Fa Fb B0 B1 hm0 hm1 hov hmin hs0 hs1) hZ (tw_85 hw) (tw_31 hw) (by decide) (by decide)) q2a q2c (g := (mkF m 8 #[.val (.ref a0_), .val (.ref a2_)] [(.ref a2_)])) rfl (by rw [hml]; rfl) (Steps.refl _) (argsL := []) (rest := []) (lenOf pd___Ljava_math_BigDecimal_ rfl) rfl (by show 2 * 0 + _ ≤ _; exact Nat.le_of_eq rfl) (hb hby d_prog_26_method_4_code_8) (fun _ _ => ⟨rfl, e1, (by decide : 0 + 1 ≤ _), (by decide : 0 + 5 ≤ _)⟩)
  dsimp only [Pt.U, Pt.locs, Pt.cells, Pt.slots] at X2 l2 y2 z2 st2 hQ2
  subst l2 y2 z2
  obtain ⟨b2, rfl, N2q, K2, B2⟩ := hQ2
  have N2 := Fr.app N0 N2q
  refine Go.by (fun t k => st2.trans k) ?_
  have f2_0 : n0 ≤ T2.heap.size := (Nat.le_trans Z0 K2.1)
  have f2_1 : Keep h0 T2.heap [] := (Keep.trans (Keep.refl h0 []) K2 all0)
  have f2_2 : Old Z n0 T2.heap := (Old.keep O0 K2 all0)
  have f2_3 : Fld Z T2.heap a0_ "com/example/frontmonth/frontmonth/Spread" "stated" "Ljava/math/BigDecimal;" .null := (Fld.keep Fs K2 nin0)
  have f2_4 : Exa Z T2.heap a2_ "com/example/frontmonth/frontmonth/Quote" := (Exa.keep Eq K2)
  have f2_5 : Fld Z T2.heap a2_ "com/example/frontmonth/frontmonth/Quote" "next" "Lcom/example/frontmonth/frontmonth/BidAsk;" (.ref a1_) := (Fld.keep Fn K2 nin0)
  have f2_6 : Exa Z T2.heap a1_ "com/example/frontmonth/frontmonth/BidAsk" := (Exa.keep En K2)
  have f2_7 : Fld Z T2.heap a1_ "com/example/frontmonth/frontmonth/BidAsk" "ask" "Ljava/math/BigDecimal;" (.ref aa) := (Fld.keep Fa K2 nin0)
  have f2_8 : Fld Z T2.heap a1_ "com/example/frontmonth/frontmonth/BidAsk" "bid" "Ljava/math/BigDecimal;" (.ref ab) := (Fld.keep Fb K2 nin0)
  have f2_9 : BD Z T2.heap aa x0 s2 := (BD.keep B0 K2 nin0)
  have f2_10 : BD Z T2.heap ab x1 s2 := (BD.keep B1 K2 nin0)
  show Go p e below P (T2.setTop (mkF m 11 #[.val (.ref a0_), .val (.ref a2_)] [(.ref b2)]))
  refine Go.by (fun _ => XS.goto X2.here hx rfl (pc0 := 11) (pc' := 18) rfl (hb hby d_prog_26_method_4_code_11) (by decide) (by decide)) ?_
  show Go p e below P (T2.setTop (mkF m 18 #[.val (.ref a0_), .val (.ref a2_)] [(.ref b2)]))
  refine fin X2 (v := some (.ref b2)) (fun h => by rw [Bd.returns] at h; cases h) (by decide) (by decide) ?_ (fun fs hr => retOut X2 hx Bd.returns rfl (Or.inr (Or.inr (Or.inr (Or.inr ⟨rfl, rfl, rfl⟩)))) (hb hby d_prog_26_method_4_code_18) hr)
  show Q_perUnitQ Z a0_ a2_ a1_ aa ab x0 x1 s2 aZ aT clT aS clS h0 n0 _ T2.heap _
  exact ⟨b2, rfl, N2, f2_1, B2⟩
def Q_perUnitZ (Z : State) (a0_ : Addr) (a2_ : Addr) (az : Addr) (h0 : Heap) (n0 : Nat) (v : Option Value) (h : Heap) (L : List Loc) : Prop := v = some (.ref az) ∧ Fr n0 L ∧ h = h0
theorem ef_perUnitZ (m : MethodId) (a0_ : Addr) (a2_ : Addr) (az : Addr) : entryFrame m #[(.ref a0_), (.ref a2_)] 2 = mkF m 0 #[.val (.ref a0_), .val (.ref a2_)] [] := by first | (simp [entryFrame, mkF, argsToLocals, Value.category]; done) | rfl
set_option maxRecDepth 65536 in
set_option maxHeartbeats 40000000 in
theorem rm_perUnitZ (l : Launch) (Z : State) (a0 : Array Value) (hw : ∀ d ∈ tables_1, d.before a0 Z = true) (ws : List Jvm.Cond) (a0_ : Addr) (a2_ : Addr) (az : Addr) (h0 : Heap) (n0 : Nat) (Z0 : n0 ≤ h0.size) (Fs : Fld Z h0 a0_ "com/example/frontmonth/frontmonth/Spread" "stated" "Ljava/math/BigDecimal;" (.ref az)) :
    MetFree l (⟨"com/example/frontmonth/frontmonth/Spread", "perUnit", "(Lcom/example/frontmonth/frontmonth/Quote;)Ljava/math/BigDecimal;"⟩ : MethodName) (head1 (Jvm.Cond.code (⟨"com/example/frontmonth/frontmonth/Spread", "perUnit", "(Lcom/example/frontmonth/frontmonth/Quote;)Ljava/math/BigDecimal;"⟩ : MethodName) prog_26_method_4_code 2 (some (.object "java/math/BigDecimal")) :: ws) ({ frames := 0, cells := 0, slots := 0, locals := 0 } : Room)) (fun a U => a = #[(.ref a0_), (.ref a2_)] ∧ Z.Warmed39 U.vm ∧ U.heap = h0) (fun _ _ _ _ _ => True) (fun _ U o U' => ∃ v L, o = .returned v ∧ Q_perUnitZ Z a0_ a2_ az h0 n0 v U'.heap L ∧ FrameEnd U o U' L ({ frames := 0, cells := 0, slots := 0, locals := 0 } : Room).cells ({ frames := 0, cells := 0, slots := 0, locals := 0 } : Room).slots) := by
  refine MetFree.of_bodySF (plainFor_of_name pn_com_example_frontmonth_frontmonth_Spread) hisR ?_
  intro p e s m args below meth c s₁ Bd hml0 hP hK
  obtain ⟨rfl, hZ, hh⟩ := hP
  have hx := Bd.exec
  have hby := Bd.bytes
  have hml : c.maxLocals = 2 := hml0
  have hown : s.vm.findClass "com/example/frontmonth/frontmonth/Spread" = some m.cls := findClass_of_methodNamed Bd.named
  have hnm := (name_of_methodNamed Bd.named Bd.method).1
  have X0 : Stand p l e ({ frames := 0, cells := 0, slots := 0, locals := 0 } : Room) s m #[(.ref a0_), (.ref a2_)] below meth c s₁ [] 0 0 := Stand.of_body Bd
  have e0 : s₁.heap = h0 := by rw [← hh, Bd.state]; rfl
  have N0 := Fr.nil n0
  have hlk : meth.locks = false := Bd.notSynchronized
  obtain ⟨P, hP⟩ : ∃ P : Outcome → State → Prop, P = PQ s (Q_perUnitZ Z a0_ a2_ az h0 n0) ({ frames := 0, cells := 0, slots := 0, locals := 0 } : Room).cells ({ frames := 0, cells := 0, slots := 0, locals := 0 } : Room).slots := ⟨_, rfl⟩
  have fin : ∀ {T : State} {locs : List Loc} {k n : Nat} {v : Option Value} {S0 : State}, Stand p l e ({ frames := 0, cells := 0, slots := 0, locals := 0 } : Room) s m #[(.ref a0_), (.ref a2_)] below meth c T locs k n → (meth.sig.returnType = none → v = none) → k ≤ ({ frames := 0, cells := 0, slots := 0, locals := 0 } : Room).cells → n ≤ ({ frames := 0, cells := 0, slots := 0, locals := 0 } : Room).slots → Q_perUnitZ Z a0_ a2_ az h0 n0 v T.heap locs → (∀ fs, (∀ (f : JFrame) (acts : List Action), f.method = m → f.locked = none → f.entered = [] → (doReturn e (T.setTop f) acts v).1 = T.setFrames fs) → Steps p.tables e below S0 (T.setFrames fs)) → Go p e below P S0 := fun X hv hk hn hQ hst => hP ▸ Go.fin X hlk hv hk hn hQ hst
  suffices hgo : Go p e below P (s₁.setTop (mkF m 0 #[.val (.ref a0_), .val (.ref a2_)] [])) by
    rw [hP] at hgo
    exact Go.by (fun t k => castTop (ef_perUnitZ m a0_ a2_ az) k) hgo
  show Go p e below P (s₁.setTop (mkF m 0 #[.val (.ref a0_), .val (.ref a2_)] []))
  refine Go.by (fun _ => XS.aloadN X0.here hx rfl (hb hby d_prog_26_method_4_code_0) rfl rfl) ?_
  show Go p e below P (s₁.setTop (mkF m 1 #[.val (.ref a0_), .val (.ref a2_)] [(.ref a0_)]))
  obtain ⟨T1, X1, e1, st1⟩ := getF X0 hx hZ hown (host := "") (Or.inl (tw_67 hw)) Via.refl e0 Fs (g := (mkF m 1 #[.val (.ref a0_), .val (.ref a2_)] [(.ref a0_)])) rfl rfl (hb hby d_prog_26_method_4_code_1)
  refine Go.by st1 ?_
  show Go p e below P (T1.setTop (mkF m 4 #[.val (.ref a0_), .val (.ref a2_)] [(.ref az)]))
  refine Go.by (fun _ => XS.ifnonnullYes X1.here hx rfl (pc0 := 4) (pc' := 14) rfl (hb hby d_prog_26_method_4_code_4) rfl (by decide) (by decide)) ?_
  show Go p e below P (T1.setTop (mkF m 14 #[.val (.ref a0_), .val (.ref a2_)] []))
  refine Go.by (fun _ => XS.aloadN X1.here hx rfl (hb hby d_prog_26_method_4_code_14) rfl rfl) ?_
  show Go p e below P (T1.setTop (mkF m 15 #[.val (.ref a0_), .val (.ref a2_)] [(.ref a0_)]))
  obtain ⟨T2, X2, e2, st2⟩ := getF X1 hx hZ hown (host := "") (Or.inl (tw_67 hw)) Via.refl e1 Fs (g := (mkF m 15 #[.val (.ref a0_), .val (.ref a2_)] [(.ref a0_)])) rfl rfl (hb hby d_prog_26_method_4_code_15)
  refine Go.by st2 ?_
  show Go p e below P (T2.setTop (mkF m 18 #[.val (.ref a0_), .val (.ref a2_)] [(.ref az)]))
  refine fin X2 (v := some (.ref az)) (fun h => by rw [Bd.returns] at h; cases h) (by decide) (by decide) ?_ (fun fs hr => retOut X2 hx Bd.returns rfl (Or.inr (Or.inr (Or.inr (Or.inr ⟨rfl, rfl, rfl⟩)))) (hb hby d_prog_26_method_4_code_18) hr)
  show Q_perUnitZ Z a0_ a2_ az h0 n0 _ T2.heap _
  rw [e2]
  exact ⟨rfl, N0, rfl⟩
def Q_baInit (Z : State) (a0_ : Addr) (a1 : Addr) (a2 : Addr) (h0 : Heap) (n0 : Nat) (v : Option Value) (h : Heap) (L : List Loc) : Prop := v = none ∧ Fr n0 L ∧ Keep h0 h [a0_] ∧ Fld Z h a0_ "com/example/frontmonth/frontmonth/BidAsk" "bid" "Ljava/math/BigDecimal;" (.ref a1) ∧ Fld Z h a0_ "com/example/frontmonth/frontmonth/BidAsk" "ask" "Ljava/math/BigDecimal;" (.ref a2)
theorem ef_baInit (m : MethodId) (a0_ : Addr) (a1 : Addr) (a2 : Addr) : entryFrame m #[(.ref a0_), (.ref a1), (.ref a2)] 3 = mkF m 0 #[.val (.ref a0_), .val (.ref a1), .val (.ref a2)] [] := by first | (simp [entryFrame, mkF, argsToLocals, Value.category]; done) | rfl
set_option maxRecDepth 65536 in
set_option maxHeartbeats 40000000 in
theorem rm_baInit (l : Launch) (Z : State) (a0 : Array Value) (hw : ∀ d ∈ tables_1, d.before a0 Z = true) (ws : List Jvm.Cond) (a0_ : Addr) (a1 : Addr) (a2 : Addr) (h0 : Heap) (n0 : Nat) (Z0 : n0 ≤ h0.size) (E0 : Exa Z h0 a0_ "com/example/frontmonth/frontmonth/BidAsk") (g_a0_ : n0 ≤ a0_) (F0_bid : Fld Z h0 a0_ "com/example/frontmonth/frontmonth/BidAsk" "bid" "Ljava/math/BigDecimal;" .null) (F0_ask : Fld Z h0 a0_ "com/example/frontmonth/frontmonth/BidAsk" "ask" "Ljava/math/BigDecimal;" .null) :
    MetFree l (⟨"com/example/frontmonth/frontmonth/BidAsk", "<init>", "(Ljava/math/BigDecimal;Ljava/math/BigDecimal;)V"⟩ : MethodName) (head1 (Jvm.Cond.code (⟨"com/example/frontmonth/frontmonth/BidAsk", "<init>", "(Ljava/math/BigDecimal;Ljava/math/BigDecimal;)V"⟩ : MethodName) prog_4_method_1_code 3 none :: ws) ({ frames := 1, cells := 0, slots := 0, locals := 12 } : Room)) (fun a U => a = #[(.ref a0_), (.ref a1), (.ref a2)] ∧ Z.Warmed39 U.vm ∧ U.heap = h0) (fun _ _ _ _ _ => True) (fun _ U o U' => ∃ v L, o = .returned v ∧ Q_baInit Z a0_ a1 a2 h0 n0 v U'.heap L ∧ FrameEnd U o U' L ({ frames := 1, cells := 0, slots := 0, locals := 12 } : Room).cells ({ frames := 1, cells := 0, slots := 0, locals := 12 } : Room).slots) := by
  refine MetFree.of_bodySF (plainFor_of_name pn_com_example_frontmonth_frontmonth_BidAsk) hisR ?_
  intro p e s m args below meth c s₁ Bd hml0 hP hK
  obtain ⟨rfl, hZ, hh⟩ := hP
  have hx := Bd.exec
  have hby := Bd.bytes
  have hml : c.maxLocals = 3 := hml0
  have hown : s.vm.findClass "com/example/frontmonth/frontmonth/BidAsk" = some m.cls := findClass_of_methodNamed Bd.named
  have hnm := (name_of_methodNamed Bd.named Bd.method).1
  have X0 : Stand p l e ({ frames := 1, cells := 0, slots := 0, locals := 12 } : Room) s m #[(.ref a0_), (.ref a1), (.ref a2)] below meth c s₁ [] 0 0 := Stand.of_body Bd
  have e0 : s₁.heap = h0 := by rw [← hh, Bd.state]; rfl
  have N0 := Fr.nil n0
  have hlk : meth.locks = false := Bd.notSynchronized
  obtain ⟨P, hP⟩ : ∃ P : Outcome → State → Prop, P = PQ s (Q_baInit Z a0_ a1 a2 h0 n0) ({ frames := 1, cells := 0, slots := 0, locals := 12 } : Room).cells ({ frames := 1, cells := 0, slots := 0, locals := 12 } : Room).slots := ⟨_, rfl⟩
  have fin : ∀ {T : State} {locs : List Loc} {k n : Nat} {v : Option Value} {S0 : State}, Stand p l e ({ frames := 1, cells := 0, slots := 0, locals := 12 } : Room) s m #[(.ref a0_), (.ref a1), (.ref a2)] below meth c T locs k n → (meth.sig.returnType = none → v = none) → k ≤ ({ frames := 1, cells := 0, slots := 0, locals := 12 } : Room).cells → n ≤ ({ frames := 1, cells := 0, slots := 0, locals := 12 } : Room).slots → Q_baInit Z a0_ a1 a2 h0 n0 v T.heap locs → (∀ fs, (∀ (f : JFrame) (acts : List Action), f.method = m → f.locked = none → f.entered = [] → (doReturn e (T.setTop f) acts v).1 = T.setFrames fs) → Steps p.tables e below S0 (T.setFrames fs)) → Go p e below P S0 := fun X hv hk hn hQ hst => hP ▸ Go.fin X hlk hv hk hn hQ hst
  suffices hgo : Go p e below P (s₁.setTop (mkF m 0 #[.val (.ref a0_), .val (.ref a1), .val (.ref a2)] [])) by
    rw [hP] at hgo
    exact Go.by (fun t k => castTop (ef_baInit m a0_ a1 a2) k) hgo
  show Go p e below P (s₁.setTop (mkF m 0 #[.val (.ref a0_), .val (.ref a1), .val (.ref a2)] []))
  refine Go.by (fun _ => XS.aloadN X0.here hx rfl (hb hby d_prog_4_method_1_code_0) rfl rfl) ?_
  show Go p e below P (s₁.setTop (mkF m 1 #[.val (.ref a0_), .val (.ref a1), .val (.ref a2)] [(.ref a0_)]))
  obtain ⟨T1, X1, e1, st1⟩ := initO X0 hx hZ hown (tw_38 hw) (tw_19 hw) (tw_20 hw) e0 (g := (mkF m 1 #[.val (.ref a0_), .val (.ref a1), .val (.ref a2)] [(.ref a0_)])) rfl (by rw [hml]; rfl) rfl (hb hby d_prog_4_method_1_code_1) (by decide) (W := 0) (by show 2 * 0 + _ ≤ _; exact Nat.le_of_eq rfl) (by decide)
  refine Go.by st1 ?_
  show Go p e below P (T1.setTop (mkF m 4 #[.val (.ref a0_), .val (.ref a1), .val (.ref a2)] []))
  refine Go.by (fun _ => XS.aloadN X1.here hx rfl (hb hby d_prog_4_method_1_code_4) rfl rfl) ?_
  show Go p e below P (T1.setTop (mkF m 5 #[.val (.ref a0_), .val (.ref a1), .val (.ref a2)] [(.ref a0_)]))
  refine Go.by (fun _ => XS.aloadN X1.here hx rfl (hb hby d_prog_4_method_1_code_5) rfl rfl) ?_
  show Go p e below P (T1.setTop (mkF m 6 #[.val (.ref a0_), .val (.ref a1), .val (.ref a2)] [(.ref a1), (.ref a0_)]))
  obtain ⟨T2, h2, X2, e2, W2, st2⟩ := putF X1 hx hZ hown (host := "") (Or.inl (tw_39 hw)) Via.refl e1 F0_bid E0 (Or.inr ⟨(tw_40 hw), rfl, hnm⟩) (tw_33 hw) (ty := (.object "java/math/BigDecimal")) (by decide) rfl rfl (g := (mkF m 6 #[.val (.ref a0_), .val (.ref a1), .val (.ref a2)] [(.ref a1), (.ref a0_)])) rfl rfl (hb hby d_prog_4_method_1_code_6)
  refine Go.by st2 ?_
  have N2 := Fr.snoc X2 N0 g_a0_
  have f2_0 : n0 ≤ h2.size := (Nat.le_trans Z0 (Keep.of_wr W2).1)
  have f2_1 : Keep h0 h2 [a0_] := (Keep.wr (Keep.refl h0 [a0_]) W2 (Or.inl (List.mem_of_getElem? (i := 0) rfl)))
  have f2_2 : Exa Z h2 a0_ "com/example/frontmonth/frontmonth/BidAsk" := (Exa.wr W2 E0)
  have f2_3 : Fld Z h2 a0_ "com/example/frontmonth/frontmonth/BidAsk" "bid" "Ljava/math/BigDecimal;" (.ref a1) := (Fld.same W2 F0_bid)
  have f2_4 : Fld Z h2 a0_ "com/example/frontmonth/frontmonth/BidAsk" "ask" "Ljava/math/BigDecimal;" .null := (Fld.other W2 F0_ask (Or.inr (slot_ne (Or.inr (tw_42 hw)) (Or.inr (tw_40 hw)) (by decide) (t := (.object "java/math/BigDecimal")) (t' := (.object "java/math/BigDecimal")) (by decide) (by decide))))
  show Go p e below P (T2.setTop (mkF m 9 #[.val (.ref a0_), .val (.ref a1), .val (.ref a2)] []))
  refine Go.by (fun _ => XS.aloadN X2.here hx rfl (hb hby d_prog_4_method_1_code_9) rfl rfl) ?_
  show Go p e below P (T2.setTop (mkF m 10 #[.val (.ref a0_), .val (.ref a1), .val (.ref a2)] [(.ref a0_)]))
  refine Go.by (fun _ => XS.aloadN X2.here hx rfl (hb hby d_prog_4_method_1_code_10) rfl rfl) ?_
  show Go p e below P (T2.setTop (mkF m 11 #[.val (.ref a0_), .val (.ref a1), .val (.ref a2)] [(.ref a2), (.ref a0_)]))
  obtain ⟨T3, h3, X3, e3, W3, st3⟩ := putF X2 hx hZ hown (host := "") (Or.inl (tw_41 hw)) Via.refl e2 f2_4 f2_2 (Or.inr ⟨(tw_42 hw), rfl, hnm⟩) (tw_33 hw) (ty := (.object "java/math/BigDecimal")) (by decide) rfl rfl (g := (mkF m 11 #[.val (.ref a0_), .val (.ref a1), .val (.ref a2)] [(.ref a2), (.ref a0_)])) rfl rfl (hb hby d_prog_4_method_1_code_11)
  refine Go.by st3 ?_
  have N3 := Fr.snoc X3 N2 g_a0_
  have f3_0 : n0 ≤ h3.size := (Nat.le_trans f2_0 (Keep.of_wr W3).1)
  have f3_1 : Keep h0 h3 [a0_] := (Keep.wr f2_1 W3 (Or.inl (List.mem_of_getElem? (i := 0) rfl)))
  have f3_2 : Exa Z h3 a0_ "com/example/frontmonth/frontmonth/BidAsk" := (Exa.wr W3 f2_2)
  have f3_3 : Fld Z h3 a0_ "com/example/frontmonth/frontmonth/BidAsk" "bid" "Ljava/math/BigDecimal;" (.ref a1) := (Fld.other W3 f2_3 (Or.inr (slot_ne (Or.inr (tw_40 hw)) (Or.inr (tw_42 hw)) (by decide) (t := (.object "java/math/BigDecimal")) (t' := (.object "java/math/BigDecimal")) (by decide) (by decide))))
  have f3_4 : Fld Z h3 a0_ "com/example/frontmonth/frontmonth/BidAsk" "ask" "Ljava/math/BigDecimal;" (.ref a2) := (Fld.same W3 f2_4)
  show Go p e below P (T3.setTop (mkF m 14 #[.val (.ref a0_), .val (.ref a1), .val (.ref a2)] []))
  refine fin X3 (v := none) (fun _ => rfl) (by decide) (by decide) ?_ (fun fs hr => X3.returnOut hx Bd.returns (hb hby d_prog_4_method_1_code_14) hr)
  show Q_baInit Z a0_ a1 a2 h0 n0 _ T3.heap _
  rw [e3]
  exact ⟨rfl, N3, f3_1, f3_3, f3_4⟩
def Q_qtInit (Z : State) (a0_ : Addr) (a2 : Addr) (h0 : Heap) (n0 : Nat) (v : Option Value) (h : Heap) (L : List Loc) : Prop := v = none ∧ Fr n0 L ∧ Keep h0 h [a0_] ∧ Fld Z h a0_ "com/example/frontmonth/frontmonth/Quote" "expiring" "Lcom/example/frontmonth/frontmonth/BidAsk;" .null ∧ Fld Z h a0_ "com/example/frontmonth/frontmonth/Quote" "next" "Lcom/example/frontmonth/frontmonth/BidAsk;" (.ref a2)
theorem ef_qtInit (m : MethodId) (a0_ : Addr) (a2 : Addr) : entryFrame m #[(.ref a0_), .null, (.ref a2)] 3 = mkF m 0 #[.val (.ref a0_), .val .null, .val (.ref a2)] [] := by first | (simp [entryFrame, mkF, argsToLocals, Value.category]; done) | rfl
set_option maxRecDepth 65536 in
set_option maxHeartbeats 40000000 in
theorem rm_qtInit (l : Launch) (Z : State) (a0 : Array Value) (hw : ∀ d ∈ tables_1, d.before a0 Z = true) (ws : List Jvm.Cond) (a0_ : Addr) (a2 : Addr) (h0 : Heap) (n0 : Nat) (Z0 : n0 ≤ h0.size) (E0 : Exa Z h0 a0_ "com/example/frontmonth/frontmonth/Quote") (g_a0_ : n0 ≤ a0_) (F0_expiring : Fld Z h0 a0_ "com/example/frontmonth/frontmonth/Quote" "expiring" "Lcom/example/frontmonth/frontmonth/BidAsk;" .null) (F0_next : Fld Z h0 a0_ "com/example/frontmonth/frontmonth/Quote" "next" "Lcom/example/frontmonth/frontmonth/BidAsk;" .null) :
    MetFree l (⟨"com/example/frontmonth/frontmonth/Quote", "<init>", "(Lcom/example/frontmonth/frontmonth/BidAsk;Lcom/example/frontmonth/frontmonth/BidAsk;)V"⟩ : MethodName) (head1 (Jvm.Cond.code (⟨"com/example/frontmonth/frontmonth/Quote", "<init>", "(Lcom/example/frontmonth/frontmonth/BidAsk;Lcom/example/frontmonth/frontmonth/BidAsk;)V"⟩ : MethodName) prog_21_method_1_code 3 none :: ws) ({ frames := 1, cells := 0, slots := 0, locals := 12 } : Room)) (fun a U => a = #[(.ref a0_), .null, (.ref a2)] ∧ Z.Warmed39 U.vm ∧ U.heap = h0) (fun _ _ _ _ _ => True) (fun _ U o U' => ∃ v L, o = .returned v ∧ Q_qtInit Z a0_ a2 h0 n0 v U'.heap L ∧ FrameEnd U o U' L ({ frames := 1, cells := 0, slots := 0, locals := 12 } : Room).cells ({ frames := 1, cells := 0, slots := 0, locals := 12 } : Room).slots) := by
  refine MetFree.of_bodySF (plainFor_of_name pn_com_example_frontmonth_frontmonth_Quote) hisR ?_
  intro p e s m args below meth c s₁ Bd hml0 hP hK
  obtain ⟨rfl, hZ, hh⟩ := hP
  have hx := Bd.exec
  have hby := Bd.bytes
  have hml : c.maxLocals = 3 := hml0
  have hown : s.vm.findClass "com/example/frontmonth/frontmonth/Quote" = some m.cls := findClass_of_methodNamed Bd.named
  have hnm := (name_of_methodNamed Bd.named Bd.method).1
  have X0 : Stand p l e ({ frames := 1, cells := 0, slots := 0, locals := 12 } : Room) s m #[(.ref a0_), .null, (.ref a2)] below meth c s₁ [] 0 0 := Stand.of_body Bd
  have e0 : s₁.heap = h0 := by rw [← hh, Bd.state]; rfl
  have N0 := Fr.nil n0
  have hlk : meth.locks = false := Bd.notSynchronized
  obtain ⟨P, hP⟩ : ∃ P : Outcome → State → Prop, P = PQ s (Q_qtInit Z a0_ a2 h0 n0) ({ frames := 1, cells := 0, slots := 0, locals := 12 } : Room).cells ({ frames := 1, cells := 0, slots := 0, locals := 12 } : Room).slots := ⟨_, rfl⟩
  have fin : ∀ {T : State} {locs : List Loc} {k n : Nat} {v : Option Value} {S0 : State}, Stand p l e ({ frames := 1, cells := 0, slots := 0, locals := 12 } : Room) s m #[(.ref a0_), .null, (.ref a2)] below meth c T locs k n → (meth.sig.returnType = none → v = none) → k ≤ ({ frames := 1, cells := 0, slots := 0, locals := 12 } : Room).cells → n ≤ ({ frames := 1, cells := 0, slots := 0, locals := 12 } : Room).slots → Q_qtInit Z a0_ a2 h0 n0 v T.heap locs → (∀ fs, (∀ (f : JFrame) (acts : List Action), f.method = m → f.locked = none → f.entered = [] → (doReturn e (T.setTop f) acts v).1 = T.setFrames fs) → Steps p.tables e below S0 (T.setFrames fs)) → Go p e below P S0 := fun X hv hk hn hQ hst => hP ▸ Go.fin X hlk hv hk hn hQ hst
  suffices hgo : Go p e below P (s₁.setTop (mkF m 0 #[.val (.ref a0_), .val .null, .val (.ref a2)] [])) by
    rw [hP] at hgo
    exact Go.by (fun t k => castTop (ef_qtInit m a0_ a2) k) hgo
  show Go p e below P (s₁.setTop (mkF m 0 #[.val (.ref a0_), .val .null, .val (.ref a2)] []))
  refine Go.by (fun _ => XS.aloadN X0.here hx rfl (hb hby d_prog_21_method_1_code_0) rfl rfl) ?_
  show Go p e below P (s₁.setTop (mkF m 1 #[.val (.ref a0_), .val .null, .val (.ref a2)] [(.ref a0_)]))
  obtain ⟨T1, X1, e1, st1⟩ := initO X0 hx hZ hown (tw_46 hw) (tw_19 hw) (tw_20 hw) e0 (g := (mkF m 1 #[.val (.ref a0_), .val .null, .val (.ref a2)] [(.ref a0_)])) rfl (by rw [hml]; rfl) rfl (hb hby d_prog_21_method_1_code_1) (by decide) (W := 0) (by show 2 * 0 + _ ≤ _; exact Nat.le_of_eq rfl) (by decide)
  refine Go.by st1 ?_
  show Go p e below P (T1.setTop (mkF m 4 #[.val (.ref a0_), .val .null, .val (.ref a2)] []))
  refine Go.by (fun _ => XS.aloadN X1.here hx rfl (hb hby d_prog_21_method_1_code_4) rfl rfl) ?_
  show Go p e below P (T1.setTop (mkF m 5 #[.val (.ref a0_), .val .null, .val (.ref a2)] [(.ref a0_)]))
  refine Go.by (fun _ => XS.aloadN X1.here hx rfl (hb hby d_prog_21_method_1_code_5) rfl rfl) ?_
  show Go p e below P (T1.setTop (mkF m 6 #[.val (.ref a0_), .val .null, .val (.ref a2)] [.null, (.ref a0_)]))
  obtain ⟨T2, h2, X2, e2, W2, st2⟩ := putF X1 hx hZ hown (host := "") (Or.inl (tw_47 hw)) Via.refl e1 F0_expiring E0 (Or.inr ⟨(tw_48 hw), rfl, hnm⟩) (tw_30 hw) (ty := (.object "com/example/frontmonth/frontmonth/BidAsk")) (by decide) rfl rfl (g := (mkF m 6 #[.val (.ref a0_), .val .null, .val (.ref a2)] [.null, (.ref a0_)])) rfl rfl (hb hby d_prog_21_method_1_code_6)
  refine Go.by st2 ?_
  have N2 := Fr.snoc X2 N0 g_a0_
  have f2_0 : n0 ≤ h2.size := (Nat.le_trans Z0 (Keep.of_wr W2).1)
  have f2_1 : Keep h0 h2 [a0_] := (Keep.wr (Keep.refl h0 [a0_]) W2 (Or.inl (List.mem_of_getElem? (i := 0) rfl)))
  have f2_2 : Exa Z h2 a0_ "com/example/frontmonth/frontmonth/Quote" := (Exa.wr W2 E0)
  have f2_3 : Fld Z h2 a0_ "com/example/frontmonth/frontmonth/Quote" "expiring" "Lcom/example/frontmonth/frontmonth/BidAsk;" .null := (Fld.same W2 F0_expiring)
  have f2_4 : Fld Z h2 a0_ "com/example/frontmonth/frontmonth/Quote" "next" "Lcom/example/frontmonth/frontmonth/BidAsk;" .null := (Fld.other W2 F0_next (Or.inr (slot_ne (Or.inr (tw_50 hw)) (Or.inr (tw_48 hw)) (by decide) (t := (.object "com/example/frontmonth/frontmonth/BidAsk")) (t' := (.object "com/example/frontmonth/frontmonth/BidAsk")) (by decide) (by decide))))
  show Go p e below P (T2.setTop (mkF m 9 #[.val (.ref a0_), .val .null, .val (.ref a2)] []))
  refine Go.by (fun _ => XS.aloadN X2.here hx rfl (hb hby d_prog_21_method_1_code_9) rfl rfl) ?_
  show Go p e below P (T2.setTop (mkF m 10 #[.val (.ref a0_), .val .null, .val (.ref a2)] [(.ref a0_)]))
  refine Go.by (fun _ => XS.aloadN X2.here hx rfl (hb hby d_prog_21_method_1_code_10) rfl rfl) ?_
  show Go p e below P (T2.setTop (mkF m 11 #[.val (.ref a0_), .val .null, .val (.ref a2)] [(.ref a2), (.ref a0_)]))
  obtain ⟨T3, h3, X3, e3, W3, st3⟩ := putF X2 hx hZ hown (host := "") (Or.inl (tw_49 hw)) Via.refl e2 f2_4 f2_2 (Or.inr ⟨(tw_50 hw), rfl, hnm⟩) (tw_30 hw) (ty := (.object "com/example/frontmonth/frontmonth/BidAsk")) (by decide) rfl rfl (g := (mkF m 11 #[.val (.ref a0_), .val .null, .val (.ref a2)] [(.ref a2), (.ref a0_)])) rfl rfl (hb hby d_prog_21_method_1_code_11)
  refine Go.by st3 ?_
  have N3 := Fr.snoc X3 N2 g_a0_
  have f3_0 : n0 ≤ h3.size := (Nat.le_trans f2_0 (Keep.of_wr W3).1)
  have f3_1 : Keep h0 h3 [a0_] := (Keep.wr f2_1 W3 (Or.inl (List.mem_of_getElem? (i := 0) rfl)))
  have f3_2 : Exa Z h3 a0_ "com/example/frontmonth/frontmonth/Quote" := (Exa.wr W3 f2_2)
  have f3_3 : Fld Z h3 a0_ "com/example/frontmonth/frontmonth/Quote" "expiring" "Lcom/example/frontmonth/frontmonth/BidAsk;" .null := (Fld.other W3 f2_3 (Or.inr (slot_ne (Or.inr (tw_48 hw)) (Or.inr (tw_50 hw)) (by decide) (t := (.object "com/example/frontmonth/frontmonth/BidAsk")) (t' := (.object "com/example/frontmonth/frontmonth/BidAsk")) (by decide) (by decide))))
  have f3_4 : Fld Z h3 a0_ "com/example/frontmonth/frontmonth/Quote" "next" "Lcom/example/frontmonth/frontmonth/BidAsk;" (.ref a2) := (Fld.same W3 f2_4)
  show Go p e below P (T3.setTop (mkF m 14 #[.val (.ref a0_), .val .null, .val (.ref a2)] []))
  refine fin X3 (v := none) (fun _ => rfl) (by decide) (by decide) ?_ (fun fs hr => X3.returnOut hx Bd.returns (hb hby d_prog_21_method_1_code_14) hr)
  show Q_qtInit Z a0_ a2 h0 n0 _ T3.heap _
  rw [e3]
  exact ⟨rfl, N3, f3_1, f3_3, f3_4⟩
def Q_spInitN (Z : State) (a0_ : Addr) (h0 : Heap) (n0 : Nat) (v : Option Value) (h : Heap) (L : List Loc) : Prop := v = none ∧ Fr n0 L ∧ Keep h0 h [a0_] ∧ Fld Z h a0_ "com/example/frontmonth/frontmonth/Spread" "stated" "Ljava/math/BigDecimal;" .null
theorem ef_spInitN (m : MethodId) (a0_ : Addr) : entryFrame m #[(.ref a0_), .null] 2 = mkF m 0 #[.val (.ref a0_), .val .null] [] := by first | (simp [entryFrame, mkF, argsToLocals, Value.category]; done) | rfl
set_option maxRecDepth 65536 in
set_option maxHeartbeats 40000000 in
theorem rm_spInitN (l : Launch) (Z : State) (a0 : Array Value) (hw : ∀ d ∈ tables_1, d.before a0 Z = true) (ws : List Jvm.Cond) (a0_ : Addr) (h0 : Heap) (n0 : Nat) (Z0 : n0 ≤ h0.size) (E0 : Exa Z h0 a0_ "com/example/frontmonth/frontmonth/Spread") (g_a0_ : n0 ≤ a0_) (F0_stated : Fld Z h0 a0_ "com/example/frontmonth/frontmonth/Spread" "stated" "Ljava/math/BigDecimal;" .null) :
    MetFree l (⟨"com/example/frontmonth/frontmonth/Spread", "<init>", "(Ljava/math/BigDecimal;)V"⟩ : MethodName) (head1 (Jvm.Cond.code (⟨"com/example/frontmonth/frontmonth/Spread", "<init>", "(Ljava/math/BigDecimal;)V"⟩ : MethodName) prog_26_method_1_code 2 none :: ws) ({ frames := 1, cells := 0, slots := 0, locals := 12 } : Room)) (fun a U => a = #[(.ref a0_), .null] ∧ Z.Warmed39 U.vm ∧ U.heap = h0) (fun _ _ _ _ _ => True) (fun _ U o U' => ∃ v L, o = .returned v ∧ Q_spInitN Z a0_ h0 n0 v U'.heap L ∧ FrameEnd U o U' L ({ frames := 1, cells := 0, slots := 0, locals := 12 } : Room).cells ({ frames := 1, cells := 0, slots := 0, locals := 12 } : Room).slots) := by
  refine MetFree.of_bodySF (plainFor_of_name pn_com_example_frontmonth_frontmonth_Spread) hisR ?_
  intro p e s m args below meth c s₁ Bd hml0 hP hK
  obtain ⟨rfl, hZ, hh⟩ := hP
  have hx := Bd.exec
  have hby := Bd.bytes
  have hml : c.maxLocals = 2 := hml0
  have hown : s.vm.findClass "com/example/frontmonth/frontmonth/Spread" = some m.cls := findClass_of_methodNamed Bd.named
  have hnm := (name_of_methodNamed Bd.named Bd.method).1
  have X0 : Stand p l e ({ frames := 1, cells := 0, slots := 0, locals := 12 } : Room) s m #[(.ref a0_), .null] below meth c s₁ [] 0 0 := Stand.of_body Bd
  have e0 : s₁.heap = h0 := by rw [← hh, Bd.state]; rfl
  have N0 := Fr.nil n0
  have hlk : meth.locks = false := Bd.notSynchronized
  obtain ⟨P, hP⟩ : ∃ P : Outcome → State → Prop, P = PQ s (Q_spInitN Z a0_ h0 n0) ({ frames := 1, cells := 0, slots := 0, locals := 12 } : Room).cells ({ frames := 1, cells := 0, slots := 0, locals := 12 } : Room).slots := ⟨_, rfl⟩
  have fin : ∀ {T : State} {locs : List Loc} {k n : Nat} {v : Option Value} {S0 : State}, Stand p l e ({ frames := 1, cells := 0, slots := 0, locals := 12 } : Room) s m #[(.ref a0_), .null] below meth c T locs k n → (meth.sig.returnType = none → v = none) → k ≤ ({ frames := 1, cells := 0, slots := 0, locals := 12 } : Room).cells → n ≤ ({ frames := 1, cells := 0, slots := 0, locals := 12 } : Room).slots → Q_spInitN Z a0_ h0 n0 v T.heap locs → (∀ fs, (∀ (f : JFrame) (acts : List Action), f.method = m → f.locked = none → f.entered = [] → (doReturn e (T.setTop f) acts v).1 = T.setFrames fs) → Steps p.tables e below S0 (T.setFrames fs)) → Go p e below P S0 := fun X hv hk hn hQ hst => hP ▸ Go.fin X hlk hv hk hn hQ hst
  suffices hgo : Go p e below P (s₁.setTop (mkF m 0 #[.val (.ref a0_), .val .null] [])) by
    rw [hP] at hgo
    exact Go.by (fun t k => castTop (ef_spInitN m a0_) k) hgo
  show Go p e below P (s₁.setTop (mkF m 0 #[.val (.ref a0_), .val .null] []))
  refine Go.by (fun _ => XS.aloadN X0.here hx rfl (hb hby d_prog_26_method_1_code_0) rfl rfl) ?_
  show Go p e below P (s₁.setTop (mkF m 1 #[.val (.ref a0_), .val .null] [(.ref a0_)]))
  obtain ⟨T1, X1, e1, st1⟩ := initO X0 hx hZ hown (tw_66 hw) (tw_19 hw) (tw_20 hw) e0 (g := (mkF m 1 #[.val (.ref a0_), .val .null] [(.ref a0_)])) rfl (by rw [hml]; rfl) rfl (hb hby d_prog_26_method_1_code_1) (by decide) (W := 0) (by show 2 * 0 + _ ≤ _; exact Nat.le_of_eq rfl) (by decide)
  refine Go.by st1 ?_
  show Go p e below P (T1.setTop (mkF m 4 #[.val (.ref a0_), .val .null] []))
  refine Go.by (fun _ => XS.aloadN X1.here hx rfl (hb hby d_prog_26_method_1_code_4) rfl rfl) ?_
  show Go p e below P (T1.setTop (mkF m 5 #[.val (.ref a0_), .val .null] [(.ref a0_)]))
  refine Go.by (fun _ => XS.aloadN X1.here hx rfl (hb hby d_prog_26_method_1_code_5) rfl rfl) ?_
  show Go p e below P (T1.setTop (mkF m 6 #[.val (.ref a0_), .val .null] [.null, (.ref a0_)]))
  obtain ⟨T2, h2, X2, e2, W2, st2⟩ := putF X1 hx hZ hown (host := "") (Or.inl (tw_67 hw)) Via.refl e1 F0_stated E0 (Or.inr ⟨(tw_68 hw), rfl, hnm⟩) (tw_62 hw) (ty := (.object "java/math/BigDecimal")) (by decide) rfl rfl (g := (mkF m 6 #[.val (.ref a0_), .val .null] [.null, (.ref a0_)])) rfl rfl (hb hby d_prog_26_method_1_code_6)
  refine Go.by st2 ?_
  have N2 := Fr.snoc X2 N0 g_a0_
  have f2_0 : n0 ≤ h2.size := (Nat.le_trans Z0 (Keep.of_wr W2).1)
  have f2_1 : Keep h0 h2 [a0_] := (Keep.wr (Keep.refl h0 [a0_]) W2 (Or.inl (List.mem_of_getElem? (i := 0) rfl)))
  have f2_2 : Exa Z h2 a0_ "com/example/frontmonth/frontmonth/Spread" := (Exa.wr W2 E0)
  have f2_3 : Fld Z h2 a0_ "com/example/frontmonth/frontmonth/Spread" "stated" "Ljava/math/BigDecimal;" .null := (Fld.same W2 F0_stated)
  show Go p e below P (T2.setTop (mkF m 9 #[.val (.ref a0_), .val .null] []))
  refine fin X2 (v := none) (fun _ => rfl) (by decide) (by decide) ?_ (fun fs hr => X2.returnOut hx Bd.returns (hb hby d_prog_26_method_1_code_9) hr)
  show Q_spInitN Z a0_ h0 n0 _ T2.heap _
  rw [e2]
  exact ⟨rfl, N2, f2_1, f2_3⟩
def Q_spInitZ (Z : State) (a0_ : Addr) (a1 : Addr) (h0 : Heap) (n0 : Nat) (v : Option Value) (h : Heap) (L : List Loc) : Prop := v = none ∧ Fr n0 L ∧ Keep h0 h [a0_] ∧ Fld Z h a0_ "com/example/frontmonth/frontmonth/Spread" "stated" "Ljava/math/BigDecimal;" (.ref a1)
theorem ef_spInitZ (m : MethodId) (a0_ : Addr) (a1 : Addr) : entryFrame m #[(.ref a0_), (.ref a1)] 2 = mkF m 0 #[.val (.ref a0_), .val (.ref a1)] [] := by first | (simp [entryFrame, mkF, argsToLocals, Value.category]; done) | rfl
set_option maxRecDepth 65536 in
set_option maxHeartbeats 40000000 in
theorem rm_spInitZ (l : Launch) (Z : State) (a0 : Array Value) (hw : ∀ d ∈ tables_1, d.before a0 Z = true) (ws : List Jvm.Cond) (a0_ : Addr) (a1 : Addr) (h0 : Heap) (n0 : Nat) (Z0 : n0 ≤ h0.size) (E0 : Exa Z h0 a0_ "com/example/frontmonth/frontmonth/Spread") (g_a0_ : n0 ≤ a0_) (F0_stated : Fld Z h0 a0_ "com/example/frontmonth/frontmonth/Spread" "stated" "Ljava/math/BigDecimal;" .null) :
    MetFree l (⟨"com/example/frontmonth/frontmonth/Spread", "<init>", "(Ljava/math/BigDecimal;)V"⟩ : MethodName) (head1 (Jvm.Cond.code (⟨"com/example/frontmonth/frontmonth/Spread", "<init>", "(Ljava/math/BigDecimal;)V"⟩ : MethodName) prog_26_method_1_code 2 none :: ws) ({ frames := 1, cells := 0, slots := 0, locals := 12 } : Room)) (fun a U => a = #[(.ref a0_), (.ref a1)] ∧ Z.Warmed39 U.vm ∧ U.heap = h0) (fun _ _ _ _ _ => True) (fun _ U o U' => ∃ v L, o = .returned v ∧ Q_spInitZ Z a0_ a1 h0 n0 v U'.heap L ∧ FrameEnd U o U' L ({ frames := 1, cells := 0, slots := 0, locals := 12 } : Room).cells ({ frames := 1, cells := 0, slots := 0, locals := 12 } : Room).slots) := by
  refine MetFree.of_bodySF (plainFor_of_name pn_com_example_frontmonth_frontmonth_Spread) hisR ?_
  intro p e s m args below meth c s₁ Bd hml0 hP hK
  obtain ⟨rfl, hZ, hh⟩ := hP
  have hx := Bd.exec
  have hby := Bd.bytes
  have hml : c.maxLocals = 2 := hml0
  have hown : s.vm.findClass "com/example/frontmonth/frontmonth/Spread" = some m.cls := findClass_of_methodNamed Bd.named
  have hnm := (name_of_methodNamed Bd.named Bd.method).1
  have X0 : Stand p l e ({ frames := 1, cells := 0, slots := 0, locals := 12 } : Room) s m #[(.ref a0_), (.ref a1)] below meth c s₁ [] 0 0 := Stand.of_body Bd
  have e0 : s₁.heap = h0 := by rw [← hh, Bd.state]; rfl
  have N0 := Fr.nil n0
  have hlk : meth.locks = false := Bd.notSynchronized
  obtain ⟨P, hP⟩ : ∃ P : Outcome → State → Prop, P = PQ s (Q_spInitZ Z a0_ a1 h0 n0) ({ frames := 1, cells := 0, slots := 0, locals := 12 } : Room).cells ({ frames := 1, cells := 0, slots := 0, locals := 12 } : Room).slots := ⟨_, rfl⟩
  have fin : ∀ {T : State} {locs : List Loc} {k n : Nat} {v : Option Value} {S0 : State}, Stand p l e ({ frames := 1, cells := 0, slots := 0, locals := 12 } : Room) s m #[(.ref a0_), (.ref a1)] below meth c T locs k n → (meth.sig.returnType = none → v = none) → k ≤ ({ frames := 1, cells := 0, slots := 0, locals := 12 } : Room).cells → n ≤ ({ frames := 1, cells := 0, slots := 0, locals := 12 } : Room).slots → Q_spInitZ Z a0_ a1 h0 n0 v T.heap locs → (∀ fs, (∀ (f : JFrame) (acts : List Action), f.method = m → f.locked = none → f.entered = [] → (doReturn e (T.setTop f) acts v).1 = T.setFrames fs) → Steps p.tables e below S0 (T.setFrames fs)) → Go p e below P S0 := fun X hv hk hn hQ hst => hP ▸ Go.fin X hlk hv hk hn hQ hst
  suffices hgo : Go p e below P (s₁.setTop (mkF m 0 #[.val (.ref a0_), .val (.ref a1)] [])) by
    rw [hP] at hgo
    exact Go.by (fun t k => castTop (ef_spInitZ m a0_ a1) k) hgo
  show Go p e below P (s₁.setTop (mkF m 0 #[.val (.ref a0_), .val (.ref a1)] []))
  refine Go.by (fun _ => XS.aloadN X0.here hx rfl (hb hby d_prog_26_method_1_code_0) rfl rfl) ?_
  show Go p e below P (s₁.setTop (mkF m 1 #[.val (.ref a0_), .val (.ref a1)] [(.ref a0_)]))
  obtain ⟨T1, X1, e1, st1⟩ := initO X0 hx hZ hown (tw_66 hw) (tw_19 hw) (tw_20 hw) e0 (g := (mkF m 1 #[.val (.ref a0_), .val (.ref a1)] [(.ref a0_)])) rfl (by rw [hml]; rfl) rfl (hb hby d_prog_26_method_1_code_1) (by decide) (W := 0) (by show 2 * 0 + _ ≤ _; exact Nat.le_of_eq rfl) (by decide)
  refine Go.by st1 ?_
  show Go p e below P (T1.setTop (mkF m 4 #[.val (.ref a0_), .val (.ref a1)] []))
  refine Go.by (fun _ => XS.aloadN X1.here hx rfl (hb hby d_prog_26_method_1_code_4) rfl rfl) ?_
  show Go p e below P (T1.setTop (mkF m 5 #[.val (.ref a0_), .val (.ref a1)] [(.ref a0_)]))
  refine Go.by (fun _ => XS.aloadN X1.here hx rfl (hb hby d_prog_26_method_1_code_5) rfl rfl) ?_
  show Go p e below P (T1.setTop (mkF m 6 #[.val (.ref a0_), .val (.ref a1)] [(.ref a1), (.ref a0_)]))
  obtain ⟨T2, h2, X2, e2, W2, st2⟩ := putF X1 hx hZ hown (host := "") (Or.inl (tw_67 hw)) Via.refl e1 F0_stated E0 (Or.inr ⟨(tw_68 hw), rfl, hnm⟩) (tw_62 hw) (ty := (.object "java/math/BigDecimal")) (by decide) rfl rfl (g := (mkF m 6 #[.val (.ref a0_), .val (.ref a1)] [(.ref a1), (.ref a0_)])) rfl rfl (hb hby d_prog_26_method_1_code_6)
  refine Go.by st2 ?_
  have N2 := Fr.snoc X2 N0 g_a0_
  have f2_0 : n0 ≤ h2.size := (Nat.le_trans Z0 (Keep.of_wr W2).1)
  have f2_1 : Keep h0 h2 [a0_] := (Keep.wr (Keep.refl h0 [a0_]) W2 (Or.inl (List.mem_of_getElem? (i := 0) rfl)))
  have f2_2 : Exa Z h2 a0_ "com/example/frontmonth/frontmonth/Spread" := (Exa.wr W2 E0)
  have f2_3 : Fld Z h2 a0_ "com/example/frontmonth/frontmonth/Spread" "stated" "Ljava/math/BigDecimal;" (.ref a1) := (Fld.same W2 F0_stated)
  show Go p e below P (T2.setTop (mkF m 9 #[.val (.ref a0_), .val (.ref a1)] []))
  refine fin X2 (v := none) (fun _ => rfl) (by decide) (by decide) ?_ (fun fs hr => X2.returnOut hx Bd.returns (hb hby d_prog_26_method_1_code_9) hr)
  show Q_spInitZ Z a0_ a1 h0 n0 _ T2.heap _
  rw [e2]
  exact ⟨rfl, N2, f2_1, f2_3⟩
def Q_ofQ (Z : State) (aQ : Addr) (aN : Addr) (aZ : Addr) (aT : Addr) (clT : Cell) (aS : Addr) (clS : Cell) (h0 : Heap) (n0 : Nat) (v : Option Value) (h : Heap) (L : List Loc) : Prop := ∃ b, v = some (.ref b) ∧ Fr n0 L ∧ Keep h0 h [] ∧ h0.size ≤ b ∧ Exa Z h b "com/example/frontmonth/frontmonth/Spread" ∧ Fld Z h b "com/example/frontmonth/frontmonth/Spread" "stated" "Ljava/math/BigDecimal;" .null
theorem ef_ofQ (m : MethodId) (aQ : Addr) (aN : Addr) (aZ : Addr) (aT : Addr) (clT : Cell) (aS : Addr) (clS : Cell) : entryFrame m #[(.ref aQ)] 2 = mkF m 0 #[.val (.ref aQ), .unset] [] := by first | (simp [entryFrame, mkF, argsToLocals, Value.category]; done) | rfl
set_option maxRecDepth 65536 in
set_option maxHeartbeats 40000000 in
theorem rm_ofQ (l : Launch) (Z : State) (a0 : Array Value) (hw : ∀ d ∈ tables_1, d.before a0 Z = true) (ws : List Jvm.Cond) (aQ : Addr) (aN : Addr) (aZ : Addr) (aT : Addr) (clT : Cell) (aS : Addr) (clS : Cell) (h0 : Heap) (n0 : Nat) (Z0 : n0 ≤ h0.size) (O0 : Old Z n0 h0) (SQ : Sta Z Z.heap "com/example/frontmonth/frontmonth/Spread$Word" "QUOTED" "Lcom/example/frontmonth/frontmonth/Spread$Word;" (.ref aQ)) (neNQ : aN ≠ aQ) (SZ : Sta Z Z.heap "java/math/BigDecimal" "ZERO" "Ljava/math/BigDecimal;" (.ref aZ)) (BZ : BD Z Z.heap aZ (0 : Int64) (0 : Int32)) (ST : Sta Z Z.heap "java/math/BigDecimal" "ZERO_THROUGH_TEN" "[Ljava/math/BigDecimal;" (.ref aT)) (BT : BDs Z aT clT 11 (fun i => Int64.ofNat i) (fun _ => 0)) (SS : Sta Z Z.heap "java/math/BigDecimal" "ZERO_SCALED_BY" "[Ljava/math/BigDecimal;" (.ref aS)) (BS : BDs Z aS clS 16 (fun _ => 0) (fun i => Int32.ofNat i)) :
    MetFree l (⟨"com/example/frontmonth/frontmonth/Spread", "of", "(Lcom/example/frontmonth/frontmonth/Spread$Word;)Lcom/example/frontmonth/frontmonth/Spread;"⟩ : MethodName) (head1 (Jvm.Cond.code (⟨"com/example/frontmonth/frontmonth/Spread", "of", "(Lcom/example/frontmonth/frontmonth/Spread$Word;)Lcom/example/frontmonth/frontmonth/Spread;"⟩ : MethodName) prog_26_method_2_code 2 (some (.object "com/example/frontmonth/frontmonth/Spread")) :: ws) ({ frames := 2, cells := 1, slots := 1, locals := 30 } : Room)) (fun a U => a = #[(.ref aQ)] ∧ Z.Warmed39 U.vm ∧ U.heap = h0) (fun _ _ _ _ _ => True) (fun _ U o U' => ∃ v L, o = .returned v ∧ Q_ofQ Z aQ aN aZ aT clT aS clS h0 n0 v U'.heap L ∧ FrameEnd U o U' L ({ frames := 2, cells := 1, slots := 1, locals := 30 } : Room).cells ({ frames := 2, cells := 1, slots := 1, locals := 30 } : Room).slots) := by
  refine MetFree.of_bodySF (plainFor_of_name pn_com_example_frontmonth_frontmonth_Spread) hisR ?_
  intro p e s m args below meth c s₁ Bd hml0 hP hK
  obtain ⟨rfl, hZ, hh⟩ := hP
  have hx := Bd.exec
  have hby := Bd.bytes
  have hml : c.maxLocals = 2 := hml0
  have hown : s.vm.findClass "com/example/frontmonth/frontmonth/Spread" = some m.cls := findClass_of_methodNamed Bd.named
  have hnm := (name_of_methodNamed Bd.named Bd.method).1
  have X0 : Stand p l e ({ frames := 2, cells := 1, slots := 1, locals := 30 } : Room) s m #[(.ref aQ)] below meth c s₁ [] 0 0 := Stand.of_body Bd
  have e0 : s₁.heap = h0 := by rw [← hh, Bd.state]; rfl
  have N0 := Fr.nil n0
  have hlk : meth.locks = false := Bd.notSynchronized
  obtain ⟨P, hP⟩ : ∃ P : Outcome → State → Prop, P = PQ s (Q_ofQ Z aQ aN aZ aT clT aS clS h0 n0) ({ frames := 2, cells := 1, slots := 1, locals := 30 } : Room).cells ({ frames := 2, cells := 1, slots := 1, locals := 30 } : Room).slots := ⟨_, rfl⟩
  have fin : ∀ {T : State} {locs : List Loc} {k n : Nat} {v : Option Value} {S0 : State}, Stand p l e ({ frames := 2, cells := 1, slots := 1, locals := 30 } : Room) s m #[(.ref aQ)] below meth c T locs k n → (meth.sig.returnType = none → v = none) → k ≤ ({ frames := 2, cells := 1, slots := 1, locals := 30 } : Room).cells → n ≤ ({ frames := 2, cells := 1, slots := 1, locals := 30 } : Room).slots → Q_ofQ Z aQ aN aZ aT clT aS clS h0 n0 v T.heap locs → (∀ fs, (∀ (f : JFrame) (acts : List Action), f.method = m → f.locked = none → f.entered = [] → (doReturn e (T.setTop f) acts v).1 = T.setFrames fs) → Steps p.tables e below S0 (T.setFrames fs)) → Go p e below P S0 := fun X hv hk hn hQ hst => hP ▸ Go.fin X hlk hv hk hn hQ hst
  suffices hgo : Go p e below P (s₁.setTop (mkF m 0 #[.val (.ref aQ), .unset] [])) by
    rw [hP] at hgo
    exact Go.by (fun t k => castTop (ef_ofQ m aQ aN aZ aT clT aS clS) k) hgo
  show Go p e below P (s₁.setTop (mkF m 0 #[.val (.ref aQ), .unset] []))
  refine Go.by (fun _ => XS.aloadN X0.here hx rfl (hb hby d_prog_26_method_2_code_0) rfl rfl) ?_
  show Go p e below P (s₁.setTop (mkF m 1 #[.val (.ref aQ), .unset] [(.ref aQ)]))
  obtain ⟨T1, X1, e1, st1⟩ := getS2 X0 hx hZ hown (host := "") (Or.inl (tw_58 hw)) Via.refl e0 (SQ.ext O0.2) (g := (mkF m 1 #[.val (.ref aQ), .unset] [(.ref aQ)])) rfl (hb hby d_prog_26_method_2_code_1)
  refine Go.by st1 ?_
  show Go p e below P (T1.setTop (mkF m 4 #[.val (.ref aQ), .unset] [(.ref aQ), (.ref aQ)]))
  refine Go.by (fun _ => Jvm.RoadKit.acmp (g := (mkF m 4 #[.val (.ref aQ), .unset] [(.ref aQ), (.ref aQ)])) X1 hx rfl rfl rfl (pc0 := 4) (pc' := 7) (same := true) rfl (hb hby d_prog_26_method_2_code_4) rfl (decide_eq_true rfl) (by decide) (by decide)) ?_
  show Go p e below P (T1.setTop (mkF m 7 #[.val (.ref aQ), .unset] []))
  refine Go.by (fun _ => XS.aconstNull X1.here hx rfl (hb hby d_prog_26_method_2_code_7)) ?_
  show Go p e below P (T1.setTop (mkF m 8 #[.val (.ref aQ), .unset] [.null]))
  refine Go.by (fun _ => XS.astoreN X1.here hx rfl (hb hby d_prog_26_method_2_code_8) rfl rfl (l' := #[.val (.ref aQ), .val .null]) rfl) ?_
  show Go p e below P (T1.setTop (mkF m 9 #[.val (.ref aQ), .val .null] []))
  refine Go.by (fun _ => XS.goto X1.here hx rfl (pc0 := 9) (pc' := 16) rfl (hb hby d_prog_26_method_2_code_9) (by decide) (by decide)) ?_
  show Go p e below P (T1.setTop (mkF m 16 #[.val (.ref aQ), .val .null] []))
  obtain ⟨T2, h2, X2, e2, E2, A2, D2, U2, st2⟩ := newO X1 hx hZ hown (tw_61 hw) (tw_62 hw) (tw_56 hw) e1 (g := (mkF m 16 #[.val (.ref aQ), .val .null] [])) rfl (hb hby d_prog_26_method_2_code_16) (by decide) (by decide)
  obtain ⟨b2, g2⟩ : ∃ z, z = h0.size := ⟨_, rfl⟩
  rw [← g2] at A2 D2 U2 st2
  have g_b2 : n0 ≤ b2 := Nat.le_trans Z0 (Nat.le_of_eq g2.symm)
  have sz_b2 : h0.size ≤ b2 := Nat.le_trans (Keep.refl h0 []).1 (Nat.le_of_eq g2.symm)
  have f2_0 : n0 ≤ h2.size := (Nat.le_trans Z0 E2.1)
  have f2_1 : Keep h0 h2 [] := (Keep.ext (Keep.refl h0 []) E2)
  have f2_2 : Old Z n0 h2 := (Old.ext O0 E2)
  refine Go.by st2 ?_
  have F2_stated : Fld Z h2 b2 "com/example/frontmonth/frontmonth/Spread" "stated" "Ljava/math/BigDecimal;" .null := D2 (Or.inr (tw_68 hw)) (ty := (.object "java/math/BigDecimal")) (by decide)
  show Go p e below P (T2.setTop (mkF m 19 #[.val (.ref aQ), .val .null] [(.ref b2)]))
  refine Go.by (fun _ => XS.dup X2.here hx rfl (hb hby d_prog_26_method_2_code_19) rfl rfl) ?_
  show Go p e below P (T2.setTop (mkF m 20 #[.val (.ref aQ), .val .null] [(.ref b2), (.ref b2)]))
  refine Go.by (fun _ => XS.aloadN X2.here hx rfl (hb hby d_prog_26_method_2_code_20) rfl rfl) ?_
  show Go p e below P (T2.setTop (mkF m 21 #[.val (.ref aQ), .val .null] [.null, (.ref b2), (.ref b2)]))
  obtain ⟨_, _, ⟨T3, L3, k3, n3⟩, -, X3, ⟨Lc3, hQ3, l3, y3, z3⟩, st3⟩ := X2.specialBack hx (y := (⟨"com/example/frontmonth/frontmonth/Spread", "<init>", "(Ljava/math/BigDecimal;)V"⟩ : MethodName)) rfl hown (mvT hZ (tw_63 hw)) (mvT hZ (tw_64 hw)) (mvT hZ (tw_65 hw)) (by decide) (backOf (W := 1) (rm_spInitN l Z a0 hw [] b2 h2 n0 f2_0 A2 g_b2 F2_stated) hZ (tw_65 hw) (tw_56 hw) (by decide) (by decide)) (g := (mkF m 21 #[.val (.ref aQ), .val .null] [.null, (.ref b2), (.ref b2)])) rfl (by rw [hml]; rfl) (Steps.refl _) (a := b2) (argsL := [.null]) (rest := [(.ref b2)]) (lenOf pd__Ljava_math_BigDecimal__V rfl) rfl (by show 2 * 0 + _ ≤ _; exact Nat.le_of_eq rfl) (hb hby d_prog_26_method_2_code_21) (fun _ _ => ⟨rfl, e2, (by decide : 1 + 0 ≤ _), (by decide : 1 + 0 ≤ _)⟩)
  dsimp only [Pt.U, Pt.locs, Pt.cells, Pt.slots] at X3 l3 y3 z3 st3 hQ3
  subst l3 y3 z3
  obtain ⟨rfl, N3q, K3, G3_0⟩ := hQ3
  have N3 := Fr.app N0 N3q
  refine Go.by (fun t k => st3.trans k) ?_
  have f3_0 : n0 ≤ T3.heap.size := (Nat.le_trans f2_0 K3.1)
  have f3_1 : Keep h0 T3.heap [] := (Keep.trans f2_1 K3 (allS (Or.inr sz_b2) all0))
  have f3_2 : Old Z n0 T3.heap := (Old.keep f2_2 K3 (allS g_b2 all0))
  have f3_3 : Exa Z T3.heap b2 "com/example/frontmonth/frontmonth/Spread" := (Exa.keep A2 K3)
  show Go p e below P (T3.setTop (mkF m 24 #[.val (.ref aQ), .val .null] [(.ref b2)]))
  refine fin X3 (v := some (.ref b2)) (fun h => by rw [Bd.returns] at h; cases h) (by decide) (by decide) ?_ (fun fs hr => retOut X3 hx Bd.returns rfl (Or.inr (Or.inr (Or.inr (Or.inr ⟨rfl, rfl, rfl⟩)))) (hb hby d_prog_26_method_2_code_24) hr)
  show Q_ofQ Z aQ aN aZ aT clT aS clS h0 n0 _ T3.heap _
  exact ⟨b2, rfl, N3, f3_1, sz_b2, f3_3, G3_0⟩
def Q_ofN (Z : State) (aQ : Addr) (aN : Addr) (aZ : Addr) (aT : Addr) (clT : Cell) (aS : Addr) (clS : Cell) (h0 : Heap) (n0 : Nat) (v : Option Value) (h : Heap) (L : List Loc) : Prop := ∃ b, v = some (.ref b) ∧ Fr n0 L ∧ Keep h0 h [] ∧ h0.size ≤ b ∧ Exa Z h b "com/example/frontmonth/frontmonth/Spread" ∧ Fld Z h b "com/example/frontmonth/frontmonth/Spread" "stated" "Ljava/math/BigDecimal;" (.ref aZ)
theorem ef_ofN (m : MethodId) (aQ : Addr) (aN : Addr) (aZ : Addr) (aT : Addr) (clT : Cell) (aS : Addr) (clS : Cell) : entryFrame m #[(.ref aN)] 2 = mkF m 0 #[.val (.ref aN), .unset] [] := by first | (simp [entryFrame, mkF, argsToLocals, Value.category]; done) | rfl
set_option maxRecDepth 65536 in
set_option maxHeartbeats 40000000 in
theorem rm_ofN (l : Launch) (Z : State) (a0 : Array Value) (hw : ∀ d ∈ tables_1, d.before a0 Z = true) (ws : List Jvm.Cond) (aQ : Addr) (aN : Addr) (aZ : Addr) (aT : Addr) (clT : Cell) (aS : Addr) (clS : Cell) (h0 : Heap) (n0 : Nat) (Z0 : n0 ≤ h0.size) (O0 : Old Z n0 h0) (SQ : Sta Z Z.heap "com/example/frontmonth/frontmonth/Spread$Word" "QUOTED" "Lcom/example/frontmonth/frontmonth/Spread$Word;" (.ref aQ)) (neNQ : aN ≠ aQ) (SZ : Sta Z Z.heap "java/math/BigDecimal" "ZERO" "Ljava/math/BigDecimal;" (.ref aZ)) (BZ : BD Z Z.heap aZ (0 : Int64) (0 : Int32)) (ST : Sta Z Z.heap "java/math/BigDecimal" "ZERO_THROUGH_TEN" "[Ljava/math/BigDecimal;" (.ref aT)) (BT : BDs Z aT clT 11 (fun i => Int64.ofNat i) (fun _ => 0)) (SS : Sta Z Z.heap "java/math/BigDecimal" "ZERO_SCALED_BY" "[Ljava/math/BigDecimal;" (.ref aS)) (BS : BDs Z aS clS 16 (fun _ => 0) (fun i => Int32.ofNat i)) :
    MetFree l (⟨"com/example/frontmonth/frontmonth/Spread", "of", "(Lcom/example/frontmonth/frontmonth/Spread$Word;)Lcom/example/frontmonth/frontmonth/Spread;"⟩ : MethodName) (head1 (Jvm.Cond.code (⟨"com/example/frontmonth/frontmonth/Spread", "of", "(Lcom/example/frontmonth/frontmonth/Spread$Word;)Lcom/example/frontmonth/frontmonth/Spread;"⟩ : MethodName) prog_26_method_2_code 2 (some (.object "com/example/frontmonth/frontmonth/Spread")) :: ws) ({ frames := 2, cells := 1, slots := 1, locals := 30 } : Room)) (fun a U => a = #[(.ref aN)] ∧ Z.Warmed39 U.vm ∧ U.heap = h0) (fun _ _ _ _ _ => True) (fun _ U o U' => ∃ v L, o = .returned v ∧ Q_ofN Z aQ aN aZ aT clT aS clS h0 n0 v U'.heap L ∧ FrameEnd U o U' L ({ frames := 2, cells := 1, slots := 1, locals := 30 } : Room).cells ({ frames := 2, cells := 1, slots := 1, locals := 30 } : Room).slots) := by
  refine MetFree.of_bodySF (plainFor_of_name pn_com_example_frontmonth_frontmonth_Spread) hisR ?_
  intro p e s m args below meth c s₁ Bd hml0 hP hK
  obtain ⟨rfl, hZ, hh⟩ := hP
  have hx := Bd.exec
  have hby := Bd.bytes
  have hml : c.maxLocals = 2 := hml0
  have hown : s.vm.findClass "com/example/frontmonth/frontmonth/Spread" = some m.cls := findClass_of_methodNamed Bd.named
  have hnm := (name_of_methodNamed Bd.named Bd.method).1
  have X0 : Stand p l e ({ frames := 2, cells := 1, slots := 1, locals := 30 } : Room) s m #[(.ref aN)] below meth c s₁ [] 0 0 := Stand.of_body Bd
  have e0 : s₁.heap = h0 := by rw [← hh, Bd.state]; rfl
  have N0 := Fr.nil n0
  have hlk : meth.locks = false := Bd.notSynchronized
  obtain ⟨P, hP⟩ : ∃ P : Outcome → State → Prop, P = PQ s (Q_ofN Z aQ aN aZ aT clT aS clS h0 n0) ({ frames := 2, cells := 1, slots := 1, locals := 30 } : Room).cells ({ frames := 2, cells := 1, slots := 1, locals := 30 } : Room).slots := ⟨_, rfl⟩
  have fin : ∀ {T : State} {locs : List Loc} {k n : Nat} {v : Option Value} {S0 : State}, Stand p l e ({ frames := 2, cells := 1, slots := 1, locals := 30 } : Room) s m #[(.ref aN)] below meth c T locs k n → (meth.sig.returnType = none → v = none) → k ≤ ({ frames := 2, cells := 1, slots := 1, locals := 30 } : Room).cells → n ≤ ({ frames := 2, cells := 1, slots := 1, locals := 30 } : Room).slots → Q_ofN Z aQ aN aZ aT clT aS clS h0 n0 v T.heap locs → (∀ fs, (∀ (f : JFrame) (acts : List Action), f.method = m → f.locked = none → f.entered = [] → (doReturn e (T.setTop f) acts v).1 = T.setFrames fs) → Steps p.tables e below S0 (T.setFrames fs)) → Go p e below P S0 := fun X hv hk hn hQ hst => hP ▸ Go.fin X hlk hv hk hn hQ hst
  suffices hgo : Go p e below P (s₁.setTop (mkF m 0 #[.val (.ref aN), .unset] [])) by
    rw [hP] at hgo
    exact Go.by (fun t k => castTop (ef_ofN m aQ aN aZ aT clT aS clS) k) hgo
  show Go p e below P (s₁.setTop (mkF m 0 #[.val (.ref aN), .unset] []))
  refine Go.by (fun _ => XS.aloadN X0.here hx rfl (hb hby d_prog_26_method_2_code_0) rfl rfl) ?_
  show Go p e below P (s₁.setTop (mkF m 1 #[.val (.ref aN), .unset] [(.ref aN)]))
  obtain ⟨T1, X1, e1, st1⟩ := getS2 X0 hx hZ hown (host := "") (Or.inl (tw_58 hw)) Via.refl e0 (SQ.ext O0.2) (g := (mkF m 1 #[.val (.ref aN), .unset] [(.ref aN)])) rfl (hb hby d_prog_26_method_2_code_1)
  refine Go.by st1 ?_
  show Go p e below P (T1.setTop (mkF m 4 #[.val (.ref aN), .unset] [(.ref aQ), (.ref aN)]))
  refine Go.by (fun _ => Jvm.RoadKit.acmp (g := (mkF m 4 #[.val (.ref aN), .unset] [(.ref aQ), (.ref aN)])) X1 hx rfl rfl rfl (pc0 := 4) (pc' := 12) (same := false) rfl (hb hby d_prog_26_method_2_code_4) rfl (decide_eq_false fun q => neNQ (Value.ref.inj q)) (by decide) (by decide)) ?_
  show Go p e below P (T1.setTop (mkF m 12 #[.val (.ref aN), .unset] []))
  obtain ⟨T2, X2, e2, st2⟩ := getS2 X1 hx hZ hown (host := "") (Or.inl (tw_60 hw)) Via.refl e1 (SZ.ext O0.2) (g := (mkF m 12 #[.val (.ref aN), .unset] [])) rfl (hb hby d_prog_26_method_2_code_12)
  refine Go.by st2 ?_
  show Go p e below P (T2.setTop (mkF m 15 #[.val (.ref aN), .unset] [(.ref aZ)]))
  refine Go.by (fun _ => XS.astoreN X2.here hx rfl (hb hby d_prog_26_method_2_code_15) rfl rfl (l' := #[.val (.ref aN), .val (.ref aZ)]) rfl) ?_
  show Go p e below P (T2.setTop (mkF m 16 #[.val (.ref aN), .val (.ref aZ)] []))
  obtain ⟨T3, h3, X3, e3, E3, A3, D3, U3, st3⟩ := newO X2 hx hZ hown (tw_61 hw) (tw_62 hw) (tw_56 hw) e2 (g := (mkF m 16 #[.val (.ref aN), .val (.ref aZ)] [])) rfl (hb hby d_prog_26_method_2_code_16) (by decide) (by decide)
  obtain ⟨b3, g3⟩ : ∃ z, z = h0.size := ⟨_, rfl⟩
  rw [← g3] at A3 D3 U3 st3
  have g_b3 : n0 ≤ b3 := Nat.le_trans Z0 (Nat.le_of_eq g3.symm)
  have sz_b3 : h0.size ≤ b3 := Nat.le_trans (Keep.refl h0 []).1 (Nat.le_of_eq g3.symm)
  have f3_0 : n0 ≤ h3.size := (Nat.le_trans Z0 E3.1)
  have f3_1 : Keep h0 h3 [] := (Keep.ext (Keep.refl h0 []) E3)
  have f3_2 : Old Z n0 h3 := (Old.ext O0 E3)
  refine Go.by st3 ?_
  have F3_stated : Fld Z h3 b3 "com/example/frontmonth/frontmonth/Spread" "stated" "Ljava/math/BigDecimal;" .null := D3 (Or.inr (tw_68 hw)) (ty := (.object "java/math/BigDecimal")) (by decide)
  show Go p e below P (T3.setTop (mkF m 19 #[.val (.ref aN), .val (.ref aZ)] [(.ref b3)]))
  refine Go.by (fun _ => XS.dup X3.here hx rfl (hb hby d_prog_26_method_2_code_19) rfl rfl) ?_
  show Go p e below P (T3.setTop (mkF m 20 #[.val (.ref aN), .val (.ref aZ)] [(.ref b3), (.ref b3)]))
  refine Go.by (fun _ => XS.aloadN X3.here hx rfl (hb hby d_prog_26_method_2_code_20) rfl rfl) ?_
  show Go p e below P (T3.setTop (mkF m 21 #[.val (.ref aN), .val (.ref aZ)] [(.ref aZ), (.ref b3), (.ref b3)]))
  obtain ⟨_, _, ⟨T4, L4, k4, n4⟩, -, X4, ⟨Lc4, hQ4, l4, y4, z4⟩, st4⟩ := X3.specialBack hx (y := (⟨"com/example/frontmonth/frontmonth/Spread", "<init>", "(Ljava/math/BigDecimal;)V"⟩ : MethodName)) rfl hown (mvT hZ (tw_63 hw)) (mvT hZ (tw_64 hw)) (mvT hZ (tw_65 hw)) (by decide) (backOf (W := 1) (rm_spInitZ l Z a0 hw [] b3 aZ h3 n0 f3_0 A3 g_b3 F3_stated) hZ (tw_65 hw) (tw_56 hw) (by decide) (by decide)) (g := (mkF m 21 #[.val (.ref aN), .val (.ref aZ)] [(.ref aZ), (.ref b3), (.ref b3)])) rfl (by rw [hml]; rfl) (Steps.refl _) (a := b3) (argsL := [(.ref aZ)]) (rest := [(.ref b3)]) (lenOf pd__Ljava_math_BigDecimal__V rfl) rfl (by show 2 * 0 + _ ≤ _; exact Nat.le_of_eq rfl) (hb hby d_prog_26_method_2_code_21) (fun _ _ => ⟨rfl, e3, (by decide : 1 + 0 ≤ _), (by decide : 1 + 0 ≤ _)⟩)
  dsimp only [Pt.U, Pt.locs, Pt.cells, Pt.slots] at X4 l4 y4 z4 st4 hQ4
  subst l4 y4 z4
  obtain ⟨rfl, N4q, K4, G4_0⟩ := hQ4
  have N4 := Fr.app N0 N4q
  refine Go.by (fun t k => st4.trans k) ?_
  have f4_0 : n0 ≤ T4.heap.size := (Nat.le_trans f3_0 K4.1)
  have f4_1 : Keep h0 T4.heap [] := (Keep.trans f3_1 K4 (allS (Or.inr sz_b3) all0))
  have f4_2 : Old Z n0 T4.heap := (Old.keep f3_2 K4 (allS g_b3 all0))
  have f4_3 : Exa Z T4.heap b3 "com/example/frontmonth/frontmonth/Spread" := (Exa.keep A3 K4)
  show Go p e below P (T4.setTop (mkF m 24 #[.val (.ref aN), .val (.ref aZ)] [(.ref b3)]))
  refine fin X4 (v := some (.ref b3)) (fun h => by rw [Bd.returns] at h; cases h) (by decide) (by decide) ?_ (fun fs hr => retOut X4 hx Bd.returns rfl (Or.inr (Or.inr (Or.inr (Or.inr ⟨rfl, rfl, rfl⟩)))) (hb hby d_prog_26_method_2_code_24) hr)
  show Q_ofN Z aQ aN aZ aT clT aS clS h0 n0 _ T4.heap _
  exact ⟨b3, rfl, N4, f4_1, sz_b3, f4_3, G4_0⟩
def Q_equals (Z : State) (a0_ : Addr) (a1_ : Addr) (x0 : Int64) (s2 : Int32) (h0 : Heap) (n0 : Nat) (v : Option Value) (h : Heap) (L : List Loc) : Prop := v = some (.int (1 : Int32)) ∧ Fr n0 L ∧ h = h0
theorem ef_equals (m : MethodId) (a0_ : Addr) (a1_ : Addr) (x0 : Int64) (s2 : Int32) : entryFrame m #[(.ref a0_), (.ref a1_)] 7 = mkF m 0 #[.val (.ref a0_), .val (.ref a1_), .unset, .unset, .unset, .unset, .unset] [] := by first | (simp [entryFrame, mkF, argsToLocals, Value.category]; done) | rfl
set_option maxRecDepth 65536 in
set_option maxHeartbeats 40000000 in
theorem rm_equals (l : Launch) (Z : State) (a0 : Array Value) (hw : ∀ d ∈ tables_1, d.before a0 Z = true) (ws : List Jvm.Cond) (a0_ : Addr) (a1_ : Addr) (x0 : Int64) (s2 : Int32) (h0 : Heap) (n0 : Nat) (Z0 : n0 ≤ h0.size) (B0 : BD Z h0 a0_ x0 s2) (B1 : BD Z h0 a1_ x0 s2) (hm0 : ¬ x0 = (-9223372036854775808 : Int64)) :
    MetFree l (⟨"java/math/BigDecimal", "equals", "(Ljava/lang/Object;)Z"⟩ : MethodName) (head1 (Jvm.Cond.code (⟨"java/math/BigDecimal", "equals", "(Ljava/lang/Object;)Z"⟩ : MethodName) jdk_17_method_72_code 7 (some .boolean) :: ws) ({ frames := 0, cells := 0, slots := 0, locals := 0 } : Room)) (fun a U => a = #[(.ref a0_), (.ref a1_)] ∧ Z.Warmed39 U.vm ∧ U.heap = h0) (fun _ _ _ _ _ => True) (fun _ U o U' => ∃ v L, o = .returned v ∧ Q_equals Z a0_ a1_ x0 s2 h0 n0 v U'.heap L ∧ FrameEnd U o U' L ({ frames := 0, cells := 0, slots := 0, locals := 0 } : Room).cells ({ frames := 0, cells := 0, slots := 0, locals := 0 } : Room).slots) := by
  refine MetFree.of_bodySF (plainFor_of_name pn_java_math_BigDecimal) hisR ?_
  intro p e s m args below meth c s₁ Bd hml0 hP hK
  obtain ⟨rfl, hZ, hh⟩ := hP
  have hx := Bd.exec
  have hby := Bd.bytes
  have hml : c.maxLocals = 7 := hml0
  have hown : s.vm.findClass "java/math/BigDecimal" = some m.cls := findClass_of_methodNamed Bd.named
  have hnm := (name_of_methodNamed Bd.named Bd.method).1
  have X0 : Stand p l e ({ frames := 0, cells := 0, slots := 0, locals := 0 } : Room) s m #[(.ref a0_), (.ref a1_)] below meth c s₁ [] 0 0 := Stand.of_body Bd
  have e0 : s₁.heap = h0 := by rw [← hh, Bd.state]; rfl
  have N0 := Fr.nil n0
  have hlk : meth.locks = false := Bd.notSynchronized
  obtain ⟨P, hP⟩ : ∃ P : Outcome → State → Prop, P = PQ s (Q_equals Z a0_ a1_ x0 s2 h0 n0) ({ frames := 0, cells := 0, slots := 0, locals := 0 } : Room).cells ({ frames := 0, cells := 0, slots := 0, locals := 0 } : Room).slots := ⟨_, rfl⟩
  have fin : ∀ {T : State} {locs : List Loc} {k n : Nat} {v : Option Value} {S0 : State}, Stand p l e ({ frames := 0, cells := 0, slots := 0, locals := 0 } : Room) s m #[(.ref a0_), (.ref a1_)] below meth c T locs k n → (meth.sig.returnType = none → v = none) → k ≤ ({ frames := 0, cells := 0, slots := 0, locals := 0 } : Room).cells → n ≤ ({ frames := 0, cells := 0, slots := 0, locals := 0 } : Room).slots → Q_equals Z a0_ a1_ x0 s2 h0 n0 v T.heap locs → (∀ fs, (∀ (f : JFrame) (acts : List Action), f.method = m → f.locked = none → f.entered = [] → (doReturn e (T.setTop f) acts v).1 = T.setFrames fs) → Steps p.tables e below S0 (T.setFrames fs)) → Go p e below P S0 := fun X hv hk hn hQ hst => hP ▸ Go.fin X hlk hv hk hn hQ hst
  suffices hgo : Go p e below P (s₁.setTop (mkF m 0 #[.val (.ref a0_), .val (.ref a1_), .unset, .unset, .unset, .unset, .unset] [])) by
    rw [hP] at hgo
    exact Go.by (fun t k => castTop (ef_equals m a0_ a1_ x0 s2) k) hgo
  show Go p e below P (s₁.setTop (mkF m 0 #[.val (.ref a0_), .val (.ref a1_), .unset, .unset, .unset, .unset, .unset] []))
  refine Go.by (fun _ => XS.aloadN X0.here hx rfl (hb hby d_jdk_17_method_72_code_0) rfl rfl) ?_
  show Go p e below P (s₁.setTop (mkF m 1 #[.val (.ref a0_), .val (.ref a1_), .unset, .unset, .unset, .unset, .unset] [(.ref a1_)]))
  obtain ⟨T1, X1, e1, st1⟩ := instY X0 hx hZ hown (tw_5 hw) e0 (Ins.self B1.1) (g := (mkF m 1 #[.val (.ref a0_), .val (.ref a1_), .unset, .unset, .unset, .unset, .unset] [(.ref a1_)])) rfl rfl (hb hby d_jdk_17_method_72_code_1)
  refine Go.by st1 ?_
  show Go p e below P (T1.setTop (mkF m 4 #[.val (.ref a0_), .val (.ref a1_), .unset, .unset, .unset, .unset, .unset] [(.int (1 : Int32))]))
  refine Go.by (fun _ => XS.ifNo X1.here hx rfl (hb hby d_jdk_17_method_72_code_4) rfl (XT.i0_eq_f (by decide : ¬ (1 : Int32) = (0 : Int32)))) ?_
  show Go p e below P (T1.setTop (mkF m 7 #[.val (.ref a0_), .val (.ref a1_), .unset, .unset, .unset, .unset, .unset] []))
  refine Go.by (fun _ => XS.aloadN X1.here hx rfl (hb hby d_jdk_17_method_72_code_7) rfl rfl) ?_
  show Go p e below P (T1.setTop (mkF m 8 #[.val (.ref a0_), .val (.ref a1_), .unset, .unset, .unset, .unset, .unset] [(.ref a1_)]))
  obtain ⟨T2, X2, e2, st2⟩ := castY X1 hx hZ hown (tw_5 hw) e1 (Ins.self B1.1) (g := (mkF m 8 #[.val (.ref a0_), .val (.ref a1_), .unset, .unset, .unset, .unset, .unset] [(.ref a1_)])) rfl rfl (hb hby d_jdk_17_method_72_code_8)
  refine Go.by st2 ?_
  show Go p e below P (T2.setTop (mkF m 11 #[.val (.ref a0_), .val (.ref a1_), .unset, .unset, .unset, .unset, .unset] [(.ref a1_)]))
  refine Go.by (fun _ => XS.astoreN X2.here hx rfl (hb hby d_jdk_17_method_72_code_11) rfl rfl (l' := #[.val (.ref a0_), .val (.ref a1_), .val (.ref a1_), .unset, .unset, .unset, .unset]) rfl) ?_
  show Go p e below P (T2.setTop (mkF m 12 #[.val (.ref a0_), .val (.ref a1_), .val (.ref a1_), .unset, .unset, .unset, .unset] []))
  refine Go.by (fun _ => XS.goto X2.here hx rfl (pc0 := 12) (pc' := 17) rfl (hb hby d_jdk_17_method_72_code_12) (by decide) (by decide)) ?_
  show Go p e below P (T2.setTop (mkF m 17 #[.val (.ref a0_), .val (.ref a1_), .val (.ref a1_), .unset, .unset, .unset, .unset] []))
  refine Go.by (fun _ => XS.aloadN X2.here hx rfl (hb hby d_jdk_17_method_72_code_17) rfl rfl) ?_
  show Go p e below P (T2.setTop (mkF m 18 #[.val (.ref a0_), .val (.ref a1_), .val (.ref a1_), .unset, .unset, .unset, .unset] [(.ref a1_)]))
  refine Go.by (fun _ => XS.aloadN X2.here hx rfl (hb hby d_jdk_17_method_72_code_18) rfl rfl) ?_
  show Go p e below P (T2.setTop (mkF m 19 #[.val (.ref a0_), .val (.ref a1_), .val (.ref a1_), .unset, .unset, .unset, .unset] [(.ref a0_), (.ref a1_)]))
  by_cases hc19_3 : a1_ = a0_
  · refine Go.by (fun _ => Jvm.RoadKit.acmp (g := (mkF m 19 #[.val (.ref a0_), .val (.ref a1_), .val (.ref a1_), .unset, .unset, .unset, .unset] [(.ref a0_), (.ref a1_)])) X2 hx rfl rfl rfl (pc0 := 19) (pc' := 22) (same := true) rfl (hb hby d_jdk_17_method_72_code_19) rfl (decide_eq_true (congrArg Value.ref hc19_3)) (by decide) (by decide)) ?_
    show Go p e below P (T2.setTop (mkF m 22 #[.val (.ref a0_), .val (.ref a1_), .val (.ref a1_), .unset, .unset, .unset, .unset] []))
    refine Go.by (fun _ => XS.iconst X2.here hx rfl (hb hby d_jdk_17_method_72_code_22)) ?_
    show Go p e below P (T2.setTop (mkF m 23 #[.val (.ref a0_), .val (.ref a1_), .val (.ref a1_), .unset, .unset, .unset, .unset] [(.int (1 : Int32))]))
    refine fin X2 (v := some (.int (1 : Int32))) (fun h => by rw [Bd.returns] at h; cases h) (by decide) (by decide) ?_ (fun fs hr => retOut X2 hx Bd.returns rfl (Or.inl ⟨rfl, Or.inr (Or.inl rfl), _, rfl⟩) (hb hby d_jdk_17_method_72_code_23) hr)
    show Q_equals Z a0_ a1_ x0 s2 h0 n0 _ T2.heap _
    rw [e2]
    exact ⟨rfl, N0, rfl⟩
  · refine Go.by (fun _ => Jvm.RoadKit.acmp (g := (mkF m 19 #[.val (.ref a0_), .val (.ref a1_), .val (.ref a1_), .unset, .unset, .unset, .unset] [(.ref a0_), (.ref a1_)])) X2 hx rfl rfl rfl (pc0 := 19) (pc' := 24) (same := false) rfl (hb hby d_jdk_17_method_72_code_19) rfl (decide_eq_false fun q => hc19_3 (Value.ref.inj q)) (by decide) (by decide)) ?_
    show Go p e below P (T2.setTop (mkF m 24 #[.val (.ref a0_), .val (.ref a1_), .val (.ref a1_), .unset, .unset, .unset, .unset] []))
    refine Go.by (fun _ => XS.aloadN X2.here hx rfl (hb hby d_jdk_17_method_72_code_24) rfl rfl) ?_
    show Go p e below P (T2.setTop (mkF m 25 #[.val (.ref a0_), .val (.ref a1_), .val (.ref a1_), .unset, .unset, .unset, .unset] [(.ref a0_)]))
    obtain ⟨T4, X4, e4, st4⟩ := getF X2 hx hZ hown (host := "") (Or.inl (tw_21 hw)) Via.refl e2 B0.2.2 (g := (mkF m 25 #[.val (.ref a0_), .val (.ref a1_), .val (.ref a1_), .unset, .unset, .unset, .unset] [(.ref a0_)])) rfl rfl (hb hby d_jdk_17_method_72_code_25)
    refine Go.by st4 ?_
    show Go p e below P (T4.setTop (mkF m 28 #[.val (.ref a0_), .val (.ref a1_), .val (.ref a1_), .unset, .unset, .unset, .unset] [(.int s2)]))
    refine Go.by (fun _ => XS.aloadN X4.here hx rfl (hb hby d_jdk_17_method_72_code_28) rfl rfl) ?_
    show Go p e below P (T4.setTop (mkF m 29 #[.val (.ref a0_), .val (.ref a1_), .val (.ref a1_), .unset, .unset, .unset, .unset] [(.ref a1_), (.int s2)]))
    obtain ⟨T5, X5, e5, st5⟩ := getF X4 hx hZ hown (host := "") (Or.inl (tw_21 hw)) Via.refl e4 B1.2.2 (g := (mkF m 29 #[.val (.ref a0_), .val (.ref a1_), .val (.ref a1_), .unset, .unset, .unset, .unset] [(.ref a1_), (.int s2)])) rfl rfl (hb hby d_jdk_17_method_72_code_29)
    refine Go.by st5 ?_
    show Go p e below P (T5.setTop (mkF m 32 #[.val (.ref a0_), .val (.ref a1_), .val (.ref a1_), .unset, .unset, .unset, .unset] [(.int s2), (.int s2)]))
    refine Go.by (fun _ => XS.icmpYes X5.here hx rfl (pc0 := 32) (pc' := 37) rfl (hb hby d_jdk_17_method_72_code_32) rfl (XT.ii_eq_t rfl) (by decide) (by decide)) ?_
    show Go p e below P (T5.setTop (mkF m 37 #[.val (.ref a0_), .val (.ref a1_), .val (.ref a1_), .unset, .unset, .unset, .unset] []))
    refine Go.by (fun _ => XS.aloadN X5.here hx rfl (hb hby d_jdk_17_method_72_code_37) rfl rfl) ?_
    show Go p e below P (T5.setTop (mkF m 38 #[.val (.ref a0_), .val (.ref a1_), .val (.ref a1_), .unset, .unset, .unset, .unset] [(.ref a0_)]))
    obtain ⟨T6, X6, e6, st6⟩ := getF X5 hx hZ hown (host := "") (Or.inl (tw_25 hw)) Via.refl e5 B0.2.1 (g := (mkF m 38 #[.val (.ref a0_), .val (.ref a1_), .val (.ref a1_), .unset, .unset, .unset, .unset] [(.ref a0_)])) rfl rfl (hb hby d_jdk_17_method_72_code_38)
    refine Go.by st6 ?_
    show Go p e below P (T6.setTop (mkF m 41 #[.val (.ref a0_), .val (.ref a1_), .val (.ref a1_), .unset, .unset, .unset, .unset] [(.long x0)]))
    refine Go.by (fun _ => XS.lstoreN X6.here hx rfl (hb hby d_jdk_17_method_72_code_41) rfl (l' := #[.val (.ref a0_), .val (.ref a1_), .val (.ref a1_), .val (.long x0), .second, .unset, .unset]) rfl) ?_
    show Go p e below P (T6.setTop (mkF m 42 #[.val (.ref a0_), .val (.ref a1_), .val (.ref a1_), .val (.long x0), .second, .unset, .unset] []))
    refine Go.by (fun _ => XS.aloadN X6.here hx rfl (hb hby d_jdk_17_method_72_code_42) rfl rfl) ?_
    show Go p e below P (T6.setTop (mkF m 43 #[.val (.ref a0_), .val (.ref a1_), .val (.ref a1_), .val (.long x0), .second, .unset, .unset] [(.ref a1_)]))
    obtain ⟨T7, X7, e7, st7⟩ := getF X6 hx hZ hown (host := "") (Or.inl (tw_25 hw)) Via.refl e6 B1.2.1 (g := (mkF m 43 #[.val (.ref a0_), .val (.ref a1_), .val (.ref a1_), .val (.long x0), .second, .unset, .unset] [(.ref a1_)])) rfl rfl (hb hby d_jdk_17_method_72_code_43)
    refine Go.by st7 ?_
    show Go p e below P (T7.setTop (mkF m 46 #[.val (.ref a0_), .val (.ref a1_), .val (.ref a1_), .val (.long x0), .second, .unset, .unset] [(.long x0)]))
    refine Go.by (fun _ => XS.lstore X7.here hx rfl (hb hby d_jdk_17_method_72_code_46) rfl (l' := #[.val (.ref a0_), .val (.ref a1_), .val (.ref a1_), .val (.long x0), .second, .val (.long x0), .second]) rfl) ?_
    show Go p e below P (T7.setTop (mkF m 48 #[.val (.ref a0_), .val (.ref a1_), .val (.ref a1_), .val (.long x0), .second, .val (.long x0), .second] []))
    refine Go.by (fun _ => XS.lloadN X7.here hx rfl (hb hby d_jdk_17_method_72_code_48) rfl) ?_
    show Go p e below P (T7.setTop (mkF m 49 #[.val (.ref a0_), .val (.ref a1_), .val (.ref a1_), .val (.long x0), .second, .val (.long x0), .second] [(.long x0)]))
    refine Go.by (fun _ => Jvm.Stand.ldc2J X7 hx hown (mvT hZ (tw_7 hw)) rfl (hb hby d_jdk_17_method_72_code_49)) ?_
    show Go p e below P (T7.setTop (mkF m 52 #[.val (.ref a0_), .val (.ref a1_), .val (.ref a1_), .val (.long x0), .second, .val (.long x0), .second] [(.long (-9223372036854775808 : Int64)), (.long x0)]))
    refine Go.by (fun _ => XS.lcmp X7.here hx rfl (hb hby d_jdk_17_method_72_code_52) rfl) ?_
    show Go p e below P (T7.setTop (mkF m 53 #[.val (.ref a0_), .val (.ref a1_), .val (.ref a1_), .val (.long x0), .second, .val (.long x0), .second] [(.int (lcmpW x0 (-9223372036854775808 : Int64)))]))
    refine Go.by (fun _ => XS.ifNo X7.here hx rfl (hb hby d_jdk_17_method_72_code_53) rfl (XT.ll_eq_f hm0)) ?_
    show Go p e below P (T7.setTop (mkF m 56 #[.val (.ref a0_), .val (.ref a1_), .val (.ref a1_), .val (.long x0), .second, .val (.long x0), .second] []))
    refine Go.by (fun _ => XS.lload X7.here hx rfl (hb hby d_jdk_17_method_72_code_56) rfl) ?_
    show Go p e below P (T7.setTop (mkF m 58 #[.val (.ref a0_), .val (.ref a1_), .val (.ref a1_), .val (.long x0), .second, .val (.long x0), .second] [(.long x0)]))
    refine Go.by (fun _ => Jvm.Stand.ldc2J X7 hx hown (mvT hZ (tw_7 hw)) rfl (hb hby d_jdk_17_method_72_code_58)) ?_
    show Go p e below P (T7.setTop (mkF m 61 #[.val (.ref a0_), .val (.ref a1_), .val (.ref a1_), .val (.long x0), .second, .val (.long x0), .second] [(.long (-9223372036854775808 : Int64)), (.long x0)]))
    refine Go.by (fun _ => XS.lcmp X7.here hx rfl (hb hby d_jdk_17_method_72_code_61) rfl) ?_
    show Go p e below P (T7.setTop (mkF m 62 #[.val (.ref a0_), .val (.ref a1_), .val (.ref a1_), .val (.long x0), .second, .val (.long x0), .second] [(.int (lcmpW x0 (-9223372036854775808 : Int64)))]))
    refine Go.by (fun _ => XS.ifYes X7.here hx rfl (pc0 := 62) (pc' := 74) rfl (hb hby d_jdk_17_method_72_code_62) rfl (XT.ll_ne_t hm0) (by decide) (by decide)) ?_
    show Go p e below P (T7.setTop (mkF m 74 #[.val (.ref a0_), .val (.ref a1_), .val (.ref a1_), .val (.long x0), .second, .val (.long x0), .second] []))
    refine Go.by (fun _ => XS.lload X7.here hx rfl (hb hby d_jdk_17_method_72_code_74) rfl) ?_
    show Go p e below P (T7.setTop (mkF m 76 #[.val (.ref a0_), .val (.ref a1_), .val (.ref a1_), .val (.long x0), .second, .val (.long x0), .second] [(.long x0)]))
    refine Go.by (fun _ => XS.lloadN X7.here hx rfl (hb hby d_jdk_17_method_72_code_76) rfl) ?_
    show Go p e below P (T7.setTop (mkF m 77 #[.val (.ref a0_), .val (.ref a1_), .val (.ref a1_), .val (.long x0), .second, .val (.long x0), .second] [(.long x0), (.long x0)]))
    refine Go.by (fun _ => XS.lcmp X7.here hx rfl (hb hby d_jdk_17_method_72_code_77) rfl) ?_
    show Go p e below P (T7.setTop (mkF m 78 #[.val (.ref a0_), .val (.ref a1_), .val (.ref a1_), .val (.long x0), .second, .val (.long x0), .second] [(.int (lcmpW x0 x0))]))
    refine Go.by (fun _ => XS.ifNo X7.here hx rfl (hb hby d_jdk_17_method_72_code_78) rfl (XT.ll_ne_f rfl)) ?_
    show Go p e below P (T7.setTop (mkF m 81 #[.val (.ref a0_), .val (.ref a1_), .val (.ref a1_), .val (.long x0), .second, .val (.long x0), .second] []))
    refine Go.by (fun _ => XS.iconst X7.here hx rfl (hb hby d_jdk_17_method_72_code_81)) ?_
    show Go p e below P (T7.setTop (mkF m 82 #[.val (.ref a0_), .val (.ref a1_), .val (.ref a1_), .val (.long x0), .second, .val (.long x0), .second] [(.int (1 : Int32))]))
    refine Go.by (fun _ => XS.goto X7.here hx rfl (pc0 := 82) (pc' := 86) rfl (hb hby d_jdk_17_method_72_code_82) (by decide) (by decide)) ?_
    show Go p e below P (T7.setTop (mkF m 86 #[.val (.ref a0_), .val (.ref a1_), .val (.ref a1_), .val (.long x0), .second, .val (.long x0), .second] [(.int (1 : Int32))]))
    refine fin X7 (v := some (.int (1 : Int32))) (fun h => by rw [Bd.returns] at h; cases h) (by decide) (by decide) ?_ (fun fs hr => retOut X7 hx Bd.returns rfl (Or.inl ⟨rfl, Or.inr (Or.inl rfl), _, rfl⟩) (hb hby d_jdk_17_method_72_code_86) hr)
    show Q_equals Z a0_ a1_ x0 s2 h0 n0 _ T7.heap _
    rw [e7]
    exact ⟨rfl, N0, rfl⟩
def Q_law (Z : State) (p0 : Int32) (p1 : Int32) (p2 : Int32) (p3 : Int32) (aQ : Addr) (aN : Addr) (aZ : Addr) (aT : Addr) (clT : Cell) (aS : Addr) (clS : Cell) (h0 : Heap) (n0 : Nat) (v : Option Value) (h : Heap) (L : List Loc) : Prop := v = some (.int (1 : Int32)) ∧ Fr n0 L
theorem ef_law (m : MethodId) (p0 : Int32) (p1 : Int32) (p2 : Int32) (p3 : Int32) (aQ : Addr) (aN : Addr) (aZ : Addr) (aT : Addr) (clT : Cell) (aS : Addr) (clS : Cell) : entryFrame m #[(.int p0), (.int p1), (.int p2), (.int p3)] maxLocals = mkF m 0 #[.val (.int p0), .val (.int p1), .val (.int p2), .val (.int p3), .unset, .unset, .unset, .unset, .unset, .unset, .unset, .unset, .unset, .unset, .unset, .unset] [] := by first | (simp [entryFrame, mkF, argsToLocals, Value.category, maxLocals]; done) | rfl
set_option maxRecDepth 65536 in
set_option maxHeartbeats 40000000 in
theorem rm_law (l : Launch) (Z : State) (a0 : Array Value) (hw : ∀ d ∈ tables_1, d.before a0 Z = true) (ws : List Jvm.Cond) (p0 : Int32) (p1 : Int32) (p2 : Int32) (p3 : Int32) (aQ : Addr) (aN : Addr) (aZ : Addr) (aT : Addr) (clT : Cell) (aS : Addr) (clS : Cell) (h0 : Heap) (n0 : Nat) (Z0 : n0 ≤ h0.size) (O0 : Old Z n0 h0) (SQ : Sta Z Z.heap "com/example/frontmonth/frontmonth/Spread$Word" "QUOTED" "Lcom/example/frontmonth/frontmonth/Spread$Word;" (.ref aQ)) (SN : Sta Z Z.heap "com/example/frontmonth/frontmonth/Spread$Word" "NONE" "Lcom/example/frontmonth/frontmonth/Spread$Word;" (.ref aN)) (neNQ : aN ≠ aQ) (SZ : Sta Z Z.heap "java/math/BigDecimal" "ZERO" "Ljava/math/BigDecimal;" (.ref aZ)) (BZ : BD Z Z.heap aZ (0 : Int64) (0 : Int32)) (ST : Sta Z Z.heap "java/math/BigDecimal" "ZERO_THROUGH_TEN" "[Ljava/math/BigDecimal;" (.ref aT)) (BT : BDs Z aT clT 11 (fun i => Int64.ofNat i) (fun _ => 0)) (SS : Sta Z Z.heap "java/math/BigDecimal" "ZERO_SCALED_BY" "[Ljava/math/BigDecimal;" (.ref aS)) (BS : BDs Z aS clS 16 (fun _ => 0) (fun i => Int32.ofNat i)) :
    MetFree l x (head1 (Jvm.Cond.code x code maxLocals ret :: ws) room_1) (fun a U => a = #[(.int p0), (.int p1), (.int p2), (.int p3)] ∧ Z.Warmed39 U.vm ∧ U.heap = h0) (fun _ _ _ _ _ => True) (fun _ U o U' => ∃ v L, o = .returned v ∧ Q_law Z p0 p1 p2 p3 aQ aN aZ aT clT aS clS h0 n0 v U'.heap L ∧ FrameEnd U o U' L room_1.cells room_1.slots) := by
  refine MetFree.of_bodySF (plainFor_of_name pn_com_example_frontmonth_frontmonth_SpreadOfPinLaw) hisR ?_
  intro p e s m args below meth c s₁ Bd hml0 hP hK
  obtain ⟨rfl, hZ, hh⟩ := hP
  have hx := Bd.exec
  have hby := Bd.bytes
  have hml : c.maxLocals = 16 := hml0
  have hown : s.vm.findClass "com/example/frontmonth/frontmonth/SpreadOfPinLaw" = some m.cls := findClass_of_methodNamed Bd.named
  have hnm := (name_of_methodNamed Bd.named Bd.method).1
  have X0 : Stand p l e room_1 s m #[(.int p0), (.int p1), (.int p2), (.int p3)] below meth c s₁ [] 0 0 := Stand.of_body Bd
  have e0 : s₁.heap = h0 := by rw [← hh, Bd.state]; rfl
  have N0 := Fr.nil n0
  have hlk : meth.locks = false := Bd.notSynchronized
  obtain ⟨P, hP⟩ : ∃ P : Outcome → State → Prop, P = PQ s (Q_law Z p0 p1 p2 p3 aQ aN aZ aT clT aS clS h0 n0) room_1.cells room_1.slots := ⟨_, rfl⟩
  have fin : ∀ {T : State} {locs : List Loc} {k n : Nat} {v : Option Value} {S0 : State}, Stand p l e room_1 s m #[(.int p0), (.int p1), (.int p2), (.int p3)] below meth c T locs k n → (meth.sig.returnType = none → v = none) → k ≤ room_1.cells → n ≤ room_1.slots → Q_law Z p0 p1 p2 p3 aQ aN aZ aT clT aS clS h0 n0 v T.heap locs → (∀ fs, (∀ (f : JFrame) (acts : List Action), f.method = m → f.locked = none → f.entered = [] → (doReturn e (T.setTop f) acts v).1 = T.setFrames fs) → Steps p.tables e below S0 (T.setFrames fs)) → Go p e below P S0 := fun X hv hk hn hQ hst => hP ▸ Go.fin X hlk hv hk hn hQ hst
  suffices hgo : Go p e below P (s₁.setTop (mkF m 0 #[.val (.int p0), .val (.int p1), .val (.int p2), .val (.int p3), .unset, .unset, .unset, .unset, .unset, .unset, .unset, .unset, .unset, .unset, .unset, .unset] [])) by
    rw [hP] at hgo
    exact Go.by (fun t k => castTop (ef_law m p0 p1 p2 p3 aQ aN aZ aT clT aS clS) k) hgo
  show Go p e below P (s₁.setTop (mkF m 0 #[.val (.int p0), .val (.int p1), .val (.int p2), .val (.int p3), .unset, .unset, .unset, .unset, .unset, .unset, .unset, .unset, .unset, .unset, .unset, .unset] []))
  refine Go.by (fun _ => XS.iloadN X0.here hx rfl (hb hby at_0) rfl) ?_
  show Go p e below P (s₁.setTop (mkF m 1 #[.val (.int p0), .val (.int p1), .val (.int p2), .val (.int p3), .unset, .unset, .unset, .unset, .unset, .unset, .unset, .unset, .unset, .unset, .unset, .unset] [(.int p0)]))
  refine Go.by (fun _ => XS.iconst X0.here hx rfl (hb hby at_1)) ?_
  show Go p e below P (s₁.setTop (mkF m 2 #[.val (.int p0), .val (.int p1), .val (.int p2), .val (.int p3), .unset, .unset, .unset, .unset, .unset, .unset, .unset, .unset, .unset, .unset, .unset, .unset] [(.int (1 : Int32)), (.int p0)]))
  refine Go.by (fun _ => XS.iand X0.here hx rfl (hb hby at_2) rfl) ?_
  show Go p e below P (s₁.setTop (mkF m 3 #[.val (.int p0), .val (.int p1), .val (.int p2), .val (.int p3), .unset, .unset, .unset, .unset, .unset, .unset, .unset, .unset, .unset, .unset, .unset, .unset] [(.int (p0 &&& (1 : Int32)))]))
  by_cases hc3_1 : (p0 &&& (1 : Int32)) = (0 : Int32)
  · refine Go.by (fun _ => XS.ifYes X0.here hx rfl (pc0 := 3) (pc' := 10) rfl (hb hby at_3) rfl (XT.i0_eq_t hc3_1) (by decide) (by decide)) ?_
    show Go p e below P (s₁.setTop (mkF m 10 #[.val (.int p0), .val (.int p1), .val (.int p2), .val (.int p3), .unset, .unset, .unset, .unset, .unset, .unset, .unset, .unset, .unset, .unset, .unset, .unset] []))
    refine Go.by (fun _ => XS.iconst X0.here hx rfl (hb hby at_10)) ?_
    show Go p e below P (s₁.setTop (mkF m 11 #[.val (.int p0), .val (.int p1), .val (.int p2), .val (.int p3), .unset, .unset, .unset, .unset, .unset, .unset, .unset, .unset, .unset, .unset, .unset, .unset] [(.int (0 : Int32))]))
    refine Go.by (fun _ => XS.istore X0.here hx rfl (hb hby at_11) rfl (l' := #[.val (.int p0), .val (.int p1), .val (.int p2), .val (.int p3), .val (.int (0 : Int32)), .unset, .unset, .unset, .unset, .unset, .unset, .unset, .unset, .unset, .unset, .unset]) rfl) ?_
    show Go p e below P (s₁.setTop (mkF m 13 #[.val (.int p0), .val (.int p1), .val (.int p2), .val (.int p3), .val (.int (0 : Int32)), .unset, .unset, .unset, .unset, .unset, .unset, .unset, .unset, .unset, .unset, .unset] []))
    refine Go.by (fun _ => XS.iloadN X0.here hx rfl (hb hby at_13) rfl) ?_
    show Go p e below P (s₁.setTop (mkF m 14 #[.val (.int p0), .val (.int p1), .val (.int p2), .val (.int p3), .val (.int (0 : Int32)), .unset, .unset, .unset, .unset, .unset, .unset, .unset, .unset, .unset, .unset, .unset] [(.int p1)]))
    refine Go.by (fun _ => XS.i2l X0.here hx rfl (hb hby at_14) rfl) ?_
    show Go p e below P (s₁.setTop (mkF m 15 #[.val (.int p0), .val (.int p1), .val (.int p2), .val (.int p3), .val (.int (0 : Int32)), .unset, .unset, .unset, .unset, .unset, .unset, .unset, .unset, .unset, .unset, .unset] [(.long (p1.toInt64))]))
    refine Go.by (fun _ => XS.lstore X0.here hx rfl (hb hby at_15) rfl (l' := #[.val (.int p0), .val (.int p1), .val (.int p2), .val (.int p3), .val (.int (0 : Int32)), .val (.long (p1.toInt64)), .second, .unset, .unset, .unset, .unset, .unset, .unset, .unset, .unset, .unset]) rfl) ?_
    show Go p e below P (s₁.setTop (mkF m 17 #[.val (.int p0), .val (.int p1), .val (.int p2), .val (.int p3), .val (.int (0 : Int32)), .val (.long (p1.toInt64)), .second, .unset, .unset, .unset, .unset, .unset, .unset, .unset, .unset, .unset] []))
    refine Go.by (fun _ => XS.iloadN X0.here hx rfl (hb hby at_17) rfl) ?_
    show Go p e below P (s₁.setTop (mkF m 18 #[.val (.int p0), .val (.int p1), .val (.int p2), .val (.int p3), .val (.int (0 : Int32)), .val (.long (p1.toInt64)), .second, .unset, .unset, .unset, .unset, .unset, .unset, .unset, .unset, .unset] [(.int p2)]))
    refine Go.by (fun _ => XS.i2l X0.here hx rfl (hb hby at_18) rfl) ?_
    show Go p e below P (s₁.setTop (mkF m 19 #[.val (.int p0), .val (.int p1), .val (.int p2), .val (.int p3), .val (.int (0 : Int32)), .val (.long (p1.toInt64)), .second, .unset, .unset, .unset, .unset, .unset, .unset, .unset, .unset, .unset] [(.long (p2.toInt64))]))
    refine Go.by (fun _ => Jvm.Stand.ldc2J X0 hx hown (mvT hZ (tw_0 hw)) rfl (hb hby at_19)) ?_
    show Go p e below P (s₁.setTop (mkF m 22 #[.val (.int p0), .val (.int p1), .val (.int p2), .val (.int p3), .val (.int (0 : Int32)), .val (.long (p1.toInt64)), .second, .unset, .unset, .unset, .unset, .unset, .unset, .unset, .unset, .unset] [(.long (2147483647 : Int64)), (.long (p2.toInt64))]))
    refine Go.by (fun _ => XS.land X0.here hx rfl (hb hby at_22) rfl) ?_
    show Go p e below P (s₁.setTop (mkF m 23 #[.val (.int p0), .val (.int p1), .val (.int p2), .val (.int p3), .val (.int (0 : Int32)), .val (.long (p1.toInt64)), .second, .unset, .unset, .unset, .unset, .unset, .unset, .unset, .unset, .unset] [(.long ((p2.toInt64) &&& (2147483647 : Int64)))]))
    refine Go.by (fun _ => XS.lstore X0.here hx rfl (hb hby at_23) rfl (l' := #[.val (.int p0), .val (.int p1), .val (.int p2), .val (.int p3), .val (.int (0 : Int32)), .val (.long (p1.toInt64)), .second, .val (.long ((p2.toInt64) &&& (2147483647 : Int64))), .second, .unset, .unset, .unset, .unset, .unset, .unset, .unset]) rfl) ?_
    show Go p e below P (s₁.setTop (mkF m 25 #[.val (.int p0), .val (.int p1), .val (.int p2), .val (.int p3), .val (.int (0 : Int32)), .val (.long (p1.toInt64)), .second, .val (.long ((p2.toInt64) &&& (2147483647 : Int64))), .second, .unset, .unset, .unset, .unset, .unset, .unset, .unset] []))
    refine Go.by (fun _ => XS.iloadN X0.here hx rfl (hb hby at_25) rfl) ?_
    show Go p e below P (s₁.setTop (mkF m 26 #[.val (.int p0), .val (.int p1), .val (.int p2), .val (.int p3), .val (.int (0 : Int32)), .val (.long (p1.toInt64)), .second, .val (.long ((p2.toInt64) &&& (2147483647 : Int64))), .second, .unset, .unset, .unset, .unset, .unset, .unset, .unset] [(.int p3)]))
    refine Go.by (fun _ => XS.bipush X0.here hx rfl (hb hby at_26)) ?_
    show Go p e below P (s₁.setTop (mkF m 28 #[.val (.int p0), .val (.int p1), .val (.int p2), .val (.int p3), .val (.int (0 : Int32)), .val (.long (p1.toInt64)), .second, .val (.long ((p2.toInt64) &&& (2147483647 : Int64))), .second, .unset, .unset, .unset, .unset, .unset, .unset, .unset] [(.int (7 : Int32)), (.int p3)]))
    refine Go.by (fun _ => XS.iand X0.here hx rfl (hb hby at_28) rfl) ?_
    show Go p e below P (s₁.setTop (mkF m 29 #[.val (.int p0), .val (.int p1), .val (.int p2), .val (.int p3), .val (.int (0 : Int32)), .val (.long (p1.toInt64)), .second, .val (.long ((p2.toInt64) &&& (2147483647 : Int64))), .second, .unset, .unset, .unset, .unset, .unset, .unset, .unset] [(.int (p3 &&& (7 : Int32)))]))
    refine Go.by (fun _ => XS.istore X0.here hx rfl (hb hby at_29) rfl (l' := #[.val (.int p0), .val (.int p1), .val (.int p2), .val (.int p3), .val (.int (0 : Int32)), .val (.long (p1.toInt64)), .second, .val (.long ((p2.toInt64) &&& (2147483647 : Int64))), .second, .val (.int (p3 &&& (7 : Int32))), .unset, .unset, .unset, .unset, .unset, .unset]) rfl) ?_
    show Go p e below P (s₁.setTop (mkF m 31 #[.val (.int p0), .val (.int p1), .val (.int p2), .val (.int p3), .val (.int (0 : Int32)), .val (.long (p1.toInt64)), .second, .val (.long ((p2.toInt64) &&& (2147483647 : Int64))), .second, .val (.int (p3 &&& (7 : Int32))), .unset, .unset, .unset, .unset, .unset, .unset] []))
    refine Go.by (fun _ => XS.lload X0.here hx rfl (hb hby at_31) rfl) ?_
    show Go p e below P (s₁.setTop (mkF m 33 #[.val (.int p0), .val (.int p1), .val (.int p2), .val (.int p3), .val (.int (0 : Int32)), .val (.long (p1.toInt64)), .second, .val (.long ((p2.toInt64) &&& (2147483647 : Int64))), .second, .val (.int (p3 &&& (7 : Int32))), .unset, .unset, .unset, .unset, .unset, .unset] [(.long (p1.toInt64))]))
    refine Go.by (fun _ => XS.iload X0.here hx rfl (hb hby at_33) rfl) ?_
    show Go p e below P (s₁.setTop (mkF m 35 #[.val (.int p0), .val (.int p1), .val (.int p2), .val (.int p3), .val (.int (0 : Int32)), .val (.long (p1.toInt64)), .second, .val (.long ((p2.toInt64) &&& (2147483647 : Int64))), .second, .val (.int (p3 &&& (7 : Int32))), .unset, .unset, .unset, .unset, .unset, .unset] [(.int (p3 &&& (7 : Int32))), (.long (p1.toInt64))]))
    obtain ⟨_, _, ⟨T2, L2, k2, n2⟩, -, X2, ⟨Lc2, hQ2, l2, y2, z2⟩, st2⟩ := Jvm.LawKit.callS X0 hx (y := (⟨"java/math/BigDecimal", "valueOf", "(JI)Ljava/math/BigDecimal;"⟩ : MethodName)) hown (mvT hZ (tw_1 hw)) (mvT hZ (tw_2 hw)) (mvT hZ (tw_3 hw)) (mvT hZ (tw_4 hw)) (by decide) (backOf (W := 0) (rm_valueOfJI l Z a0 hw [] (p1.toInt64) (p3 &&& (7 : Int32)) aZ aT clT aS clS h0 n0 Z0 O0 SZ BZ ST BT SS BS (own_m1 p1) (own_sc p3).1 (own_sc p3).2) hZ (tw_4 hw) (tw_3 hw) (by decide) (by decide)) (g := (mkF m 35 #[.val (.int p0), .val (.int p1), .val (.int p2), .val (.int p3), .val (.int (0 : Int32)), .val (.long (p1.toInt64)), .second, .val (.long ((p2.toInt64) &&& (2147483647 : Int64))), .second, .val (.int (p3 &&& (7 : Int32))), .unset, .unset, .unset, .unset, .unset, .unset] [(.int (p3 &&& (7 : Int32))), (.long (p1.toInt64))])) rfl (by rw [hml]; rfl) (argsL := [(.long (p1.toInt64)), (.int (p3 &&& (7 : Int32)))]) (rest := []) (lenOf pd__JI_Ljava_math_BigDecimal_ rfl) rfl (by show 2 * 0 + _ ≤ _; exact Nat.le_of_eq rfl) (hb hby at_35) (fun _ _ => ⟨rfl, e0, (by decide : 0 + 1 ≤ _), (by decide : 0 + 5 ≤ _)⟩)
    dsimp only [Pt.U, Pt.locs, Pt.cells, Pt.slots] at X2 l2 y2 z2 st2 hQ2
    subst l2 y2 z2
    obtain ⟨b2, rfl, N2q, K2, B2⟩ := hQ2
    have N2 := Fr.app N0 N2q
    refine Go.by (fun t k => st2 t k) ?_
    have f2_0 : n0 ≤ T2.heap.size := (Nat.le_trans Z0 K2.1)
    have f2_1 : Keep h0 T2.heap [] := (Keep.trans (Keep.refl h0 []) K2 all0)
    have f2_2 : Old Z n0 T2.heap := (Old.keep O0 K2 all0)
    show Go p e below P (T2.setTop (mkF m 38 #[.val (.int p0), .val (.int p1), .val (.int p2), .val (.int p3), .val (.int (0 : Int32)), .val (.long (p1.toInt64)), .second, .val (.long ((p2.toInt64) &&& (2147483647 : Int64))), .second, .val (.int (p3 &&& (7 : Int32))), .unset, .unset, .unset, .unset, .unset, .unset] [(.ref b2)]))
    refine Go.by (fun _ => XS.astore X2.here hx rfl (hb hby at_38) rfl rfl (l' := #[.val (.int p0), .val (.int p1), .val (.int p2), .val (.int p3), .val (.int (0 : Int32)), .val (.long (p1.toInt64)), .second, .val (.long ((p2.toInt64) &&& (2147483647 : Int64))), .second, .val (.int (p3 &&& (7 : Int32))), .val (.ref b2), .unset, .unset, .unset, .unset, .unset]) rfl) ?_
    show Go p e below P (T2.setTop (mkF m 40 #[.val (.int p0), .val (.int p1), .val (.int p2), .val (.int p3), .val (.int (0 : Int32)), .val (.long (p1.toInt64)), .second, .val (.long ((p2.toInt64) &&& (2147483647 : Int64))), .second, .val (.int (p3 &&& (7 : Int32))), .val (.ref b2), .unset, .unset, .unset, .unset, .unset] []))
    refine Go.by (fun _ => XS.lload X2.here hx rfl (hb hby at_40) rfl) ?_
    show Go p e below P (T2.setTop (mkF m 42 #[.val (.int p0), .val (.int p1), .val (.int p2), .val (.int p3), .val (.int (0 : Int32)), .val (.long (p1.toInt64)), .second, .val (.long ((p2.toInt64) &&& (2147483647 : Int64))), .second, .val (.int (p3 &&& (7 : Int32))), .val (.ref b2), .unset, .unset, .unset, .unset, .unset] [(.long (p1.toInt64))]))
    refine Go.by (fun _ => XS.lload X2.here hx rfl (hb hby at_42) rfl) ?_
    show Go p e below P (T2.setTop (mkF m 44 #[.val (.int p0), .val (.int p1), .val (.int p2), .val (.int p3), .val (.int (0 : Int32)), .val (.long (p1.toInt64)), .second, .val (.long ((p2.toInt64) &&& (2147483647 : Int64))), .second, .val (.int (p3 &&& (7 : Int32))), .val (.ref b2), .unset, .unset, .unset, .unset, .unset] [(.long ((p2.toInt64) &&& (2147483647 : Int64))), (.long (p1.toInt64))]))
    refine Go.by (fun _ => XS.ladd X2.here hx rfl (hb hby at_44) rfl) ?_
    show Go p e below P (T2.setTop (mkF m 45 #[.val (.int p0), .val (.int p1), .val (.int p2), .val (.int p3), .val (.int (0 : Int32)), .val (.long (p1.toInt64)), .second, .val (.long ((p2.toInt64) &&& (2147483647 : Int64))), .second, .val (.int (p3 &&& (7 : Int32))), .val (.ref b2), .unset, .unset, .unset, .unset, .unset] [(.long ((p1.toInt64) + ((p2.toInt64) &&& (2147483647 : Int64))))]))
    refine Go.by (fun _ => XS.iload X2.here hx rfl (hb hby at_45) rfl) ?_
    show Go p e below P (T2.setTop (mkF m 47 #[.val (.int p0), .val (.int p1), .val (.int p2), .val (.int p3), .val (.int (0 : Int32)), .val (.long (p1.toInt64)), .second, .val (.long ((p2.toInt64) &&& (2147483647 : Int64))), .second, .val (.int (p3 &&& (7 : Int32))), .val (.ref b2), .unset, .unset, .unset, .unset, .unset] [(.int (p3 &&& (7 : Int32))), (.long ((p1.toInt64) + ((p2.toInt64) &&& (2147483647 : Int64))))]))
    obtain ⟨_, _, ⟨T3, L3, k3, n3⟩, -, X3, ⟨Lc3, hQ3, l3, y3, z3⟩, st3⟩ := Jvm.LawKit.callS X2 hx (y := (⟨"java/math/BigDecimal", "valueOf", "(JI)Ljava/math/BigDecimal;"⟩ : MethodName)) hown (mvT hZ (tw_1 hw)) (mvT hZ (tw_2 hw)) (mvT hZ (tw_3 hw)) (mvT hZ (tw_4 hw)) (by decide) (backOf (W := 0) (rm_valueOfJI l Z a0 hw [] ((p1.toInt64) + (p2.toInt64 &&& (2147483647 : Int64))) (p3 &&& (7 : Int32)) aZ aT clT aS clS T2.heap n0 f2_0 f2_2 SZ BZ ST BT SS BS (own_m2 p1 p2) (own_sc p3).1 (own_sc p3).2) hZ (tw_4 hw) (tw_3 hw) (by decide) (by decide)) (g := (mkF m 47 #[.val (.int p0), .val (.int p1), .val (.int p2), .val (.int p3), .val (.int (0 : Int32)), .val (.long (p1.toInt64)), .second, .val (.long ((p2.toInt64) &&& (2147483647 : Int64))), .second, .val (.int (p3 &&& (7 : Int32))), .val (.ref b2), .unset, .unset, .unset, .unset, .unset] [(.int (p3 &&& (7 : Int32))), (.long ((p1.toInt64) + ((p2.toInt64) &&& (2147483647 : Int64))))])) rfl (by rw [hml]; rfl) (argsL := [(.long ((p1.toInt64) + ((p2.toInt64) &&& (2147483647 : Int64)))), (.int (p3 &&& (7 : Int32)))]) (rest := []) (lenOf pd__JI_Ljava_math_BigDecimal_ rfl) rfl (by show 2 * 0 + _ ≤ _; exact Nat.le_of_eq rfl) (hb hby at_47) (fun _ _ => ⟨rfl, rfl, (by decide : 1 + 1 ≤ _), (by decide : 5 + 5 ≤ _)⟩)
    dsimp only [Pt.U, Pt.locs, Pt.cells, Pt.slots] at X3 l3 y3 z3 st3 hQ3
    subst l3 y3 z3
    obtain ⟨b3, rfl, N3q, K3, B3⟩ := hQ3
    have N3 := Fr.app N2 N3q
    refine Go.by (fun t k => st3 t k) ?_
    have f3_0 : n0 ≤ T3.heap.size := (Nat.le_trans f2_0 K3.1)
    have f3_1 : Keep h0 T3.heap [] := (Keep.trans f2_1 K3 all0)
    have f3_2 : Old Z n0 T3.heap := (Old.keep f2_2 K3 all0)
    have f3_3 : BD Z T3.heap b2 (p1.toInt64) (p3 &&& (7 : Int32)) := (BD.keep B2 K3 nin0)
    have f3_4 : Exa Z T3.heap b2 "java/math/BigDecimal" := (Exa.keep B2.1 K3)
    show Go p e below P (T3.setTop (mkF m 50 #[.val (.int p0), .val (.int p1), .val (.int p2), .val (.int p3), .val (.int (0 : Int32)), .val (.long (p1.toInt64)), .second, .val (.long ((p2.toInt64) &&& (2147483647 : Int64))), .second, .val (.int (p3 &&& (7 : Int32))), .val (.ref b2), .unset, .unset, .unset, .unset, .unset] [(.ref b3)]))
    refine Go.by (fun _ => XS.astore X3.here hx rfl (hb hby at_50) rfl rfl (l' := #[.val (.int p0), .val (.int p1), .val (.int p2), .val (.int p3), .val (.int (0 : Int32)), .val (.long (p1.toInt64)), .second, .val (.long ((p2.toInt64) &&& (2147483647 : Int64))), .second, .val (.int (p3 &&& (7 : Int32))), .val (.ref b2), .val (.ref b3), .unset, .unset, .unset, .unset]) rfl) ?_
    show Go p e below P (T3.setTop (mkF m 52 #[.val (.int p0), .val (.int p1), .val (.int p2), .val (.int p3), .val (.int (0 : Int32)), .val (.long (p1.toInt64)), .second, .val (.long ((p2.toInt64) &&& (2147483647 : Int64))), .second, .val (.int (p3 &&& (7 : Int32))), .val (.ref b2), .val (.ref b3), .unset, .unset, .unset, .unset] []))
    obtain ⟨T4, h4, X4, e4, E4, A4, D4, U4, st4⟩ := newO X3 hx hZ hown (tw_29 hw) (tw_30 hw) (tw_31 hw) rfl (g := (mkF m 52 #[.val (.int p0), .val (.int p1), .val (.int p2), .val (.int p3), .val (.int (0 : Int32)), .val (.long (p1.toInt64)), .second, .val (.long ((p2.toInt64) &&& (2147483647 : Int64))), .second, .val (.int (p3 &&& (7 : Int32))), .val (.ref b2), .val (.ref b3), .unset, .unset, .unset, .unset] [])) rfl (hb hby at_52) (by decide) (by decide)
    obtain ⟨b4, g4⟩ : ∃ z, z = T3.heap.size := ⟨_, rfl⟩
    rw [← g4] at A4 D4 U4 st4
    have g_b4 : n0 ≤ b4 := Nat.le_trans f3_0 (Nat.le_of_eq g4.symm)
    have sz_b4 : h0.size ≤ b4 := Nat.le_trans f3_1.1 (Nat.le_of_eq g4.symm)
    have ne_b2_b4 : b2 ≠ b4 := Nat.ne_of_lt (Nat.lt_of_lt_of_le (f3_3.lt) (Nat.le_of_eq g4.symm))
    have ne_b3_b4 : b3 ≠ b4 := Nat.ne_of_lt (Nat.lt_of_lt_of_le (B3.lt) (Nat.le_of_eq g4.symm))
    have f4_0 : n0 ≤ h4.size := (Nat.le_trans f3_0 E4.1)
    have f4_1 : Keep h0 h4 [] := (Keep.ext f3_1 E4)
    have f4_2 : Old Z n0 h4 := (Old.ext f3_2 E4)
    have f4_3 : BD Z h4 b2 (p1.toInt64) (p3 &&& (7 : Int32)) := (BD.ext f3_3 E4)
    have f4_4 : Exa Z h4 b2 "java/math/BigDecimal" := (Exa.ext E4 f3_4)
    have f4_5 : BD Z h4 b3 ((p1.toInt64) + (p2.toInt64 &&& (2147483647 : Int64))) (p3 &&& (7 : Int32)) := (BD.ext B3 E4)
    have f4_6 : Exa Z h4 b3 "java/math/BigDecimal" := (Exa.ext E4 B3.1)
    refine Go.by st4 ?_
    have F4_expiring : Fld Z h4 b4 "com/example/frontmonth/frontmonth/Quote" "expiring" "Lcom/example/frontmonth/frontmonth/BidAsk;" .null := D4 (Or.inr (tw_48 hw)) (ty := (.object "com/example/frontmonth/frontmonth/BidAsk")) (by decide)
    have F4_next : Fld Z h4 b4 "com/example/frontmonth/frontmonth/Quote" "next" "Lcom/example/frontmonth/frontmonth/BidAsk;" .null := D4 (Or.inr (tw_50 hw)) (ty := (.object "com/example/frontmonth/frontmonth/BidAsk")) (by decide)
    show Go p e below P (T4.setTop (mkF m 55 #[.val (.int p0), .val (.int p1), .val (.int p2), .val (.int p3), .val (.int (0 : Int32)), .val (.long (p1.toInt64)), .second, .val (.long ((p2.toInt64) &&& (2147483647 : Int64))), .second, .val (.int (p3 &&& (7 : Int32))), .val (.ref b2), .val (.ref b3), .unset, .unset, .unset, .unset] [(.ref b4)]))
    refine Go.by (fun _ => XS.dup X4.here hx rfl (hb hby at_55) rfl rfl) ?_
    show Go p e below P (T4.setTop (mkF m 56 #[.val (.int p0), .val (.int p1), .val (.int p2), .val (.int p3), .val (.int (0 : Int32)), .val (.long (p1.toInt64)), .second, .val (.long ((p2.toInt64) &&& (2147483647 : Int64))), .second, .val (.int (p3 &&& (7 : Int32))), .val (.ref b2), .val (.ref b3), .unset, .unset, .unset, .unset] [(.ref b4), (.ref b4)]))
    refine Go.by (fun _ => XS.aconstNull X4.here hx rfl (hb hby at_56)) ?_
    show Go p e below P (T4.setTop (mkF m 57 #[.val (.int p0), .val (.int p1), .val (.int p2), .val (.int p3), .val (.int (0 : Int32)), .val (.long (p1.toInt64)), .second, .val (.long ((p2.toInt64) &&& (2147483647 : Int64))), .second, .val (.int (p3 &&& (7 : Int32))), .val (.ref b2), .val (.ref b3), .unset, .unset, .unset, .unset] [.null, (.ref b4), (.ref b4)]))
    obtain ⟨T5, h5, X5, e5, E5, A5, D5, U5, st5⟩ := newO X4 hx hZ hown (tw_32 hw) (tw_33 hw) (tw_34 hw) e4 (g := (mkF m 57 #[.val (.int p0), .val (.int p1), .val (.int p2), .val (.int p3), .val (.int (0 : Int32)), .val (.long (p1.toInt64)), .second, .val (.long ((p2.toInt64) &&& (2147483647 : Int64))), .second, .val (.int (p3 &&& (7 : Int32))), .val (.ref b2), .val (.ref b3), .unset, .unset, .unset, .unset] [.null, (.ref b4), (.ref b4)])) rfl (hb hby at_57) (by decide) (by decide)
    obtain ⟨b5, g5⟩ : ∃ z, z = h4.size := ⟨_, rfl⟩
    rw [← g5] at A5 D5 U5 st5
    have g_b5 : n0 ≤ b5 := Nat.le_trans f4_0 (Nat.le_of_eq g5.symm)
    have sz_b5 : h0.size ≤ b5 := Nat.le_trans f4_1.1 (Nat.le_of_eq g5.symm)
    have ne_b2_b5 : b2 ≠ b5 := Nat.ne_of_lt (Nat.lt_of_lt_of_le (f4_3.lt) (Nat.le_of_eq g5.symm))
    have ne_b3_b5 : b3 ≠ b5 := Nat.ne_of_lt (Nat.lt_of_lt_of_le (f4_5.lt) (Nat.le_of_eq g5.symm))
    have ne_b4_b5 : b4 ≠ b5 := Nat.ne_of_lt (Nat.lt_of_lt_of_le (A4.lt) (Nat.le_of_eq g5.symm))
    have f5_0 : n0 ≤ h5.size := (Nat.le_trans f4_0 E5.1)
    have f5_1 : Keep h0 h5 [] := (Keep.ext f4_1 E5)
    have f5_2 : Old Z n0 h5 := (Old.ext f4_2 E5)
    have f5_3 : BD Z h5 b2 (p1.toInt64) (p3 &&& (7 : Int32)) := (BD.ext f4_3 E5)
    have f5_4 : Exa Z h5 b2 "java/math/BigDecimal" := (Exa.ext E5 f4_4)
    have f5_5 : BD Z h5 b3 ((p1.toInt64) + (p2.toInt64 &&& (2147483647 : Int64))) (p3 &&& (7 : Int32)) := (BD.ext f4_5 E5)
    have f5_6 : Exa Z h5 b3 "java/math/BigDecimal" := (Exa.ext E5 f4_6)
    have f5_7 : Exa Z h5 b4 "com/example/frontmonth/frontmonth/Quote" := (Exa.ext E5 A4)
    have f5_8 : Fld Z h5 b4 "com/example/frontmonth/frontmonth/Quote" "expiring" "Lcom/example/frontmonth/frontmonth/BidAsk;" .null := (Fld.ext E5 F4_expiring)
    have f5_9 : Fld Z h5 b4 "com/example/frontmonth/frontmonth/Quote" "next" "Lcom/example/frontmonth/frontmonth/BidAsk;" .null := (Fld.ext E5 F4_next)
    refine Go.by st5 ?_
    have F5_bid : Fld Z h5 b5 "com/example/frontmonth/frontmonth/BidAsk" "bid" "Ljava/math/BigDecimal;" .null := D5 (Or.inr (tw_40 hw)) (ty := (.object "java/math/BigDecimal")) (by decide)
    have F5_ask : Fld Z h5 b5 "com/example/frontmonth/frontmonth/BidAsk" "ask" "Ljava/math/BigDecimal;" .null := D5 (Or.inr (tw_42 hw)) (ty := (.object "java/math/BigDecimal")) (by decide)
    show Go p e below P (T5.setTop (mkF m 60 #[.val (.int p0), .val (.int p1), .val (.int p2), .val (.int p3), .val (.int (0 : Int32)), .val (.long (p1.toInt64)), .second, .val (.long ((p2.toInt64) &&& (2147483647 : Int64))), .second, .val (.int (p3 &&& (7 : Int32))), .val (.ref b2), .val (.ref b3), .unset, .unset, .unset, .unset] [(.ref b5), .null, (.ref b4), (.ref b4)]))
    refine Go.by (fun _ => XS.dup X5.here hx rfl (hb hby at_60) rfl rfl) ?_
    show Go p e below P (T5.setTop (mkF m 61 #[.val (.int p0), .val (.int p1), .val (.int p2), .val (.int p3), .val (.int (0 : Int32)), .val (.long (p1.toInt64)), .second, .val (.long ((p2.toInt64) &&& (2147483647 : Int64))), .second, .val (.int (p3 &&& (7 : Int32))), .val (.ref b2), .val (.ref b3), .unset, .unset, .unset, .unset] [(.ref b5), (.ref b5), .null, (.ref b4), (.ref b4)]))
    refine Go.by (fun _ => XS.aload X5.here hx rfl (hb hby at_61) rfl rfl) ?_
    show Go p e below P (T5.setTop (mkF m 63 #[.val (.int p0), .val (.int p1), .val (.int p2), .val (.int p3), .val (.int (0 : Int32)), .val (.long (p1.toInt64)), .second, .val (.long ((p2.toInt64) &&& (2147483647 : Int64))), .second, .val (.int (p3 &&& (7 : Int32))), .val (.ref b2), .val (.ref b3), .unset, .unset, .unset, .unset] [(.ref b2), (.ref b5), (.ref b5), .null, (.ref b4), (.ref b4)]))
    refine Go.by (fun _ => XS.aload X5.here hx rfl (hb hby at_63) rfl rfl) ?_
    show Go p e below P (T5.setTop (mkF m 65 #[.val (.int p0), .val (.int p1), .val (.int p2), .val (.int p3), .val (.int (0 : Int32)), .val (.long (p1.toInt64)), .second, .val (.long ((p2.toInt64) &&& (2147483647 : Int64))), .second, .val (.int (p3 &&& (7 : Int32))), .val (.ref b2), .val (.ref b3), .unset, .unset, .unset, .unset] [(.ref b3), (.ref b2), (.ref b5), (.ref b5), .null, (.ref b4), (.ref b4)]))
    obtain ⟨_, _, ⟨T6, L6, k6, n6⟩, -, X6, ⟨Lc6, hQ6, l6, y6, z6⟩, st6⟩ := X5.specialBack hx (y := (⟨"com/example/frontmonth/frontmonth/BidAsk", "<init>", "(Ljava/math/BigDecimal;Ljava/math/BigDecimal;)V"⟩ : MethodName)) rfl hown (mvT hZ (tw_35 hw)) (mvT hZ (tw_36 hw)) (mvT hZ (tw_37 hw)) (by decide) (backOf (W := 4) (rm_baInit l Z a0 hw [] b5 b2 b3 h5 n0 f5_0 A5 g_b5 F5_bid F5_ask) hZ (tw_37 hw) (tw_34 hw) (by decide) (by decide)) (g := (mkF m 65 #[.val (.int p0), .val (.int p1), .val (.int p2), .val (.int p3), .val (.int (0 : Int32)), .val (.long (p1.toInt64)), .second, .val (.long ((p2.toInt64) &&& (2147483647 : Int64))), .second, .val (.int (p3 &&& (7 : Int32))), .val (.ref b2), .val (.ref b3), .unset, .unset, .unset, .unset] [(.ref b3), (.ref b2), (.ref b5), (.ref b5), .null, (.ref b4), (.ref b4)])) rfl (by rw [hml]; rfl) (Steps.refl _) (a := b5) (argsL := [(.ref b2), (.ref b3)]) (rest := [(.ref b5), .null, (.ref b4), (.ref b4)]) (lenOf pd__Ljava_math_BigDecimal_Ljava_math_BigDecimal__V rfl) rfl (by show 2 * 0 + _ ≤ _; exact Nat.le_of_eq rfl) (hb hby at_65) (fun _ _ => ⟨rfl, e5, (by decide : 4 + 0 ≤ _), (by decide : 14 + 0 ≤ _)⟩)
    dsimp only [Pt.U, Pt.locs, Pt.cells, Pt.slots] at X6 l6 y6 z6 st6 hQ6
    subst l6 y6 z6
    obtain ⟨rfl, N6q, K6, G6_0, G6_1⟩ := hQ6
    have N6 := Fr.app N3 N6q
    refine Go.by (fun t k => st6.trans k) ?_
    have f6_0 : n0 ≤ T6.heap.size := (Nat.le_trans f5_0 K6.1)
    have f6_1 : Keep h0 T6.heap [] := (Keep.trans f5_1 K6 (allS (Or.inr sz_b5) all0))
    have f6_2 : Old Z n0 T6.heap := (Old.keep f5_2 K6 (allS g_b5 all0))
    have f6_3 : BD Z T6.heap b2 (p1.toInt64) (p3 &&& (7 : Int32)) := (BD.keep f5_3 K6 (ninS ne_b2_b5 nin0))
    have f6_4 : Exa Z T6.heap b2 "java/math/BigDecimal" := (Exa.keep f5_4 K6)
    have f6_5 : BD Z T6.heap b3 ((p1.toInt64) + (p2.toInt64 &&& (2147483647 : Int64))) (p3 &&& (7 : Int32)) := (BD.keep f5_5 K6 (ninS ne_b3_b5 nin0))
    have f6_6 : Exa Z T6.heap b3 "java/math/BigDecimal" := (Exa.keep f5_6 K6)
    have f6_7 : Exa Z T6.heap b4 "com/example/frontmonth/frontmonth/Quote" := (Exa.keep f5_7 K6)
    have f6_8 : Fld Z T6.heap b4 "com/example/frontmonth/frontmonth/Quote" "expiring" "Lcom/example/frontmonth/frontmonth/BidAsk;" .null := (Fld.keep f5_8 K6 (ninS ne_b4_b5 nin0))
    have f6_9 : Fld Z T6.heap b4 "com/example/frontmonth/frontmonth/Quote" "next" "Lcom/example/frontmonth/frontmonth/BidAsk;" .null := (Fld.keep f5_9 K6 (ninS ne_b4_b5 nin0))
    have f6_10 : Exa Z T6.heap b5 "com/example/frontmonth/frontmonth/BidAsk" := (Exa.keep A5 K6)
    show Go p e below P (T6.setTop (mkF m 68 #[.val (.int p0), .val (.int p1), .val (.int p2), .val (.int p3), .val (.int (0 : Int32)), .val (.long (p1.toInt64)), .second, .val (.long ((p2.toInt64) &&& (2147483647 : Int64))), .second, .val (.int (p3 &&& (7 : Int32))), .val (.ref b2), .val (.ref b3), .unset, .unset, .unset, .unset] [(.ref b5), .null, (.ref b4), (.ref b4)]))
    obtain ⟨_, _, ⟨T7, L7, k7, n7⟩, -, X7, ⟨Lc7, hQ7, l7, y7, z7⟩, st7⟩ := X6.specialBack hx (y := (⟨"com/example/frontmonth/frontmonth/Quote", "<init>", "(Lcom/example/frontmonth/frontmonth/BidAsk;Lcom/example/frontmonth/frontmonth/BidAsk;)V"⟩ : MethodName)) rfl hown (mvT hZ (tw_43 hw)) (mvT hZ (tw_44 hw)) (mvT hZ (tw_45 hw)) (by decide) (backOf (W := 1) (rm_qtInit l Z a0 hw [] b4 b5 T6.heap n0 f6_0 f6_7 g_b4 f6_8 f6_9) hZ (tw_45 hw) (tw_31 hw) (by decide) (by decide)) (g := (mkF m 68 #[.val (.int p0), .val (.int p1), .val (.int p2), .val (.int p3), .val (.int (0 : Int32)), .val (.long (p1.toInt64)), .second, .val (.long ((p2.toInt64) &&& (2147483647 : Int64))), .second, .val (.int (p3 &&& (7 : Int32))), .val (.ref b2), .val (.ref b3), .unset, .unset, .unset, .unset] [(.ref b5), .null, (.ref b4), (.ref b4)])) rfl (by rw [hml]; rfl) (Steps.refl _) (a := b4) (argsL := [.null, (.ref b5)]) (rest := [(.ref b4)]) (lenOf pd__Lcom_example_frontmonth_frontmonth_BidAsk_Lcom_example_frontmonth_frontmonth_BidAsk__V rfl) rfl (by show 2 * 0 + _ ≤ _; exact Nat.le_of_eq rfl) (hb hby at_68) (fun _ _ => ⟨rfl, rfl, (by decide : 4 + 0 ≤ _), (by decide : 14 + 0 ≤ _)⟩)
    dsimp only [Pt.U, Pt.locs, Pt.cells, Pt.slots] at X7 l7 y7 z7 st7 hQ7
    subst l7 y7 z7
    obtain ⟨rfl, N7q, K7, G7_0, G7_1⟩ := hQ7
    have N7 := Fr.app N6 N7q
    refine Go.by (fun t k => st7.trans k) ?_
    have f7_0 : n0 ≤ T7.heap.size := (Nat.le_trans f6_0 K7.1)
    have f7_1 : Keep h0 T7.heap [] := (Keep.trans f6_1 K7 (allS (Or.inr sz_b4) all0))
    have f7_2 : Old Z n0 T7.heap := (Old.keep f6_2 K7 (allS g_b4 all0))
    have f7_3 : BD Z T7.heap b2 (p1.toInt64) (p3 &&& (7 : Int32)) := (BD.keep f6_3 K7 (ninS ne_b2_b4 nin0))
    have f7_4 : Exa Z T7.heap b2 "java/math/BigDecimal" := (Exa.keep f6_4 K7)
    have f7_5 : BD Z T7.heap b3 ((p1.toInt64) + (p2.toInt64 &&& (2147483647 : Int64))) (p3 &&& (7 : Int32)) := (BD.keep f6_5 K7 (ninS ne_b3_b4 nin0))
    have f7_6 : Exa Z T7.heap b3 "java/math/BigDecimal" := (Exa.keep f6_6 K7)
    have f7_7 : Exa Z T7.heap b4 "com/example/frontmonth/frontmonth/Quote" := (Exa.keep f6_7 K7)
    have f7_8 : Exa Z T7.heap b5 "com/example/frontmonth/frontmonth/BidAsk" := (Exa.keep f6_10 K7)
    have f7_9 : Fld Z T7.heap b5 "com/example/frontmonth/frontmonth/BidAsk" "bid" "Ljava/math/BigDecimal;" (.ref b2) := (Fld.keep G6_0 K7 (ninS (Ne.symm ne_b4_b5) nin0))
    have f7_10 : Fld Z T7.heap b5 "com/example/frontmonth/frontmonth/BidAsk" "ask" "Ljava/math/BigDecimal;" (.ref b3) := (Fld.keep G6_1 K7 (ninS (Ne.symm ne_b4_b5) nin0))
    show Go p e below P (T7.setTop (mkF m 71 #[.val (.int p0), .val (.int p1), .val (.int p2), .val (.int p3), .val (.int (0 : Int32)), .val (.long (p1.toInt64)), .second, .val (.long ((p2.toInt64) &&& (2147483647 : Int64))), .second, .val (.int (p3 &&& (7 : Int32))), .val (.ref b2), .val (.ref b3), .unset, .unset, .unset, .unset] [(.ref b4)]))
    refine Go.by (fun _ => XS.astore X7.here hx rfl (hb hby at_71) rfl rfl (l' := #[.val (.int p0), .val (.int p1), .val (.int p2), .val (.int p3), .val (.int (0 : Int32)), .val (.long (p1.toInt64)), .second, .val (.long ((p2.toInt64) &&& (2147483647 : Int64))), .second, .val (.int (p3 &&& (7 : Int32))), .val (.ref b2), .val (.ref b3), .val (.ref b4), .unset, .unset, .unset]) rfl) ?_
    show Go p e below P (T7.setTop (mkF m 73 #[.val (.int p0), .val (.int p1), .val (.int p2), .val (.int p3), .val (.int (0 : Int32)), .val (.long (p1.toInt64)), .second, .val (.long ((p2.toInt64) &&& (2147483647 : Int64))), .second, .val (.int (p3 &&& (7 : Int32))), .val (.ref b2), .val (.ref b3), .val (.ref b4), .unset, .unset, .unset] []))
    refine Go.by (fun _ => XS.iload X7.here hx rfl (hb hby at_73) rfl) ?_
    show Go p e below P (T7.setTop (mkF m 75 #[.val (.int p0), .val (.int p1), .val (.int p2), .val (.int p3), .val (.int (0 : Int32)), .val (.long (p1.toInt64)), .second, .val (.long ((p2.toInt64) &&& (2147483647 : Int64))), .second, .val (.int (p3 &&& (7 : Int32))), .val (.ref b2), .val (.ref b3), .val (.ref b4), .unset, .unset, .unset] [(.int (0 : Int32))]))
    refine Go.by (fun _ => XS.ifYes X7.here hx rfl (pc0 := 75) (pc' := 84) rfl (hb hby at_75) rfl (XT.i0_eq_t (by decide : (0 : Int32) = (0 : Int32))) (by decide) (by decide)) ?_
    show Go p e below P (T7.setTop (mkF m 84 #[.val (.int p0), .val (.int p1), .val (.int p2), .val (.int p3), .val (.int (0 : Int32)), .val (.long (p1.toInt64)), .second, .val (.long ((p2.toInt64) &&& (2147483647 : Int64))), .second, .val (.int (p3 &&& (7 : Int32))), .val (.ref b2), .val (.ref b3), .val (.ref b4), .unset, .unset, .unset] []))
    obtain ⟨T8, X8, e8, st8⟩ := getS2 X7 hx hZ hown (host := "") (Or.inl (tw_51 hw)) Via.refl rfl (SN.ext f7_2.2) (g := (mkF m 84 #[.val (.int p0), .val (.int p1), .val (.int p2), .val (.int p3), .val (.int (0 : Int32)), .val (.long (p1.toInt64)), .second, .val (.long ((p2.toInt64) &&& (2147483647 : Int64))), .second, .val (.int (p3 &&& (7 : Int32))), .val (.ref b2), .val (.ref b3), .val (.ref b4), .unset, .unset, .unset] [])) rfl (hb hby at_84)
    refine Go.by st8 ?_
    show Go p e below P (T8.setTop (mkF m 87 #[.val (.int p0), .val (.int p1), .val (.int p2), .val (.int p3), .val (.int (0 : Int32)), .val (.long (p1.toInt64)), .second, .val (.long ((p2.toInt64) &&& (2147483647 : Int64))), .second, .val (.int (p3 &&& (7 : Int32))), .val (.ref b2), .val (.ref b3), .val (.ref b4), .unset, .unset, .unset] [(.ref aN)]))
    obtain ⟨_, _, ⟨T9, L9, k9, n9⟩, -, X9, ⟨Lc9, hQ9, l9, y9, z9⟩, st9⟩ := Jvm.LawKit.callS X8 hx (y := (⟨"com/example/frontmonth/frontmonth/Spread", "of", "(Lcom/example/frontmonth/frontmonth/Spread$Word;)Lcom/example/frontmonth/frontmonth/Spread;"⟩ : MethodName)) hown (mvT hZ (tw_54 hw)) (mvT hZ (tw_55 hw)) (mvT hZ (tw_56 hw)) (mvT hZ (tw_57 hw)) (by decide) (backOf (W := 0) (rm_ofN l Z a0 hw [] aQ aN aZ aT clT aS clS T7.heap n0 f7_0 f7_2 SQ neNQ SZ BZ ST BT SS BS) hZ (tw_57 hw) (tw_56 hw) (by decide) (by decide)) (g := (mkF m 87 #[.val (.int p0), .val (.int p1), .val (.int p2), .val (.int p3), .val (.int (0 : Int32)), .val (.long (p1.toInt64)), .second, .val (.long ((p2.toInt64) &&& (2147483647 : Int64))), .second, .val (.int (p3 &&& (7 : Int32))), .val (.ref b2), .val (.ref b3), .val (.ref b4), .unset, .unset, .unset] [(.ref aN)])) rfl (by rw [hml]; rfl) (argsL := [(.ref aN)]) (rest := []) (lenOf pd__Lcom_example_frontmonth_frontmonth_Spread_Word__Lcom_example_frontmonth_frontmonth_Spread_ rfl) rfl (by show 2 * 0 + _ ≤ _; exact Nat.le_of_eq rfl) (hb hby at_87) (fun _ _ => ⟨rfl, e8, (by decide : 4 + 1 ≤ _), (by decide : 14 + 1 ≤ _)⟩)
    dsimp only [Pt.U, Pt.locs, Pt.cells, Pt.slots] at X9 l9 y9 z9 st9 hQ9
    subst l9 y9 z9
    obtain ⟨b9, rfl, N9q, K9, z9, A9, G9⟩ := hQ9
    have N9 := Fr.app N7 N9q
    refine Go.by (fun t k => st9 t k) ?_
    have f9_0 : n0 ≤ T9.heap.size := (Nat.le_trans f7_0 K9.1)
    have f9_1 : Keep h0 T9.heap [] := (Keep.trans f7_1 K9 all0)
    have f9_2 : Old Z n0 T9.heap := (Old.keep f7_2 K9 all0)
    have f9_3 : BD Z T9.heap b2 (p1.toInt64) (p3 &&& (7 : Int32)) := (BD.keep f7_3 K9 nin0)
    have f9_4 : Exa Z T9.heap b2 "java/math/BigDecimal" := (Exa.keep f7_4 K9)
    have f9_5 : BD Z T9.heap b3 ((p1.toInt64) + (p2.toInt64 &&& (2147483647 : Int64))) (p3 &&& (7 : Int32)) := (BD.keep f7_5 K9 nin0)
    have f9_6 : Exa Z T9.heap b3 "java/math/BigDecimal" := (Exa.keep f7_6 K9)
    have f9_7 : Exa Z T9.heap b4 "com/example/frontmonth/frontmonth/Quote" := (Exa.keep f7_7 K9)
    have f9_8 : Exa Z T9.heap b5 "com/example/frontmonth/frontmonth/BidAsk" := (Exa.keep f7_8 K9)
    have f9_9 : Fld Z T9.heap b5 "com/example/frontmonth/frontmonth/BidAsk" "bid" "Ljava/math/BigDecimal;" (.ref b2) := (Fld.keep f7_9 K9 nin0)
    have f9_10 : Fld Z T9.heap b5 "com/example/frontmonth/frontmonth/BidAsk" "ask" "Ljava/math/BigDecimal;" (.ref b3) := (Fld.keep f7_10 K9 nin0)
    have f9_11 : Fld Z T9.heap b4 "com/example/frontmonth/frontmonth/Quote" "expiring" "Lcom/example/frontmonth/frontmonth/BidAsk;" .null := (Fld.keep G7_0 K9 nin0)
    have f9_12 : Fld Z T9.heap b4 "com/example/frontmonth/frontmonth/Quote" "next" "Lcom/example/frontmonth/frontmonth/BidAsk;" (.ref b5) := (Fld.keep G7_1 K9 nin0)
    have g_b9 : n0 ≤ b9 := Nat.le_trans f7_0 z9
    have sz_b9 : h0.size ≤ b9 := Nat.le_trans f7_1.1 z9
    show Go p e below P (T9.setTop (mkF m 90 #[.val (.int p0), .val (.int p1), .val (.int p2), .val (.int p3), .val (.int (0 : Int32)), .val (.long (p1.toInt64)), .second, .val (.long ((p2.toInt64) &&& (2147483647 : Int64))), .second, .val (.int (p3 &&& (7 : Int32))), .val (.ref b2), .val (.ref b3), .val (.ref b4), .unset, .unset, .unset] [(.ref b9)]))
    refine Go.by (fun _ => XS.astore X9.here hx rfl (hb hby at_90) rfl rfl (l' := #[.val (.int p0), .val (.int p1), .val (.int p2), .val (.int p3), .val (.int (0 : Int32)), .val (.long (p1.toInt64)), .second, .val (.long ((p2.toInt64) &&& (2147483647 : Int64))), .second, .val (.int (p3 &&& (7 : Int32))), .val (.ref b2), .val (.ref b3), .val (.ref b4), .val (.ref b9), .unset, .unset]) rfl) ?_
    show Go p e below P (T9.setTop (mkF m 92 #[.val (.int p0), .val (.int p1), .val (.int p2), .val (.int p3), .val (.int (0 : Int32)), .val (.long (p1.toInt64)), .second, .val (.long ((p2.toInt64) &&& (2147483647 : Int64))), .second, .val (.int (p3 &&& (7 : Int32))), .val (.ref b2), .val (.ref b3), .val (.ref b4), .val (.ref b9), .unset, .unset] []))
    refine Go.by (fun _ => XS.aload X9.here hx rfl (hb hby at_92) rfl rfl) ?_
    show Go p e below P (T9.setTop (mkF m 94 #[.val (.int p0), .val (.int p1), .val (.int p2), .val (.int p3), .val (.int (0 : Int32)), .val (.long (p1.toInt64)), .second, .val (.long ((p2.toInt64) &&& (2147483647 : Int64))), .second, .val (.int (p3 &&& (7 : Int32))), .val (.ref b2), .val (.ref b3), .val (.ref b4), .val (.ref b9), .unset, .unset] [(.ref b9)]))
    refine Go.by (fun _ => XS.aload X9.here hx rfl (hb hby at_94) rfl rfl) ?_
    show Go p e below P (T9.setTop (mkF m 96 #[.val (.int p0), .val (.int p1), .val (.int p2), .val (.int p3), .val (.int (0 : Int32)), .val (.long (p1.toInt64)), .second, .val (.long ((p2.toInt64) &&& (2147483647 : Int64))), .second, .val (.int (p3 &&& (7 : Int32))), .val (.ref b2), .val (.ref b3), .val (.ref b4), .val (.ref b9), .unset, .unset] [(.ref b4), (.ref b9)]))
    obtain ⟨cq10, kq10, q10a, q10b, q10c⟩ := isOf hZ rfl A9
    obtain ⟨_, _, ⟨T10, L10, k10, n10⟩, -, X10, ⟨Lc10, hQ10, l10, y10, z10⟩, st10⟩ := X9.virtualBack hx (y := (⟨"com/example/frontmonth/frontmonth/Spread", "perUnit", "(Lcom/example/frontmonth/frontmonth/Quote;)Ljava/math/BigDecimal;"⟩ : MethodName)) (z := (⟨"com/example/frontmonth/frontmonth/Spread", "perUnit", "(Lcom/example/frontmonth/frontmonth/Quote;)Ljava/math/BigDecimal;"⟩ : MethodName)) hown (mvT hZ (tw_69 hw)) (mvT hZ (tw_70 hw)) (notFace_of_selects (args := #[]) (mvT hZ (tw_72 hw))) (mvT hZ (tw_72 hw)) (mvT hZ (tw_71 hw)) (by decide) (backOf (W := 0) (rm_perUnitZ l Z a0 hw [] b9 b4 aZ T9.heap n0 f9_0 G9) hZ (tw_73 hw) (tw_56 hw) (by decide) (by decide)) q10a q10c (g := (mkF m 96 #[.val (.int p0), .val (.int p1), .val (.int p2), .val (.int p3), .val (.int (0 : Int32)), .val (.long (p1.toInt64)), .second, .val (.long ((p2.toInt64) &&& (2147483647 : Int64))), .second, .val (.int (p3 &&& (7 : Int32))), .val (.ref b2), .val (.ref b3), .val (.ref b4), .val (.ref b9), .unset, .unset] [(.ref b4), (.ref b9)])) rfl (by rw [hml]; rfl) (Steps.refl _) (argsL := [(.ref b4)]) (rest := []) (lenOf pd__Lcom_example_frontmonth_frontmonth_Quote__Ljava_math_BigDecimal_ rfl) rfl (by show 2 * 0 + _ ≤ _; exact Nat.le_of_eq rfl) (hb hby at_96) (fun _ _ => ⟨rfl, rfl, (by decide : 5 + 0 ≤ _), (by decide : 15 + 0 ≤ _)⟩)
    dsimp only [Pt.U, Pt.locs, Pt.cells, Pt.slots] at X10 l10 y10 z10 st10 hQ10
    subst l10 y10 z10
    obtain ⟨rfl, N10q, q10⟩ := hQ10
    have N10 := Fr.app N9 N10q
    refine Go.by (fun t k => st10.trans k) ?_
    show Go p e below P (T10.setTop (mkF m 99 #[.val (.int p0), .val (.int p1), .val (.int p2), .val (.int p3), .val (.int (0 : Int32)), .val (.long (p1.toInt64)), .second, .val (.long ((p2.toInt64) &&& (2147483647 : Int64))), .second, .val (.int (p3 &&& (7 : Int32))), .val (.ref b2), .val (.ref b3), .val (.ref b4), .val (.ref b9), .unset, .unset] [(.ref aZ)]))
    refine Go.by (fun _ => XS.astore X10.here hx rfl (hb hby at_99) rfl rfl (l' := #[.val (.int p0), .val (.int p1), .val (.int p2), .val (.int p3), .val (.int (0 : Int32)), .val (.long (p1.toInt64)), .second, .val (.long ((p2.toInt64) &&& (2147483647 : Int64))), .second, .val (.int (p3 &&& (7 : Int32))), .val (.ref b2), .val (.ref b3), .val (.ref b4), .val (.ref b9), .val (.ref aZ), .unset]) rfl) ?_
    show Go p e below P (T10.setTop (mkF m 101 #[.val (.int p0), .val (.int p1), .val (.int p2), .val (.int p3), .val (.int (0 : Int32)), .val (.long (p1.toInt64)), .second, .val (.long ((p2.toInt64) &&& (2147483647 : Int64))), .second, .val (.int (p3 &&& (7 : Int32))), .val (.ref b2), .val (.ref b3), .val (.ref b4), .val (.ref b9), .val (.ref aZ), .unset] []))
    refine Go.by (fun _ => XS.aload X10.here hx rfl (hb hby at_101) rfl rfl) ?_
    show Go p e below P (T10.setTop (mkF m 103 #[.val (.int p0), .val (.int p1), .val (.int p2), .val (.int p3), .val (.int (0 : Int32)), .val (.long (p1.toInt64)), .second, .val (.long ((p2.toInt64) &&& (2147483647 : Int64))), .second, .val (.int (p3 &&& (7 : Int32))), .val (.ref b2), .val (.ref b3), .val (.ref b4), .val (.ref b9), .val (.ref aZ), .unset] [(.ref aZ)]))
    refine Go.by (fun _ => XS.ifnonnullYes X10.here hx rfl (pc0 := 103) (pc' := 108) rfl (hb hby at_103) rfl (by decide) (by decide)) ?_
    show Go p e below P (T10.setTop (mkF m 108 #[.val (.int p0), .val (.int p1), .val (.int p2), .val (.int p3), .val (.int (0 : Int32)), .val (.long (p1.toInt64)), .second, .val (.long ((p2.toInt64) &&& (2147483647 : Int64))), .second, .val (.int (p3 &&& (7 : Int32))), .val (.ref b2), .val (.ref b3), .val (.ref b4), .val (.ref b9), .val (.ref aZ), .unset] []))
    refine Go.by (fun _ => XS.iload X10.here hx rfl (hb hby at_108) rfl) ?_
    show Go p e below P (T10.setTop (mkF m 110 #[.val (.int p0), .val (.int p1), .val (.int p2), .val (.int p3), .val (.int (0 : Int32)), .val (.long (p1.toInt64)), .second, .val (.long ((p2.toInt64) &&& (2147483647 : Int64))), .second, .val (.int (p3 &&& (7 : Int32))), .val (.ref b2), .val (.ref b3), .val (.ref b4), .val (.ref b9), .val (.ref aZ), .unset] [(.int (0 : Int32))]))
    refine Go.by (fun _ => XS.ifYes X10.here hx rfl (pc0 := 110) (pc' := 123) rfl (hb hby at_110) rfl (XT.i0_eq_t (by decide : (0 : Int32) = (0 : Int32))) (by decide) (by decide)) ?_
    show Go p e below P (T10.setTop (mkF m 123 #[.val (.int p0), .val (.int p1), .val (.int p2), .val (.int p3), .val (.int (0 : Int32)), .val (.long (p1.toInt64)), .second, .val (.long ((p2.toInt64) &&& (2147483647 : Int64))), .second, .val (.int (p3 &&& (7 : Int32))), .val (.ref b2), .val (.ref b3), .val (.ref b4), .val (.ref b9), .val (.ref aZ), .unset] []))
    obtain ⟨T11, X11, e11, st11⟩ := getS2 X10 hx hZ hown (host := "") (Or.inl (tw_74 hw)) Via.refl q10 (SZ.ext f9_2.2) (g := (mkF m 123 #[.val (.int p0), .val (.int p1), .val (.int p2), .val (.int p3), .val (.int (0 : Int32)), .val (.long (p1.toInt64)), .second, .val (.long ((p2.toInt64) &&& (2147483647 : Int64))), .second, .val (.int (p3 &&& (7 : Int32))), .val (.ref b2), .val (.ref b3), .val (.ref b4), .val (.ref b9), .val (.ref aZ), .unset] [])) rfl (hb hby at_123)
    refine Go.by st11 ?_
    show Go p e below P (T11.setTop (mkF m 126 #[.val (.int p0), .val (.int p1), .val (.int p2), .val (.int p3), .val (.int (0 : Int32)), .val (.long (p1.toInt64)), .second, .val (.long ((p2.toInt64) &&& (2147483647 : Int64))), .second, .val (.int (p3 &&& (7 : Int32))), .val (.ref b2), .val (.ref b3), .val (.ref b4), .val (.ref b9), .val (.ref aZ), .unset] [(.ref aZ)]))
    refine Go.by (fun _ => XS.astore X11.here hx rfl (hb hby at_126) rfl rfl (l' := #[.val (.int p0), .val (.int p1), .val (.int p2), .val (.int p3), .val (.int (0 : Int32)), .val (.long (p1.toInt64)), .second, .val (.long ((p2.toInt64) &&& (2147483647 : Int64))), .second, .val (.int (p3 &&& (7 : Int32))), .val (.ref b2), .val (.ref b3), .val (.ref b4), .val (.ref b9), .val (.ref aZ), .val (.ref aZ)]) rfl) ?_
    show Go p e below P (T11.setTop (mkF m 128 #[.val (.int p0), .val (.int p1), .val (.int p2), .val (.int p3), .val (.int (0 : Int32)), .val (.long (p1.toInt64)), .second, .val (.long ((p2.toInt64) &&& (2147483647 : Int64))), .second, .val (.int (p3 &&& (7 : Int32))), .val (.ref b2), .val (.ref b3), .val (.ref b4), .val (.ref b9), .val (.ref aZ), .val (.ref aZ)] []))
    refine Go.by (fun _ => XS.aload X11.here hx rfl (hb hby at_128) rfl rfl) ?_
    show Go p e below P (T11.setTop (mkF m 130 #[.val (.int p0), .val (.int p1), .val (.int p2), .val (.int p3), .val (.int (0 : Int32)), .val (.long (p1.toInt64)), .second, .val (.long ((p2.toInt64) &&& (2147483647 : Int64))), .second, .val (.int (p3 &&& (7 : Int32))), .val (.ref b2), .val (.ref b3), .val (.ref b4), .val (.ref b9), .val (.ref aZ), .val (.ref aZ)] [(.ref aZ)]))
    refine Go.by (fun _ => XS.aload X11.here hx rfl (hb hby at_130) rfl rfl) ?_
    show Go p e below P (T11.setTop (mkF m 132 #[.val (.int p0), .val (.int p1), .val (.int p2), .val (.int p3), .val (.int (0 : Int32)), .val (.long (p1.toInt64)), .second, .val (.long ((p2.toInt64) &&& (2147483647 : Int64))), .second, .val (.int (p3 &&& (7 : Int32))), .val (.ref b2), .val (.ref b3), .val (.ref b4), .val (.ref b9), .val (.ref aZ), .val (.ref aZ)] [(.ref aZ), (.ref aZ)]))
    obtain ⟨cq12, kq12, q12a, q12b, q12c⟩ := isOf hZ e11 (BZ.ext f9_2.2).1
    obtain ⟨_, _, ⟨T12, L12, k12, n12⟩, -, X12, ⟨Lc12, hQ12, l12, y12, z12⟩, st12⟩ := X11.virtualBack hx (y := (⟨"java/math/BigDecimal", "equals", "(Ljava/lang/Object;)Z"⟩ : MethodName)) (z := (⟨"java/math/BigDecimal", "equals", "(Ljava/lang/Object;)Z"⟩ : MethodName)) hown (mvT hZ (tw_75 hw)) (mvT hZ (tw_76 hw)) (notFace_of_selects (args := #[]) (mvT hZ (tw_78 hw))) (mvT hZ (tw_78 hw)) (mvT hZ (tw_77 hw)) (by decide) (backOf (W := 0) (rm_equals l Z a0 hw [] aZ aZ (0 : Int64) (0 : Int32) T9.heap n0 f9_0 (BZ.ext f9_2.2) (BZ.ext f9_2.2) (by decide)) hZ (tw_79 hw) (tw_3 hw) (by decide) (by decide)) q12a q12c (g := (mkF m 132 #[.val (.int p0), .val (.int p1), .val (.int p2), .val (.int p3), .val (.int (0 : Int32)), .val (.long (p1.toInt64)), .second, .val (.long ((p2.toInt64) &&& (2147483647 : Int64))), .second, .val (.int (p3 &&& (7 : Int32))), .val (.ref b2), .val (.ref b3), .val (.ref b4), .val (.ref b9), .val (.ref aZ), .val (.ref aZ)] [(.ref aZ), (.ref aZ)])) rfl (by rw [hml]; rfl) (Steps.refl _) (argsL := [(.ref aZ)]) (rest := []) (lenOf pd__Ljava_lang_Object__Z rfl) rfl (by show 2 * 0 + _ ≤ _; exact Nat.le_of_eq rfl) (hb hby at_132) (fun _ _ => ⟨rfl, e11, (by decide : 5 + 0 ≤ _), (by decide : 15 + 0 ≤ _)⟩)
    dsimp only [Pt.U, Pt.locs, Pt.cells, Pt.slots] at X12 l12 y12 z12 st12 hQ12
    subst l12 y12 z12
    obtain ⟨rfl, N12q, q12⟩ := hQ12
    have N12 := Fr.app N10 N12q
    refine Go.by (fun t k => st12.trans k) ?_
    show Go p e below P (T12.setTop (mkF m 135 #[.val (.int p0), .val (.int p1), .val (.int p2), .val (.int p3), .val (.int (0 : Int32)), .val (.long (p1.toInt64)), .second, .val (.long ((p2.toInt64) &&& (2147483647 : Int64))), .second, .val (.int (p3 &&& (7 : Int32))), .val (.ref b2), .val (.ref b3), .val (.ref b4), .val (.ref b9), .val (.ref aZ), .val (.ref aZ)] [(.int (1 : Int32))]))
    refine fin X12 (v := some (.int (1 : Int32))) (fun h => by rw [Bd.returns] at h; cases h) (by decide) (by decide) ?_ (fun fs hr => retOut X12 hx Bd.returns rfl (Or.inl ⟨rfl, Or.inr (Or.inl rfl), _, rfl⟩) (hb hby at_135) hr)
    show Q_law Z p0 p1 p2 p3 aQ aN aZ aT clT aS clS h0 n0 _ T12.heap _
    rw [q12]
    exact ⟨rfl, N12⟩
  · refine Go.by (fun _ => XS.ifNo X0.here hx rfl (hb hby at_3) rfl (XT.i0_eq_f hc3_1)) ?_
    show Go p e below P (s₁.setTop (mkF m 6 #[.val (.int p0), .val (.int p1), .val (.int p2), .val (.int p3), .unset, .unset, .unset, .unset, .unset, .unset, .unset, .unset, .unset, .unset, .unset, .unset] []))
    refine Go.by (fun _ => XS.iconst X0.here hx rfl (hb hby at_6)) ?_
    show Go p e below P (s₁.setTop (mkF m 7 #[.val (.int p0), .val (.int p1), .val (.int p2), .val (.int p3), .unset, .unset, .unset, .unset, .unset, .unset, .unset, .unset, .unset, .unset, .unset, .unset] [(.int (1 : Int32))]))
    refine Go.by (fun _ => XS.goto X0.here hx rfl (pc0 := 7) (pc' := 11) rfl (hb hby at_7) (by decide) (by decide)) ?_
    show Go p e below P (s₁.setTop (mkF m 11 #[.val (.int p0), .val (.int p1), .val (.int p2), .val (.int p3), .unset, .unset, .unset, .unset, .unset, .unset, .unset, .unset, .unset, .unset, .unset, .unset] [(.int (1 : Int32))]))
    refine Go.by (fun _ => XS.istore X0.here hx rfl (hb hby at_11) rfl (l' := #[.val (.int p0), .val (.int p1), .val (.int p2), .val (.int p3), .val (.int (1 : Int32)), .unset, .unset, .unset, .unset, .unset, .unset, .unset, .unset, .unset, .unset, .unset]) rfl) ?_
    show Go p e below P (s₁.setTop (mkF m 13 #[.val (.int p0), .val (.int p1), .val (.int p2), .val (.int p3), .val (.int (1 : Int32)), .unset, .unset, .unset, .unset, .unset, .unset, .unset, .unset, .unset, .unset, .unset] []))
    refine Go.by (fun _ => XS.iloadN X0.here hx rfl (hb hby at_13) rfl) ?_
    show Go p e below P (s₁.setTop (mkF m 14 #[.val (.int p0), .val (.int p1), .val (.int p2), .val (.int p3), .val (.int (1 : Int32)), .unset, .unset, .unset, .unset, .unset, .unset, .unset, .unset, .unset, .unset, .unset] [(.int p1)]))
    refine Go.by (fun _ => XS.i2l X0.here hx rfl (hb hby at_14) rfl) ?_
    show Go p e below P (s₁.setTop (mkF m 15 #[.val (.int p0), .val (.int p1), .val (.int p2), .val (.int p3), .val (.int (1 : Int32)), .unset, .unset, .unset, .unset, .unset, .unset, .unset, .unset, .unset, .unset, .unset] [(.long (p1.toInt64))]))
    refine Go.by (fun _ => XS.lstore X0.here hx rfl (hb hby at_15) rfl (l' := #[.val (.int p0), .val (.int p1), .val (.int p2), .val (.int p3), .val (.int (1 : Int32)), .val (.long (p1.toInt64)), .second, .unset, .unset, .unset, .unset, .unset, .unset, .unset, .unset, .unset]) rfl) ?_
    show Go p e below P (s₁.setTop (mkF m 17 #[.val (.int p0), .val (.int p1), .val (.int p2), .val (.int p3), .val (.int (1 : Int32)), .val (.long (p1.toInt64)), .second, .unset, .unset, .unset, .unset, .unset, .unset, .unset, .unset, .unset] []))
    refine Go.by (fun _ => XS.iloadN X0.here hx rfl (hb hby at_17) rfl) ?_
    show Go p e below P (s₁.setTop (mkF m 18 #[.val (.int p0), .val (.int p1), .val (.int p2), .val (.int p3), .val (.int (1 : Int32)), .val (.long (p1.toInt64)), .second, .unset, .unset, .unset, .unset, .unset, .unset, .unset, .unset, .unset] [(.int p2)]))
    refine Go.by (fun _ => XS.i2l X0.here hx rfl (hb hby at_18) rfl) ?_
    show Go p e below P (s₁.setTop (mkF m 19 #[.val (.int p0), .val (.int p1), .val (.int p2), .val (.int p3), .val (.int (1 : Int32)), .val (.long (p1.toInt64)), .second, .unset, .unset, .unset, .unset, .unset, .unset, .unset, .unset, .unset] [(.long (p2.toInt64))]))
    refine Go.by (fun _ => Jvm.Stand.ldc2J X0 hx hown (mvT hZ (tw_0 hw)) rfl (hb hby at_19)) ?_
    show Go p e below P (s₁.setTop (mkF m 22 #[.val (.int p0), .val (.int p1), .val (.int p2), .val (.int p3), .val (.int (1 : Int32)), .val (.long (p1.toInt64)), .second, .unset, .unset, .unset, .unset, .unset, .unset, .unset, .unset, .unset] [(.long (2147483647 : Int64)), (.long (p2.toInt64))]))
    refine Go.by (fun _ => XS.land X0.here hx rfl (hb hby at_22) rfl) ?_
    show Go p e below P (s₁.setTop (mkF m 23 #[.val (.int p0), .val (.int p1), .val (.int p2), .val (.int p3), .val (.int (1 : Int32)), .val (.long (p1.toInt64)), .second, .unset, .unset, .unset, .unset, .unset, .unset, .unset, .unset, .unset] [(.long ((p2.toInt64) &&& (2147483647 : Int64)))]))
    refine Go.by (fun _ => XS.lstore X0.here hx rfl (hb hby at_23) rfl (l' := #[.val (.int p0), .val (.int p1), .val (.int p2), .val (.int p3), .val (.int (1 : Int32)), .val (.long (p1.toInt64)), .second, .val (.long ((p2.toInt64) &&& (2147483647 : Int64))), .second, .unset, .unset, .unset, .unset, .unset, .unset, .unset]) rfl) ?_
    show Go p e below P (s₁.setTop (mkF m 25 #[.val (.int p0), .val (.int p1), .val (.int p2), .val (.int p3), .val (.int (1 : Int32)), .val (.long (p1.toInt64)), .second, .val (.long ((p2.toInt64) &&& (2147483647 : Int64))), .second, .unset, .unset, .unset, .unset, .unset, .unset, .unset] []))
    refine Go.by (fun _ => XS.iloadN X0.here hx rfl (hb hby at_25) rfl) ?_
    show Go p e below P (s₁.setTop (mkF m 26 #[.val (.int p0), .val (.int p1), .val (.int p2), .val (.int p3), .val (.int (1 : Int32)), .val (.long (p1.toInt64)), .second, .val (.long ((p2.toInt64) &&& (2147483647 : Int64))), .second, .unset, .unset, .unset, .unset, .unset, .unset, .unset] [(.int p3)]))
    refine Go.by (fun _ => XS.bipush X0.here hx rfl (hb hby at_26)) ?_
    show Go p e below P (s₁.setTop (mkF m 28 #[.val (.int p0), .val (.int p1), .val (.int p2), .val (.int p3), .val (.int (1 : Int32)), .val (.long (p1.toInt64)), .second, .val (.long ((p2.toInt64) &&& (2147483647 : Int64))), .second, .unset, .unset, .unset, .unset, .unset, .unset, .unset] [(.int (7 : Int32)), (.int p3)]))
    refine Go.by (fun _ => XS.iand X0.here hx rfl (hb hby at_28) rfl) ?_
    show Go p e below P (s₁.setTop (mkF m 29 #[.val (.int p0), .val (.int p1), .val (.int p2), .val (.int p3), .val (.int (1 : Int32)), .val (.long (p1.toInt64)), .second, .val (.long ((p2.toInt64) &&& (2147483647 : Int64))), .second, .unset, .unset, .unset, .unset, .unset, .unset, .unset] [(.int (p3 &&& (7 : Int32)))]))
    refine Go.by (fun _ => XS.istore X0.here hx rfl (hb hby at_29) rfl (l' := #[.val (.int p0), .val (.int p1), .val (.int p2), .val (.int p3), .val (.int (1 : Int32)), .val (.long (p1.toInt64)), .second, .val (.long ((p2.toInt64) &&& (2147483647 : Int64))), .second, .val (.int (p3 &&& (7 : Int32))), .unset, .unset, .unset, .unset, .unset, .unset]) rfl) ?_
    show Go p e below P (s₁.setTop (mkF m 31 #[.val (.int p0), .val (.int p1), .val (.int p2), .val (.int p3), .val (.int (1 : Int32)), .val (.long (p1.toInt64)), .second, .val (.long ((p2.toInt64) &&& (2147483647 : Int64))), .second, .val (.int (p3 &&& (7 : Int32))), .unset, .unset, .unset, .unset, .unset, .unset] []))
    refine Go.by (fun _ => XS.lload X0.here hx rfl (hb hby at_31) rfl) ?_
    show Go p e below P (s₁.setTop (mkF m 33 #[.val (.int p0), .val (.int p1), .val (.int p2), .val (.int p3), .val (.int (1 : Int32)), .val (.long (p1.toInt64)), .second, .val (.long ((p2.toInt64) &&& (2147483647 : Int64))), .second, .val (.int (p3 &&& (7 : Int32))), .unset, .unset, .unset, .unset, .unset, .unset] [(.long (p1.toInt64))]))
    refine Go.by (fun _ => XS.iload X0.here hx rfl (hb hby at_33) rfl) ?_
    show Go p e below P (s₁.setTop (mkF m 35 #[.val (.int p0), .val (.int p1), .val (.int p2), .val (.int p3), .val (.int (1 : Int32)), .val (.long (p1.toInt64)), .second, .val (.long ((p2.toInt64) &&& (2147483647 : Int64))), .second, .val (.int (p3 &&& (7 : Int32))), .unset, .unset, .unset, .unset, .unset, .unset] [(.int (p3 &&& (7 : Int32))), (.long (p1.toInt64))]))
    obtain ⟨_, _, ⟨T13, L13, k13, n13⟩, -, X13, ⟨Lc13, hQ13, l13, y13, z13⟩, st13⟩ := Jvm.LawKit.callS X0 hx (y := (⟨"java/math/BigDecimal", "valueOf", "(JI)Ljava/math/BigDecimal;"⟩ : MethodName)) hown (mvT hZ (tw_1 hw)) (mvT hZ (tw_2 hw)) (mvT hZ (tw_3 hw)) (mvT hZ (tw_4 hw)) (by decide) (backOf (W := 0) (rm_valueOfJI l Z a0 hw [] (p1.toInt64) (p3 &&& (7 : Int32)) aZ aT clT aS clS h0 n0 Z0 O0 SZ BZ ST BT SS BS (own_m1 p1) (own_sc p3).1 (own_sc p3).2) hZ (tw_4 hw) (tw_3 hw) (by decide) (by decide)) (g := (mkF m 35 #[.val (.int p0), .val (.int p1), .val (.int p2), .val (.int p3), .val (.int (1 : Int32)), .val (.long (p1.toInt64)), .second, .val (.long ((p2.toInt64) &&& (2147483647 : Int64))), .second, .val (.int (p3 &&& (7 : Int32))), .unset, .unset, .unset, .unset, .unset, .unset] [(.int (p3 &&& (7 : Int32))), (.long (p1.toInt64))])) rfl (by rw [hml]; rfl) (argsL := [(.long (p1.toInt64)), (.int (p3 &&& (7 : Int32)))]) (rest := []) (lenOf pd__JI_Ljava_math_BigDecimal_ rfl) rfl (by show 2 * 0 + _ ≤ _; exact Nat.le_of_eq rfl) (hb hby at_35) (fun _ _ => ⟨rfl, e0, (by decide : 0 + 1 ≤ _), (by decide : 0 + 5 ≤ _)⟩)
    dsimp only [Pt.U, Pt.locs, Pt.cells, Pt.slots] at X13 l13 y13 z13 st13 hQ13
    subst l13 y13 z13
    obtain ⟨b13, rfl, N13q, K13, B13⟩ := hQ13
    have N13 := Fr.app N0 N13q
    refine Go.by (fun t k => st13 t k) ?_
    have f13_0 : n0 ≤ T13.heap.size := (Nat.le_trans Z0 K13.1)
    have f13_1 : Keep h0 T13.heap [] := (Keep.trans (Keep.refl h0 []) K13 all0)
    have f13_2 : Old Z n0 T13.heap := (Old.keep O0 K13 all0)
    show Go p e below P (T13.setTop (mkF m 38 #[.val (.int p0), .val (.int p1), .val (.int p2), .val (.int p3), .val (.int (1 : Int32)), .val (.long (p1.toInt64)), .second, .val (.long ((p2.toInt64) &&& (2147483647 : Int64))), .second, .val (.int (p3 &&& (7 : Int32))), .unset, .unset, .unset, .unset, .unset, .unset] [(.ref b13)]))
    refine Go.by (fun _ => XS.astore X13.here hx rfl (hb hby at_38) rfl rfl (l' := #[.val (.int p0), .val (.int p1), .val (.int p2), .val (.int p3), .val (.int (1 : Int32)), .val (.long (p1.toInt64)), .second, .val (.long ((p2.toInt64) &&& (2147483647 : Int64))), .second, .val (.int (p3 &&& (7 : Int32))), .val (.ref b13), .unset, .unset, .unset, .unset, .unset]) rfl) ?_
    show Go p e below P (T13.setTop (mkF m 40 #[.val (.int p0), .val (.int p1), .val (.int p2), .val (.int p3), .val (.int (1 : Int32)), .val (.long (p1.toInt64)), .second, .val (.long ((p2.toInt64) &&& (2147483647 : Int64))), .second, .val (.int (p3 &&& (7 : Int32))), .val (.ref b13), .unset, .unset, .unset, .unset, .unset] []))
    refine Go.by (fun _ => XS.lload X13.here hx rfl (hb hby at_40) rfl) ?_
    show Go p e below P (T13.setTop (mkF m 42 #[.val (.int p0), .val (.int p1), .val (.int p2), .val (.int p3), .val (.int (1 : Int32)), .val (.long (p1.toInt64)), .second, .val (.long ((p2.toInt64) &&& (2147483647 : Int64))), .second, .val (.int (p3 &&& (7 : Int32))), .val (.ref b13), .unset, .unset, .unset, .unset, .unset] [(.long (p1.toInt64))]))
    refine Go.by (fun _ => XS.lload X13.here hx rfl (hb hby at_42) rfl) ?_
    show Go p e below P (T13.setTop (mkF m 44 #[.val (.int p0), .val (.int p1), .val (.int p2), .val (.int p3), .val (.int (1 : Int32)), .val (.long (p1.toInt64)), .second, .val (.long ((p2.toInt64) &&& (2147483647 : Int64))), .second, .val (.int (p3 &&& (7 : Int32))), .val (.ref b13), .unset, .unset, .unset, .unset, .unset] [(.long ((p2.toInt64) &&& (2147483647 : Int64))), (.long (p1.toInt64))]))
    refine Go.by (fun _ => XS.ladd X13.here hx rfl (hb hby at_44) rfl) ?_
    show Go p e below P (T13.setTop (mkF m 45 #[.val (.int p0), .val (.int p1), .val (.int p2), .val (.int p3), .val (.int (1 : Int32)), .val (.long (p1.toInt64)), .second, .val (.long ((p2.toInt64) &&& (2147483647 : Int64))), .second, .val (.int (p3 &&& (7 : Int32))), .val (.ref b13), .unset, .unset, .unset, .unset, .unset] [(.long ((p1.toInt64) + ((p2.toInt64) &&& (2147483647 : Int64))))]))
    refine Go.by (fun _ => XS.iload X13.here hx rfl (hb hby at_45) rfl) ?_
    show Go p e below P (T13.setTop (mkF m 47 #[.val (.int p0), .val (.int p1), .val (.int p2), .val (.int p3), .val (.int (1 : Int32)), .val (.long (p1.toInt64)), .second, .val (.long ((p2.toInt64) &&& (2147483647 : Int64))), .second, .val (.int (p3 &&& (7 : Int32))), .val (.ref b13), .unset, .unset, .unset, .unset, .unset] [(.int (p3 &&& (7 : Int32))), (.long ((p1.toInt64) + ((p2.toInt64) &&& (2147483647 : Int64))))]))
    obtain ⟨_, _, ⟨T14, L14, k14, n14⟩, -, X14, ⟨Lc14, hQ14, l14, y14, z14⟩, st14⟩ := Jvm.LawKit.callS X13 hx (y := (⟨"java/math/BigDecimal", "valueOf", "(JI)Ljava/math/BigDecimal;"⟩ : MethodName)) hown (mvT hZ (tw_1 hw)) (mvT hZ (tw_2 hw)) (mvT hZ (tw_3 hw)) (mvT hZ (tw_4 hw)) (by decide) (backOf (W := 0) (rm_valueOfJI l Z a0 hw [] ((p1.toInt64) + (p2.toInt64 &&& (2147483647 : Int64))) (p3 &&& (7 : Int32)) aZ aT clT aS clS T13.heap n0 f13_0 f13_2 SZ BZ ST BT SS BS (own_m2 p1 p2) (own_sc p3).1 (own_sc p3).2) hZ (tw_4 hw) (tw_3 hw) (by decide) (by decide)) (g := (mkF m 47 #[.val (.int p0), .val (.int p1), .val (.int p2), .val (.int p3), .val (.int (1 : Int32)), .val (.long (p1.toInt64)), .second, .val (.long ((p2.toInt64) &&& (2147483647 : Int64))), .second, .val (.int (p3 &&& (7 : Int32))), .val (.ref b13), .unset, .unset, .unset, .unset, .unset] [(.int (p3 &&& (7 : Int32))), (.long ((p1.toInt64) + ((p2.toInt64) &&& (2147483647 : Int64))))])) rfl (by rw [hml]; rfl) (argsL := [(.long ((p1.toInt64) + ((p2.toInt64) &&& (2147483647 : Int64)))), (.int (p3 &&& (7 : Int32)))]) (rest := []) (lenOf pd__JI_Ljava_math_BigDecimal_ rfl) rfl (by show 2 * 0 + _ ≤ _; exact Nat.le_of_eq rfl) (hb hby at_47) (fun _ _ => ⟨rfl, rfl, (by decide : 1 + 1 ≤ _), (by decide : 5 + 5 ≤ _)⟩)
    dsimp only [Pt.U, Pt.locs, Pt.cells, Pt.slots] at X14 l14 y14 z14 st14 hQ14
    subst l14 y14 z14
    obtain ⟨b14, rfl, N14q, K14, B14⟩ := hQ14
    have N14 := Fr.app N13 N14q
    refine Go.by (fun t k => st14 t k) ?_
    have f14_0 : n0 ≤ T14.heap.size := (Nat.le_trans f13_0 K14.1)
    have f14_1 : Keep h0 T14.heap [] := (Keep.trans f13_1 K14 all0)
    have f14_2 : Old Z n0 T14.heap := (Old.keep f13_2 K14 all0)
    have f14_3 : BD Z T14.heap b13 (p1.toInt64) (p3 &&& (7 : Int32)) := (BD.keep B13 K14 nin0)
    have f14_4 : Exa Z T14.heap b13 "java/math/BigDecimal" := (Exa.keep B13.1 K14)
    show Go p e below P (T14.setTop (mkF m 50 #[.val (.int p0), .val (.int p1), .val (.int p2), .val (.int p3), .val (.int (1 : Int32)), .val (.long (p1.toInt64)), .second, .val (.long ((p2.toInt64) &&& (2147483647 : Int64))), .second, .val (.int (p3 &&& (7 : Int32))), .val (.ref b13), .unset, .unset, .unset, .unset, .unset] [(.ref b14)]))
    refine Go.by (fun _ => XS.astore X14.here hx rfl (hb hby at_50) rfl rfl (l' := #[.val (.int p0), .val (.int p1), .val (.int p2), .val (.int p3), .val (.int (1 : Int32)), .val (.long (p1.toInt64)), .second, .val (.long ((p2.toInt64) &&& (2147483647 : Int64))), .second, .val (.int (p3 &&& (7 : Int32))), .val (.ref b13), .val (.ref b14), .unset, .unset, .unset, .unset]) rfl) ?_
    show Go p e below P (T14.setTop (mkF m 52 #[.val (.int p0), .val (.int p1), .val (.int p2), .val (.int p3), .val (.int (1 : Int32)), .val (.long (p1.toInt64)), .second, .val (.long ((p2.toInt64) &&& (2147483647 : Int64))), .second, .val (.int (p3 &&& (7 : Int32))), .val (.ref b13), .val (.ref b14), .unset, .unset, .unset, .unset] []))
    obtain ⟨T15, h15, X15, e15, E15, A15, D15, U15, st15⟩ := newO X14 hx hZ hown (tw_29 hw) (tw_30 hw) (tw_31 hw) rfl (g := (mkF m 52 #[.val (.int p0), .val (.int p1), .val (.int p2), .val (.int p3), .val (.int (1 : Int32)), .val (.long (p1.toInt64)), .second, .val (.long ((p2.toInt64) &&& (2147483647 : Int64))), .second, .val (.int (p3 &&& (7 : Int32))), .val (.ref b13), .val (.ref b14), .unset, .unset, .unset, .unset] [])) rfl (hb hby at_52) (by decide) (by decide)
    obtain ⟨b15, g15⟩ : ∃ z, z = T14.heap.size := ⟨_, rfl⟩
    rw [← g15] at A15 D15 U15 st15
    have g_b15 : n0 ≤ b15 := Nat.le_trans f14_0 (Nat.le_of_eq g15.symm)
    have sz_b15 : h0.size ≤ b15 := Nat.le_trans f14_1.1 (Nat.le_of_eq g15.symm)
    have ne_b13_b15 : b13 ≠ b15 := Nat.ne_of_lt (Nat.lt_of_lt_of_le (f14_3.lt) (Nat.le_of_eq g15.symm))
    have ne_b14_b15 : b14 ≠ b15 := Nat.ne_of_lt (Nat.lt_of_lt_of_le (B14.lt) (Nat.le_of_eq g15.symm))
    have f15_0 : n0 ≤ h15.size := (Nat.le_trans f14_0 E15.1)
    have f15_1 : Keep h0 h15 [] := (Keep.ext f14_1 E15)
    have f15_2 : Old Z n0 h15 := (Old.ext f14_2 E15)
    have f15_3 : BD Z h15 b13 (p1.toInt64) (p3 &&& (7 : Int32)) := (BD.ext f14_3 E15)
    have f15_4 : Exa Z h15 b13 "java/math/BigDecimal" := (Exa.ext E15 f14_4)
    have f15_5 : BD Z h15 b14 ((p1.toInt64) + (p2.toInt64 &&& (2147483647 : Int64))) (p3 &&& (7 : Int32)) := (BD.ext B14 E15)
    have f15_6 : Exa Z h15 b14 "java/math/BigDecimal" := (Exa.ext E15 B14.1)
    refine Go.by st15 ?_
    have F15_expiring : Fld Z h15 b15 "com/example/frontmonth/frontmonth/Quote" "expiring" "Lcom/example/frontmonth/frontmonth/BidAsk;" .null := D15 (Or.inr (tw_48 hw)) (ty := (.object "com/example/frontmonth/frontmonth/BidAsk")) (by decide)
    have F15_next : Fld Z h15 b15 "com/example/frontmonth/frontmonth/Quote" "next" "Lcom/example/frontmonth/frontmonth/BidAsk;" .null := D15 (Or.inr (tw_50 hw)) (ty := (.object "com/example/frontmonth/frontmonth/BidAsk")) (by decide)
    show Go p e below P (T15.setTop (mkF m 55 #[.val (.int p0), .val (.int p1), .val (.int p2), .val (.int p3), .val (.int (1 : Int32)), .val (.long (p1.toInt64)), .second, .val (.long ((p2.toInt64) &&& (2147483647 : Int64))), .second, .val (.int (p3 &&& (7 : Int32))), .val (.ref b13), .val (.ref b14), .unset, .unset, .unset, .unset] [(.ref b15)]))
    refine Go.by (fun _ => XS.dup X15.here hx rfl (hb hby at_55) rfl rfl) ?_
    show Go p e below P (T15.setTop (mkF m 56 #[.val (.int p0), .val (.int p1), .val (.int p2), .val (.int p3), .val (.int (1 : Int32)), .val (.long (p1.toInt64)), .second, .val (.long ((p2.toInt64) &&& (2147483647 : Int64))), .second, .val (.int (p3 &&& (7 : Int32))), .val (.ref b13), .val (.ref b14), .unset, .unset, .unset, .unset] [(.ref b15), (.ref b15)]))
    refine Go.by (fun _ => XS.aconstNull X15.here hx rfl (hb hby at_56)) ?_
    show Go p e below P (T15.setTop (mkF m 57 #[.val (.int p0), .val (.int p1), .val (.int p2), .val (.int p3), .val (.int (1 : Int32)), .val (.long (p1.toInt64)), .second, .val (.long ((p2.toInt64) &&& (2147483647 : Int64))), .second, .val (.int (p3 &&& (7 : Int32))), .val (.ref b13), .val (.ref b14), .unset, .unset, .unset, .unset] [.null, (.ref b15), (.ref b15)]))
    obtain ⟨T16, h16, X16, e16, E16, A16, D16, U16, st16⟩ := newO X15 hx hZ hown (tw_32 hw) (tw_33 hw) (tw_34 hw) e15 (g := (mkF m 57 #[.val (.int p0), .val (.int p1), .val (.int p2), .val (.int p3), .val (.int (1 : Int32)), .val (.long (p1.toInt64)), .second, .val (.long ((p2.toInt64) &&& (2147483647 : Int64))), .second, .val (.int (p3 &&& (7 : Int32))), .val (.ref b13), .val (.ref b14), .unset, .unset, .unset, .unset] [.null, (.ref b15), (.ref b15)])) rfl (hb hby at_57) (by decide) (by decide)
    obtain ⟨b16, g16⟩ : ∃ z, z = h15.size := ⟨_, rfl⟩
    rw [← g16] at A16 D16 U16 st16
    have g_b16 : n0 ≤ b16 := Nat.le_trans f15_0 (Nat.le_of_eq g16.symm)
    have sz_b16 : h0.size ≤ b16 := Nat.le_trans f15_1.1 (Nat.le_of_eq g16.symm)
    have ne_b13_b16 : b13 ≠ b16 := Nat.ne_of_lt (Nat.lt_of_lt_of_le (f15_3.lt) (Nat.le_of_eq g16.symm))
    have ne_b14_b16 : b14 ≠ b16 := Nat.ne_of_lt (Nat.lt_of_lt_of_le (f15_5.lt) (Nat.le_of_eq g16.symm))
    have ne_b15_b16 : b15 ≠ b16 := Nat.ne_of_lt (Nat.lt_of_lt_of_le (A15.lt) (Nat.le_of_eq g16.symm))
    have f16_0 : n0 ≤ h16.size := (Nat.le_trans f15_0 E16.1)
    have f16_1 : Keep h0 h16 [] := (Keep.ext f15_1 E16)
    have f16_2 : Old Z n0 h16 := (Old.ext f15_2 E16)
    have f16_3 : BD Z h16 b13 (p1.toInt64) (p3 &&& (7 : Int32)) := (BD.ext f15_3 E16)
    have f16_4 : Exa Z h16 b13 "java/math/BigDecimal" := (Exa.ext E16 f15_4)
    have f16_5 : BD Z h16 b14 ((p1.toInt64) + (p2.toInt64 &&& (2147483647 : Int64))) (p3 &&& (7 : Int32)) := (BD.ext f15_5 E16)
    have f16_6 : Exa Z h16 b14 "java/math/BigDecimal" := (Exa.ext E16 f15_6)
    have f16_7 : Exa Z h16 b15 "com/example/frontmonth/frontmonth/Quote" := (Exa.ext E16 A15)
    have f16_8 : Fld Z h16 b15 "com/example/frontmonth/frontmonth/Quote" "expiring" "Lcom/example/frontmonth/frontmonth/BidAsk;" .null := (Fld.ext E16 F15_expiring)
    have f16_9 : Fld Z h16 b15 "com/example/frontmonth/frontmonth/Quote" "next" "Lcom/example/frontmonth/frontmonth/BidAsk;" .null := (Fld.ext E16 F15_next)
    refine Go.by st16 ?_
    have F16_bid : Fld Z h16 b16 "com/example/frontmonth/frontmonth/BidAsk" "bid" "Ljava/math/BigDecimal;" .null := D16 (Or.inr (tw_40 hw)) (ty := (.object "java/math/BigDecimal")) (by decide)
    have F16_ask : Fld Z h16 b16 "com/example/frontmonth/frontmonth/BidAsk" "ask" "Ljava/math/BigDecimal;" .null := D16 (Or.inr (tw_42 hw)) (ty := (.object "java/math/BigDecimal")) (by decide)
    show Go p e below P (T16.setTop (mkF m 60 #[.val (.int p0), .val (.int p1), .val (.int p2), .val (.int p3), .val (.int (1 : Int32)), .val (.long (p1.toInt64)), .second, .val (.long ((p2.toInt64) &&& (2147483647 : Int64))), .second, .val (.int (p3 &&& (7 : Int32))), .val (.ref b13), .val (.ref b14), .unset, .unset, .unset, .unset] [(.ref b16), .null, (.ref b15), (.ref b15)]))
    refine Go.by (fun _ => XS.dup X16.here hx rfl (hb hby at_60) rfl rfl) ?_
    show Go p e below P (T16.setTop (mkF m 61 #[.val (.int p0), .val (.int p1), .val (.int p2), .val (.int p3), .val (.int (1 : Int32)), .val (.long (p1.toInt64)), .second, .val (.long ((p2.toInt64) &&& (2147483647 : Int64))), .second, .val (.int (p3 &&& (7 : Int32))), .val (.ref b13), .val (.ref b14), .unset, .unset, .unset, .unset] [(.ref b16), (.ref b16), .null, (.ref b15), (.ref b15)]))
    refine Go.by (fun _ => XS.aload X16.here hx rfl (hb hby at_61) rfl rfl) ?_
    show Go p e below P (T16.setTop (mkF m 63 #[.val (.int p0), .val (.int p1), .val (.int p2), .val (.int p3), .val (.int (1 : Int32)), .val (.long (p1.toInt64)), .second, .val (.long ((p2.toInt64) &&& (2147483647 : Int64))), .second, .val (.int (p3 &&& (7 : Int32))), .val (.ref b13), .val (.ref b14), .unset, .unset, .unset, .unset] [(.ref b13), (.ref b16), (.ref b16), .null, (.ref b15), (.ref b15)]))
    refine Go.by (fun _ => XS.aload X16.here hx rfl (hb hby at_63) rfl rfl) ?_
    show Go p e below P (T16.setTop (mkF m 65 #[.val (.int p0), .val (.int p1), .val (.int p2), .val (.int p3), .val (.int (1 : Int32)), .val (.long (p1.toInt64)), .second, .val (.long ((p2.toInt64) &&& (2147483647 : Int64))), .second, .val (.int (p3 &&& (7 : Int32))), .val (.ref b13), .val (.ref b14), .unset, .unset, .unset, .unset] [(.ref b14), (.ref b13), (.ref b16), (.ref b16), .null, (.ref b15), (.ref b15)]))
    obtain ⟨_, _, ⟨T17, L17, k17, n17⟩, -, X17, ⟨Lc17, hQ17, l17, y17, z17⟩, st17⟩ := X16.specialBack hx (y := (⟨"com/example/frontmonth/frontmonth/BidAsk", "<init>", "(Ljava/math/BigDecimal;Ljava/math/BigDecimal;)V"⟩ : MethodName)) rfl hown (mvT hZ (tw_35 hw)) (mvT hZ (tw_36 hw)) (mvT hZ (tw_37 hw)) (by decide) (backOf (W := 4) (rm_baInit l Z a0 hw [] b16 b13 b14 h16 n0 f16_0 A16 g_b16 F16_bid F16_ask) hZ (tw_37 hw) (tw_34 hw) (by decide) (by decide)) (g := (mkF m 65 #[.val (.int p0), .val (.int p1), .val (.int p2), .val (.int p3), .val (.int (1 : Int32)), .val (.long (p1.toInt64)), .second, .val (.long ((p2.toInt64) &&& (2147483647 : Int64))), .second, .val (.int (p3 &&& (7 : Int32))), .val (.ref b13), .val (.ref b14), .unset, .unset, .unset, .unset] [(.ref b14), (.ref b13), (.ref b16), (.ref b16), .null, (.ref b15), (.ref b15)])) rfl (by rw [hml]; rfl) (Steps.refl _) (a := b16) (argsL := [(.ref b13), (.ref b14)]) (rest := [(.ref b16), .null, (.ref b15), (.ref b15)]) (lenOf pd__Ljava_math_BigDecimal_Ljava_math_BigDecimal__V rfl) rfl (by show 2 * 0 + _ ≤ _; exact Nat.le_of_eq rfl) (hb hby at_65) (fun _ _ => ⟨rfl, e16, (by decide : 4 + 0 ≤ _), (by decide : 14 + 0 ≤ _)⟩)
    dsimp only [Pt.U, Pt.locs, Pt.cells, Pt.slots] at X17 l17 y17 z17 st17 hQ17
    subst l17 y17 z17
    obtain ⟨rfl, N17q, K17, G17_0, G17_1⟩ := hQ17
    have N17 := Fr.app N14 N17q
    refine Go.by (fun t k => st17.trans k) ?_
    have f17_0 : n0 ≤ T17.heap.size := (Nat.le_trans f16_0 K17.1)
    have f17_1 : Keep h0 T17.heap [] := (Keep.trans f16_1 K17 (allS (Or.inr sz_b16) all0))
    have f17_2 : Old Z n0 T17.heap := (Old.keep f16_2 K17 (allS g_b16 all0))
    have f17_3 : BD Z T17.heap b13 (p1.toInt64) (p3 &&& (7 : Int32)) := (BD.keep f16_3 K17 (ninS ne_b13_b16 nin0))
    have f17_4 : Exa Z T17.heap b13 "java/math/BigDecimal" := (Exa.keep f16_4 K17)
    have f17_5 : BD Z T17.heap b14 ((p1.toInt64) + (p2.toInt64 &&& (2147483647 : Int64))) (p3 &&& (7 : Int32)) := (BD.keep f16_5 K17 (ninS ne_b14_b16 nin0))
    have f17_6 : Exa Z T17.heap b14 "java/math/BigDecimal" := (Exa.keep f16_6 K17)
    have f17_7 : Exa Z T17.heap b15 "com/example/frontmonth/frontmonth/Quote" := (Exa.keep f16_7 K17)
    have f17_8 : Fld Z T17.heap b15 "com/example/frontmonth/frontmonth/Quote" "expiring" "Lcom/example/frontmonth/frontmonth/BidAsk;" .null := (Fld.keep f16_8 K17 (ninS ne_b15_b16 nin0))
    have f17_9 : Fld Z T17.heap b15 "com/example/frontmonth/frontmonth/Quote" "next" "Lcom/example/frontmonth/frontmonth/BidAsk;" .null := (Fld.keep f16_9 K17 (ninS ne_b15_b16 nin0))
    have f17_10 : Exa Z T17.heap b16 "com/example/frontmonth/frontmonth/BidAsk" := (Exa.keep A16 K17)
    show Go p e below P (T17.setTop (mkF m 68 #[.val (.int p0), .val (.int p1), .val (.int p2), .val (.int p3), .val (.int (1 : Int32)), .val (.long (p1.toInt64)), .second, .val (.long ((p2.toInt64) &&& (2147483647 : Int64))), .second, .val (.int (p3 &&& (7 : Int32))), .val (.ref b13), .val (.ref b14), .unset, .unset, .unset, .unset] [(.ref b16), .null, (.ref b15), (.ref b15)]))
    obtain ⟨_, _, ⟨T18, L18, k18, n18⟩, -, X18, ⟨Lc18, hQ18, l18, y18, z18⟩, st18⟩ := X17.specialBack hx (y := (⟨"com/example/frontmonth/frontmonth/Quote", "<init>", "(Lcom/example/frontmonth/frontmonth/BidAsk;Lcom/example/frontmonth/frontmonth/BidAsk;)V"⟩ : MethodName)) rfl hown (mvT hZ (tw_43 hw)) (mvT hZ (tw_44 hw)) (mvT hZ (tw_45 hw)) (by decide) (backOf (W := 1) (rm_qtInit l Z a0 hw [] b15 b16 T17.heap n0 f17_0 f17_7 g_b15 f17_8 f17_9) hZ (tw_45 hw) (tw_31 hw) (by decide) (by decide)) (g := (mkF m 68 #[.val (.int p0), .val (.int p1), .val (.int p2), .val (.int p3), .val (.int (1 : Int32)), .val (.long (p1.toInt64)), .second, .val (.long ((p2.toInt64) &&& (2147483647 : Int64))), .second, .val (.int (p3 &&& (7 : Int32))), .val (.ref b13), .val (.ref b14), .unset, .unset, .unset, .unset] [(.ref b16), .null, (.ref b15), (.ref b15)])) rfl (by rw [hml]; rfl) (Steps.refl _) (a := b15) (argsL := [.null, (.ref b16)]) (rest := [(.ref b15)]) (lenOf pd__Lcom_example_frontmonth_frontmonth_BidAsk_Lcom_example_frontmonth_frontmonth_BidAsk__V rfl) rfl (by show 2 * 0 + _ ≤ _; exact Nat.le_of_eq rfl) (hb hby at_68) (fun _ _ => ⟨rfl, rfl, (by decide : 4 + 0 ≤ _), (by decide : 14 + 0 ≤ _)⟩)
    dsimp only [Pt.U, Pt.locs, Pt.cells, Pt.slots] at X18 l18 y18 z18 st18 hQ18
    subst l18 y18 z18
    obtain ⟨rfl, N18q, K18, G18_0, G18_1⟩ := hQ18
    have N18 := Fr.app N17 N18q
    refine Go.by (fun t k => st18.trans k) ?_
    have f18_0 : n0 ≤ T18.heap.size := (Nat.le_trans f17_0 K18.1)
    have f18_1 : Keep h0 T18.heap [] := (Keep.trans f17_1 K18 (allS (Or.inr sz_b15) all0))
    have f18_2 : Old Z n0 T18.heap := (Old.keep f17_2 K18 (allS g_b15 all0))
    have f18_3 : BD Z T18.heap b13 (p1.toInt64) (p3 &&& (7 : Int32)) := (BD.keep f17_3 K18 (ninS ne_b13_b15 nin0))
    have f18_4 : Exa Z T18.heap b13 "java/math/BigDecimal" := (Exa.keep f17_4 K18)
    have f18_5 : BD Z T18.heap b14 ((p1.toInt64) + (p2.toInt64 &&& (2147483647 : Int64))) (p3 &&& (7 : Int32)) := (BD.keep f17_5 K18 (ninS ne_b14_b15 nin0))
    have f18_6 : Exa Z T18.heap b14 "java/math/BigDecimal" := (Exa.keep f17_6 K18)
    have f18_7 : Exa Z T18.heap b15 "com/example/frontmonth/frontmonth/Quote" := (Exa.keep f17_7 K18)
    have f18_8 : Exa Z T18.heap b16 "com/example/frontmonth/frontmonth/BidAsk" := (Exa.keep f17_10 K18)
    have f18_9 : Fld Z T18.heap b16 "com/example/frontmonth/frontmonth/BidAsk" "bid" "Ljava/math/BigDecimal;" (.ref b13) := (Fld.keep G17_0 K18 (ninS (Ne.symm ne_b15_b16) nin0))
    have f18_10 : Fld Z T18.heap b16 "com/example/frontmonth/frontmonth/BidAsk" "ask" "Ljava/math/BigDecimal;" (.ref b14) := (Fld.keep G17_1 K18 (ninS (Ne.symm ne_b15_b16) nin0))
    show Go p e below P (T18.setTop (mkF m 71 #[.val (.int p0), .val (.int p1), .val (.int p2), .val (.int p3), .val (.int (1 : Int32)), .val (.long (p1.toInt64)), .second, .val (.long ((p2.toInt64) &&& (2147483647 : Int64))), .second, .val (.int (p3 &&& (7 : Int32))), .val (.ref b13), .val (.ref b14), .unset, .unset, .unset, .unset] [(.ref b15)]))
    refine Go.by (fun _ => XS.astore X18.here hx rfl (hb hby at_71) rfl rfl (l' := #[.val (.int p0), .val (.int p1), .val (.int p2), .val (.int p3), .val (.int (1 : Int32)), .val (.long (p1.toInt64)), .second, .val (.long ((p2.toInt64) &&& (2147483647 : Int64))), .second, .val (.int (p3 &&& (7 : Int32))), .val (.ref b13), .val (.ref b14), .val (.ref b15), .unset, .unset, .unset]) rfl) ?_
    show Go p e below P (T18.setTop (mkF m 73 #[.val (.int p0), .val (.int p1), .val (.int p2), .val (.int p3), .val (.int (1 : Int32)), .val (.long (p1.toInt64)), .second, .val (.long ((p2.toInt64) &&& (2147483647 : Int64))), .second, .val (.int (p3 &&& (7 : Int32))), .val (.ref b13), .val (.ref b14), .val (.ref b15), .unset, .unset, .unset] []))
    refine Go.by (fun _ => XS.iload X18.here hx rfl (hb hby at_73) rfl) ?_
    show Go p e below P (T18.setTop (mkF m 75 #[.val (.int p0), .val (.int p1), .val (.int p2), .val (.int p3), .val (.int (1 : Int32)), .val (.long (p1.toInt64)), .second, .val (.long ((p2.toInt64) &&& (2147483647 : Int64))), .second, .val (.int (p3 &&& (7 : Int32))), .val (.ref b13), .val (.ref b14), .val (.ref b15), .unset, .unset, .unset] [(.int (1 : Int32))]))
    refine Go.by (fun _ => XS.ifNo X18.here hx rfl (hb hby at_75) rfl (XT.i0_eq_f (by decide : ¬ (1 : Int32) = (0 : Int32)))) ?_
    show Go p e below P (T18.setTop (mkF m 78 #[.val (.int p0), .val (.int p1), .val (.int p2), .val (.int p3), .val (.int (1 : Int32)), .val (.long (p1.toInt64)), .second, .val (.long ((p2.toInt64) &&& (2147483647 : Int64))), .second, .val (.int (p3 &&& (7 : Int32))), .val (.ref b13), .val (.ref b14), .val (.ref b15), .unset, .unset, .unset] []))
    obtain ⟨T19, X19, e19, st19⟩ := getS2 X18 hx hZ hown (host := "") (Or.inl (tw_80 hw)) Via.refl rfl (SQ.ext f18_2.2) (g := (mkF m 78 #[.val (.int p0), .val (.int p1), .val (.int p2), .val (.int p3), .val (.int (1 : Int32)), .val (.long (p1.toInt64)), .second, .val (.long ((p2.toInt64) &&& (2147483647 : Int64))), .second, .val (.int (p3 &&& (7 : Int32))), .val (.ref b13), .val (.ref b14), .val (.ref b15), .unset, .unset, .unset] [])) rfl (hb hby at_78)
    refine Go.by st19 ?_
    show Go p e below P (T19.setTop (mkF m 81 #[.val (.int p0), .val (.int p1), .val (.int p2), .val (.int p3), .val (.int (1 : Int32)), .val (.long (p1.toInt64)), .second, .val (.long ((p2.toInt64) &&& (2147483647 : Int64))), .second, .val (.int (p3 &&& (7 : Int32))), .val (.ref b13), .val (.ref b14), .val (.ref b15), .unset, .unset, .unset] [(.ref aQ)]))
    refine Go.by (fun _ => XS.goto X19.here hx rfl (pc0 := 81) (pc' := 87) rfl (hb hby at_81) (by decide) (by decide)) ?_
    show Go p e below P (T19.setTop (mkF m 87 #[.val (.int p0), .val (.int p1), .val (.int p2), .val (.int p3), .val (.int (1 : Int32)), .val (.long (p1.toInt64)), .second, .val (.long ((p2.toInt64) &&& (2147483647 : Int64))), .second, .val (.int (p3 &&& (7 : Int32))), .val (.ref b13), .val (.ref b14), .val (.ref b15), .unset, .unset, .unset] [(.ref aQ)]))
    obtain ⟨_, _, ⟨T20, L20, k20, n20⟩, -, X20, ⟨Lc20, hQ20, l20, y20, z20⟩, st20⟩ := Jvm.LawKit.callS X19 hx (y := (⟨"com/example/frontmonth/frontmonth/Spread", "of", "(Lcom/example/frontmonth/frontmonth/Spread$Word;)Lcom/example/frontmonth/frontmonth/Spread;"⟩ : MethodName)) hown (mvT hZ (tw_54 hw)) (mvT hZ (tw_55 hw)) (mvT hZ (tw_56 hw)) (mvT hZ (tw_57 hw)) (by decide) (backOf (W := 0) (rm_ofQ l Z a0 hw [] aQ aN aZ aT clT aS clS T18.heap n0 f18_0 f18_2 SQ neNQ SZ BZ ST BT SS BS) hZ (tw_57 hw) (tw_56 hw) (by decide) (by decide)) (g := (mkF m 87 #[.val (.int p0), .val (.int p1), .val (.int p2), .val (.int p3), .val (.int (1 : Int32)), .val (.long (p1.toInt64)), .second, .val (.long ((p2.toInt64) &&& (2147483647 : Int64))), .second, .val (.int (p3 &&& (7 : Int32))), .val (.ref b13), .val (.ref b14), .val (.ref b15), .unset, .unset, .unset] [(.ref aQ)])) rfl (by rw [hml]; rfl) (argsL := [(.ref aQ)]) (rest := []) (lenOf pd__Lcom_example_frontmonth_frontmonth_Spread_Word__Lcom_example_frontmonth_frontmonth_Spread_ rfl) rfl (by show 2 * 0 + _ ≤ _; exact Nat.le_of_eq rfl) (hb hby at_87) (fun _ _ => ⟨rfl, e19, (by decide : 4 + 1 ≤ _), (by decide : 14 + 1 ≤ _)⟩)
    dsimp only [Pt.U, Pt.locs, Pt.cells, Pt.slots] at X20 l20 y20 z20 st20 hQ20
    subst l20 y20 z20
    obtain ⟨b20, rfl, N20q, K20, z20, A20, G20⟩ := hQ20
    have N20 := Fr.app N18 N20q
    refine Go.by (fun t k => st20 t k) ?_
    have f20_0 : n0 ≤ T20.heap.size := (Nat.le_trans f18_0 K20.1)
    have f20_1 : Keep h0 T20.heap [] := (Keep.trans f18_1 K20 all0)
    have f20_2 : Old Z n0 T20.heap := (Old.keep f18_2 K20 all0)
    have f20_3 : BD Z T20.heap b13 (p1.toInt64) (p3 &&& (7 : Int32)) := (BD.keep f18_3 K20 nin0)
    have f20_4 : Exa Z T20.heap b13 "java/math/BigDecimal" := (Exa.keep f18_4 K20)
    have f20_5 : BD Z T20.heap b14 ((p1.toInt64) + (p2.toInt64 &&& (2147483647 : Int64))) (p3 &&& (7 : Int32)) := (BD.keep f18_5 K20 nin0)
    have f20_6 : Exa Z T20.heap b14 "java/math/BigDecimal" := (Exa.keep f18_6 K20)
    have f20_7 : Exa Z T20.heap b15 "com/example/frontmonth/frontmonth/Quote" := (Exa.keep f18_7 K20)
    have f20_8 : Exa Z T20.heap b16 "com/example/frontmonth/frontmonth/BidAsk" := (Exa.keep f18_8 K20)
    have f20_9 : Fld Z T20.heap b16 "com/example/frontmonth/frontmonth/BidAsk" "bid" "Ljava/math/BigDecimal;" (.ref b13) := (Fld.keep f18_9 K20 nin0)
    have f20_10 : Fld Z T20.heap b16 "com/example/frontmonth/frontmonth/BidAsk" "ask" "Ljava/math/BigDecimal;" (.ref b14) := (Fld.keep f18_10 K20 nin0)
    have f20_11 : Fld Z T20.heap b15 "com/example/frontmonth/frontmonth/Quote" "expiring" "Lcom/example/frontmonth/frontmonth/BidAsk;" .null := (Fld.keep G18_0 K20 nin0)
    have f20_12 : Fld Z T20.heap b15 "com/example/frontmonth/frontmonth/Quote" "next" "Lcom/example/frontmonth/frontmonth/BidAsk;" (.ref b16) := (Fld.keep G18_1 K20 nin0)
    have g_b20 : n0 ≤ b20 := Nat.le_trans f18_0 z20
    have sz_b20 : h0.size ≤ b20 := Nat.le_trans f18_1.1 z20
    show Go p e below P (T20.setTop (mkF m 90 #[.val (.int p0), .val (.int p1), .val (.int p2), .val (.int p3), .val (.int (1 : Int32)), .val (.long (p1.toInt64)), .second, .val (.long ((p2.toInt64) &&& (2147483647 : Int64))), .second, .val (.int (p3 &&& (7 : Int32))), .val (.ref b13), .val (.ref b14), .val (.ref b15), .unset, .unset, .unset] [(.ref b20)]))
    refine Go.by (fun _ => XS.astore X20.here hx rfl (hb hby at_90) rfl rfl (l' := #[.val (.int p0), .val (.int p1), .val (.int p2), .val (.int p3), .val (.int (1 : Int32)), .val (.long (p1.toInt64)), .second, .val (.long ((p2.toInt64) &&& (2147483647 : Int64))), .second, .val (.int (p3 &&& (7 : Int32))), .val (.ref b13), .val (.ref b14), .val (.ref b15), .val (.ref b20), .unset, .unset]) rfl) ?_
    show Go p e below P (T20.setTop (mkF m 92 #[.val (.int p0), .val (.int p1), .val (.int p2), .val (.int p3), .val (.int (1 : Int32)), .val (.long (p1.toInt64)), .second, .val (.long ((p2.toInt64) &&& (2147483647 : Int64))), .second, .val (.int (p3 &&& (7 : Int32))), .val (.ref b13), .val (.ref b14), .val (.ref b15), .val (.ref b20), .unset, .unset] []))
    refine Go.by (fun _ => XS.aload X20.here hx rfl (hb hby at_92) rfl rfl) ?_
    show Go p e below P (T20.setTop (mkF m 94 #[.val (.int p0), .val (.int p1), .val (.int p2), .val (.int p3), .val (.int (1 : Int32)), .val (.long (p1.toInt64)), .second, .val (.long ((p2.toInt64) &&& (2147483647 : Int64))), .second, .val (.int (p3 &&& (7 : Int32))), .val (.ref b13), .val (.ref b14), .val (.ref b15), .val (.ref b20), .unset, .unset] [(.ref b20)]))
    refine Go.by (fun _ => XS.aload X20.here hx rfl (hb hby at_94) rfl rfl) ?_
    show Go p e below P (T20.setTop (mkF m 96 #[.val (.int p0), .val (.int p1), .val (.int p2), .val (.int p3), .val (.int (1 : Int32)), .val (.long (p1.toInt64)), .second, .val (.long ((p2.toInt64) &&& (2147483647 : Int64))), .second, .val (.int (p3 &&& (7 : Int32))), .val (.ref b13), .val (.ref b14), .val (.ref b15), .val (.ref b20), .unset, .unset] [(.ref b15), (.ref b20)]))
    obtain ⟨cq21, kq21, q21a, q21b, q21c⟩ := isOf hZ rfl A20
    obtain ⟨_, _, ⟨T21, L21, k21, n21⟩, -, X21, ⟨Lc21, hQ21, l21, y21, z21⟩, st21⟩ := X20.virtualBack hx (y := (⟨"com/example/frontmonth/frontmonth/Spread", "perUnit", "(Lcom/example/frontmonth/frontmonth/Quote;)Ljava/math/BigDecimal;"⟩ : MethodName)) (z := (⟨"com/example/frontmonth/frontmonth/Spread", "perUnit", "(Lcom/example/frontmonth/frontmonth/Quote;)Ljava/math/BigDecimal;"⟩ : MethodName)) hown (mvT hZ (tw_69 hw)) (mvT hZ (tw_70 hw)) (notFace_of_selects (args := #[]) (mvT hZ (tw_72 hw))) (mvT hZ (tw_72 hw)) (mvT hZ (tw_71 hw)) (by decide) (backOf (W := 0) (rm_perUnitQ l Z a0 hw [] b20 b15 b16 b14 b13 ((p1.toInt64) + (p2.toInt64 &&& (2147483647 : Int64))) (p1.toInt64) (p3 &&& (7 : Int32)) aZ aT clT aS clS T20.heap n0 f20_0 f20_2 SZ BZ ST BT SS BS G20 f20_7 f20_12 f20_8 f20_10 f20_9 f20_5 f20_3 (own_m2 p1 p2) (own_m1 p1) (own_ov p1 p2) (own_m3 p1 p2) (own_sc p3).1 (own_sc p3).2) hZ (tw_73 hw) (tw_56 hw) (by decide) (by decide)) q21a q21c (g := (mkF m 96 #[.val (.int p0), .val (.int p1), .val (.int p2), .val (.int p3), .val (.int (1 : Int32)), .val (.long (p1.toInt64)), .second, .val (.long ((p2.toInt64) &&& (2147483647 : Int64))), .second, .val (.int (p3 &&& (7 : Int32))), .val (.ref b13), .val (.ref b14), .val (.ref b15), .val (.ref b20), .unset, .unset] [(.ref b15), (.ref b20)])) rfl (by rw [hml]; rfl) (Steps.refl _) (argsL := [(.ref b15)]) (rest := []) (lenOf pd__Lcom_example_frontmonth_frontmonth_Quote__Ljava_math_BigDecimal_ rfl) rfl (by show 2 * 0 + _ ≤ _; exact Nat.le_of_eq rfl) (hb hby at_96) (fun _ _ => ⟨rfl, rfl, (by decide : 5 + 1 ≤ _), (by decide : 15 + 5 ≤ _)⟩)
    dsimp only [Pt.U, Pt.locs, Pt.cells, Pt.slots] at X21 l21 y21 z21 st21 hQ21
    subst l21 y21 z21
    obtain ⟨b21, rfl, N21q, K21, B21⟩ := hQ21
    have N21 := Fr.app N20 N21q
    refine Go.by (fun t k => st21.trans k) ?_
    have f21_0 : n0 ≤ T21.heap.size := (Nat.le_trans f20_0 K21.1)
    have f21_1 : Keep h0 T21.heap [] := (Keep.trans f20_1 K21 all0)
    have f21_2 : Old Z n0 T21.heap := (Old.keep f20_2 K21 all0)
    have f21_3 : BD Z T21.heap b13 (p1.toInt64) (p3 &&& (7 : Int32)) := (BD.keep f20_3 K21 nin0)
    have f21_4 : Exa Z T21.heap b13 "java/math/BigDecimal" := (Exa.keep f20_4 K21)
    have f21_5 : BD Z T21.heap b14 ((p1.toInt64) + (p2.toInt64 &&& (2147483647 : Int64))) (p3 &&& (7 : Int32)) := (BD.keep f20_5 K21 nin0)
    have f21_6 : Exa Z T21.heap b14 "java/math/BigDecimal" := (Exa.keep f20_6 K21)
    have f21_7 : Exa Z T21.heap b15 "com/example/frontmonth/frontmonth/Quote" := (Exa.keep f20_7 K21)
    have f21_8 : Exa Z T21.heap b16 "com/example/frontmonth/frontmonth/BidAsk" := (Exa.keep f20_8 K21)
    have f21_9 : Fld Z T21.heap b16 "com/example/frontmonth/frontmonth/BidAsk" "bid" "Ljava/math/BigDecimal;" (.ref b13) := (Fld.keep f20_9 K21 nin0)
    have f21_10 : Fld Z T21.heap b16 "com/example/frontmonth/frontmonth/BidAsk" "ask" "Ljava/math/BigDecimal;" (.ref b14) := (Fld.keep f20_10 K21 nin0)
    have f21_11 : Fld Z T21.heap b15 "com/example/frontmonth/frontmonth/Quote" "expiring" "Lcom/example/frontmonth/frontmonth/BidAsk;" .null := (Fld.keep f20_11 K21 nin0)
    have f21_12 : Fld Z T21.heap b15 "com/example/frontmonth/frontmonth/Quote" "next" "Lcom/example/frontmonth/frontmonth/BidAsk;" (.ref b16) := (Fld.keep f20_12 K21 nin0)
    have f21_13 : Exa Z T21.heap b20 "com/example/frontmonth/frontmonth/Spread" := (Exa.keep A20 K21)
    have f21_14 : Fld Z T21.heap b20 "com/example/frontmonth/frontmonth/Spread" "stated" "Ljava/math/BigDecimal;" .null := (Fld.keep G20 K21 nin0)
    rw [own_dif p1 p2] at B21
    show Go p e below P (T21.setTop (mkF m 99 #[.val (.int p0), .val (.int p1), .val (.int p2), .val (.int p3), .val (.int (1 : Int32)), .val (.long (p1.toInt64)), .second, .val (.long ((p2.toInt64) &&& (2147483647 : Int64))), .second, .val (.int (p3 &&& (7 : Int32))), .val (.ref b13), .val (.ref b14), .val (.ref b15), .val (.ref b20), .unset, .unset] [(.ref b21)]))
    refine Go.by (fun _ => XS.astore X21.here hx rfl (hb hby at_99) rfl rfl (l' := #[.val (.int p0), .val (.int p1), .val (.int p2), .val (.int p3), .val (.int (1 : Int32)), .val (.long (p1.toInt64)), .second, .val (.long ((p2.toInt64) &&& (2147483647 : Int64))), .second, .val (.int (p3 &&& (7 : Int32))), .val (.ref b13), .val (.ref b14), .val (.ref b15), .val (.ref b20), .val (.ref b21), .unset]) rfl) ?_
    show Go p e below P (T21.setTop (mkF m 101 #[.val (.int p0), .val (.int p1), .val (.int p2), .val (.int p3), .val (.int (1 : Int32)), .val (.long (p1.toInt64)), .second, .val (.long ((p2.toInt64) &&& (2147483647 : Int64))), .second, .val (.int (p3 &&& (7 : Int32))), .val (.ref b13), .val (.ref b14), .val (.ref b15), .val (.ref b20), .val (.ref b21), .unset] []))
    refine Go.by (fun _ => XS.aload X21.here hx rfl (hb hby at_101) rfl rfl) ?_
    show Go p e below P (T21.setTop (mkF m 103 #[.val (.int p0), .val (.int p1), .val (.int p2), .val (.int p3), .val (.int (1 : Int32)), .val (.long (p1.toInt64)), .second, .val (.long ((p2.toInt64) &&& (2147483647 : Int64))), .second, .val (.int (p3 &&& (7 : Int32))), .val (.ref b13), .val (.ref b14), .val (.ref b15), .val (.ref b20), .val (.ref b21), .unset] [(.ref b21)]))
    refine Go.by (fun _ => XS.ifnonnullYes X21.here hx rfl (pc0 := 103) (pc' := 108) rfl (hb hby at_103) rfl (by decide) (by decide)) ?_
    show Go p e below P (T21.setTop (mkF m 108 #[.val (.int p0), .val (.int p1), .val (.int p2), .val (.int p3), .val (.int (1 : Int32)), .val (.long (p1.toInt64)), .second, .val (.long ((p2.toInt64) &&& (2147483647 : Int64))), .second, .val (.int (p3 &&& (7 : Int32))), .val (.ref b13), .val (.ref b14), .val (.ref b15), .val (.ref b20), .val (.ref b21), .unset] []))
    refine Go.by (fun _ => XS.iload X21.here hx rfl (hb hby at_108) rfl) ?_
    show Go p e below P (T21.setTop (mkF m 110 #[.val (.int p0), .val (.int p1), .val (.int p2), .val (.int p3), .val (.int (1 : Int32)), .val (.long (p1.toInt64)), .second, .val (.long ((p2.toInt64) &&& (2147483647 : Int64))), .second, .val (.int (p3 &&& (7 : Int32))), .val (.ref b13), .val (.ref b14), .val (.ref b15), .val (.ref b20), .val (.ref b21), .unset] [(.int (1 : Int32))]))
    refine Go.by (fun _ => XS.ifNo X21.here hx rfl (hb hby at_110) rfl (XT.i0_eq_f (by decide : ¬ (1 : Int32) = (0 : Int32)))) ?_
    show Go p e below P (T21.setTop (mkF m 113 #[.val (.int p0), .val (.int p1), .val (.int p2), .val (.int p3), .val (.int (1 : Int32)), .val (.long (p1.toInt64)), .second, .val (.long ((p2.toInt64) &&& (2147483647 : Int64))), .second, .val (.int (p3 &&& (7 : Int32))), .val (.ref b13), .val (.ref b14), .val (.ref b15), .val (.ref b20), .val (.ref b21), .unset] []))
    refine Go.by (fun _ => XS.lload X21.here hx rfl (hb hby at_113) rfl) ?_
    show Go p e below P (T21.setTop (mkF m 115 #[.val (.int p0), .val (.int p1), .val (.int p2), .val (.int p3), .val (.int (1 : Int32)), .val (.long (p1.toInt64)), .second, .val (.long ((p2.toInt64) &&& (2147483647 : Int64))), .second, .val (.int (p3 &&& (7 : Int32))), .val (.ref b13), .val (.ref b14), .val (.ref b15), .val (.ref b20), .val (.ref b21), .unset] [(.long ((p2.toInt64) &&& (2147483647 : Int64)))]))
    refine Go.by (fun _ => XS.iload X21.here hx rfl (hb hby at_115) rfl) ?_
    show Go p e below P (T21.setTop (mkF m 117 #[.val (.int p0), .val (.int p1), .val (.int p2), .val (.int p3), .val (.int (1 : Int32)), .val (.long (p1.toInt64)), .second, .val (.long ((p2.toInt64) &&& (2147483647 : Int64))), .second, .val (.int (p3 &&& (7 : Int32))), .val (.ref b13), .val (.ref b14), .val (.ref b15), .val (.ref b20), .val (.ref b21), .unset] [(.int (p3 &&& (7 : Int32))), (.long ((p2.toInt64) &&& (2147483647 : Int64)))]))
    obtain ⟨_, _, ⟨T22, L22, k22, n22⟩, -, X22, ⟨Lc22, hQ22, l22, y22, z22⟩, st22⟩ := Jvm.LawKit.callS X21 hx (y := (⟨"java/math/BigDecimal", "valueOf", "(JI)Ljava/math/BigDecimal;"⟩ : MethodName)) hown (mvT hZ (tw_1 hw)) (mvT hZ (tw_2 hw)) (mvT hZ (tw_3 hw)) (mvT hZ (tw_4 hw)) (by decide) (backOf (W := 0) (rm_valueOfJI l Z a0 hw [] (p2.toInt64 &&& (2147483647 : Int64)) (p3 &&& (7 : Int32)) aZ aT clT aS clS T21.heap n0 f21_0 f21_2 SZ BZ ST BT SS BS (own_m4 p2) (own_sc p3).1 (own_sc p3).2) hZ (tw_4 hw) (tw_3 hw) (by decide) (by decide)) (g := (mkF m 117 #[.val (.int p0), .val (.int p1), .val (.int p2), .val (.int p3), .val (.int (1 : Int32)), .val (.long (p1.toInt64)), .second, .val (.long ((p2.toInt64) &&& (2147483647 : Int64))), .second, .val (.int (p3 &&& (7 : Int32))), .val (.ref b13), .val (.ref b14), .val (.ref b15), .val (.ref b20), .val (.ref b21), .unset] [(.int (p3 &&& (7 : Int32))), (.long ((p2.toInt64) &&& (2147483647 : Int64)))])) rfl (by rw [hml]; rfl) (argsL := [(.long ((p2.toInt64) &&& (2147483647 : Int64))), (.int (p3 &&& (7 : Int32)))]) (rest := []) (lenOf pd__JI_Ljava_math_BigDecimal_ rfl) rfl (by show 2 * 0 + _ ≤ _; exact Nat.le_of_eq rfl) (hb hby at_117) (fun _ _ => ⟨rfl, rfl, (by decide : 6 + 1 ≤ _), (by decide : 20 + 5 ≤ _)⟩)
    dsimp only [Pt.U, Pt.locs, Pt.cells, Pt.slots] at X22 l22 y22 z22 st22 hQ22
    subst l22 y22 z22
    obtain ⟨b22, rfl, N22q, K22, B22⟩ := hQ22
    have N22 := Fr.app N21 N22q
    refine Go.by (fun t k => st22 t k) ?_
    have f22_0 : n0 ≤ T22.heap.size := (Nat.le_trans f21_0 K22.1)
    have f22_1 : Keep h0 T22.heap [] := (Keep.trans f21_1 K22 all0)
    have f22_2 : Old Z n0 T22.heap := (Old.keep f21_2 K22 all0)
    have f22_3 : BD Z T22.heap b13 (p1.toInt64) (p3 &&& (7 : Int32)) := (BD.keep f21_3 K22 nin0)
    have f22_4 : Exa Z T22.heap b13 "java/math/BigDecimal" := (Exa.keep f21_4 K22)
    have f22_5 : BD Z T22.heap b14 ((p1.toInt64) + (p2.toInt64 &&& (2147483647 : Int64))) (p3 &&& (7 : Int32)) := (BD.keep f21_5 K22 nin0)
    have f22_6 : Exa Z T22.heap b14 "java/math/BigDecimal" := (Exa.keep f21_6 K22)
    have f22_7 : Exa Z T22.heap b15 "com/example/frontmonth/frontmonth/Quote" := (Exa.keep f21_7 K22)
    have f22_8 : Exa Z T22.heap b16 "com/example/frontmonth/frontmonth/BidAsk" := (Exa.keep f21_8 K22)
    have f22_9 : Fld Z T22.heap b16 "com/example/frontmonth/frontmonth/BidAsk" "bid" "Ljava/math/BigDecimal;" (.ref b13) := (Fld.keep f21_9 K22 nin0)
    have f22_10 : Fld Z T22.heap b16 "com/example/frontmonth/frontmonth/BidAsk" "ask" "Ljava/math/BigDecimal;" (.ref b14) := (Fld.keep f21_10 K22 nin0)
    have f22_11 : Fld Z T22.heap b15 "com/example/frontmonth/frontmonth/Quote" "expiring" "Lcom/example/frontmonth/frontmonth/BidAsk;" .null := (Fld.keep f21_11 K22 nin0)
    have f22_12 : Fld Z T22.heap b15 "com/example/frontmonth/frontmonth/Quote" "next" "Lcom/example/frontmonth/frontmonth/BidAsk;" (.ref b16) := (Fld.keep f21_12 K22 nin0)
    have f22_13 : Exa Z T22.heap b20 "com/example/frontmonth/frontmonth/Spread" := (Exa.keep f21_13 K22)
    have f22_14 : Fld Z T22.heap b20 "com/example/frontmonth/frontmonth/Spread" "stated" "Ljava/math/BigDecimal;" .null := (Fld.keep f21_14 K22 nin0)
    have f22_15 : BD Z T22.heap b21 (p2.toInt64 &&& (2147483647 : Int64)) (p3 &&& (7 : Int32)) := (BD.keep B21 K22 nin0)
    have f22_16 : Exa Z T22.heap b21 "java/math/BigDecimal" := (Exa.keep B21.1 K22)
    show Go p e below P (T22.setTop (mkF m 120 #[.val (.int p0), .val (.int p1), .val (.int p2), .val (.int p3), .val (.int (1 : Int32)), .val (.long (p1.toInt64)), .second, .val (.long ((p2.toInt64) &&& (2147483647 : Int64))), .second, .val (.int (p3 &&& (7 : Int32))), .val (.ref b13), .val (.ref b14), .val (.ref b15), .val (.ref b20), .val (.ref b21), .unset] [(.ref b22)]))
    refine Go.by (fun _ => XS.goto X22.here hx rfl (pc0 := 120) (pc' := 126) rfl (hb hby at_120) (by decide) (by decide)) ?_
    show Go p e below P (T22.setTop (mkF m 126 #[.val (.int p0), .val (.int p1), .val (.int p2), .val (.int p3), .val (.int (1 : Int32)), .val (.long (p1.toInt64)), .second, .val (.long ((p2.toInt64) &&& (2147483647 : Int64))), .second, .val (.int (p3 &&& (7 : Int32))), .val (.ref b13), .val (.ref b14), .val (.ref b15), .val (.ref b20), .val (.ref b21), .unset] [(.ref b22)]))
    refine Go.by (fun _ => XS.astore X22.here hx rfl (hb hby at_126) rfl rfl (l' := #[.val (.int p0), .val (.int p1), .val (.int p2), .val (.int p3), .val (.int (1 : Int32)), .val (.long (p1.toInt64)), .second, .val (.long ((p2.toInt64) &&& (2147483647 : Int64))), .second, .val (.int (p3 &&& (7 : Int32))), .val (.ref b13), .val (.ref b14), .val (.ref b15), .val (.ref b20), .val (.ref b21), .val (.ref b22)]) rfl) ?_
    show Go p e below P (T22.setTop (mkF m 128 #[.val (.int p0), .val (.int p1), .val (.int p2), .val (.int p3), .val (.int (1 : Int32)), .val (.long (p1.toInt64)), .second, .val (.long ((p2.toInt64) &&& (2147483647 : Int64))), .second, .val (.int (p3 &&& (7 : Int32))), .val (.ref b13), .val (.ref b14), .val (.ref b15), .val (.ref b20), .val (.ref b21), .val (.ref b22)] []))
    refine Go.by (fun _ => XS.aload X22.here hx rfl (hb hby at_128) rfl rfl) ?_
    show Go p e below P (T22.setTop (mkF m 130 #[.val (.int p0), .val (.int p1), .val (.int p2), .val (.int p3), .val (.int (1 : Int32)), .val (.long (p1.toInt64)), .second, .val (.long ((p2.toInt64) &&& (2147483647 : Int64))), .second, .val (.int (p3 &&& (7 : Int32))), .val (.ref b13), .val (.ref b14), .val (.ref b15), .val (.ref b20), .val (.ref b21), .val (.ref b22)] [(.ref b21)]))
    refine Go.by (fun _ => XS.aload X22.here hx rfl (hb hby at_130) rfl rfl) ?_
    show Go p e below P (T22.setTop (mkF m 132 #[.val (.int p0), .val (.int p1), .val (.int p2), .val (.int p3), .val (.int (1 : Int32)), .val (.long (p1.toInt64)), .second, .val (.long ((p2.toInt64) &&& (2147483647 : Int64))), .second, .val (.int (p3 &&& (7 : Int32))), .val (.ref b13), .val (.ref b14), .val (.ref b15), .val (.ref b20), .val (.ref b21), .val (.ref b22)] [(.ref b22), (.ref b21)]))
    obtain ⟨cq23, kq23, q23a, q23b, q23c⟩ := isOf hZ rfl f22_16
    obtain ⟨_, _, ⟨T23, L23, k23, n23⟩, -, X23, ⟨Lc23, hQ23, l23, y23, z23⟩, st23⟩ := X22.virtualBack hx (y := (⟨"java/math/BigDecimal", "equals", "(Ljava/lang/Object;)Z"⟩ : MethodName)) (z := (⟨"java/math/BigDecimal", "equals", "(Ljava/lang/Object;)Z"⟩ : MethodName)) hown (mvT hZ (tw_75 hw)) (mvT hZ (tw_76 hw)) (notFace_of_selects (args := #[]) (mvT hZ (tw_78 hw))) (mvT hZ (tw_78 hw)) (mvT hZ (tw_77 hw)) (by decide) (backOf (W := 0) (rm_equals l Z a0 hw [] b21 b22 (p2.toInt64 &&& (2147483647 : Int64)) (p3 &&& (7 : Int32)) T22.heap n0 f22_0 f22_15 B22 (own_m4 p2)) hZ (tw_79 hw) (tw_3 hw) (by decide) (by decide)) q23a q23c (g := (mkF m 132 #[.val (.int p0), .val (.int p1), .val (.int p2), .val (.int p3), .val (.int (1 : Int32)), .val (.long (p1.toInt64)), .second, .val (.long ((p2.toInt64) &&& (2147483647 : Int64))), .second, .val (.int (p3 &&& (7 : Int32))), .val (.ref b13), .val (.ref b14), .val (.ref b15), .val (.ref b20), .val (.ref b21), .val (.ref b22)] [(.ref b22), (.ref b21)])) rfl (by rw [hml]; rfl) (Steps.refl _) (argsL := [(.ref b22)]) (rest := []) (lenOf pd__Ljava_lang_Object__Z rfl) rfl (by show 2 * 0 + _ ≤ _; exact Nat.le_of_eq rfl) (hb hby at_132) (fun _ _ => ⟨rfl, rfl, (by decide : 7 + 0 ≤ _), (by decide : 25 + 0 ≤ _)⟩)
    dsimp only [Pt.U, Pt.locs, Pt.cells, Pt.slots] at X23 l23 y23 z23 st23 hQ23
    subst l23 y23 z23
    obtain ⟨rfl, N23q, q23⟩ := hQ23
    have N23 := Fr.app N22 N23q
    refine Go.by (fun t k => st23.trans k) ?_
    show Go p e below P (T23.setTop (mkF m 135 #[.val (.int p0), .val (.int p1), .val (.int p2), .val (.int p3), .val (.int (1 : Int32)), .val (.long (p1.toInt64)), .second, .val (.long ((p2.toInt64) &&& (2147483647 : Int64))), .second, .val (.int (p3 &&& (7 : Int32))), .val (.ref b13), .val (.ref b14), .val (.ref b15), .val (.ref b20), .val (.ref b21), .val (.ref b22)] [(.int (1 : Int32))]))
    refine fin X23 (v := some (.int (1 : Int32))) (fun h => by rw [Bd.returns] at h; cases h) (by decide) (by decide) ?_ (fun fs hr => retOut X23 hx Bd.returns rfl (Or.inl ⟨rfl, Or.inr (Or.inl rfl), _, rfl⟩) (hb hby at_135) hr)
    show Q_law Z p0 p1 p2 p3 aQ aN aZ aT clT aS clS h0 n0 _ T23.heap _
    rw [q23]
    exact ⟨rfl, N23⟩
set_option maxRecDepth 65536 in
set_option maxHeartbeats 40000000 in
theorem comes_1 {Post : Tables → Env → Array Value → State → Outcome → State → Prop} (hpost : ∀ tb e args s v u, (limb_1_1.after args s (.returned v) u = true ∧ limb_1_2.after args s (.returned v) u = true ∧ True) → FrameEnd s (.returned v) u (Jvm.fieldLocs frame_1_writes args s ++ Jvm.arrayLocs frame_1_arrays args s ++ Jvm.staticLocs frame_1_statics s) 24 128 → Post tb e args s (.returned v) u) :
    ArmFor flags0 classFile x code maxLocals ret World_1 tables_1 room_1 Calls_1 rest_1 Pre_1 Post := by
  intro l hfl _ _ p e ha hc hk s m args below hf hA hF happ hP
  obtain ⟨hcalls, hrest, hpre⟩ := hP
  obtain ⟨-, -, -, hnamed, -, -, -, hat⟩ := (Spec.applies_iff hf).mp happ
  obtain ⟨hg, hn⟩ := and_e (Cond.before_iff.mp (show (Jvm.Cond.and given_1 narrow_1).before args s = true from hpre))
  obtain ⟨hg_0, hg_1⟩ := and_e hg
  obtain ⟨hg_2, hg_3⟩ := and_e hg_1
  obtain ⟨hg_4, hg_5⟩ := and_e hg_3
  obtain ⟨hg_6, hg_7⟩ := and_e hg_5
  obtain ⟨w0, w1, w2, w3, rfl⟩ : ∃ w0 w1 w2 w3 : Value, args = #[w0, w1, w2, w3] := by
    have hs : args.size = 4 := by simpa [Cond.value, given_1] using hg_0
    obtain ⟨L⟩ := args
    match L, hs with
    | [w0, w1, w2, w3], _ => exact ⟨w0, w1, w2, w3, rfl⟩
  have hw := fun d (hd : d ∈ tables_1) => atoms_spec (ws := Jvm.Cond.code x code maxLocals ret :: tables_1) hat d (List.mem_cons_of_mem _ hd)
  have hfit : Fit s := fun {y c} hc i hi => by
    obtain ⟨ha, rfl⟩ := Array.getElem?_eq_some_iff.mp hc
    have q := List.all_eq_true.mp ((Array.all_eq_true_iff_forall_mem.mp hF) _ (Array.getElem_mem ha)) i (List.mem_range.mpr hi)
    simpa [Array.getElem?_eq_getElem hi] using q
  obtain ⟨i0, ei0⟩ := is_v hg_2
  obtain rfl : w0 = (.int i0) := Option.some.inj ei0
  obtain ⟨i1, ei1⟩ := is_v hg_4
  obtain rfl : w1 = (.int i1) := Option.some.inj ei1
  obtain ⟨i2, ei2⟩ := is_v hg_6
  obtain rfl : w2 = (.int i2) := Option.some.inj ei2
  obtain ⟨i3, ei3⟩ := is_v hg_7
  obtain rfl : w3 = (.int i3) := Option.some.inj ei3
  obtain ⟨hn_0, hn_1⟩ := and_e hn
  obtain ⟨hn_2, hn_3⟩ := and_e hn_1
  obtain ⟨hn_4, hn_5⟩ := and_e hn_3
  obtain ⟨hsets, hown0⟩ := atoms_of _ (rest_1_c_eq ▸ (show rest_1_c.before _ s = true from hrest))
  obtain ⟨aN, evaN⟩ := exa_v hn_0
  have FaN := own_fint evaN hn_4
  have SaN := Sta.start evaN (Or.inr ⟨(tw_52 hw), (tw_53 hw)⟩)
  obtain ⟨aQ, evaQ⟩ := exa_v hn_2
  have FaQ := own_fint evaQ hn_5
  have SaQ := Sta.start evaQ (Or.inr ⟨(tw_52 hw), (tw_59 hw)⟩)
  have neNQ : aN ≠ aQ := FaN.ne FaQ (by decide)
  obtain ⟨aZ, evZ⟩ := exa_v (Cond.before_iff.mp (hsets _ (List.mem_of_getElem? (i := 4) rfl)))
  have BZ : BD s s.heap aZ (0 : Int64) (0 : Int32) := ⟨Exa.start evZ (Cond.before_iff.mp (hsets _ (List.mem_of_getElem? (i := 4) rfl))), own_flong evZ (Cond.before_iff.mp (hsets _ (List.mem_of_getElem? (i := 6) rfl))), own_fint evZ (Cond.before_iff.mp (hsets _ (List.mem_of_getElem? (i := 5) rfl)))⟩
  have SZ := Sta.start evZ (Or.inl (hsets _ (List.mem_of_getElem? (i := 1) rfl)))
  obtain ⟨aT, evT⟩ := arr_v (Cond.before_iff.mp (hsets _ (List.mem_of_getElem? (i := 31) rfl)))
  obtain ⟨clT, AT⟩ := Arr.start evT (Cond.before_iff.mp (hsets _ (List.mem_of_getElem? (i := 31) rfl)))
  have ST := Sta.start evT (Or.inl (hsets _ (List.mem_of_getElem? (i := 14) rfl)))
  have NT : clT.slots.size = 11 := own_len evT AT (by decide) (Cond.before_iff.mp (hsets _ (List.mem_of_getElem? (i := 33) rfl)))
  have BT0 : ∃ b, clT.slots[0]? = some (.ref b) ∧ BD s s.heap b (0 : Int64) (0 : Int32) := by
    obtain ⟨b, evb⟩ := exa_v (Cond.before_iff.mp (hsets _ (List.mem_of_getElem? (i := 35) rfl)))
    exact ⟨b, (elem_in evb evT rfl AT.1).2, Exa.start evb (Cond.before_iff.mp (hsets _ (List.mem_of_getElem? (i := 35) rfl))), own_flong evb (Cond.before_iff.mp (hsets _ (List.mem_of_getElem? (i := 37) rfl))), own_fint evb (Cond.before_iff.mp (hsets _ (List.mem_of_getElem? (i := 36) rfl)))⟩
  have BT1 : ∃ b, clT.slots[1]? = some (.ref b) ∧ BD s s.heap b (1 : Int64) (0 : Int32) := by
    obtain ⟨b, evb⟩ := exa_v (Cond.before_iff.mp (hsets _ (List.mem_of_getElem? (i := 45) rfl)))
    exact ⟨b, (elem_in evb evT rfl AT.1).2, Exa.start evb (Cond.before_iff.mp (hsets _ (List.mem_of_getElem? (i := 45) rfl))), own_flong evb (Cond.before_iff.mp (hsets _ (List.mem_of_getElem? (i := 47) rfl))), own_fint evb (Cond.before_iff.mp (hsets _ (List.mem_of_getElem? (i := 46) rfl)))⟩
  have BT2 : ∃ b, clT.slots[2]? = some (.ref b) ∧ BD s s.heap b (2 : Int64) (0 : Int32) := by
    obtain ⟨b, evb⟩ := exa_v (Cond.before_iff.mp (hsets _ (List.mem_of_getElem? (i := 55) rfl)))
    exact ⟨b, (elem_in evb evT rfl AT.1).2, Exa.start evb (Cond.before_iff.mp (hsets _ (List.mem_of_getElem? (i := 55) rfl))), own_flong evb (Cond.before_iff.mp (hsets _ (List.mem_of_getElem? (i := 57) rfl))), own_fint evb (Cond.before_iff.mp (hsets _ (List.mem_of_getElem? (i := 56) rfl)))⟩
  have BT3 : ∃ b, clT.slots[3]? = some (.ref b) ∧ BD s s.heap b (3 : Int64) (0 : Int32) := by
    obtain ⟨b, evb⟩ := exa_v (Cond.before_iff.mp (hsets _ (List.mem_of_getElem? (i := 64) rfl)))
    exact ⟨b, (elem_in evb evT rfl AT.1).2, Exa.start evb (Cond.before_iff.mp (hsets _ (List.mem_of_getElem? (i := 64) rfl))), own_flong evb (Cond.before_iff.mp (hsets _ (List.mem_of_getElem? (i := 66) rfl))), own_fint evb (Cond.before_iff.mp (hsets _ (List.mem_of_getElem? (i := 65) rfl)))⟩
  have BT4 : ∃ b, clT.slots[4]? = some (.ref b) ∧ BD s s.heap b (4 : Int64) (0 : Int32) := by
    obtain ⟨b, evb⟩ := exa_v (Cond.before_iff.mp (hsets _ (List.mem_of_getElem? (i := 72) rfl)))
    exact ⟨b, (elem_in evb evT rfl AT.1).2, Exa.start evb (Cond.before_iff.mp (hsets _ (List.mem_of_getElem? (i := 72) rfl))), own_flong evb (Cond.before_iff.mp (hsets _ (List.mem_of_getElem? (i := 74) rfl))), own_fint evb (Cond.before_iff.mp (hsets _ (List.mem_of_getElem? (i := 73) rfl)))⟩
  have BT5 : ∃ b, clT.slots[5]? = some (.ref b) ∧ BD s s.heap b (5 : Int64) (0 : Int32) := by
    obtain ⟨b, evb⟩ := exa_v (Cond.before_iff.mp (hsets _ (List.mem_of_getElem? (i := 80) rfl)))
    exact ⟨b, (elem_in evb evT rfl AT.1).2, Exa.start evb (Cond.before_iff.mp (hsets _ (List.mem_of_getElem? (i := 80) rfl))), own_flong evb (Cond.before_iff.mp (hsets _ (List.mem_of_getElem? (i := 82) rfl))), own_fint evb (Cond.before_iff.mp (hsets _ (List.mem_of_getElem? (i := 81) rfl)))⟩
  have BT6 : ∃ b, clT.slots[6]? = some (.ref b) ∧ BD s s.heap b (6 : Int64) (0 : Int32) := by
    obtain ⟨b, evb⟩ := exa_v (Cond.before_iff.mp (hsets _ (List.mem_of_getElem? (i := 88) rfl)))
    exact ⟨b, (elem_in evb evT rfl AT.1).2, Exa.start evb (Cond.before_iff.mp (hsets _ (List.mem_of_getElem? (i := 88) rfl))), own_flong evb (Cond.before_iff.mp (hsets _ (List.mem_of_getElem? (i := 90) rfl))), own_fint evb (Cond.before_iff.mp (hsets _ (List.mem_of_getElem? (i := 89) rfl)))⟩
  have BT7 : ∃ b, clT.slots[7]? = some (.ref b) ∧ BD s s.heap b (7 : Int64) (0 : Int32) := by
    obtain ⟨b, evb⟩ := exa_v (Cond.before_iff.mp (hsets _ (List.mem_of_getElem? (i := 96) rfl)))
    exact ⟨b, (elem_in evb evT rfl AT.1).2, Exa.start evb (Cond.before_iff.mp (hsets _ (List.mem_of_getElem? (i := 96) rfl))), own_flong evb (Cond.before_iff.mp (hsets _ (List.mem_of_getElem? (i := 98) rfl))), own_fint evb (Cond.before_iff.mp (hsets _ (List.mem_of_getElem? (i := 97) rfl)))⟩
  have BT8 : ∃ b, clT.slots[8]? = some (.ref b) ∧ BD s s.heap b (8 : Int64) (0 : Int32) := by
    obtain ⟨b, evb⟩ := exa_v (Cond.before_iff.mp (hsets _ (List.mem_of_getElem? (i := 104) rfl)))
    exact ⟨b, (elem_in evb evT rfl AT.1).2, Exa.start evb (Cond.before_iff.mp (hsets _ (List.mem_of_getElem? (i := 104) rfl))), own_flong evb (Cond.before_iff.mp (hsets _ (List.mem_of_getElem? (i := 106) rfl))), own_fint evb (Cond.before_iff.mp (hsets _ (List.mem_of_getElem? (i := 105) rfl)))⟩
  have BT9 : ∃ b, clT.slots[9]? = some (.ref b) ∧ BD s s.heap b (9 : Int64) (0 : Int32) := by
    obtain ⟨b, evb⟩ := exa_v (Cond.before_iff.mp (hsets _ (List.mem_of_getElem? (i := 112) rfl)))
    exact ⟨b, (elem_in evb evT rfl AT.1).2, Exa.start evb (Cond.before_iff.mp (hsets _ (List.mem_of_getElem? (i := 112) rfl))), own_flong evb (Cond.before_iff.mp (hsets _ (List.mem_of_getElem? (i := 114) rfl))), own_fint evb (Cond.before_iff.mp (hsets _ (List.mem_of_getElem? (i := 113) rfl)))⟩
  have BT10 : ∃ b, clT.slots[10]? = some (.ref b) ∧ BD s s.heap b (10 : Int64) (0 : Int32) := by
    obtain ⟨b, evb⟩ := exa_v (Cond.before_iff.mp (hsets _ (List.mem_of_getElem? (i := 121) rfl)))
    exact ⟨b, (elem_in evb evT rfl AT.1).2, Exa.start evb (Cond.before_iff.mp (hsets _ (List.mem_of_getElem? (i := 121) rfl))), own_flong evb (Cond.before_iff.mp (hsets _ (List.mem_of_getElem? (i := 123) rfl))), own_fint evb (Cond.before_iff.mp (hsets _ (List.mem_of_getElem? (i := 122) rfl)))⟩
  have BT : BDs s aT clT 11 (fun i => Int64.ofNat i) (fun i => 0) := ⟨AT, NT, fun i hi => by
    match i, hi with
    | 0, _ => exact BT0
    | 1, _ => exact BT1
    | 2, _ => exact BT2
    | 3, _ => exact BT3
    | 4, _ => exact BT4
    | 5, _ => exact BT5
    | 6, _ => exact BT6
    | 7, _ => exact BT7
    | 8, _ => exact BT8
    | 9, _ => exact BT9
    | 10, _ => exact BT10
    | n + 11, h => exact absurd h (by omega)⟩
  obtain ⟨aS, evS⟩ := arr_v (Cond.before_iff.mp (hsets _ (List.mem_of_getElem? (i := 136) rfl)))
  obtain ⟨clS, AS⟩ := Arr.start evS (Cond.before_iff.mp (hsets _ (List.mem_of_getElem? (i := 136) rfl)))
  have SS := Sta.start evS (Or.inl (hsets _ (List.mem_of_getElem? (i := 131) rfl)))
  have NS : clS.slots.size = 16 := own_len evS AS (by decide) (Cond.before_iff.mp (hsets _ (List.mem_of_getElem? (i := 138) rfl)))
  have BS0 : ∃ b, clS.slots[0]? = some (.ref b) ∧ BD s s.heap b (0 : Int64) (0 : Int32) := by
    obtain ⟨b, evb⟩ := exa_v (Cond.before_iff.mp (hsets _ (List.mem_of_getElem? (i := 140) rfl)))
    exact ⟨b, (elem_in evb evS rfl AS.1).2, Exa.start evb (Cond.before_iff.mp (hsets _ (List.mem_of_getElem? (i := 140) rfl))), own_flong evb (Cond.before_iff.mp (hsets _ (List.mem_of_getElem? (i := 142) rfl))), own_fint evb (Cond.before_iff.mp (hsets _ (List.mem_of_getElem? (i := 141) rfl)))⟩
  have BS1 : ∃ b, clS.slots[1]? = some (.ref b) ∧ BD s s.heap b (0 : Int64) (1 : Int32) := by
    obtain ⟨b, evb⟩ := exa_v (Cond.before_iff.mp (hsets _ (List.mem_of_getElem? (i := 149) rfl)))
    exact ⟨b, (elem_in evb evS rfl AS.1).2, Exa.start evb (Cond.before_iff.mp (hsets _ (List.mem_of_getElem? (i := 149) rfl))), own_flong evb (Cond.before_iff.mp (hsets _ (List.mem_of_getElem? (i := 151) rfl))), own_fint evb (Cond.before_iff.mp (hsets _ (List.mem_of_getElem? (i := 150) rfl)))⟩
  have BS2 : ∃ b, clS.slots[2]? = some (.ref b) ∧ BD s s.heap b (0 : Int64) (2 : Int32) := by
    obtain ⟨b, evb⟩ := exa_v (Cond.before_iff.mp (hsets _ (List.mem_of_getElem? (i := 158) rfl)))
    exact ⟨b, (elem_in evb evS rfl AS.1).2, Exa.start evb (Cond.before_iff.mp (hsets _ (List.mem_of_getElem? (i := 158) rfl))), own_flong evb (Cond.before_iff.mp (hsets _ (List.mem_of_getElem? (i := 160) rfl))), own_fint evb (Cond.before_iff.mp (hsets _ (List.mem_of_getElem? (i := 159) rfl)))⟩
  have BS3 : ∃ b, clS.slots[3]? = some (.ref b) ∧ BD s s.heap b (0 : Int64) (3 : Int32) := by
    obtain ⟨b, evb⟩ := exa_v (Cond.before_iff.mp (hsets _ (List.mem_of_getElem? (i := 167) rfl)))
    exact ⟨b, (elem_in evb evS rfl AS.1).2, Exa.start evb (Cond.before_iff.mp (hsets _ (List.mem_of_getElem? (i := 167) rfl))), own_flong evb (Cond.before_iff.mp (hsets _ (List.mem_of_getElem? (i := 169) rfl))), own_fint evb (Cond.before_iff.mp (hsets _ (List.mem_of_getElem? (i := 168) rfl)))⟩
  have BS4 : ∃ b, clS.slots[4]? = some (.ref b) ∧ BD s s.heap b (0 : Int64) (4 : Int32) := by
    obtain ⟨b, evb⟩ := exa_v (Cond.before_iff.mp (hsets _ (List.mem_of_getElem? (i := 176) rfl)))
    exact ⟨b, (elem_in evb evS rfl AS.1).2, Exa.start evb (Cond.before_iff.mp (hsets _ (List.mem_of_getElem? (i := 176) rfl))), own_flong evb (Cond.before_iff.mp (hsets _ (List.mem_of_getElem? (i := 178) rfl))), own_fint evb (Cond.before_iff.mp (hsets _ (List.mem_of_getElem? (i := 177) rfl)))⟩
  have BS5 : ∃ b, clS.slots[5]? = some (.ref b) ∧ BD s s.heap b (0 : Int64) (5 : Int32) := by
    obtain ⟨b, evb⟩ := exa_v (Cond.before_iff.mp (hsets _ (List.mem_of_getElem? (i := 185) rfl)))
    exact ⟨b, (elem_in evb evS rfl AS.1).2, Exa.start evb (Cond.before_iff.mp (hsets _ (List.mem_of_getElem? (i := 185) rfl))), own_flong evb (Cond.before_iff.mp (hsets _ (List.mem_of_getElem? (i := 187) rfl))), own_fint evb (Cond.before_iff.mp (hsets _ (List.mem_of_getElem? (i := 186) rfl)))⟩
  have BS6 : ∃ b, clS.slots[6]? = some (.ref b) ∧ BD s s.heap b (0 : Int64) (6 : Int32) := by
    obtain ⟨b, evb⟩ := exa_v (Cond.before_iff.mp (hsets _ (List.mem_of_getElem? (i := 194) rfl)))
    exact ⟨b, (elem_in evb evS rfl AS.1).2, Exa.start evb (Cond.before_iff.mp (hsets _ (List.mem_of_getElem? (i := 194) rfl))), own_flong evb (Cond.before_iff.mp (hsets _ (List.mem_of_getElem? (i := 196) rfl))), own_fint evb (Cond.before_iff.mp (hsets _ (List.mem_of_getElem? (i := 195) rfl)))⟩
  have BS7 : ∃ b, clS.slots[7]? = some (.ref b) ∧ BD s s.heap b (0 : Int64) (7 : Int32) := by
    obtain ⟨b, evb⟩ := exa_v (Cond.before_iff.mp (hsets _ (List.mem_of_getElem? (i := 203) rfl)))
    exact ⟨b, (elem_in evb evS rfl AS.1).2, Exa.start evb (Cond.before_iff.mp (hsets _ (List.mem_of_getElem? (i := 203) rfl))), own_flong evb (Cond.before_iff.mp (hsets _ (List.mem_of_getElem? (i := 205) rfl))), own_fint evb (Cond.before_iff.mp (hsets _ (List.mem_of_getElem? (i := 204) rfl)))⟩
  have BS8 : ∃ b, clS.slots[8]? = some (.ref b) ∧ BD s s.heap b (0 : Int64) (8 : Int32) := by
    obtain ⟨b, evb⟩ := exa_v (Cond.before_iff.mp (hsets _ (List.mem_of_getElem? (i := 212) rfl)))
    exact ⟨b, (elem_in evb evS rfl AS.1).2, Exa.start evb (Cond.before_iff.mp (hsets _ (List.mem_of_getElem? (i := 212) rfl))), own_flong evb (Cond.before_iff.mp (hsets _ (List.mem_of_getElem? (i := 214) rfl))), own_fint evb (Cond.before_iff.mp (hsets _ (List.mem_of_getElem? (i := 213) rfl)))⟩
  have BS9 : ∃ b, clS.slots[9]? = some (.ref b) ∧ BD s s.heap b (0 : Int64) (9 : Int32) := by
    obtain ⟨b, evb⟩ := exa_v (Cond.before_iff.mp (hsets _ (List.mem_of_getElem? (i := 221) rfl)))
    exact ⟨b, (elem_in evb evS rfl AS.1).2, Exa.start evb (Cond.before_iff.mp (hsets _ (List.mem_of_getElem? (i := 221) rfl))), own_flong evb (Cond.before_iff.mp (hsets _ (List.mem_of_getElem? (i := 223) rfl))), own_fint evb (Cond.before_iff.mp (hsets _ (List.mem_of_getElem? (i := 222) rfl)))⟩
  have BS10 : ∃ b, clS.slots[10]? = some (.ref b) ∧ BD s s.heap b (0 : Int64) (10 : Int32) := by
    obtain ⟨b, evb⟩ := exa_v (Cond.before_iff.mp (hsets _ (List.mem_of_getElem? (i := 230) rfl)))
    exact ⟨b, (elem_in evb evS rfl AS.1).2, Exa.start evb (Cond.before_iff.mp (hsets _ (List.mem_of_getElem? (i := 230) rfl))), own_flong evb (Cond.before_iff.mp (hsets _ (List.mem_of_getElem? (i := 232) rfl))), own_fint evb (Cond.before_iff.mp (hsets _ (List.mem_of_getElem? (i := 231) rfl)))⟩
  have BS11 : ∃ b, clS.slots[11]? = some (.ref b) ∧ BD s s.heap b (0 : Int64) (11 : Int32) := by
    obtain ⟨b, evb⟩ := exa_v (Cond.before_iff.mp (hsets _ (List.mem_of_getElem? (i := 239) rfl)))
    exact ⟨b, (elem_in evb evS rfl AS.1).2, Exa.start evb (Cond.before_iff.mp (hsets _ (List.mem_of_getElem? (i := 239) rfl))), own_flong evb (Cond.before_iff.mp (hsets _ (List.mem_of_getElem? (i := 241) rfl))), own_fint evb (Cond.before_iff.mp (hsets _ (List.mem_of_getElem? (i := 240) rfl)))⟩
  have BS12 : ∃ b, clS.slots[12]? = some (.ref b) ∧ BD s s.heap b (0 : Int64) (12 : Int32) := by
    obtain ⟨b, evb⟩ := exa_v (Cond.before_iff.mp (hsets _ (List.mem_of_getElem? (i := 248) rfl)))
    exact ⟨b, (elem_in evb evS rfl AS.1).2, Exa.start evb (Cond.before_iff.mp (hsets _ (List.mem_of_getElem? (i := 248) rfl))), own_flong evb (Cond.before_iff.mp (hsets _ (List.mem_of_getElem? (i := 250) rfl))), own_fint evb (Cond.before_iff.mp (hsets _ (List.mem_of_getElem? (i := 249) rfl)))⟩
  have BS13 : ∃ b, clS.slots[13]? = some (.ref b) ∧ BD s s.heap b (0 : Int64) (13 : Int32) := by
    obtain ⟨b, evb⟩ := exa_v (Cond.before_iff.mp (hsets _ (List.mem_of_getElem? (i := 257) rfl)))
    exact ⟨b, (elem_in evb evS rfl AS.1).2, Exa.start evb (Cond.before_iff.mp (hsets _ (List.mem_of_getElem? (i := 257) rfl))), own_flong evb (Cond.before_iff.mp (hsets _ (List.mem_of_getElem? (i := 259) rfl))), own_fint evb (Cond.before_iff.mp (hsets _ (List.mem_of_getElem? (i := 258) rfl)))⟩
  have BS14 : ∃ b, clS.slots[14]? = some (.ref b) ∧ BD s s.heap b (0 : Int64) (14 : Int32) := by
    obtain ⟨b, evb⟩ := exa_v (Cond.before_iff.mp (hsets _ (List.mem_of_getElem? (i := 266) rfl)))
    exact ⟨b, (elem_in evb evS rfl AS.1).2, Exa.start evb (Cond.before_iff.mp (hsets _ (List.mem_of_getElem? (i := 266) rfl))), own_flong evb (Cond.before_iff.mp (hsets _ (List.mem_of_getElem? (i := 268) rfl))), own_fint evb (Cond.before_iff.mp (hsets _ (List.mem_of_getElem? (i := 267) rfl)))⟩
  have BS15 : ∃ b, clS.slots[15]? = some (.ref b) ∧ BD s s.heap b (0 : Int64) (15 : Int32) := by
    obtain ⟨b, evb⟩ := exa_v (Cond.before_iff.mp (hsets _ (List.mem_of_getElem? (i := 275) rfl)))
    exact ⟨b, (elem_in evb evS rfl AS.1).2, Exa.start evb (Cond.before_iff.mp (hsets _ (List.mem_of_getElem? (i := 275) rfl))), own_flong evb (Cond.before_iff.mp (hsets _ (List.mem_of_getElem? (i := 277) rfl))), own_fint evb (Cond.before_iff.mp (hsets _ (List.mem_of_getElem? (i := 276) rfl)))⟩
  have BS : BDs s aS clS 16 (fun i => 0) (fun i => Int32.ofNat i) := ⟨AS, NS, fun i hi => by
    match i, hi with
    | 0, _ => exact BS0
    | 1, _ => exact BS1
    | 2, _ => exact BS2
    | 3, _ => exact BS3
    | 4, _ => exact BS4
    | 5, _ => exact BS5
    | 6, _ => exact BS6
    | 7, _ => exact BS7
    | 8, _ => exact BS8
    | 9, _ => exact BS9
    | 10, _ => exact BS10
    | 11, _ => exact BS11
    | 12, _ => exact BS12
    | 13, _ => exact BS13
    | 14, _ => exact BS14
    | 15, _ => exact BS15
    | n + 16, h => exact absurd h (by omega)⟩
  obtain ⟨n, o, h1, h2, h3, _, L, rfl, ⟨rfl, N⟩, hq⟩ := rm_law l s _ hw tables_1 i0 i1 i2 i3 aQ aN aZ aT clT aS clS s.heap s.heap.size (Nat.le_refl _) (Old.start s) SaQ SaN neNQ SZ BZ ST BT SS BS p e ha hc hk s m _ below hf ((Spec.applies_iff_loose hf).mp happ).1 ⟨rfl, State.Warmed39.refl s, rfl⟩ trivial
  refine ⟨n, _, h1, h2, h3, hpost _ _ _ _ _ _ ⟨Cond.after_iff.mpr rfl, Cond.after_iff.mpr (eq_i res_at (Term.int_eval (1)) rfl), trivial⟩ ⟨hq.1, hq.2.1, (hq.2.2.sift fun y hy => Or.inr (N y hy)).mono (by decide) (by decide)⟩⟩
theorem main_1_1 : Claimed_1_1 := comes_1 fun _ _ _ _ _ _ h hF => ⟨h.1, hF⟩
theorem main_1_2 : Claimed_1_2 := comes_1 fun _ _ _ _ _ _ h hF => ⟨h.2.1, hF⟩
end Jvm.Pilot.@@N@@
namespace Jvm.Pilot.@@N@@
open Jvm Jvm.ClassFile Sem Op Lib Jvm.Free Jvm.Stand Jvm.Pilot.@@N@@.Jvm.D
/-! MADE BY PROGRAM (witnessworld.py) out of the Statement's table words and the real class files: 20 classes; the members and pool entries that the words name. The judged class is class 1, her method 1. -/
namespace start1
open Jvm.ClassFile
def u (s : String) : CpInfo := .utf8 (stringToUtf16 s)
/-- a pool by its gaps: so many unusable entries, then the entry; so many at the end -/
def gap : Nat → List CpInfo → List CpInfo
  | 0, r => r
  | n + 1, r => .unusable :: gap n r
def poolList (es : List (Nat × CpInfo)) (last : Nat) : List CpInfo := es.foldr (fun e r => gap e.1 (e.2 :: r)) (gap last [])
def pool (es : List (Nat × CpInfo)) (last : Nat) : Array CpInfo := ⟨poolList es last⟩
def fileOf (pool : Array CpInfo) (this : Nat) (attrs : Array Attribute := #[]) (ms : Array MethodInfo := #[]) (fl : Nat := 33) (sup : Nat := 0) (ifs : Array Nat := #[]) (fds : Array FieldInfo := #[]) : ClassFile where
  minorVersion := 0
  majorVersion := 65
  constantPool := pool
  accessFlags := fl
  thisClass := this
  superClass := sup
  interfaces := ifs
  fields := fds
  methods := ms
  attributes := attrs
def plain (name : String) (sup : Option ClassId) : Class where
  name := name
  kind := .ordinary
  loader := none
  accessFlags := 33
  super := sup
  interfaces := #[]
  cf := none
  fields := #[]
  methods := #[]
  instanceTypes := #[]
  staticTypes := #[]
  resolved := #[]
  callSites := []
  init := .initialized
  statics := none
  mirror := none

def pool0 : Array CpInfo := pool [(5, u "<init>"), (0, u "()V"), (1, .class_ 10), (1, u "java/lang/Object")] 113

def k0c0 : Code := { maxStack := 0, maxLocals := 1, code := object_method_1_code, exceptionTable := #[], attributes := #[] }
def k0m0 : Method := { name := "<init>", desc := "()V", sig := { parameters := [], returnType := none }, accessFlags := 1, code := some k0c0 }
/-- java/lang/Object -/
def k0 : Class := { plain "java/lang/Object" none with
  accessFlags := 33
  interfaces := #[]
  cf := some (fileOf pool0 8 #[] #[{ accessFlags := 1, nameIndex := 5, descriptorIndex := 6, attributes := #[] }] 33 0 #[] #[])
  fields := #[]
  methods := #[k0m0]
  instanceTypes := #[]
  staticTypes := #[]
  resolved := Array.replicate 124 none
  statics := none }

def pool1 : Array CpInfo := pool [(2, .class_ 4), (1, u "java/lang/Object"), (0, u "<init>"), (0, u "()V"), (0, .long 2147483647), (1, .methodref 10 11), (0, .class_ 12), (0, .nameAndType 13 14), (0, u "java/math/BigDecimal"), (0, u "valueOf"), (0, u "(JI)Ljava/math/BigDecimal;"), (0, .class_ 16), (0, u "com/example/frontmonth/frontmonth/Quote"), (0, .class_ 18), (0, u "com/example/frontmonth/frontmonth/BidAsk"), (0, .methodref 17 20), (0, .nameAndType 5 21), (0, u "(Ljava/math/BigDecimal;Ljava/math/BigDecimal;)V"), (0, .methodref 15 23), (0, .nameAndType 5 24), (0, u "(Lcom/example/frontmonth/frontmonth/BidAsk;Lcom/example/frontmonth/frontmonth/BidAsk;)V"), (0, .fieldref 26 27), (0, .class_ 28), (0, .nameAndType 29 30), (0, u "com/example/frontmonth/frontmonth/Spread$Word"), (0, u "QUOTED"), (0, u "Lcom/example/frontmonth/frontmonth/Spread$Word;"), (0, .fieldref 26 32), (0, .nameAndType 33 30), (0, u "NONE"), (0, .methodref 35 36), (0, .class_ 37), (0, .nameAndType 38 39), (0, u "com/example/frontmonth/frontmonth/Spread"), (0, u "of"), (0, u "(Lcom/example/frontmonth/frontmonth/Spread$Word;)Lcom/example/frontmonth/frontmonth/Spread;"), (0, .methodref 35 41), (0, .nameAndType 42 43), (0, u "perUnit"), (0, u "(Lcom/example/frontmonth/frontmonth/Quote;)Ljava/math/BigDecimal;"), (0, .fieldref 10 45), (0, .nameAndType 46 47), (0, u "ZERO"), (0, u "Ljava/math/BigDecimal;"), (0, .methodref 10 49), (0, .nameAndType 50 51), (0, u "equals"), (0, u "(Ljava/lang/Object;)Z"), (0, .class_ 53), (0, u "com/example/frontmonth/frontmonth/SpreadOfPinLaw"), (2, u "law"), (0, u "(IIII)Z")] 5

def k1m0 : Method := { name := "<init>", desc := "()V", sig := { parameters := [], returnType := none }, accessFlags := 1, code := none }
def k1c1 : Code := { maxStack := 7, maxLocals := 16, code := code, exceptionTable := #[], attributes := #[] }
def k1m1 : Method := { name := "law", desc := "(IIII)Z", sig := { parameters := [.int, .int, .int, .int], returnType := some .boolean }, accessFlags := 9, code := some k1c1 }
/-- com/example/frontmonth/frontmonth/SpreadOfPinLaw -/
def k1 : Class := { plain "com/example/frontmonth/frontmonth/SpreadOfPinLaw" (some 0) with
  accessFlags := 49
  interfaces := #[]
  cf := some (fileOf pool1 52 #[] #[{ accessFlags := 1, nameIndex := 5, descriptorIndex := 6, attributes := #[] }, { accessFlags := 9, nameIndex := 56, descriptorIndex := 57, attributes := #[] }] 49 2 #[] #[])
  fields := #[]
  methods := #[k1m0, k1m1]
  instanceTypes := #[]
  staticTypes := #[]
  resolved := Array.replicate 63 none
  statics := none }

def pool2 : Array CpInfo := pool [(1, .class_ 2), (0, u "java/io/Serializable"), (0, .class_ 4), (0, u "java/lang/Object")] 2

/-- java/io/Serializable -/
def k2 : Class := { plain "java/io/Serializable" (some 0) with
  accessFlags := 1537
  interfaces := #[]
  cf := some (fileOf pool2 1 #[] #[] 1537 3 #[] #[])
  fields := #[]
  methods := #[]
  instanceTypes := #[]
  staticTypes := #[]
  resolved := Array.replicate 7 none
  statics := none }

def pool3 : Array CpInfo := pool [(1, .methodref 2 3), (0, .class_ 4), (0, .nameAndType 5 6), (0, u "java/lang/Object"), (0, u "<init>"), (0, u "()V"), (1, .class_ 10), (1, u "java/lang/Number"), (2, .class_ 14), (0, u "java/io/Serializable"), (0, u "serialVersionUID"), (0, u "J")] 20

def k3c0 : Code := { maxStack := 1, maxLocals := 1, code := jdk_18_method_1_code, exceptionTable := #[], attributes := #[] }
def k3m0 : Method := { name := "<init>", desc := "()V", sig := { parameters := [], returnType := none }, accessFlags := 1, code := some k3c0 }
/-- java/lang/Number -/
def k3 : Class := { plain "java/lang/Number" (some 0) with
  accessFlags := 1057
  interfaces := #[2]
  cf := some (fileOf pool3 8 #[] #[{ accessFlags := 1, nameIndex := 5, descriptorIndex := 6, attributes := #[] }] 1057 2 #[13] #[{ accessFlags := 26, nameIndex := 15, descriptorIndex := 16, attributes := #[] }])
  fields := #[{ name := "serialVersionUID", type := .long, accessFlags := 26, slot := 0, constantValue := 0 }]
  methods := #[k3m0]
  instanceTypes := #[]
  staticTypes := #[.long]
  resolved := Array.replicate 37 none
  statics := none }

def pool4 : Array CpInfo := pool [(1, .class_ 2), (0, u "java/lang/Comparable"), (0, .class_ 4), (0, u "java/lang/Object")] 7

/-- java/lang/Comparable -/
def k4 : Class := { plain "java/lang/Comparable" (some 0) with
  accessFlags := 1537
  interfaces := #[]
  cf := some (fileOf pool4 1 #[] #[] 1537 3 #[] #[])
  fields := #[]
  methods := #[]
  instanceTypes := #[]
  staticTypes := #[]
  resolved := Array.replicate 12 none
  statics := none }

def pool5 : Array CpInfo := pool [(3, .class_ 4), (0, u "java/math/BigDecimal"), (6, .methodref 12 13), (0, .class_ 14), (0, .nameAndType 15 16), (0, u "java/lang/Number"), (0, u "<init>"), (0, u "()V"), (0, .fieldref 3 18), (0, .nameAndType 19 20), (0, u "scale"), (0, u "I"), (0, .fieldref 3 22), (0, .nameAndType 23 20), (0, u "precision"), (0, .fieldref 3 25), (0, .nameAndType 26 27), (0, u "intCompact"), (0, u "J"), (0, .fieldref 3 29), (0, .nameAndType 30 31), (0, u "intVal"), (0, u "Ljava/math/BigInteger;"), (65, u "LONG_TEN_POWERS_TABLE"), (0, u "[J"), (26, .long 9223372036854775808), (61, u "ZERO"), (2, u "INFLATED_BIGINT"), (4, u "valueOf"), (10, u "TWO"), (29, .methodref 3 237), (0, .nameAndType 195 238), (0, u "(J)Ljava/math/BigDecimal;"), (0, .methodref 3 240), (0, .nameAndType 241 242), (0, u "zeroValueOf"), (0, u "(I)Ljava/math/BigDecimal;"), (0, .methodref 3 244), (0, .nameAndType 15 245), (0, u "(Ljava/math/BigInteger;JII)V"), (0, .fieldref 3 247), (0, .nameAndType 248 249), (0, u "ZERO_THROUGH_TEN"), (0, u "[Ljava/math/BigDecimal;"), (0, .fieldref 3 251), (0, .nameAndType 252 249), (0, u "ZERO_SCALED_BY"), (4, .methodref 3 258), (0, .nameAndType 259 260), (0, u "add"), (0, u "(JIJI)Ljava/math/BigDecimal;"), (8, u "(Ljava/math/BigDecimal;)Ljava/math/BigDecimal;"), (43, u "$assertionsDisabled"), (0, u "Z"), (7, u "(JJ)J"), (5, .methodref 3 329), (0, .nameAndType 195 330), (0, u "(JI)Ljava/math/BigDecimal;"), (5, u "subtract"), (7, u "(JJI)Ljava/math/BigDecimal;"), (133, u "ONE_TENTH"), (0, u "Ljava/math/BigDecimal;"), (5, u "TEN"), (14, .class_ 502), (1, u "java/math/BigDecimal$1"), (15, u "ONE_HALF"), (16, u "ONE"), (18, u "equals"), (0, u "(Ljava/lang/Object;)Z"), (87, u "stringCache"), (0, u "Ljava/lang/String;"), (52, .class_ 699), (1, u "java/math/BigDecimal$LongOverflow"), (8, u "FLOAT_10_POW"), (0, u "[F"), (39, u "DOUBLE_10_POW"), (0, u "[D"), (19, .class_ 772), (1, u "java/math/BigDecimal$StringBuilderHelper"), (35, u "BIG_TEN_POWERS_TABLE_MAX"), (2, u "BIG_TEN_POWERS_TABLE"), (0, u "[Ljava/math/BigInteger;"), (14, u "THRESHOLDS_TABLE"), (23, .class_ 853), (1, u "java/math/BigDecimal$UnsafeHolder"), (142, .methodref 3 997), (0, .nameAndType 259 322), (2, .methodref 3 1001), (0, .nameAndType 259 344), (66, u "LONGLONG_TEN_POWERS_TABLE"), (0, u "[[J"), (112, u "BIG_TEN_POWERS_TABLE_INITLEN"), (113, .class_ 1297), (0, u "java/lang/Comparable"), (0, u "L"), (0, u "D"), (1, u "P_F"), (1, u "Q_MIN_F"), (1, u "Q_MAX_F"), (1, u "P_D"), (1, u "Q_MIN_D"), (1, u "Q_MAX_D"), (1, u "INFLATED"), (0, u "MAX_COMPACT_DIGITS"), (1, u "serialVersionUID"), (2, u "HALF_LONG_MAX_VALUE"), (0, u "HALF_LONG_MIN_VALUE"), (0, u "ROUND_UP"), (6, u "ROUND_DOWN"), (1, u "ROUND_CEILING"), (1, u "ROUND_FLOOR"), (1, u "ROUND_HALF_UP"), (1, u "ROUND_HALF_DOWN"), (1, u "ROUND_HALF_EVEN"), (1, u "ROUND_UNNECESSARY"), (1, u "DIV_NUM_BASE")] 294

def k5c0 : Code := { maxStack := 3, maxLocals := 6, code := jdk_17_method_1_code, exceptionTable := #[], attributes := #[] }
def k5m0 : Method := { name := "<init>", desc := "(Ljava/math/BigInteger;JII)V", sig := { parameters := [(.object "java/math/BigInteger"), .long, .int, .int], returnType := none }, accessFlags := 0, code := some k5c0 }
def k5c1 : Code := { maxStack := 7, maxLocals := 3, code := jdk_17_method_20_code, exceptionTable := #[], attributes := #[] }
def k5m1 : Method := { name := "valueOf", desc := "(JI)Ljava/math/BigDecimal;", sig := { parameters := [.long, .int], returnType := some (.object "java/math/BigDecimal") }, accessFlags := 9, code := some k5c1 }
def k5c2 : Code := { maxStack := 7, maxLocals := 2, code := jdk_17_method_21_code, exceptionTable := #[], attributes := #[] }
def k5m2 : Method := { name := "valueOf", desc := "(J)Ljava/math/BigDecimal;", sig := { parameters := [.long], returnType := some (.object "java/math/BigDecimal") }, accessFlags := 9, code := some k5c2 }
def k5c3 : Code := { maxStack := 7, maxLocals := 1, code := jdk_17_method_24_code, exceptionTable := #[], attributes := #[] }
def k5m3 : Method := { name := "zeroValueOf", desc := "(I)Ljava/math/BigDecimal;", sig := { parameters := [.int], returnType := some (.object "java/math/BigDecimal") }, accessFlags := 8, code := some k5c3 }
def k5c4 : Code := { maxStack := 6, maxLocals := 2, code := jdk_17_method_29_code, exceptionTable := #[], attributes := #[] }
def k5m4 : Method := { name := "subtract", desc := "(Ljava/math/BigDecimal;)Ljava/math/BigDecimal;", sig := { parameters := [(.object "java/math/BigDecimal")], returnType := some (.object "java/math/BigDecimal") }, accessFlags := 1, code := some k5c4 }
def k5c5 : Code := { maxStack := 4, maxLocals := 7, code := jdk_17_method_72_code, exceptionTable := #[], attributes := #[] }
def k5m5 : Method := { name := "equals", desc := "(Ljava/lang/Object;)Z", sig := { parameters := [(.object "java/lang/Object")], returnType := some .boolean }, accessFlags := 1, code := some k5c5 }
def k5c6 : Code := { maxStack := 6, maxLocals := 6, code := jdk_17_method_132_code, exceptionTable := #[], attributes := #[] }
def k5m6 : Method := { name := "add", desc := "(JJ)J", sig := { parameters := [.long, .long], returnType := some .long }, accessFlags := 10, code := some k5c6 }
def k5c7 : Code := { maxStack := 5, maxLocals := 7, code := jdk_17_method_133_code, exceptionTable := #[], attributes := #[] }
def k5m7 : Method := { name := "add", desc := "(JJI)Ljava/math/BigDecimal;", sig := { parameters := [.long, .long, .int], returnType := some (.object "java/math/BigDecimal") }, accessFlags := 10, code := some k5c7 }
def k5c8 : Code := { maxStack := 7, maxLocals := 12, code := jdk_17_method_134_code, exceptionTable := #[], attributes := #[] }
def k5m8 : Method := { name := "add", desc := "(JIJI)Ljava/math/BigDecimal;", sig := { parameters := [.long, .int, .long, .int], returnType := some (.object "java/math/BigDecimal") }, accessFlags := 10, code := some k5c8 }
/-- java/math/BigDecimal -/
def k5 : Class := { plain "java/math/BigDecimal" (some 3) with
  accessFlags := 33
  interfaces := #[4]
  cf := some (fileOf pool5 3 #[.nestMembers #[500, 851, 770, 697]] #[{ accessFlags := 0, nameIndex := 15, descriptorIndex := 245, attributes := #[] }, { accessFlags := 9, nameIndex := 195, descriptorIndex := 330, attributes := #[] }, { accessFlags := 9, nameIndex := 195, descriptorIndex := 238, attributes := #[] }, { accessFlags := 8, nameIndex := 241, descriptorIndex := 242, attributes := #[] }, { accessFlags := 1, nameIndex := 336, descriptorIndex := 269, attributes := #[] }, { accessFlags := 1, nameIndex := 554, descriptorIndex := 555, attributes := #[] }, { accessFlags := 10, nameIndex := 259, descriptorIndex := 322, attributes := #[] }, { accessFlags := 10, nameIndex := 259, descriptorIndex := 344, attributes := #[] }, { accessFlags := 10, nameIndex := 259, descriptorIndex := 260, attributes := #[] }] 33 12 #[1296] #[{ accessFlags := 26, nameIndex := 1298, descriptorIndex := 1299, attributes := #[] }, { accessFlags := 26, nameIndex := 1301, descriptorIndex := 20, attributes := #[] }, { accessFlags := 26, nameIndex := 1303, descriptorIndex := 20, attributes := #[] }, { accessFlags := 26, nameIndex := 1305, descriptorIndex := 20, attributes := #[] }, { accessFlags := 26, nameIndex := 1307, descriptorIndex := 20, attributes := #[] }, { accessFlags := 26, nameIndex := 1309, descriptorIndex := 20, attributes := #[] }, { accessFlags := 26, nameIndex := 1311, descriptorIndex := 20, attributes := #[] }, { accessFlags := 18, nameIndex := 30, descriptorIndex := 31, attributes := #[] }, { accessFlags := 18, nameIndex := 19, descriptorIndex := 20, attributes := #[] }, { accessFlags := 130, nameIndex := 23, descriptorIndex := 20, attributes := #[] }, { accessFlags := 130, nameIndex := 643, descriptorIndex := 644, attributes := #[] }, { accessFlags := 24, nameIndex := 1313, descriptorIndex := 27, attributes := #[] }, { accessFlags := 26, nameIndex := 190, descriptorIndex := 31, attributes := #[] }, { accessFlags := 146, nameIndex := 26, descriptorIndex := 27, attributes := #[] }, { accessFlags := 26, nameIndex := 1314, descriptorIndex := 20, attributes := #[] }, { accessFlags := 26, nameIndex := 1316, descriptorIndex := 27, attributes := #[] }, { accessFlags := 26, nameIndex := 248, descriptorIndex := 249, attributes := #[] }, { accessFlags := 26, nameIndex := 252, descriptorIndex := 249, attributes := #[] }, { accessFlags := 26, nameIndex := 1319, descriptorIndex := 27, attributes := #[] }, { accessFlags := 26, nameIndex := 1320, descriptorIndex := 27, attributes := #[] }, { accessFlags := 25, nameIndex := 187, descriptorIndex := 479, attributes := #[] }, { accessFlags := 25, nameIndex := 535, descriptorIndex := 479, attributes := #[] }, { accessFlags := 25, nameIndex := 206, descriptorIndex := 479, attributes := #[] }, { accessFlags := 25, nameIndex := 485, descriptorIndex := 479, attributes := #[] }, { accessFlags := 26, nameIndex := 478, descriptorIndex := 479, attributes := #[] }, { accessFlags := 26, nameIndex := 518, descriptorIndex := 479, attributes := #[] }, { accessFlags := 25, nameIndex := 1321, descriptorIndex := 20, attributes := #[] }, { accessFlags := 25, nameIndex := 1328, descriptorIndex := 20, attributes := #[] }, { accessFlags := 25, nameIndex := 1330, descriptorIndex := 20, attributes := #[] }, { accessFlags := 25, nameIndex := 1332, descriptorIndex := 20, attributes := #[] }, { accessFlags := 25, nameIndex := 1334, descriptorIndex := 20, attributes := #[] }, { accessFlags := 25, nameIndex := 1336, descriptorIndex := 20, attributes := #[] }, { accessFlags := 25, nameIndex := 1338, descriptorIndex := 20, attributes := #[] }, { accessFlags := 25, nameIndex := 1340, descriptorIndex := 20, attributes := #[] }, { accessFlags := 26, nameIndex := 749, descriptorIndex := 750, attributes := #[] }, { accessFlags := 26, nameIndex := 708, descriptorIndex := 709, attributes := #[] }, { accessFlags := 26, nameIndex := 97, descriptorIndex := 98, attributes := #[] }, { accessFlags := 74, nameIndex := 811, descriptorIndex := 812, attributes := #[] }, { accessFlags := 26, nameIndex := 1182, descriptorIndex := 20, attributes := #[] }, { accessFlags := 26, nameIndex := 808, descriptorIndex := 20, attributes := #[] }, { accessFlags := 26, nameIndex := 827, descriptorIndex := 98, attributes := #[] }, { accessFlags := 26, nameIndex := 1342, descriptorIndex := 27, attributes := #[] }, { accessFlags := 26, nameIndex := 1068, descriptorIndex := 1069, attributes := #[] }, { accessFlags := 4120, nameIndex := 313, descriptorIndex := 314, attributes := #[] }])
  fields := #[{ name := "L", type := .double, accessFlags := 26, slot := 0, constantValue := 0 }, { name := "P_F", type := .int, accessFlags := 26, slot := 1, constantValue := 0 }, { name := "Q_MIN_F", type := .int, accessFlags := 26, slot := 2, constantValue := 0 }, { name := "Q_MAX_F", type := .int, accessFlags := 26, slot := 3, constantValue := 0 }, { name := "P_D", type := .int, accessFlags := 26, slot := 4, constantValue := 0 }, { name := "Q_MIN_D", type := .int, accessFlags := 26, slot := 5, constantValue := 0 }, { name := "Q_MAX_D", type := .int, accessFlags := 26, slot := 6, constantValue := 0 }, { name := "intVal", type := (.object "java/math/BigInteger"), accessFlags := 18, slot := 0, constantValue := 0 }, { name := "scale", type := .int, accessFlags := 18, slot := 1, constantValue := 0 }, { name := "precision", type := .int, accessFlags := 130, slot := 2, constantValue := 0 }, { name := "stringCache", type := (.object "java/lang/String"), accessFlags := 130, slot := 3, constantValue := 0 }, { name := "INFLATED", type := .long, accessFlags := 24, slot := 7, constantValue := 0 }, { name := "INFLATED_BIGINT", type := (.object "java/math/BigInteger"), accessFlags := 26, slot := 8, constantValue := 0 }, { name := "intCompact", type := .long, accessFlags := 146, slot := 4, constantValue := 0 }, { name := "MAX_COMPACT_DIGITS", type := .int, accessFlags := 26, slot := 9, constantValue := 0 }, { name := "serialVersionUID", type := .long, accessFlags := 26, slot := 10, constantValue := 0 }, { name := "ZERO_THROUGH_TEN", type := (.array (.object "java/math/BigDecimal")), accessFlags := 26, slot := 11, constantValue := 0 }, { name := "ZERO_SCALED_BY", type := (.array (.object "java/math/BigDecimal")), accessFlags := 26, slot := 12, constantValue := 0 }, { name := "HALF_LONG_MAX_VALUE", type := .long, accessFlags := 26, slot := 13, constantValue := 0 }, { name := "HALF_LONG_MIN_VALUE", type := .long, accessFlags := 26, slot := 14, constantValue := 0 }, { name := "ZERO", type := (.object "java/math/BigDecimal"), accessFlags := 25, slot := 15, constantValue := 0 }, { name := "ONE", type := (.object "java/math/BigDecimal"), accessFlags := 25, slot := 16, constantValue := 0 }, { name := "TWO", type := (.object "java/math/BigDecimal"), accessFlags := 25, slot := 17, constantValue := 0 }, { name := "TEN", type := (.object "java/math/BigDecimal"), accessFlags := 25, slot := 18, constantValue := 0 }, { name := "ONE_TENTH", type := (.object "java/math/BigDecimal"), accessFlags := 26, slot := 19, constantValue := 0 }, { name := "ONE_HALF", type := (.object "java/math/BigDecimal"), accessFlags := 26, slot := 20, constantValue := 0 }, { name := "ROUND_UP", type := .int, accessFlags := 25, slot := 21, constantValue := 0 }, { name := "ROUND_DOWN", type := .int, accessFlags := 25, slot := 22, constantValue := 0 }, { name := "ROUND_CEILING", type := .int, accessFlags := 25, slot := 23, constantValue := 0 }, { name := "ROUND_FLOOR", type := .int, accessFlags := 25, slot := 24, constantValue := 0 }, { name := "ROUND_HALF_UP", type := .int, accessFlags := 25, slot := 25, constantValue := 0 }, { name := "ROUND_HALF_DOWN", type := .int, accessFlags := 25, slot := 26, constantValue := 0 }, { name := "ROUND_HALF_EVEN", type := .int, accessFlags := 25, slot := 27, constantValue := 0 }, { name := "ROUND_UNNECESSARY", type := .int, accessFlags := 25, slot := 28, constantValue := 0 }, { name := "DOUBLE_10_POW", type := (.array .double), accessFlags := 26, slot := 29, constantValue := 0 }, { name := "FLOAT_10_POW", type := (.array .float), accessFlags := 26, slot := 30, constantValue := 0 }, { name := "LONG_TEN_POWERS_TABLE", type := (.array .long), accessFlags := 26, slot := 31, constantValue := 0 }, { name := "BIG_TEN_POWERS_TABLE", type := (.array (.object "java/math/BigInteger")), accessFlags := 74, slot := 32, constantValue := 0 }, { name := "BIG_TEN_POWERS_TABLE_INITLEN", type := .int, accessFlags := 26, slot := 33, constantValue := 0 }, { name := "BIG_TEN_POWERS_TABLE_MAX", type := .int, accessFlags := 26, slot := 34, constantValue := 0 }, { name := "THRESHOLDS_TABLE", type := (.array .long), accessFlags := 26, slot := 35, constantValue := 0 }, { name := "DIV_NUM_BASE", type := .long, accessFlags := 26, slot := 36, constantValue := 0 }, { name := "LONGLONG_TEN_POWERS_TABLE", type := (.array (.array .long)), accessFlags := 26, slot := 37, constantValue := 0 }, { name := "$assertionsDisabled", type := .boolean, accessFlags := 4120, slot := 38, constantValue := 0 }]
  methods := #[k5m0, k5m1, k5m2, k5m3, k5m4, k5m5, k5m6, k5m7, k5m8]
  instanceTypes := #[(.object "java/math/BigInteger"), .int, .int, (.object "java/lang/String"), .long]
  staticTypes := #[.double, .int, .int, .int, .int, .int, .int, .long, (.object "java/math/BigInteger"), .int, .long, (.array (.object "java/math/BigDecimal")), (.array (.object "java/math/BigDecimal")), .long, .long, (.object "java/math/BigDecimal"), (.object "java/math/BigDecimal"), (.object "java/math/BigDecimal"), (.object "java/math/BigDecimal"), (.object "java/math/BigDecimal"), (.object "java/math/BigDecimal"), .int, .int, .int, .int, .int, .int, .int, .int, (.array .double), (.array .float), (.array .long), (.array (.object "java/math/BigInteger")), .int, .int, (.array .long), .long, (.array (.array .long)), .boolean]
  resolved := Array.replicate 1637 none
  statics := some 0 }

def pool6 : Array CpInfo := pool [(1, .methodref 2 3), (0, .class_ 4), (0, .nameAndType 5 6), (0, u "java/lang/Object"), (0, u "<init>"), (0, u "()V"), (0, .fieldref 8 9), (0, .class_ 10), (0, .nameAndType 11 12), (0, u "com/example/frontmonth/frontmonth/Quote"), (0, u "expiring"), (0, u "Lcom/example/frontmonth/frontmonth/BidAsk;"), (0, .fieldref 8 14), (0, .nameAndType 15 12), (0, u "next"), (1, .class_ 19), (1, u "com/example/frontmonth/frontmonth/BidAsk"), (2, .methodref 17 23), (0, .nameAndType 24 25), (0, u "spread"), (0, u "()Ljava/math/BigDecimal;"), (0, u "(Lcom/example/frontmonth/frontmonth/BidAsk;Lcom/example/frontmonth/frontmonth/BidAsk;)V"), (4, u "newSpread")] 2

def k6c0 : Code := { maxStack := 2, maxLocals := 3, code := prog_21_method_1_code, exceptionTable := #[], attributes := #[] }
def k6m0 : Method := { name := "<init>", desc := "(Lcom/example/frontmonth/frontmonth/BidAsk;Lcom/example/frontmonth/frontmonth/BidAsk;)V", sig := { parameters := [(.object "com/example/frontmonth/frontmonth/BidAsk"), (.object "com/example/frontmonth/frontmonth/BidAsk")], returnType := none }, accessFlags := 0, code := some k6c0 }
def k6c1 : Code := { maxStack := 1, maxLocals := 1, code := prog_21_method_4_code, exceptionTable := #[], attributes := #[] }
def k6m1 : Method := { name := "newSpread", desc := "()Ljava/math/BigDecimal;", sig := { parameters := [], returnType := some (.object "java/math/BigDecimal") }, accessFlags := 0, code := some k6c1 }
/-- com/example/frontmonth/frontmonth/Quote -/
def k6 : Class := { plain "com/example/frontmonth/frontmonth/Quote" (some 0) with
  accessFlags := 48
  interfaces := #[]
  cf := some (fileOf pool6 8 #[] #[{ accessFlags := 0, nameIndex := 5, descriptorIndex := 26, attributes := #[] }, { accessFlags := 0, nameIndex := 31, descriptorIndex := 25, attributes := #[] }] 48 2 #[] #[{ accessFlags := 18, nameIndex := 11, descriptorIndex := 12, attributes := #[] }, { accessFlags := 18, nameIndex := 15, descriptorIndex := 12, attributes := #[] }])
  fields := #[{ name := "expiring", type := (.object "com/example/frontmonth/frontmonth/BidAsk"), accessFlags := 18, slot := 0, constantValue := 0 }, { name := "next", type := (.object "com/example/frontmonth/frontmonth/BidAsk"), accessFlags := 18, slot := 1, constantValue := 0 }]
  methods := #[k6m0, k6m1]
  instanceTypes := #[(.object "com/example/frontmonth/frontmonth/BidAsk"), (.object "com/example/frontmonth/frontmonth/BidAsk")]
  staticTypes := #[]
  resolved := Array.replicate 34 none
  statics := none }

def pool7 : Array CpInfo := pool [(1, .methodref 2 3), (0, .class_ 4), (0, .nameAndType 5 6), (0, u "java/lang/Object"), (0, u "<init>"), (0, u "()V"), (0, .fieldref 8 9), (0, .class_ 10), (0, .nameAndType 11 12), (0, u "com/example/frontmonth/frontmonth/BidAsk"), (0, u "bid"), (0, u "Ljava/math/BigDecimal;"), (0, .fieldref 8 14), (0, .nameAndType 15 12), (0, u "ask"), (9, u "()Ljava/math/BigDecimal;"), (7, .class_ 35), (1, u "java/math/BigDecimal"), (1, u "(Ljava/math/BigDecimal;)Ljava/math/BigDecimal;"), (2, u "TWO"), (3, .methodref 33 45), (0, .nameAndType 46 37), (0, u "subtract"), (6, u "(Ljava/math/BigDecimal;Ljava/math/BigDecimal;)V"), (5, u "spread")] 3

def k7c0 : Code := { maxStack := 2, maxLocals := 3, code := prog_4_method_1_code, exceptionTable := #[], attributes := #[] }
def k7m0 : Method := { name := "<init>", desc := "(Ljava/math/BigDecimal;Ljava/math/BigDecimal;)V", sig := { parameters := [(.object "java/math/BigDecimal"), (.object "java/math/BigDecimal")], returnType := none }, accessFlags := 0, code := some k7c0 }
def k7c1 : Code := { maxStack := 2, maxLocals := 1, code := prog_4_method_4_code, exceptionTable := #[], attributes := #[] }
def k7m1 : Method := { name := "spread", desc := "()Ljava/math/BigDecimal;", sig := { parameters := [], returnType := some (.object "java/math/BigDecimal") }, accessFlags := 0, code := some k7c1 }
/-- com/example/frontmonth/frontmonth/BidAsk -/
def k7 : Class := { plain "com/example/frontmonth/frontmonth/BidAsk" (some 0) with
  accessFlags := 48
  interfaces := #[]
  cf := some (fileOf pool7 8 #[] #[{ accessFlags := 0, nameIndex := 5, descriptorIndex := 53, attributes := #[] }, { accessFlags := 0, nameIndex := 59, descriptorIndex := 25, attributes := #[] }] 48 2 #[] #[{ accessFlags := 26, nameIndex := 40, descriptorIndex := 12, attributes := #[] }, { accessFlags := 18, nameIndex := 11, descriptorIndex := 12, attributes := #[] }, { accessFlags := 18, nameIndex := 15, descriptorIndex := 12, attributes := #[] }])
  fields := #[{ name := "TWO", type := (.object "java/math/BigDecimal"), accessFlags := 26, slot := 0, constantValue := 0 }, { name := "bid", type := (.object "java/math/BigDecimal"), accessFlags := 18, slot := 0, constantValue := 0 }, { name := "ask", type := (.object "java/math/BigDecimal"), accessFlags := 18, slot := 1, constantValue := 0 }]
  methods := #[k7m0, k7m1]
  instanceTypes := #[(.object "java/math/BigDecimal"), (.object "java/math/BigDecimal")]
  staticTypes := #[(.object "java/math/BigDecimal")]
  resolved := Array.replicate 63 none
  statics := none }

def pool8 : Array CpInfo := pool [(1, .class_ 2), (0, u "java/lang/constant/Constable"), (0, .class_ 4), (0, u "java/lang/Object")] 6

/-- java/lang/constant/Constable -/
def k8 : Class := { plain "java/lang/constant/Constable" (some 0) with
  accessFlags := 1537
  interfaces := #[]
  cf := some (fileOf pool8 1 #[] #[] 1537 3 #[] #[])
  fields := #[]
  methods := #[]
  instanceTypes := #[]
  staticTypes := #[]
  resolved := Array.replicate 11 none
  statics := none }

def pool9 : Array CpInfo := pool [(2, .class_ 4), (1, u "java/lang/Enum"), (0, u "name"), (0, u "Ljava/lang/String;"), (2, u "ordinal"), (0, u "I"), (1, .class_ 14), (1, u "java/lang/Object"), (4, u "hash"), (86, .class_ 108), (1, u "java/lang/Enum$EnumDesc"), (2, .class_ 112), (0, u "java/lang/constant/Constable"), (0, .class_ 114), (0, u "java/lang/Comparable"), (0, .class_ 116), (0, u "java/io/Serializable")] 87

/-- java/lang/Enum -/
def k9 : Class := { plain "java/lang/Enum" (some 0) with
  accessFlags := 1057
  interfaces := #[8, 4, 2]
  cf := some (fileOf pool9 2 #[.nestMembers #[106]] #[] 1057 12 #[111, 113, 115] #[{ accessFlags := 18, nameIndex := 5, descriptorIndex := 6, attributes := #[] }, { accessFlags := 18, nameIndex := 9, descriptorIndex := 10, attributes := #[] }, { accessFlags := 2, nameIndex := 19, descriptorIndex := 10, attributes := #[] }])
  fields := #[{ name := "name", type := (.object "java/lang/String"), accessFlags := 18, slot := 0, constantValue := 0 }, { name := "ordinal", type := .int, accessFlags := 18, slot := 1, constantValue := 0 }, { name := "hash", type := .int, accessFlags := 2, slot := 2, constantValue := 0 }]
  methods := #[]
  instanceTypes := #[(.object "java/lang/String"), .int, .int]
  staticTypes := #[]
  resolved := Array.replicate 204 none
  statics := none }

def pool10 : Array CpInfo := pool [(2, .class_ 4), (1, u "com/example/frontmonth/frontmonth/Keyword"), (53, .class_ 59), (0, u "java/lang/Object")] 15

/-- com/example/frontmonth/frontmonth/Keyword -/
def k10 : Class := { plain "com/example/frontmonth/frontmonth/Keyword" (some 0) with
  accessFlags := 1536
  interfaces := #[]
  cf := some (fileOf pool10 2 #[] #[] 1536 58 #[] #[])
  fields := #[]
  methods := #[]
  instanceTypes := #[]
  staticTypes := #[]
  resolved := Array.replicate 75 none
  statics := none }

def pool11 : Array CpInfo := pool [(1, .class_ 2), (0, u "com/example/frontmonth/frontmonth/Spread$Word"), (2, u "NONE"), (0, u "Lcom/example/frontmonth/frontmonth/Spread$Word;"), (2, u "QUOTED"), (2, u "$VALUES"), (0, u "[Lcom/example/frontmonth/frontmonth/Spread$Word;"), (6, .class_ 22), (1, u "java/lang/Enum"), (8, u "word"), (0, u "Ljava/lang/String;"), (13, .class_ 47), (0, u "com/example/frontmonth/frontmonth/Keyword"), (14, .class_ 63), (0, u "com/example/frontmonth/frontmonth/Spread")] 2

/-- com/example/frontmonth/frontmonth/Spread$Word -/
def k11 : Class := { plain "com/example/frontmonth/frontmonth/Spread$Word" (some 9) with
  accessFlags := 16432
  interfaces := #[10]
  cf := some (fileOf pool11 1 #[.nestHost 62] #[] 16432 20 #[46] #[{ accessFlags := 16409, nameIndex := 5, descriptorIndex := 6, attributes := #[] }, { accessFlags := 16409, nameIndex := 9, descriptorIndex := 6, attributes := #[] }, { accessFlags := 18, nameIndex := 31, descriptorIndex := 32, attributes := #[] }, { accessFlags := 4122, nameIndex := 12, descriptorIndex := 13, attributes := #[] }])
  fields := #[{ name := "NONE", type := (.object "com/example/frontmonth/frontmonth/Spread$Word"), accessFlags := 16409, slot := 0, constantValue := 0 }, { name := "QUOTED", type := (.object "com/example/frontmonth/frontmonth/Spread$Word"), accessFlags := 16409, slot := 1, constantValue := 0 }, { name := "word", type := (.object "java/lang/String"), accessFlags := 18, slot := 3, constantValue := 0 }, { name := "$VALUES", type := (.array (.object "com/example/frontmonth/frontmonth/Spread$Word")), accessFlags := 4122, slot := 2, constantValue := 0 }]
  methods := #[]
  instanceTypes := #[(.object "java/lang/String"), .int, .int, (.object "java/lang/String")]
  staticTypes := #[(.object "com/example/frontmonth/frontmonth/Spread$Word"), (.object "com/example/frontmonth/frontmonth/Spread$Word"), (.array (.object "com/example/frontmonth/frontmonth/Spread$Word"))]
  resolved := Array.replicate 66 none
  statics := some 1 }

def pool12 : Array CpInfo := pool [(1, .methodref 2 3), (0, .class_ 4), (0, .nameAndType 5 6), (0, u "java/lang/Object"), (0, u "<init>"), (0, u "()V"), (0, .fieldref 8 9), (0, .class_ 10), (0, .nameAndType 11 12), (0, u "com/example/frontmonth/frontmonth/Spread"), (0, u "stated"), (0, u "Ljava/math/BigDecimal;"), (0, .fieldref 14 15), (0, .class_ 16), (0, .nameAndType 17 18), (0, u "com/example/frontmonth/frontmonth/Spread$Word"), (0, u "QUOTED"), (0, u "Lcom/example/frontmonth/frontmonth/Spread$Word;"), (0, .fieldref 20 21), (0, .class_ 22), (0, .nameAndType 23 12), (0, u "java/math/BigDecimal"), (0, u "ZERO"), (0, .methodref 8 25), (0, .nameAndType 5 26), (0, u "(Ljava/math/BigDecimal;)V"), (0, .methodref 28 29), (0, .class_ 30), (0, .nameAndType 31 32), (0, u "com/example/frontmonth/frontmonth/Quote"), (0, u "newSpread"), (0, u "()Ljava/math/BigDecimal;"), (2, u "of"), (0, u "(Lcom/example/frontmonth/frontmonth/Spread$Word;)Lcom/example/frontmonth/frontmonth/Spread;"), (2, u "perUnit"), (0, u "(Lcom/example/frontmonth/frontmonth/Quote;)Ljava/math/BigDecimal;")] 5

def k12c0 : Code := { maxStack := 2, maxLocals := 2, code := prog_26_method_1_code, exceptionTable := #[], attributes := #[] }
def k12m0 : Method := { name := "<init>", desc := "(Ljava/math/BigDecimal;)V", sig := { parameters := [(.object "java/math/BigDecimal")], returnType := none }, accessFlags := 2, code := some k12c0 }
def k12c1 : Code := { maxStack := 3, maxLocals := 2, code := prog_26_method_2_code, exceptionTable := #[], attributes := #[] }
def k12m1 : Method := { name := "of", desc := "(Lcom/example/frontmonth/frontmonth/Spread$Word;)Lcom/example/frontmonth/frontmonth/Spread;", sig := { parameters := [(.object "com/example/frontmonth/frontmonth/Spread$Word")], returnType := some (.object "com/example/frontmonth/frontmonth/Spread") }, accessFlags := 8, code := some k12c1 }
def k12c2 : Code := { maxStack := 1, maxLocals := 2, code := prog_26_method_4_code, exceptionTable := #[], attributes := #[] }
def k12m2 : Method := { name := "perUnit", desc := "(Lcom/example/frontmonth/frontmonth/Quote;)Ljava/math/BigDecimal;", sig := { parameters := [(.object "com/example/frontmonth/frontmonth/Quote")], returnType := some (.object "java/math/BigDecimal") }, accessFlags := 0, code := some k12c2 }
/-- com/example/frontmonth/frontmonth/Spread -/
def k12 : Class := { plain "com/example/frontmonth/frontmonth/Spread" (some 0) with
  accessFlags := 48
  interfaces := #[]
  cf := some (fileOf pool12 8 #[.nestMembers #[14]] #[{ accessFlags := 2, nameIndex := 5, descriptorIndex := 26, attributes := #[] }, { accessFlags := 8, nameIndex := 35, descriptorIndex := 36, attributes := #[] }, { accessFlags := 0, nameIndex := 39, descriptorIndex := 40, attributes := #[] }] 48 2 #[] #[{ accessFlags := 18, nameIndex := 11, descriptorIndex := 12, attributes := #[] }])
  fields := #[{ name := "stated", type := (.object "java/math/BigDecimal"), accessFlags := 18, slot := 0, constantValue := 0 }]
  methods := #[k12m0, k12m1, k12m2]
  instanceTypes := #[(.object "java/math/BigDecimal")]
  staticTypes := #[]
  resolved := Array.replicate 46 none
  statics := none }

def pool13 : Array CpInfo := pool [(4, .class_ 6), (1, u "java/lang/Number"), (16, .class_ 25), (1, u "java/math/BigInteger"), (0, u "ZERO"), (0, u "Ljava/math/BigInteger;"), (2, u "mag"), (0, u "[I"), (2, u "signum"), (0, u "I"), (59, u "bitsPerDigit"), (0, u "[J"), (9, u "digitsPerInt"), (12, u "intRadix"), (60, u "SMALL_PRIME_PRODUCT"), (79, u "ONE"), (6, u "TWO"), (43, u "$assertionsDisabled"), (0, u "Z"), (36, u "posConst"), (0, u "[Ljava/math/BigInteger;"), (4, u "negConst"), (116, .class_ 474), (1, u "java/math/BigInteger$RecursiveOp"), (106, u "NEGATIVE_ONE"), (91, u "bnExpModThreshTable"), (72, u "lowestSetBitPlusTwo"), (2, u "bitLengthPlusOne"), (2, u "bitCountPlusOne"), (6, u "LOG_TWO"), (0, u "D"), (2, u "logCache"), (0, u "[D"), (13, u "NUM_ZEROS"), (2, u "ZEROS"), (0, u "Ljava/lang/String;"), (9, u "longRadix"), (5, u "digitsPerLong"), (22, u "powerCache"), (0, u "[[Ljava/math/BigInteger;"), (45, u "firstNonzeroIntNumPlusTwo"), (38, .class_ 909), (1, u "java/math/BigInteger$UnsafeHolder"), (141, u "TEN"), (106, u "serialPersistentFields"), (0, u "[Ljava/io/ObjectStreamField;"), (0, .class_ 1161), (0, u "java/lang/Comparable"), (0, u "LONG_MASK"), (0, u "J"), (1, u "MAX_MAG_LENGTH"), (0, u "PRIME_SEARCH_BIT_LENGTH_LIMIT"), (1, u "KARATSUBA_THRESHOLD"), (1, u "TOOM_COOK_THRESHOLD"), (1, u "KARATSUBA_SQUARE_THRESHOLD"), (1, u "TOOM_COOK_SQUARE_THRESHOLD"), (1, u "BURNIKEL_ZIEGLER_THRESHOLD"), (0, u "BURNIKEL_ZIEGLER_OFFSET"), (1, u "SCHOENHAGE_BASE_CONVERSION_THRESHOLD"), (1, u "MULTIPLY_SQUARE_THRESHOLD"), (0, u "MONTGOMERY_INTRINSIC_THRESHOLD"), (1, u "SMALL_PRIME_THRESHOLD"), (1, u "DEFAULT_PRIME_CERTAINTY"), (1, u "MAX_CONSTANT"), (3, u "serialVersionUID"), (338, .class_ 1532), (0, u "java/math/BigInteger$RecursiveOp$RecursiveSquare"), (0, .class_ 1534), (0, u "java/math/BigInteger$RecursiveOp$RecursiveMultiply")] 7

/-- java/math/BigInteger -/
def k13 : Class := { plain "java/math/BigInteger" (some 3) with
  accessFlags := 33
  interfaces := #[4]
  cf := some (fileOf pool13 23 #[.nestMembers #[907, 472, 1531, 1533]] #[] 33 4 #[1160] #[{ accessFlags := 16, nameIndex := 34, descriptorIndex := 35, attributes := #[] }, { accessFlags := 16, nameIndex := 30, descriptorIndex := 31, attributes := #[] }, { accessFlags := 2, nameIndex := 752, descriptorIndex := 35, attributes := #[] }, { accessFlags := 2, nameIndex := 749, descriptorIndex := 35, attributes := #[] }, { accessFlags := 2, nameIndex := 746, descriptorIndex := 35, attributes := #[] }, { accessFlags := 2, nameIndex := 868, descriptorIndex := 35, attributes := #[] }, { accessFlags := 24, nameIndex := 1162, descriptorIndex := 1163, attributes := #[] }, { accessFlags := 26, nameIndex := 1165, descriptorIndex := 35, attributes := #[] }, { accessFlags := 26, nameIndex := 1166, descriptorIndex := 35, attributes := #[] }, { accessFlags := 26, nameIndex := 1168, descriptorIndex := 35, attributes := #[] }, { accessFlags := 26, nameIndex := 1170, descriptorIndex := 35, attributes := #[] }, { accessFlags := 26, nameIndex := 1172, descriptorIndex := 35, attributes := #[] }, { accessFlags := 26, nameIndex := 1174, descriptorIndex := 35, attributes := #[] }, { accessFlags := 24, nameIndex := 1176, descriptorIndex := 35, attributes := #[] }, { accessFlags := 24, nameIndex := 1177, descriptorIndex := 35, attributes := #[] }, { accessFlags := 26, nameIndex := 1179, descriptorIndex := 35, attributes := #[] }, { accessFlags := 26, nameIndex := 1181, descriptorIndex := 35, attributes := #[] }, { accessFlags := 26, nameIndex := 1182, descriptorIndex := 35, attributes := #[] }, { accessFlags := 10, nameIndex := 95, descriptorIndex := 96, attributes := #[] }, { accessFlags := 26, nameIndex := 1184, descriptorIndex := 35, attributes := #[] }, { accessFlags := 26, nameIndex := 1186, descriptorIndex := 35, attributes := #[] }, { accessFlags := 26, nameIndex := 180, descriptorIndex := 27, attributes := #[] }, { accessFlags := 26, nameIndex := 1188, descriptorIndex := 35, attributes := #[] }, { accessFlags := 26, nameIndex := 349, descriptorIndex := 350, attributes := #[] }, { accessFlags := 26, nameIndex := 355, descriptorIndex := 350, attributes := #[] }, { accessFlags := 74, nameIndex := 821, descriptorIndex := 822, attributes := #[] }, { accessFlags := 26, nameIndex := 763, descriptorIndex := 764, attributes := #[] }, { accessFlags := 26, nameIndex := 759, descriptorIndex := 760, attributes := #[] }, { accessFlags := 25, nameIndex := 26, descriptorIndex := 27, attributes := #[] }, { accessFlags := 25, nameIndex := 260, descriptorIndex := 27, attributes := #[] }, { accessFlags := 25, nameIndex := 267, descriptorIndex := 27, attributes := #[] }, { accessFlags := 26, nameIndex := 581, descriptorIndex := 27, attributes := #[] }, { accessFlags := 25, nameIndex := 1051, descriptorIndex := 27, attributes := #[] }, { accessFlags := 8, nameIndex := 673, descriptorIndex := 31, attributes := #[] }, { accessFlags := 10, nameIndex := 778, descriptorIndex := 35, attributes := #[] }, { accessFlags := 26, nameIndex := 781, descriptorIndex := 782, attributes := #[] }, { accessFlags := 10, nameIndex := 798, descriptorIndex := 31, attributes := #[] }, { accessFlags := 10, nameIndex := 792, descriptorIndex := 350, attributes := #[] }, { accessFlags := 10, nameIndex := 106, descriptorIndex := 31, attributes := #[] }, { accessFlags := 10, nameIndex := 119, descriptorIndex := 31, attributes := #[] }, { accessFlags := 26, nameIndex := 1192, descriptorIndex := 1163, attributes := #[] }, { accessFlags := 26, nameIndex := 1158, descriptorIndex := 1159, attributes := #[] }, { accessFlags := 4120, nameIndex := 311, descriptorIndex := 312, attributes := #[] }])
  fields := #[{ name := "signum", type := .int, accessFlags := 16, slot := 0, constantValue := 0 }, { name := "mag", type := (.array .int), accessFlags := 16, slot := 1, constantValue := 0 }, { name := "bitCountPlusOne", type := .int, accessFlags := 2, slot := 2, constantValue := 0 }, { name := "bitLengthPlusOne", type := .int, accessFlags := 2, slot := 3, constantValue := 0 }, { name := "lowestSetBitPlusTwo", type := .int, accessFlags := 2, slot := 4, constantValue := 0 }, { name := "firstNonzeroIntNumPlusTwo", type := .int, accessFlags := 2, slot := 5, constantValue := 0 }, { name := "LONG_MASK", type := .long, accessFlags := 24, slot := 0, constantValue := 0 }, { name := "MAX_MAG_LENGTH", type := .int, accessFlags := 26, slot := 1, constantValue := 0 }, { name := "PRIME_SEARCH_BIT_LENGTH_LIMIT", type := .int, accessFlags := 26, slot := 2, constantValue := 0 }, { name := "KARATSUBA_THRESHOLD", type := .int, accessFlags := 26, slot := 3, constantValue := 0 }, { name := "TOOM_COOK_THRESHOLD", type := .int, accessFlags := 26, slot := 4, constantValue := 0 }, { name := "KARATSUBA_SQUARE_THRESHOLD", type := .int, accessFlags := 26, slot := 5, constantValue := 0 }, { name := "TOOM_COOK_SQUARE_THRESHOLD", type := .int, accessFlags := 26, slot := 6, constantValue := 0 }, { name := "BURNIKEL_ZIEGLER_THRESHOLD", type := .int, accessFlags := 24, slot := 7, constantValue := 0 }, { name := "BURNIKEL_ZIEGLER_OFFSET", type := .int, accessFlags := 24, slot := 8, constantValue := 0 }, { name := "SCHOENHAGE_BASE_CONVERSION_THRESHOLD", type := .int, accessFlags := 26, slot := 9, constantValue := 0 }, { name := "MULTIPLY_SQUARE_THRESHOLD", type := .int, accessFlags := 26, slot := 10, constantValue := 0 }, { name := "MONTGOMERY_INTRINSIC_THRESHOLD", type := .int, accessFlags := 26, slot := 11, constantValue := 0 }, { name := "bitsPerDigit", type := (.array .long), accessFlags := 10, slot := 12, constantValue := 0 }, { name := "SMALL_PRIME_THRESHOLD", type := .int, accessFlags := 26, slot := 13, constantValue := 0 }, { name := "DEFAULT_PRIME_CERTAINTY", type := .int, accessFlags := 26, slot := 14, constantValue := 0 }, { name := "SMALL_PRIME_PRODUCT", type := (.object "java/math/BigInteger"), accessFlags := 26, slot := 15, constantValue := 0 }, { name := "MAX_CONSTANT", type := .int, accessFlags := 26, slot := 16, constantValue := 0 }, { name := "posConst", type := (.array (.object "java/math/BigInteger")), accessFlags := 26, slot := 17, constantValue := 0 }, { name := "negConst", type := (.array (.object "java/math/BigInteger")), accessFlags := 26, slot := 18, constantValue := 0 }, { name := "powerCache", type := (.array (.array (.object "java/math/BigInteger"))), accessFlags := 74, slot := 19, constantValue := 0 }, { name := "logCache", type := (.array .double), accessFlags := 26, slot := 20, constantValue := 0 }, { name := "LOG_TWO", type := .double, accessFlags := 26, slot := 21, constantValue := 0 }, { name := "ZERO", type := (.object "java/math/BigInteger"), accessFlags := 25, slot := 22, constantValue := 0 }, { name := "ONE", type := (.object "java/math/BigInteger"), accessFlags := 25, slot := 23, constantValue := 0 }, { name := "TWO", type := (.object "java/math/BigInteger"), accessFlags := 25, slot := 24, constantValue := 0 }, { name := "NEGATIVE_ONE", type := (.object "java/math/BigInteger"), accessFlags := 26, slot := 25, constantValue := 0 }, { name := "TEN", type := (.object "java/math/BigInteger"), accessFlags := 25, slot := 26, constantValue := 0 }, { name := "bnExpModThreshTable", type := (.array .int), accessFlags := 8, slot := 27, constantValue := 0 }, { name := "NUM_ZEROS", type := .int, accessFlags := 10, slot := 28, constantValue := 0 }, { name := "ZEROS", type := (.object "java/lang/String"), accessFlags := 26, slot := 29, constantValue := 0 }, { name := "digitsPerLong", type := (.array .int), accessFlags := 10, slot := 30, constantValue := 0 }, { name := "longRadix", type := (.array (.object "java/math/BigInteger")), accessFlags := 10, slot := 31, constantValue := 0 }, { name := "digitsPerInt", type := (.array .int), accessFlags := 10, slot := 32, constantValue := 0 }, { name := "intRadix", type := (.array .int), accessFlags := 10, slot := 33, constantValue := 0 }, { name := "serialVersionUID", type := .long, accessFlags := 26, slot := 34, constantValue := 0 }, { name := "serialPersistentFields", type := (.array (.object "java/io/ObjectStreamField")), accessFlags := 26, slot := 35, constantValue := 0 }, { name := "$assertionsDisabled", type := .boolean, accessFlags := 4120, slot := 36, constantValue := 0 }]
  methods := #[]
  instanceTypes := #[.int, (.array .int), .int, .int, .int, .int]
  staticTypes := #[.long, .int, .int, .int, .int, .int, .int, .int, .int, .int, .int, .int, (.array .long), .int, .int, (.object "java/math/BigInteger"), .int, (.array (.object "java/math/BigInteger")), (.array (.object "java/math/BigInteger")), (.array (.array (.object "java/math/BigInteger"))), (.array .double), .double, (.object "java/math/BigInteger"), (.object "java/math/BigInteger"), (.object "java/math/BigInteger"), (.object "java/math/BigInteger"), (.object "java/math/BigInteger"), (.array .int), .int, (.object "java/lang/String"), (.array .int), (.array (.object "java/math/BigInteger")), (.array .int), (.array .int), .long, (.array (.object "java/io/ObjectStreamField")), .boolean]
  resolved := Array.replicate 1542 none
  statics := some 2 }

def pool14 : Array CpInfo := pool [(1, u "java/lang/Cloneable"), (0, .class_ 1), (0, u "java/lang/Object"), (0, .class_ 3)] 3

/-- java/lang/Cloneable -/
def k14 : Class := { plain "java/lang/Cloneable" (some 0) with
  accessFlags := 1537
  interfaces := #[]
  cf := some (fileOf pool14 2 #[] #[] 1537 4 #[] #[])
  fields := #[]
  methods := #[]
  instanceTypes := #[]
  staticTypes := #[]
  resolved := Array.replicate 8 none
  statics := none }

/-- the primitive byte -/
def k15 : Class := { plain "byte" none with kind := .primitive 'B', accessFlags := 0x411 }
/-- [B -/
def k16 : Class := { plain "[B" (some 0) with kind := .array 15 .byte, interfaces := #[14, 2], accessFlags := 1041 }

/-- the primitive int -/
def k17 : Class := { plain "int" none with kind := .primitive 'I', accessFlags := 0x411 }
/-- [I -/
def k18 : Class := { plain "[I" (some 0) with kind := .array 17 .int, interfaces := #[14, 2], accessFlags := 1041 }

/-- [Ljava/math/BigDecimal; -/
def k19 : Class := { plain "[Ljava/math/BigDecimal;" (some 0) with kind := .array 5 (.object "java/math/BigDecimal"), interfaces := #[14, 2], accessFlags := 1041 }

def heap : Heap := #[{ cls := 5, slots := #[.double 0, .int 0, .int 0, .int 0, .int 0, .int 0, .int 0, .long 0, .null, .int 0, .long 0, .ref 3, .ref 4, .long 0, .long 0, .ref 29, .ref 30, .ref 31, .ref 39, .null, .null, .int 0, .int 0, .int 0, .int 0, .int 0, .int 0, .int 0, .int 0, .null, .null, .null, .null, .int 0, .int 0, .null, .long 0, .null, .int 0], vm := .statics 5 },
  { cls := 11, slots := #[.ref 5, .ref 6, .null], vm := .statics 11 },
  { cls := 13, slots := #[.long 0, .int 0, .int 0, .int 0, .int 0, .int 0, .int 0, .int 0, .int 0, .int 0, .int 0, .int 0, .null, .int 0, .int 0, .null, .int 0, .null, .null, .null, .null, .double 0, .ref 18, .ref 19, .ref 20, .null, .ref 28, .null, .int 0, .null, .null, .null, .null, .null, .long 0, .null, .int 0], vm := .statics 13 },
  { cls := 19, slots := #[.ref 29, .ref 30, .ref 31, .ref 32, .ref 33, .ref 34, .ref 35, .ref 36, .ref 37, .ref 38, .ref 39], vm := .none },
  { cls := 19, slots := #[.ref 29, .ref 40, .ref 41, .ref 42, .ref 43, .ref 44, .ref 45, .ref 46, .ref 47, .ref 48, .ref 49, .ref 50, .ref 51, .ref 52, .ref 53, .ref 54], vm := .none },
  { cls := 11, slots := #[.null, .int 0, .int 0, .null], vm := .none },
  { cls := 11, slots := #[.null, .int 1, .int 0, .null], vm := .none },
  { cls := 18, slots := #[], vm := .none },
  { cls := 18, slots := #[.int 1], vm := .none },
  { cls := 18, slots := #[.int 2], vm := .none },
  { cls := 18, slots := #[.int 3], vm := .none },
  { cls := 18, slots := #[.int 4], vm := .none },
  { cls := 18, slots := #[.int 5], vm := .none },
  { cls := 18, slots := #[.int 6], vm := .none },
  { cls := 18, slots := #[.int 7], vm := .none },
  { cls := 18, slots := #[.int 8], vm := .none },
  { cls := 18, slots := #[.int 9], vm := .none },
  { cls := 18, slots := #[.int 10], vm := .none },
  { cls := 13, slots := #[.int 0, .ref 7, .int 0, .int 0, .int 0, .int 0], vm := .none },
  { cls := 13, slots := #[.int 1, .ref 8, .int 0, .int 0, .int 0, .int 0], vm := .none },
  { cls := 13, slots := #[.int 1, .ref 9, .int 0, .int 0, .int 0, .int 0], vm := .none },
  { cls := 13, slots := #[.int 1, .ref 10, .int 0, .int 0, .int 0, .int 0], vm := .none },
  { cls := 13, slots := #[.int 1, .ref 11, .int 0, .int 0, .int 0, .int 0], vm := .none },
  { cls := 13, slots := #[.int 1, .ref 12, .int 0, .int 0, .int 0, .int 0], vm := .none },
  { cls := 13, slots := #[.int 1, .ref 13, .int 0, .int 0, .int 0, .int 0], vm := .none },
  { cls := 13, slots := #[.int 1, .ref 14, .int 0, .int 0, .int 0, .int 0], vm := .none },
  { cls := 13, slots := #[.int 1, .ref 15, .int 0, .int 0, .int 0, .int 0], vm := .none },
  { cls := 13, slots := #[.int 1, .ref 16, .int 0, .int 0, .int 0, .int 0], vm := .none },
  { cls := 13, slots := #[.int 1, .ref 17, .int 0, .int 0, .int 0, .int 0], vm := .none },
  { cls := 5, slots := #[.ref 18, .int 0, .int 0, .null, .long 0], vm := .none },
  { cls := 5, slots := #[.ref 19, .int 0, .int 0, .null, .long 1], vm := .none },
  { cls := 5, slots := #[.ref 20, .int 0, .int 0, .null, .long 2], vm := .none },
  { cls := 5, slots := #[.ref 21, .int 0, .int 0, .null, .long 3], vm := .none },
  { cls := 5, slots := #[.ref 22, .int 0, .int 0, .null, .long 4], vm := .none },
  { cls := 5, slots := #[.ref 23, .int 0, .int 0, .null, .long 5], vm := .none },
  { cls := 5, slots := #[.ref 24, .int 0, .int 0, .null, .long 6], vm := .none },
  { cls := 5, slots := #[.ref 25, .int 0, .int 0, .null, .long 7], vm := .none },
  { cls := 5, slots := #[.ref 26, .int 0, .int 0, .null, .long 8], vm := .none },
  { cls := 5, slots := #[.ref 27, .int 0, .int 0, .null, .long 9], vm := .none },
  { cls := 5, slots := #[.ref 28, .int 0, .int 0, .null, .long 10], vm := .none },
  { cls := 5, slots := #[.ref 18, .int 1, .int 0, .null, .long 0], vm := .none },
  { cls := 5, slots := #[.ref 18, .int 2, .int 0, .null, .long 0], vm := .none },
  { cls := 5, slots := #[.ref 18, .int 3, .int 0, .null, .long 0], vm := .none },
  { cls := 5, slots := #[.ref 18, .int 4, .int 0, .null, .long 0], vm := .none },
  { cls := 5, slots := #[.ref 18, .int 5, .int 0, .null, .long 0], vm := .none },
  { cls := 5, slots := #[.ref 18, .int 6, .int 0, .null, .long 0], vm := .none },
  { cls := 5, slots := #[.ref 18, .int 7, .int 0, .null, .long 0], vm := .none },
  { cls := 5, slots := #[.ref 18, .int 8, .int 0, .null, .long 0], vm := .none },
  { cls := 5, slots := #[.ref 18, .int 9, .int 0, .null, .long 0], vm := .none },
  { cls := 5, slots := #[.ref 18, .int 10, .int 0, .null, .long 0], vm := .none },
  { cls := 5, slots := #[.ref 18, .int 11, .int 0, .null, .long 0], vm := .none },
  { cls := 5, slots := #[.ref 18, .int 12, .int 0, .null, .long 0], vm := .none },
  { cls := 5, slots := #[.ref 18, .int 13, .int 0, .null, .long 0], vm := .none },
  { cls := 5, slots := #[.ref 18, .int 14, .int 0, .null, .long 0], vm := .none },
  { cls := 5, slots := #[.ref 18, .int 15, .int 0, .null, .long 0], vm := .none }]
def classes : Array Class := #[k0, k1, k2, k3, k4, k5, k6, k7, k8, k9, k10, k11, k12, k13, k14, k15, k16, k17, k18, k19]
def interned : List (Array UInt16 × Addr) := []
def slotsUsed : Nat := 320
def theMethod : MethodId := ⟨1, 1⟩
def args0 : Array Value := #[.int 5, .int 3, .int 4, .int 2]
def aboutOver (below : List Frame) : State where
  vm := { classes := classes, interned := interned.toArray }
  heap := heap
  slotsUsed := slotsUsed
  threads := #[{ frames := .invoking theMethod args0 :: below }]
def below0 : List Frame := [.native { method := ⟨0, 0⟩, args := #[] }]
def about1 : State := aboutOver below0
def p0 : Program := .bare "" "" ""
def e0 : Env := launch0.env 0 0 0
theorem w_frames : about1.frames = Frame.invoking theMethod args0 :: below0 := rfl
set_option maxRecDepth 65536 in
theorem w_args : argsFit about1.vm theMethod args0 = true := by decide +kernel
set_option maxRecDepth 65536 in
theorem w_heap : heapFits about1 = true := by decide +kernel
set_option maxRecDepth 65536 in
theorem w_runnable : about1.curStatus? = some .runnable := by decide +kernel
set_option maxRecDepth 65536 in
theorem w_alone : about1.alone = true := by decide +kernel
set_option maxRecDepth 65536 in
theorem w_named : about1.methodNamed? x = some theMethod := by decide +kernel
set_option maxRecDepth 65536 in
theorem w_hears : about1.hears theMethod below0 = true := by decide +kernel
set_option maxRecDepth 65536 in
theorem w_ripe : about1.ripe theMethod args0 below0 = true := by decide +kernel
theorem w_running : about1.status = .running := rfl
set_option maxRecDepth 65536 in
theorem w_room : about1.hasRoom e0.platform room_1 = true :=
  launch0.hasRoom_least _ room_1 (by decide +kernel) (by decide +kernel) (by decide +kernel) (by decide +kernel) (by decide +kernel) (by decide +kernel)
theorem allAtoms_all (ts : List Jvm.Cond) (a : Array Jvm.Value) (st : Jvm.State) : (allAtoms ts).before a st = ts.all (fun c => c.before a st) := by
  induction ts with
  | nil => rfl
  | cons c t ih =>
    show (Jvm.Cond.and c (allAtoms t)).before a st = _
    rw [Jvm.Cond.before_and, ih, List.all_cons]
def words1 : List Jvm.Cond := Jvm.Cond.code x code maxLocals ret :: tables_1
/-- a 'code' word, met by the world's own term for the bytes: nothing is compared byte by byte -/
theorem code_word {y : MethodName} {bytes : ByteArray} {mx : Nat} {rt : Option FieldType} {a : Array Value} {s : State} {m : MethodId} {meth : Method} {c : Code} (h1 : s.methodNamed? y = some m) (h2 : s.vm.method? m = some meth) (h3 : meth.code = some c) (h4 : c.code = bytes)
    (h5 : (c.maxLocals == mx && c.exceptionTable.isEmpty && decide (c.maxStack ≤ mostOperands) && decide (meth.sig.returnType = rt) && !meth.locks && decide (parseMethodDescriptor y.desc = some meth.sig)) = true) : (Jvm.Cond.code y bytes mx rt).before a s = true := by
  simp only [Bool.and_eq_true, beq_iff_eq, Bool.not_eq_true', decide_eq_true_eq] at h5
  obtain ⟨⟨⟨⟨⟨g1, g2⟩, g3⟩, g4⟩, g5⟩, g6⟩ := h5
  simp [Cond.before, Cond.holds, Cond.value, h1, h2, h3, h4, g1, g2, g3, g4, g5, g6]
def isCode : Jvm.Cond → Bool
  | .code _ _ _ _ => true
  | _ => false
theorem all_split {L : List Jvm.Cond} {P : Jvm.Cond → Bool} (h1 : L.all (fun c => isCode c || P c) = true) (h2 : ∀ c ∈ L.filter isCode, P c = true) : L.all P = true := by
  refine List.all_eq_true.mpr fun c hc => ?_
  have h := List.all_eq_true.mp h1 c hc
  rcases Bool.eq_false_or_eq_true (isCode c) with hi | hi
  · exact h2 c (List.mem_filter.mpr ⟨hc, hi⟩)
  · simpa [hi] using h
set_option maxRecDepth 65536 in
theorem w_c0 : (Jvm.Cond.code x code maxLocals ret).before args0 about1 = true := code_word (m := ⟨1, 1⟩) (meth := k1m1) (c := k1c1) (by decide +kernel) rfl rfl rfl (by decide +kernel)
set_option maxRecDepth 65536 in
theorem w_c1 : (Jvm.Cond.code ({ cls := "java/math/BigDecimal", name := "valueOf", desc := "(JI)Ljava/math/BigDecimal;" } : Jvm.MethodName) jdk_17_method_20_code (3 : Nat) (Option.some (Jvm.ClassFile.FieldType.object "java/math/BigDecimal"))).before args0 about1 = true := code_word (m := ⟨5, 1⟩) (meth := k5m1) (c := k5c1) (by decide +kernel) rfl rfl rfl (by decide +kernel)
set_option maxRecDepth 65536 in
theorem w_c2 : (Jvm.Cond.code ({ cls := "java/math/BigDecimal", name := "<init>", desc := "(Ljava/math/BigInteger;JII)V" } : Jvm.MethodName) jdk_17_method_1_code (6 : Nat) (Option.none : Option Jvm.ClassFile.FieldType)).before args0 about1 = true := code_word (m := ⟨5, 0⟩) (meth := k5m0) (c := k5c0) (by decide +kernel) rfl rfl rfl (by decide +kernel)
set_option maxRecDepth 65536 in
theorem w_c3 : (Jvm.Cond.code ({ cls := "java/lang/Number", name := "<init>", desc := "()V" } : Jvm.MethodName) jdk_18_method_1_code (1 : Nat) (Option.none : Option Jvm.ClassFile.FieldType)).before args0 about1 = true := code_word (m := ⟨3, 0⟩) (meth := k3m0) (c := k3c0) (by decide +kernel) rfl rfl rfl (by decide +kernel)
set_option maxRecDepth 65536 in
theorem w_c4 : (Jvm.Cond.code ({ cls := "java/lang/Object", name := "<init>", desc := "()V" } : Jvm.MethodName) object_method_1_code (1 : Nat) (Option.none : Option Jvm.ClassFile.FieldType)).before args0 about1 = true := code_word (m := ⟨0, 0⟩) (meth := k0m0) (c := k0c0) (by decide +kernel) rfl rfl rfl (by decide +kernel)
set_option maxRecDepth 65536 in
theorem w_c5 : (Jvm.Cond.code ({ cls := "com/example/frontmonth/frontmonth/BidAsk", name := "<init>", desc := "(Ljava/math/BigDecimal;Ljava/math/BigDecimal;)V" } : Jvm.MethodName) prog_4_method_1_code (3 : Nat) (Option.none : Option Jvm.ClassFile.FieldType)).before args0 about1 = true := code_word (m := ⟨7, 0⟩) (meth := k7m0) (c := k7c0) (by decide +kernel) rfl rfl rfl (by decide +kernel)
set_option maxRecDepth 65536 in
theorem w_c6 : (Jvm.Cond.code ({ cls := "com/example/frontmonth/frontmonth/Quote", name := "<init>", desc := "(Lcom/example/frontmonth/frontmonth/BidAsk;Lcom/example/frontmonth/frontmonth/BidAsk;)V" } : Jvm.MethodName) prog_21_method_1_code (3 : Nat) (Option.none : Option Jvm.ClassFile.FieldType)).before args0 about1 = true := code_word (m := ⟨6, 0⟩) (meth := k6m0) (c := k6c0) (by decide +kernel) rfl rfl rfl (by decide +kernel)
set_option maxRecDepth 65536 in
theorem w_c7 : (Jvm.Cond.code ({ cls := "com/example/frontmonth/frontmonth/Spread", name := "of", desc := "(Lcom/example/frontmonth/frontmonth/Spread$Word;)Lcom/example/frontmonth/frontmonth/Spread;" } : Jvm.MethodName) prog_26_method_2_code (2 : Nat) (Option.some (Jvm.ClassFile.FieldType.object "com/example/frontmonth/frontmonth/Spread"))).before args0 about1 = true := code_word (m := ⟨12, 1⟩) (meth := k12m1) (c := k12c1) (by decide +kernel) rfl rfl rfl (by decide +kernel)
set_option maxRecDepth 65536 in
theorem w_c8 : (Jvm.Cond.code ({ cls := "com/example/frontmonth/frontmonth/Spread", name := "<init>", desc := "(Ljava/math/BigDecimal;)V" } : Jvm.MethodName) prog_26_method_1_code (2 : Nat) (Option.none : Option Jvm.ClassFile.FieldType)).before args0 about1 = true := code_word (m := ⟨12, 0⟩) (meth := k12m0) (c := k12c0) (by decide +kernel) rfl rfl rfl (by decide +kernel)
set_option maxRecDepth 65536 in
theorem w_c9 : (Jvm.Cond.code ({ cls := "com/example/frontmonth/frontmonth/Spread", name := "perUnit", desc := "(Lcom/example/frontmonth/frontmonth/Quote;)Ljava/math/BigDecimal;" } : Jvm.MethodName) prog_26_method_4_code (2 : Nat) (Option.some (Jvm.ClassFile.FieldType.object "java/math/BigDecimal"))).before args0 about1 = true := code_word (m := ⟨12, 2⟩) (meth := k12m2) (c := k12c2) (by decide +kernel) rfl rfl rfl (by decide +kernel)
set_option maxRecDepth 65536 in
theorem w_c10 : (Jvm.Cond.code ({ cls := "java/math/BigDecimal", name := "equals", desc := "(Ljava/lang/Object;)Z" } : Jvm.MethodName) jdk_17_method_72_code (7 : Nat) (Option.some Jvm.ClassFile.FieldType.boolean)).before args0 about1 = true := code_word (m := ⟨5, 5⟩) (meth := k5m5) (c := k5c5) (by decide +kernel) rfl rfl rfl (by decide +kernel)
set_option maxRecDepth 65536 in
theorem w_c11 : (Jvm.Cond.code ({ cls := "com/example/frontmonth/frontmonth/Quote", name := "newSpread", desc := "()Ljava/math/BigDecimal;" } : Jvm.MethodName) prog_21_method_4_code (1 : Nat) (Option.some (Jvm.ClassFile.FieldType.object "java/math/BigDecimal"))).before args0 about1 = true := code_word (m := ⟨6, 1⟩) (meth := k6m1) (c := k6c1) (by decide +kernel) rfl rfl rfl (by decide +kernel)
set_option maxRecDepth 65536 in
theorem w_c12 : (Jvm.Cond.code ({ cls := "com/example/frontmonth/frontmonth/BidAsk", name := "spread", desc := "()Ljava/math/BigDecimal;" } : Jvm.MethodName) prog_4_method_4_code (1 : Nat) (Option.some (Jvm.ClassFile.FieldType.object "java/math/BigDecimal"))).before args0 about1 = true := code_word (m := ⟨7, 1⟩) (meth := k7m1) (c := k7c1) (by decide +kernel) rfl rfl rfl (by decide +kernel)
set_option maxRecDepth 65536 in
theorem w_c13 : (Jvm.Cond.code ({ cls := "java/math/BigDecimal", name := "subtract", desc := "(Ljava/math/BigDecimal;)Ljava/math/BigDecimal;" } : Jvm.MethodName) jdk_17_method_29_code (2 : Nat) (Option.some (Jvm.ClassFile.FieldType.object "java/math/BigDecimal"))).before args0 about1 = true := code_word (m := ⟨5, 4⟩) (meth := k5m4) (c := k5c4) (by decide +kernel) rfl rfl rfl (by decide +kernel)
set_option maxRecDepth 65536 in
theorem w_c14 : (Jvm.Cond.code ({ cls := "java/math/BigDecimal", name := "add", desc := "(JIJI)Ljava/math/BigDecimal;" } : Jvm.MethodName) jdk_17_method_134_code (12 : Nat) (Option.some (Jvm.ClassFile.FieldType.object "java/math/BigDecimal"))).before args0 about1 = true := code_word (m := ⟨5, 8⟩) (meth := k5m8) (c := k5c8) (by decide +kernel) rfl rfl rfl (by decide +kernel)
set_option maxRecDepth 65536 in
theorem w_c15 : (Jvm.Cond.code ({ cls := "java/math/BigDecimal", name := "add", desc := "(JJI)Ljava/math/BigDecimal;" } : Jvm.MethodName) jdk_17_method_133_code (7 : Nat) (Option.some (Jvm.ClassFile.FieldType.object "java/math/BigDecimal"))).before args0 about1 = true := code_word (m := ⟨5, 7⟩) (meth := k5m7) (c := k5c7) (by decide +kernel) rfl rfl rfl (by decide +kernel)
set_option maxRecDepth 65536 in
theorem w_c16 : (Jvm.Cond.code ({ cls := "java/math/BigDecimal", name := "add", desc := "(JJ)J" } : Jvm.MethodName) jdk_17_method_132_code (6 : Nat) (Option.some Jvm.ClassFile.FieldType.long)).before args0 about1 = true := code_word (m := ⟨5, 6⟩) (meth := k5m6) (c := k5c6) (by decide +kernel) rfl rfl rfl (by decide +kernel)
set_option maxRecDepth 65536 in
theorem w_c17 : (Jvm.Cond.code ({ cls := "java/math/BigDecimal", name := "valueOf", desc := "(J)Ljava/math/BigDecimal;" } : Jvm.MethodName) jdk_17_method_21_code (2 : Nat) (Option.some (Jvm.ClassFile.FieldType.object "java/math/BigDecimal"))).before args0 about1 = true := code_word (m := ⟨5, 2⟩) (meth := k5m2) (c := k5c2) (by decide +kernel) rfl rfl rfl (by decide +kernel)
set_option maxRecDepth 65536 in
theorem w_c18 : (Jvm.Cond.code ({ cls := "java/math/BigDecimal", name := "zeroValueOf", desc := "(I)Ljava/math/BigDecimal;" } : Jvm.MethodName) jdk_17_method_24_code (1 : Nat) (Option.some (Jvm.ClassFile.FieldType.object "java/math/BigDecimal"))).before args0 about1 = true := code_word (m := ⟨5, 3⟩) (meth := k5m3) (c := k5c3) (by decide +kernel) rfl rfl rfl (by decide +kernel)
def codes1 : List Jvm.Cond := [Jvm.Cond.code x code maxLocals ret, Jvm.Cond.code ({ cls := "java/math/BigDecimal", name := "valueOf", desc := "(JI)Ljava/math/BigDecimal;" } : Jvm.MethodName) jdk_17_method_20_code (3 : Nat) (Option.some (Jvm.ClassFile.FieldType.object "java/math/BigDecimal")), Jvm.Cond.code ({ cls := "java/math/BigDecimal", name := "<init>", desc := "(Ljava/math/BigInteger;JII)V" } : Jvm.MethodName) jdk_17_method_1_code (6 : Nat) (Option.none : Option Jvm.ClassFile.FieldType), Jvm.Cond.code ({ cls := "java/lang/Number", name := "<init>", desc := "()V" } : Jvm.MethodName) jdk_18_method_1_code (1 : Nat) (Option.none : Option Jvm.ClassFile.FieldType), Jvm.Cond.code ({ cls := "java/lang/Object", name := "<init>", desc := "()V" } : Jvm.MethodName) object_method_1_code (1 : Nat) (Option.none : Option Jvm.ClassFile.FieldType), Jvm.Cond.code ({ cls := "com/example/frontmonth/frontmonth/BidAsk", name := "<init>", desc := "(Ljava/math/BigDecimal;Ljava/math/BigDecimal;)V" } : Jvm.MethodName) prog_4_method_1_code (3 : Nat) (Option.none : Option Jvm.ClassFile.FieldType), Jvm.Cond.code ({ cls := "com/example/frontmonth/frontmonth/Quote", name := "<init>", desc := "(Lcom/example/frontmonth/frontmonth/BidAsk;Lcom/example/frontmonth/frontmonth/BidAsk;)V" } : Jvm.MethodName) prog_21_method_1_code (3 : Nat) (Option.none : Option Jvm.ClassFile.FieldType), Jvm.Cond.code ({ cls := "com/example/frontmonth/frontmonth/Spread", name := "of", desc := "(Lcom/example/frontmonth/frontmonth/Spread$Word;)Lcom/example/frontmonth/frontmonth/Spread;" } : Jvm.MethodName) prog_26_method_2_code (2 : Nat) (Option.some (Jvm.ClassFile.FieldType.object "com/example/frontmonth/frontmonth/Spread")), Jvm.Cond.code ({ cls := "com/example/frontmonth/frontmonth/Spread", name := "<init>", desc := "(Ljava/math/BigDecimal;)V" } : Jvm.MethodName) prog_26_method_1_code (2 : Nat) (Option.none : Option Jvm.ClassFile.FieldType), Jvm.Cond.code ({ cls := "com/example/frontmonth/frontmonth/Spread", name := "perUnit", desc := "(Lcom/example/frontmonth/frontmonth/Quote;)Ljava/math/BigDecimal;" } : Jvm.MethodName) prog_26_method_4_code (2 : Nat) (Option.some (Jvm.ClassFile.FieldType.object "java/math/BigDecimal")), Jvm.Cond.code ({ cls := "java/math/BigDecimal", name := "equals", desc := "(Ljava/lang/Object;)Z" } : Jvm.MethodName) jdk_17_method_72_code (7 : Nat) (Option.some Jvm.ClassFile.FieldType.boolean), Jvm.Cond.code ({ cls := "com/example/frontmonth/frontmonth/Quote", name := "newSpread", desc := "()Ljava/math/BigDecimal;" } : Jvm.MethodName) prog_21_method_4_code (1 : Nat) (Option.some (Jvm.ClassFile.FieldType.object "java/math/BigDecimal")), Jvm.Cond.code ({ cls := "com/example/frontmonth/frontmonth/BidAsk", name := "spread", desc := "()Ljava/math/BigDecimal;" } : Jvm.MethodName) prog_4_method_4_code (1 : Nat) (Option.some (Jvm.ClassFile.FieldType.object "java/math/BigDecimal")), Jvm.Cond.code ({ cls := "java/math/BigDecimal", name := "subtract", desc := "(Ljava/math/BigDecimal;)Ljava/math/BigDecimal;" } : Jvm.MethodName) jdk_17_method_29_code (2 : Nat) (Option.some (Jvm.ClassFile.FieldType.object "java/math/BigDecimal")), Jvm.Cond.code ({ cls := "java/math/BigDecimal", name := "add", desc := "(JIJI)Ljava/math/BigDecimal;" } : Jvm.MethodName) jdk_17_method_134_code (12 : Nat) (Option.some (Jvm.ClassFile.FieldType.object "java/math/BigDecimal")), Jvm.Cond.code ({ cls := "java/math/BigDecimal", name := "add", desc := "(JJI)Ljava/math/BigDecimal;" } : Jvm.MethodName) jdk_17_method_133_code (7 : Nat) (Option.some (Jvm.ClassFile.FieldType.object "java/math/BigDecimal")), Jvm.Cond.code ({ cls := "java/math/BigDecimal", name := "add", desc := "(JJ)J" } : Jvm.MethodName) jdk_17_method_132_code (6 : Nat) (Option.some Jvm.ClassFile.FieldType.long), Jvm.Cond.code ({ cls := "java/math/BigDecimal", name := "valueOf", desc := "(J)Ljava/math/BigDecimal;" } : Jvm.MethodName) jdk_17_method_21_code (2 : Nat) (Option.some (Jvm.ClassFile.FieldType.object "java/math/BigDecimal")), Jvm.Cond.code ({ cls := "java/math/BigDecimal", name := "zeroValueOf", desc := "(I)Ljava/math/BigDecimal;" } : Jvm.MethodName) jdk_17_method_24_code (1 : Nat) (Option.some (Jvm.ClassFile.FieldType.object "java/math/BigDecimal"))]
set_option maxRecDepth 65536 in
theorem codes_eq : words1.filter isCode = codes1 := rfl
theorem w_codes : ∀ c ∈ words1.filter isCode, c.before args0 about1 = true := by
  rw [codes_eq]
  intro c hc
  simp only [codes1, List.mem_cons, List.not_mem_nil, or_false] at hc
  rcases hc with rfl | rfl | rfl | rfl | rfl | rfl | rfl | rfl | rfl | rfl | rfl | rfl | rfl | rfl | rfl | rfl | rfl | rfl | rfl
  · exact w_c0
  · exact w_c1
  · exact w_c2
  · exact w_c3
  · exact w_c4
  · exact w_c5
  · exact w_c6
  · exact w_c7
  · exact w_c8
  · exact w_c9
  · exact w_c10
  · exact w_c11
  · exact w_c12
  · exact w_c13
  · exact w_c14
  · exact w_c15
  · exact w_c16
  · exact w_c17
  · exact w_c18
set_option maxRecDepth 65536 in
theorem w_t1 : (words1.take 24).all (fun c => isCode c || c.before args0 about1) = true := by decide +kernel
set_option maxRecDepth 65536 in
theorem w_t2 : ((words1.drop 24).take 24).all (fun c => isCode c || c.before args0 about1) = true := by decide +kernel
set_option maxRecDepth 65536 in
theorem w_t3 : (((words1.drop 24).drop 24).take 24).all (fun c => isCode c || c.before args0 about1) = true := by decide +kernel
set_option maxRecDepth 65536 in
theorem w_t4 : ((((words1.drop 24).drop 24).drop 24).take 24).all (fun c => isCode c || c.before args0 about1) = true := by decide +kernel
set_option maxRecDepth 65536 in
theorem w_t5 : ((((words1.drop 24).drop 24).drop 24).drop 24).all (fun c => isCode c || c.before args0 about1) = true := by decide +kernel
theorem w_tables : (allAtoms (Jvm.Cond.code x code maxLocals ret :: tables_1)).before args0 about1 = true := by
  rw [allAtoms_all]
  show words1.all (fun c => c.before args0 about1) = true
  refine all_split ?_ w_codes
  rw [← List.take_append_drop 24 words1, List.all_append, w_t1, ← List.take_append_drop 24 (words1.drop 24), List.all_append, w_t2, ← List.take_append_drop 24 ((words1.drop 24).drop 24), List.all_append, w_t3, ← List.take_append_drop 24 (((words1.drop 24).drop 24).drop 24), List.all_append, w_t4, w_t5]
  rfl
set_option maxRecDepth 65536 in
theorem w_rest : rest_1_c.before args0 about1 = true := by decide +kernel
set_option maxRecDepth 65536 in
theorem w_case : (Jvm.Cond.and given_1 narrow_1).before args0 about1 = true := by decide +kernel
theorem w_applies : (headSpec (Jvm.Cond.code x code maxLocals ret :: tables_1) room_1).applies x e0.platform about1 = true :=
  (Spec.applies_iff w_frames).mpr ⟨w_running, w_runnable, w_alone, w_named, w_hears, w_ripe, w_room, w_tables⟩
theorem atStart : AtStart classFile x code maxLocals ret World_1 tables_1 room_1 Calls_1 rest_1 Pre_1 launch0 p0 e0 about1 theMethod args0 below0 :=
  ⟨lists_1, trivial, launch0.admits_env _ _ _, launch0.least_env, fairChoices_fair.cas, fairChoices_fair.clock, w_frames, w_args, w_heap, w_applies, trivial, w_rest, w_case⟩
end start1
theorem witness_1 : WitnessClaimed_1 := ⟨start1.p0, start1.e0, start1.about1, start1.theMethod, start1.args0, start1.below0, start1.atStart⟩
end Jvm.Pilot.@@N@@
