import JvmDerived
import JvmDerived.Pilot.@@N@@Statement
import JvmDerived.Pilot.@@N@@Code
set_option linter.unusedVariables false
set_option linter.unusedSimpArgs false
namespace Jvm.Pilot.@@N@@
open Jvm Jvm.ClassFile Sem Op Lib Jvm.Free Jvm.Stand Jvm.LawKit Jvm.RoadKit Bundle Jvm.Pilot.@@N@@.Jvm.D
/-! ### the form of my walks: what is left to do from a state -/
def Go (p : Program) (e : Env) (below : List Frame) (P : Outcome → State → Prop) (S : State) : Prop :=
  ∃ s₂ o, Steps p.tables e below S s₂ ∧ s₂.status = .running ∧ Ended s₂ below o ∧ P o s₂
def PQ (s : State) (Q : Option Value → Heap → List Loc → Prop) (C S : Nat) : Outcome → State → Prop :=
  fun o U' => ∃ v L, o = .returned v ∧ Q v U'.heap L ∧ FrameEnd s o U' L C S
theorem Go.by {p : Program} {e : Env} {below : List Frame} {P : Outcome → State → Prop} {S S' : State} (k : ∀ t, Steps p.tables e below S' t → Steps p.tables e below S t) (h : Go p e below P S') : Go p e below P S := by
  obtain ⟨t, o, h1, h2⟩ := h
  exact ⟨t, o, k t h1, h2⟩
theorem Go.fin {p : Program} {l : Launch} {e : Env} {R : Room} {s : State} {m : MethodId} {args : Array Value} {below : List Frame} {meth : Method} {c : Code} {T : State} {locs : List Loc} {k n C S : Nat} {v : Option Value} {Q : Option Value → Heap → List Loc → Prop} {S0 : State}
    (X : Stand p l e R s m args below meth c T locs k n) (hlk : meth.locks = false) (hv : meth.sig.returnType = none → v = none) (hk : k ≤ C) (hn : n ≤ S) (hQ : Q v T.heap locs)
    (hst : ∀ fs, (∀ (f : JFrame) (acts : List Action), f.method = m → f.locked = none → f.entered = [] → (doReturn e (T.setTop f) acts v).1 = T.setFrames fs) → Steps p.tables e below S0 (T.setFrames fs)) : Go p e below (PQ s Q C S) S0 := by
  obtain ⟨fs, hr, hrun, hended, hW, hsame⟩ := X.leave (v := v) hv hlk
  exact ⟨_, _, hst fs hr, hrun, hended, v, locs, rfl, hQ, ⟨_, rfl⟩, hW, hsame.mono hk hn⟩
/-! ### from a case's words to facts -/
section OwnWords
variable {args : Array Value} {s : State} {t : Term} {C n d : String} {a : Addr} {z : Int32}
theorem own_fint (hx : t.eval args s none [] s = some (.ref a)) (h : (Cond.eq (.field t C n d) (.int z)).value args s none s [] = some true) : Fld s s.heap a C n d (.int z) := by
  refine Fld.start ?_
  have e1 : (Term.field t C n d).eval args s none [] s = s.fieldOf? a C n d := fld_at hx
  cases hf : s.fieldOf? a C n d with
  | none => simp [Cond.value, e1, hf] at h
  | some v =>
    cases v <;> simp [Cond.value, e1, hf, Term.int_eval] at h
    subst h; rfl
theorem own_lenE {cl : Cell} {ty : FieldType} (ev : t.eval args s none [] s = some (.ref a)) (A : Arr s s.heap a cl ty) (h : (Cond.eq (.length t) (.int z)).value args s none s [] = some true) : cl.slots.size < 2 ^ 31 ∧ cl.slots.size.toInt32 = z := by
  have ha : s.arrayAt? a = some cl := Arr.fin (Vm.Alike.refl _) A
  by_cases hl : cl.slots.size < 2 ^ 31
  · have q := len_f (o := none) (idx := []) (first := s) ev ha hl
    simp [Cond.value, q, Term.int_eval] at h
    exact ⟨hl, h⟩
  · simp [Cond.value, Term.eval, ev, ha, hl] at h
theorem own_len {cl : Cell} {ty : FieldType} {N : Nat} (ev : t.eval args s none [] s = some (.ref a)) (A : Arr s s.heap a cl ty) (hz : z.toInt = N) (h : (Cond.eq (.length t) (.int z)).value args s none s [] = some true) : cl.slots.size = N := by
  obtain ⟨h1, h2⟩ := own_lenE ev A h
  have h3 := len_toInt h1
  rw [h2, hz] at h3
  omega
theorem own_elem {cl : Cell} {j : Int32} (ev : t.eval args s none [] s = some (.ref a)) (hc : s.heap[a]? = some cl) (h : (Cond.eq (.elem t (.int j)) (.int z)).value args s none s [] = some true) : cl.slots[j.toNatClampNeg]? = some (.int z) := by
  obtain ⟨x, y, e1, e2, -, -⟩ := cmp_v (Or.inl h)
  have q := (elem_in e1 ev rfl hc).2
  cases e2
  cases x <;> simp [Cond.value, e1, Term.int_eval] at h
  subst h; exact q
end OwnWords
/-! ### the end of a walk that may intern -/
def PQW (s Z : State) (EL : List (String × Nat)) (Q : Option Value → Heap → List Loc → Prop) (C S : Nat) : Outcome → State → Prop :=
  fun o U' => ∃ v L, o = .returned v ∧ Q v U'.heap L ∧ CHr Z EL s.vm s.heap U'.vm U'.heap ∧ ReturnedEndW s o U' L C S
theorem Go.finW {p : Program} {l : Launch} {e : Env} {R : Room} {s Z : State} {a0 : Array Value} {EL : List (String × Nat)} {vm0 : Vm} {k0 : Nat} {m : MethodId} {args : Array Value} {below : List Frame} {meth : Method} {c : Code} {T : State} {locs : List Loc} {k n C S : Nat} {v : Option Value} {Q : Option Value → Heap → List Loc → Prop} {S0 : State} {h0 H : Heap}
    (X : Stand p l e R (s.setVm vm0) m args below meth c T locs k n) (hlk : meth.locks = false) (hEL : EW Z a0 EL) (hv : meth.sig.returnType = none → v = none) (hk : k ≤ C) (hn : n ≤ S) (hh : s.heap = h0) (eT : T.heap = H) (hS : s.Since vm0 k0) (hk0 : k0 ≤ H.size) (hZ : Z.Warmed39 vm0) (hC : CHr Z EL s.vm h0 vm0 H) (hQ : Q v H locs)
    (hst : ∀ fs, (∀ (f : JFrame) (acts : List Action), f.method = m → f.locked = none → f.entered = [] → (doReturn e (T.setTop f) acts v).1 = T.setFrames fs) → Steps p.tables e below S0 (T.setFrames fs)) : Go p e below (PQW s Z EL Q C S) S0 := by
  subst eT hh
  obtain ⟨fs, hr, hrun, hended, hW1, hW2, hW3, hsame⟩ := X.leaveW hS hk0 (v := v) hv hlk
  have hc := CHr.trans hC (CHv.at X hZ hEL hC.1)
  exact ⟨_, _, hst fs hr, hrun, hended, v, locs, rfl, hQ, hc, hW1, hW2, hW3, hsame.mono hk hn⟩
/-! ### getfield where the entry stands resolved (the word fieldRef) -/
section OwnRef
variable {p : Program} {l : Launch} {e : Env} {R : Room} {s : State} {m : MethodId} {args : Array Value} {below : List Frame} {meth : Method} {c : Code} {T : State} {locs : List Loc} {cells slots : Nat} {Z : State} {a0 : Array Value} {h : Heap}
theorem own_getR (X : Stand p l e R s m args below meth c T locs cells slots) (hx : p.tables.exec = Jvm.exec) (hZ : Z.Warmed39 s.vm) {own R0 O n d : String} {index : Nat} (hown : s.vm.findClass own = some m.cls) (w : (Cond.fieldRef own index R0 n d).before a0 Z = true) (via : Via Z R0 O n d)
    (eT : T.heap = h) {a : Addr} {v : Value} (F : Fld Z h a O n d v) {g : JFrame} (hg : g.method = m) {rest : List Value} (hs : g.stack = .ref a :: rest) (hd : decode c.code g.pc = .ok (.getfield index, 3)) : ∃ T', Stand p l e R s m args below meth c T' locs cells slots ∧ T'.heap = h ∧ ∀ target, Steps p.tables e below (T'.setTop { g with pc := g.pc + 3, stack := v :: rest }) target → Steps p.tables e below (T.setTop g) target := by
  obtain ⟨cell, cf, k, i, f, h1, h2, h3, h4, -, -, h7⟩ := F
  have hU : Z.Warmed39 T.vm := wtrans hZ X.warmed
  have w' : (Cond.fieldRef own index R0 n d).before a0 (Z.setVm T.vm) = true := Cond.fieldRef_warmed39 hU w
  have hown' : (Z.setVm T.vm).vm.findClass own = some m.cls := by
    rw [State.vm_setVm, X.warmed.alike.findClass]; exact hown
  obtain ⟨c2, k2, i2, f2, hi2, hready⟩ := Cond.fieldRef_spec (s := Z.setVm T.vm) hown' w'
  obtain ⟨k', hi', -⟩ := State.fieldFound?_setVm (s := Z) hU.alike (via _ h2)
  cases hi2.symm.trans hi'
  refine ⟨T, X, eT, fun target hrest => ?_⟩
  subst hg
  have hc : T.heap[a]? = some cell := by rw [eT]; exact h1
  jvm_step X.here [hx, hd, getfield.wp_ready (e := e) (s := T) (f := g) X.here.top hready h3 hs hc h4 h7]
  exact hrest
end OwnRef
theorem pn_com_example_tierstone_tierstone_core_StreamFormatHeaderPinLaw : plainName "com/example/tierstone/tierstone/core/StreamFormatHeaderPinLaw" = true := by first | (simp [plainName, overriddenIn]; done) | decide +kernel
theorem d_method_2_code_0 : decode method_2_code 0 = .ok (.iload_n 0, 1) := by decide +kernel
theorem d_method_2_code_1 : decode method_2_code 1 = .ok (.iconst 3, 1) := by decide +kernel
theorem d_method_2_code_2 : decode method_2_code 2 = .ok (.iand, 1) := by decide +kernel
theorem d_method_2_code_3 : decode method_2_code 3 = .ok (.istore_n 1, 1) := by decide +kernel
theorem d_method_2_code_4 : decode method_2_code 4 = .ok (.iload_n 1, 1) := by decide +kernel
theorem d_method_2_code_5 : decode method_2_code 5 = .ok (.ifCond .ne 7, 3) := by decide +kernel
theorem d_method_2_code_8 : decode method_2_code 8 = .ok (.getstatic 7, 3) := by decide +kernel
theorem d_method_2_code_11 : decode method_2_code 11 = .ok (.areturn, 1) := by decide +kernel
theorem d_method_2_code_12 : decode method_2_code 12 = .ok (.iload_n 1, 1) := by decide +kernel
theorem d_method_2_code_13 : decode method_2_code 13 = .ok (.iconst 1, 1) := by decide +kernel
theorem d_method_2_code_14 : decode method_2_code 14 = .ok (.if_icmp .ne 7, 3) := by decide +kernel
theorem d_method_2_code_17 : decode method_2_code 17 = .ok (.getstatic 13, 3) := by decide +kernel
theorem d_method_2_code_20 : decode method_2_code 20 = .ok (.areturn, 1) := by decide +kernel
theorem d_method_2_code_21 : decode method_2_code 21 = .ok (.iload_n 1, 1) := by decide +kernel
theorem d_method_2_code_22 : decode method_2_code 22 = .ok (.iconst 2, 1) := by decide +kernel
theorem d_method_2_code_23 : decode method_2_code 23 = .ok (.if_icmp .ne 7, 3) := by decide +kernel
theorem d_method_2_code_26 : decode method_2_code 26 = .ok (.getstatic 16, 3) := by decide +kernel
theorem d_method_2_code_29 : decode method_2_code 29 = .ok (.areturn, 1) := by decide +kernel
theorem d_method_2_code_30 : decode method_2_code 30 = .ok (.getstatic 19, 3) := by decide +kernel
theorem d_method_2_code_33 : decode method_2_code 33 = .ok (.areturn, 1) := by decide +kernel
theorem d_method_3_code_0 : decode method_3_code 0 = .ok (.iload_n 0, 1) := by decide +kernel
theorem d_method_3_code_1 : decode method_3_code 1 = .ok (.iconst 3, 1) := by decide +kernel
theorem d_method_3_code_2 : decode method_3_code 2 = .ok (.iand, 1) := by decide +kernel
theorem d_method_3_code_3 : decode method_3_code 3 = .ok (.istore_n 1, 1) := by decide +kernel
theorem d_method_3_code_4 : decode method_3_code 4 = .ok (.iload_n 1, 1) := by decide +kernel
theorem d_method_3_code_5 : decode method_3_code 5 = .ok (.ifCond .ne 6, 3) := by decide +kernel
theorem d_method_3_code_8 : decode method_3_code 8 = .ok (.bipush 84, 2) := by decide +kernel
theorem d_method_3_code_10 : decode method_3_code 10 = .ok (.ireturn, 1) := by decide +kernel
theorem d_method_3_code_11 : decode method_3_code 11 = .ok (.iload_n 1, 1) := by decide +kernel
theorem d_method_3_code_12 : decode method_3_code 12 = .ok (.iconst 1, 1) := by decide +kernel
theorem d_method_3_code_13 : decode method_3_code 13 = .ok (.if_icmp .ne 6, 3) := by decide +kernel
theorem d_method_3_code_16 : decode method_3_code 16 = .ok (.bipush 67, 2) := by decide +kernel
theorem d_method_3_code_18 : decode method_3_code 18 = .ok (.ireturn, 1) := by decide +kernel
theorem d_method_3_code_19 : decode method_3_code 19 = .ok (.iload_n 1, 1) := by decide +kernel
theorem d_method_3_code_20 : decode method_3_code 20 = .ok (.iconst 2, 1) := by decide +kernel
theorem d_method_3_code_21 : decode method_3_code 21 = .ok (.if_icmp .ne 6, 3) := by decide +kernel
theorem d_method_3_code_24 : decode method_3_code 24 = .ok (.bipush 65, 2) := by decide +kernel
theorem d_method_3_code_26 : decode method_3_code 26 = .ok (.ireturn, 1) := by decide +kernel
theorem d_method_3_code_27 : decode method_3_code 27 = .ok (.bipush 66, 2) := by decide +kernel
theorem d_method_3_code_29 : decode method_3_code 29 = .ok (.ireturn, 1) := by decide +kernel
theorem d_jdk_29_method_69_code_0 : decode jdk_29_method_69_code 0 = .ok (.iload_n 0, 1) := by decide +kernel
theorem d_jdk_29_method_69_code_1 : decode jdk_29_method_69_code 1 = .ok (.iload_n 1, 1) := by decide +kernel
theorem d_jdk_29_method_69_code_2 : decode jdk_29_method_69_code 2 = .ok (.if_icmp .gt 7, 3) := by decide +kernel
theorem d_jdk_29_method_69_code_9 : decode jdk_29_method_69_code 9 = .ok (.iload_n 1, 1) := by decide +kernel
theorem d_jdk_29_method_69_code_10 : decode jdk_29_method_69_code 10 = .ok (.ireturn, 1) := by decide +kernel
theorem d_jdk_29_method_69_code_5 : decode jdk_29_method_69_code 5 = .ok (.iload_n 0, 1) := by decide +kernel
theorem d_jdk_29_method_69_code_6 : decode jdk_29_method_69_code 6 = .ok (.goto 4, 3) := by decide +kernel
theorem pn_java_util_Arrays : plainName "java/util/Arrays" = true := by first | (simp [plainName, overriddenIn]; done) | decide +kernel
theorem d_jdk_65_method_121_code_0 : decode jdk_65_method_121_code 0 = .ok (.iload_n 1, 1) := by decide +kernel
theorem d_jdk_65_method_121_code_1 : decode jdk_65_method_121_code 1 = .ok (.aload_n 0, 1) := by decide +kernel
theorem d_jdk_65_method_121_code_2 : decode jdk_65_method_121_code 2 = .ok (.arraylength, 1) := by decide +kernel
theorem d_jdk_65_method_121_code_3 : decode jdk_65_method_121_code 3 = .ok (.if_icmp .ne 11, 3) := by decide +kernel
theorem d_jdk_65_method_121_code_14 : decode jdk_65_method_121_code 14 = .ok (.iload_n 1, 1) := by decide +kernel
theorem d_jdk_65_method_121_code_15 : decode jdk_65_method_121_code 15 = .ok (.newarray .byte, 2) := by decide +kernel
theorem d_jdk_65_method_121_code_17 : decode jdk_65_method_121_code 17 = .ok (.astore_n 2, 1) := by decide +kernel
theorem d_jdk_65_method_121_code_18 : decode jdk_65_method_121_code 18 = .ok (.aload_n 0, 1) := by decide +kernel
theorem d_jdk_65_method_121_code_19 : decode jdk_65_method_121_code 19 = .ok (.iconst 0, 1) := by decide +kernel
theorem d_jdk_65_method_121_code_20 : decode jdk_65_method_121_code 20 = .ok (.aload_n 2, 1) := by decide +kernel
theorem d_jdk_65_method_121_code_21 : decode jdk_65_method_121_code 21 = .ok (.iconst 0, 1) := by decide +kernel
theorem d_jdk_65_method_121_code_22 : decode jdk_65_method_121_code 22 = .ok (.aload_n 0, 1) := by decide +kernel
theorem d_jdk_65_method_121_code_23 : decode jdk_65_method_121_code 23 = .ok (.arraylength, 1) := by decide +kernel
theorem d_jdk_65_method_121_code_24 : decode jdk_65_method_121_code 24 = .ok (.iload_n 1, 1) := by decide +kernel
theorem pd__II_I : parseMethodDescriptor "(II)I" = some ⟨[.int, .int], some .int⟩ := by decide +kernel
theorem d_jdk_65_method_121_code_25 : decode jdk_65_method_121_code 25 = .ok (.invokestatic 304, 3) := by decide +kernel
theorem d_jdk_65_method_121_code_28 : decode jdk_65_method_121_code 28 = .ok (.invokestatic 150, 3) := by decide +kernel
theorem d_jdk_65_method_121_code_31 : decode jdk_65_method_121_code 31 = .ok (.aload_n 2, 1) := by decide +kernel
theorem d_jdk_65_method_121_code_32 : decode jdk_65_method_121_code 32 = .ok (.areturn, 1) := by decide +kernel
theorem pn_com_example_tierstone_tierstone_core_StreamFormat : plainName "com/example/tierstone/tierstone/core/StreamFormat" = true := by first | (simp [plainName, overriddenIn]; done) | decide +kernel
theorem d_prog_20_method_3_code_0 : decode prog_20_method_3_code 0 = .ok (.getstatic 39, 3) := by decide +kernel
theorem d_prog_20_method_3_code_3 : decode prog_20_method_3_code 3 = .ok (.bipush 6, 2) := by decide +kernel
theorem pd___BI__B : parseMethodDescriptor "([BI)[B" = some ⟨[(.array .byte), .int], some (.array .byte)⟩ := by decide +kernel
theorem d_prog_20_method_3_code_5 : decode prog_20_method_3_code 5 = .ok (.invokestatic 43, 3) := by decide +kernel
theorem d_prog_20_method_3_code_8 : decode prog_20_method_3_code 8 = .ok (.astore_n 1, 1) := by decide +kernel
theorem d_prog_20_method_3_code_9 : decode prog_20_method_3_code 9 = .ok (.aload_n 1, 1) := by decide +kernel
theorem d_prog_20_method_3_code_10 : decode prog_20_method_3_code 10 = .ok (.getstatic 39, 3) := by decide +kernel
theorem d_prog_20_method_3_code_13 : decode prog_20_method_3_code 13 = .ok (.arraylength, 1) := by decide +kernel
theorem d_prog_20_method_3_code_14 : decode prog_20_method_3_code 14 = .ok (.iconst 1, 1) := by decide +kernel
theorem d_prog_20_method_3_code_15 : decode prog_20_method_3_code 15 = .ok (.bastore, 1) := by decide +kernel
theorem d_prog_20_method_3_code_16 : decode prog_20_method_3_code 16 = .ok (.aload_n 1, 1) := by decide +kernel
theorem d_prog_20_method_3_code_17 : decode prog_20_method_3_code 17 = .ok (.getstatic 39, 3) := by decide +kernel
theorem d_prog_20_method_3_code_20 : decode prog_20_method_3_code 20 = .ok (.arraylength, 1) := by decide +kernel
theorem d_prog_20_method_3_code_21 : decode prog_20_method_3_code 21 = .ok (.iconst 1, 1) := by decide +kernel
theorem d_prog_20_method_3_code_22 : decode prog_20_method_3_code 22 = .ok (.iadd, 1) := by decide +kernel
theorem d_prog_20_method_3_code_23 : decode prog_20_method_3_code 23 = .ok (.aload_n 0, 1) := by decide +kernel
theorem d_prog_20_method_3_code_24 : decode prog_20_method_3_code 24 = .ok (.getfield 49, 3) := by decide +kernel
theorem d_prog_20_method_3_code_27 : decode prog_20_method_3_code 27 = .ok (.bastore, 1) := by decide +kernel
theorem d_prog_20_method_3_code_28 : decode prog_20_method_3_code 28 = .ok (.aload_n 1, 1) := by decide +kernel
theorem d_prog_20_method_3_code_29 : decode prog_20_method_3_code 29 = .ok (.areturn, 1) := by decide +kernel
theorem d_method_4_code_0 : decode method_4_code 0 = .ok (.aload_n 0, 1) := by decide +kernel
theorem d_method_4_code_1 : decode method_4_code 1 = .ok (.ifnull 63, 3) := by decide +kernel
theorem d_method_4_code_4 : decode method_4_code 4 = .ok (.aload_n 0, 1) := by decide +kernel
theorem d_method_4_code_5 : decode method_4_code 5 = .ok (.arraylength, 1) := by decide +kernel
theorem d_method_4_code_6 : decode method_4_code 6 = .ok (.bipush 6, 2) := by decide +kernel
theorem d_method_4_code_8 : decode method_4_code 8 = .ok (.if_icmp .ne 56, 3) := by decide +kernel
theorem d_method_4_code_11 : decode method_4_code 11 = .ok (.aload_n 0, 1) := by decide +kernel
theorem d_method_4_code_12 : decode method_4_code 12 = .ok (.iconst 0, 1) := by decide +kernel
theorem d_method_4_code_13 : decode method_4_code 13 = .ok (.baload, 1) := by decide +kernel
theorem d_method_4_code_14 : decode method_4_code 14 = .ok (.bipush 84, 2) := by decide +kernel
theorem d_method_4_code_16 : decode method_4_code 16 = .ok (.if_icmp .ne 48, 3) := by decide +kernel
theorem d_method_4_code_19 : decode method_4_code 19 = .ok (.aload_n 0, 1) := by decide +kernel
theorem d_method_4_code_20 : decode method_4_code 20 = .ok (.iconst 1, 1) := by decide +kernel
theorem d_method_4_code_21 : decode method_4_code 21 = .ok (.baload, 1) := by decide +kernel
theorem d_method_4_code_22 : decode method_4_code 22 = .ok (.bipush 83, 2) := by decide +kernel
theorem d_method_4_code_24 : decode method_4_code 24 = .ok (.if_icmp .ne 40, 3) := by decide +kernel
theorem d_method_4_code_27 : decode method_4_code 27 = .ok (.aload_n 0, 1) := by decide +kernel
theorem d_method_4_code_28 : decode method_4_code 28 = .ok (.iconst 2, 1) := by decide +kernel
theorem d_method_4_code_29 : decode method_4_code 29 = .ok (.baload, 1) := by decide +kernel
theorem d_method_4_code_30 : decode method_4_code 30 = .ok (.bipush 84, 2) := by decide +kernel
theorem d_method_4_code_32 : decode method_4_code 32 = .ok (.if_icmp .ne 32, 3) := by decide +kernel
theorem d_method_4_code_35 : decode method_4_code 35 = .ok (.aload_n 0, 1) := by decide +kernel
theorem d_method_4_code_36 : decode method_4_code 36 = .ok (.iconst 3, 1) := by decide +kernel
theorem d_method_4_code_37 : decode method_4_code 37 = .ok (.baload, 1) := by decide +kernel
theorem d_method_4_code_38 : decode method_4_code 38 = .ok (.bipush 82, 2) := by decide +kernel
theorem d_method_4_code_40 : decode method_4_code 40 = .ok (.if_icmp .ne 24, 3) := by decide +kernel
theorem d_method_4_code_43 : decode method_4_code 43 = .ok (.aload_n 0, 1) := by decide +kernel
theorem d_method_4_code_44 : decode method_4_code 44 = .ok (.iconst 4, 1) := by decide +kernel
theorem d_method_4_code_45 : decode method_4_code 45 = .ok (.baload, 1) := by decide +kernel
theorem d_method_4_code_46 : decode method_4_code 46 = .ok (.iconst 1, 1) := by decide +kernel
theorem d_method_4_code_47 : decode method_4_code 47 = .ok (.if_icmp .ne 17, 3) := by decide +kernel
theorem d_method_4_code_50 : decode method_4_code 50 = .ok (.aload_n 0, 1) := by decide +kernel
theorem d_method_4_code_51 : decode method_4_code 51 = .ok (.iconst 5, 1) := by decide +kernel
theorem d_method_4_code_52 : decode method_4_code 52 = .ok (.baload, 1) := by decide +kernel
theorem d_method_4_code_53 : decode method_4_code 53 = .ok (.iload_n 1, 1) := by decide +kernel
theorem pd__I_B : parseMethodDescriptor "(I)B" = some ⟨[.int], some .byte⟩ := by decide +kernel
theorem d_method_4_code_54 : decode method_4_code 54 = .ok (.invokestatic 22, 3) := by decide +kernel
theorem d_method_4_code_57 : decode method_4_code 57 = .ok (.if_icmp .ne 7, 3) := by decide +kernel
theorem d_method_4_code_60 : decode method_4_code 60 = .ok (.iconst 1, 1) := by decide +kernel
theorem d_method_4_code_61 : decode method_4_code 61 = .ok (.goto 4, 3) := by decide +kernel
theorem d_method_4_code_65 : decode method_4_code 65 = .ok (.ireturn, 1) := by decide +kernel
theorem pd__I_Lcom_example_tierstone_tierstone_core_StreamFormat_Kind_ : parseMethodDescriptor "(I)Lcom/example/tierstone/tierstone/core/StreamFormat$Kind;" = some ⟨[.int], some (.object "com/example/tierstone/tierstone/core/StreamFormat$Kind")⟩ := by decide +kernel
theorem pd__Lcom_example_tierstone_tierstone_core_StreamFormat_Kind___B : parseMethodDescriptor "(Lcom/example/tierstone/tierstone/core/StreamFormat$Kind;)[B" = some ⟨[(.object "com/example/tierstone/tierstone/core/StreamFormat$Kind")], some (.array .byte)⟩ := by decide +kernel
theorem pd___BI_Z : parseMethodDescriptor "([BI)Z" = some ⟨[(.array .byte), .int], some .boolean⟩ := by decide +kernel
theorem tw_0 {Z : State} {a0 : Array Value} (hw : ∀ d ∈ tables_1, d.before a0 Z = true) : (Jvm.Cond.methodLink "com/example/tierstone/tierstone/core/StreamFormatHeaderPinLaw" (28 : Nat) ({ cls := "com/example/tierstone/tierstone/core/StreamFormatHeaderPinLaw", name := "pick", desc := "(I)Lcom/example/tierstone/tierstone/core/StreamFormat$Kind;" } : Jvm.MethodName) : Jvm.Cond).before a0 Z = true := hw _ (List.mem_of_getElem? (i := 0) rfl)
theorem tw_1 {Z : State} {a0 : Array Value} (hw : ∀ d ∈ tables_1, d.before a0 Z = true) : (Jvm.Cond.static ({ cls := "com/example/tierstone/tierstone/core/StreamFormatHeaderPinLaw", name := "pick", desc := "(I)Lcom/example/tierstone/tierstone/core/StreamFormat$Kind;" } : Jvm.MethodName) : Jvm.Cond).before a0 Z = true := hw _ (List.mem_of_getElem? (i := 1) rfl)
theorem tw_2 {Z : State} {a0 : Array Value} (hw : ∀ d ∈ tables_1, d.before a0 Z = true) : (Jvm.Cond.initialized "com/example/tierstone/tierstone/core/StreamFormatHeaderPinLaw" : Jvm.Cond).before a0 Z = true := hw _ (List.mem_of_getElem? (i := 2) rfl)
theorem tw_3 {Z : State} {a0 : Array Value} (hw : ∀ d ∈ tables_1, d.before a0 Z = true) : (Jvm.Cond.code ({ cls := "com/example/tierstone/tierstone/core/StreamFormatHeaderPinLaw", name := "pick", desc := "(I)Lcom/example/tierstone/tierstone/core/StreamFormat$Kind;" } : Jvm.MethodName) method_2_code (2 : Nat) (Option.some (Jvm.ClassFile.FieldType.object "com/example/tierstone/tierstone/core/StreamFormat$Kind")) : Jvm.Cond).before a0 Z = true := hw _ (List.mem_of_getElem? (i := 3) rfl)
theorem tw_4 {Z : State} {a0 : Array Value} (hw : ∀ d ∈ tables_1, d.before a0 Z = true) : (Jvm.Cond.fieldLink "com/example/tierstone/tierstone/core/StreamFormatHeaderPinLaw" (7 : Nat) "com/example/tierstone/tierstone/core/StreamFormat$Kind" "TABLE" "Lcom/example/tierstone/tierstone/core/StreamFormat$Kind;" : Jvm.Cond).before a0 Z = true := hw _ (List.mem_of_getElem? (i := 4) rfl)
theorem tw_5 {Z : State} {a0 : Array Value} (hw : ∀ d ∈ tables_1, d.before a0 Z = true) : (Jvm.Cond.initialized "com/example/tierstone/tierstone/core/StreamFormat$Kind" : Jvm.Cond).before a0 Z = true := hw _ (List.mem_of_getElem? (i := 5) rfl)
theorem tw_6 {Z : State} {a0 : Array Value} (hw : ∀ d ∈ tables_1, d.before a0 Z = true) : (Jvm.Cond.laysStatic "com/example/tierstone/tierstone/core/StreamFormat$Kind" "TABLE" "Lcom/example/tierstone/tierstone/core/StreamFormat$Kind;" : Jvm.Cond).before a0 Z = true := hw _ (List.mem_of_getElem? (i := 6) rfl)
theorem tw_7 {Z : State} {a0 : Array Value} (hw : ∀ d ∈ tables_1, d.before a0 Z = true) : (Jvm.Cond.methodLink "com/example/tierstone/tierstone/core/StreamFormatHeaderPinLaw" (32 : Nat) ({ cls := "com/example/tierstone/tierstone/core/StreamFormat", name := "header", desc := "(Lcom/example/tierstone/tierstone/core/StreamFormat$Kind;)[B" } : Jvm.MethodName) : Jvm.Cond).before a0 Z = true := hw _ (List.mem_of_getElem? (i := 7) rfl)
theorem tw_8 {Z : State} {a0 : Array Value} (hw : ∀ d ∈ tables_1, d.before a0 Z = true) : (Jvm.Cond.static ({ cls := "com/example/tierstone/tierstone/core/StreamFormat", name := "header", desc := "(Lcom/example/tierstone/tierstone/core/StreamFormat$Kind;)[B" } : Jvm.MethodName) : Jvm.Cond).before a0 Z = true := hw _ (List.mem_of_getElem? (i := 8) rfl)
theorem tw_9 {Z : State} {a0 : Array Value} (hw : ∀ d ∈ tables_1, d.before a0 Z = true) : (Jvm.Cond.initialized "com/example/tierstone/tierstone/core/StreamFormat" : Jvm.Cond).before a0 Z = true := hw _ (List.mem_of_getElem? (i := 9) rfl)
theorem tw_10 {Z : State} {a0 : Array Value} (hw : ∀ d ∈ tables_1, d.before a0 Z = true) : (Jvm.Cond.code ({ cls := "com/example/tierstone/tierstone/core/StreamFormat", name := "header", desc := "(Lcom/example/tierstone/tierstone/core/StreamFormat$Kind;)[B" } : Jvm.MethodName) prog_20_method_3_code (2 : Nat) (Option.some (Jvm.ClassFile.FieldType.array Jvm.ClassFile.FieldType.byte)) : Jvm.Cond).before a0 Z = true := hw _ (List.mem_of_getElem? (i := 10) rfl)
theorem tw_11 {Z : State} {a0 : Array Value} (hw : ∀ d ∈ tables_1, d.before a0 Z = true) : (Jvm.Cond.fieldLink "com/example/tierstone/tierstone/core/StreamFormat" (39 : Nat) "com/example/tierstone/tierstone/core/StreamFormat" "MAGIC" "[B" : Jvm.Cond).before a0 Z = true := hw _ (List.mem_of_getElem? (i := 11) rfl)
theorem tw_12 {Z : State} {a0 : Array Value} (hw : ∀ d ∈ tables_1, d.before a0 Z = true) : (Jvm.Cond.laysStatic "com/example/tierstone/tierstone/core/StreamFormat" "MAGIC" "[B" : Jvm.Cond).before a0 Z = true := hw _ (List.mem_of_getElem? (i := 12) rfl)
theorem tw_13 {Z : State} {a0 : Array Value} (hw : ∀ d ∈ tables_1, d.before a0 Z = true) : (Jvm.Cond.methodLink "com/example/tierstone/tierstone/core/StreamFormat" (43 : Nat) ({ cls := "java/util/Arrays", name := "copyOf", desc := "([BI)[B" } : Jvm.MethodName) : Jvm.Cond).before a0 Z = true := hw _ (List.mem_of_getElem? (i := 13) rfl)
theorem tw_14 {Z : State} {a0 : Array Value} (hw : ∀ d ∈ tables_1, d.before a0 Z = true) : (Jvm.Cond.static ({ cls := "java/util/Arrays", name := "copyOf", desc := "([BI)[B" } : Jvm.MethodName) : Jvm.Cond).before a0 Z = true := hw _ (List.mem_of_getElem? (i := 14) rfl)
theorem tw_15 {Z : State} {a0 : Array Value} (hw : ∀ d ∈ tables_1, d.before a0 Z = true) : (Jvm.Cond.initialized "java/util/Arrays" : Jvm.Cond).before a0 Z = true := hw _ (List.mem_of_getElem? (i := 15) rfl)
theorem tw_16 {Z : State} {a0 : Array Value} (hw : ∀ d ∈ tables_1, d.before a0 Z = true) : (Jvm.Cond.code ({ cls := "java/util/Arrays", name := "copyOf", desc := "([BI)[B" } : Jvm.MethodName) jdk_65_method_121_code (3 : Nat) (Option.some (Jvm.ClassFile.FieldType.array Jvm.ClassFile.FieldType.byte)) : Jvm.Cond).before a0 Z = true := hw _ (List.mem_of_getElem? (i := 16) rfl)
theorem tw_17 {Z : State} {a0 : Array Value} (hw : ∀ d ∈ tables_1, d.before a0 Z = true) : (Jvm.Cond.arrayClass Jvm.ClassFile.FieldType.byte : Jvm.Cond).before a0 Z = true := hw _ (List.mem_of_getElem? (i := 17) rfl)
theorem tw_18 {Z : State} {a0 : Array Value} (hw : ∀ d ∈ tables_1, d.before a0 Z = true) : (Jvm.Cond.methodLink "java/util/Arrays" (304 : Nat) ({ cls := "java/lang/Math", name := "min", desc := "(II)I" } : Jvm.MethodName) : Jvm.Cond).before a0 Z = true := hw _ (List.mem_of_getElem? (i := 18) rfl)
theorem tw_19 {Z : State} {a0 : Array Value} (hw : ∀ d ∈ tables_1, d.before a0 Z = true) : (Jvm.Cond.static ({ cls := "java/lang/Math", name := "min", desc := "(II)I" } : Jvm.MethodName) : Jvm.Cond).before a0 Z = true := hw _ (List.mem_of_getElem? (i := 19) rfl)
theorem tw_20 {Z : State} {a0 : Array Value} (hw : ∀ d ∈ tables_1, d.before a0 Z = true) : (Jvm.Cond.initialized "java/lang/Math" : Jvm.Cond).before a0 Z = true := hw _ (List.mem_of_getElem? (i := 20) rfl)
theorem tw_21 {Z : State} {a0 : Array Value} (hw : ∀ d ∈ tables_1, d.before a0 Z = true) : (Jvm.Cond.code ({ cls := "java/lang/Math", name := "min", desc := "(II)I" } : Jvm.MethodName) jdk_29_method_69_code (2 : Nat) (Option.some Jvm.ClassFile.FieldType.int) : Jvm.Cond).before a0 Z = true := hw _ (List.mem_of_getElem? (i := 21) rfl)
theorem tw_22 {Z : State} {a0 : Array Value} (hw : ∀ d ∈ tables_1, d.before a0 Z = true) : (Jvm.Cond.methodLink "java/util/Arrays" (150 : Nat) ({ cls := "java/lang/System", name := "arraycopy", desc := "(Ljava/lang/Object;ILjava/lang/Object;II)V" } : Jvm.MethodName) : Jvm.Cond).before a0 Z = true := hw _ (List.mem_of_getElem? (i := 22) rfl)
theorem tw_23 {Z : State} {a0 : Array Value} (hw : ∀ d ∈ tables_1, d.before a0 Z = true) : (Jvm.Cond.static ({ cls := "java/lang/System", name := "arraycopy", desc := "(Ljava/lang/Object;ILjava/lang/Object;II)V" } : Jvm.MethodName) : Jvm.Cond).before a0 Z = true := hw _ (List.mem_of_getElem? (i := 23) rfl)
theorem tw_24 {Z : State} {a0 : Array Value} (hw : ∀ d ∈ tables_1, d.before a0 Z = true) : (Jvm.Cond.initialized "java/lang/System" : Jvm.Cond).before a0 Z = true := hw _ (List.mem_of_getElem? (i := 24) rfl)
theorem tw_25 {Z : State} {a0 : Array Value} (hw : ∀ d ∈ tables_1, d.before a0 Z = true) : (Jvm.Cond.native ({ cls := "java/lang/System", name := "arraycopy", desc := "(Ljava/lang/Object;ILjava/lang/Object;II)V" } : Jvm.MethodName) : Jvm.Cond).before a0 Z = true := hw _ (List.mem_of_getElem? (i := 25) rfl)
theorem tw_26 {Z : State} {a0 : Array Value} (hw : ∀ d ∈ tables_1, d.before a0 Z = true) : (Jvm.Cond.fieldRef "com/example/tierstone/tierstone/core/StreamFormat" (49 : Nat) "com/example/tierstone/tierstone/core/StreamFormat$Kind" "code" "B" : Jvm.Cond).before a0 Z = true := hw _ (List.mem_of_getElem? (i := 26) rfl)
theorem tw_28 {Z : State} {a0 : Array Value} (hw : ∀ d ∈ tables_1, d.before a0 Z = true) : (Jvm.Cond.methodLink "com/example/tierstone/tierstone/core/StreamFormatHeaderPinLaw" (38 : Nat) ({ cls := "com/example/tierstone/tierstone/core/StreamFormatHeaderPinLaw", name := "ok", desc := "([BI)Z" } : Jvm.MethodName) : Jvm.Cond).before a0 Z = true := hw _ (List.mem_of_getElem? (i := 28) rfl)
theorem tw_29 {Z : State} {a0 : Array Value} (hw : ∀ d ∈ tables_1, d.before a0 Z = true) : (Jvm.Cond.static ({ cls := "com/example/tierstone/tierstone/core/StreamFormatHeaderPinLaw", name := "ok", desc := "([BI)Z" } : Jvm.MethodName) : Jvm.Cond).before a0 Z = true := hw _ (List.mem_of_getElem? (i := 29) rfl)
theorem tw_30 {Z : State} {a0 : Array Value} (hw : ∀ d ∈ tables_1, d.before a0 Z = true) : (Jvm.Cond.code ({ cls := "com/example/tierstone/tierstone/core/StreamFormatHeaderPinLaw", name := "ok", desc := "([BI)Z" } : Jvm.MethodName) method_4_code (2 : Nat) (Option.some Jvm.ClassFile.FieldType.boolean) : Jvm.Cond).before a0 Z = true := hw _ (List.mem_of_getElem? (i := 30) rfl)
theorem tw_31 {Z : State} {a0 : Array Value} (hw : ∀ d ∈ tables_1, d.before a0 Z = true) : (Jvm.Cond.methodLink "com/example/tierstone/tierstone/core/StreamFormatHeaderPinLaw" (22 : Nat) ({ cls := "com/example/tierstone/tierstone/core/StreamFormatHeaderPinLaw", name := "code", desc := "(I)B" } : Jvm.MethodName) : Jvm.Cond).before a0 Z = true := hw _ (List.mem_of_getElem? (i := 31) rfl)
theorem tw_32 {Z : State} {a0 : Array Value} (hw : ∀ d ∈ tables_1, d.before a0 Z = true) : (Jvm.Cond.static ({ cls := "com/example/tierstone/tierstone/core/StreamFormatHeaderPinLaw", name := "code", desc := "(I)B" } : Jvm.MethodName) : Jvm.Cond).before a0 Z = true := hw _ (List.mem_of_getElem? (i := 32) rfl)
theorem tw_33 {Z : State} {a0 : Array Value} (hw : ∀ d ∈ tables_1, d.before a0 Z = true) : (Jvm.Cond.code ({ cls := "com/example/tierstone/tierstone/core/StreamFormatHeaderPinLaw", name := "code", desc := "(I)B" } : Jvm.MethodName) method_3_code (2 : Nat) (Option.some Jvm.ClassFile.FieldType.byte) : Jvm.Cond).before a0 Z = true := hw _ (List.mem_of_getElem? (i := 33) rfl)
theorem tw_34 {Z : State} {a0 : Array Value} (hw : ∀ d ∈ tables_1, d.before a0 Z = true) : (Jvm.Cond.fieldLink "com/example/tierstone/tierstone/core/StreamFormatHeaderPinLaw" (19 : Nat) "com/example/tierstone/tierstone/core/StreamFormat$Kind" "BRIEFCASE" "Lcom/example/tierstone/tierstone/core/StreamFormat$Kind;" : Jvm.Cond).before a0 Z = true := hw _ (List.mem_of_getElem? (i := 34) rfl)
theorem tw_35 {Z : State} {a0 : Array Value} (hw : ∀ d ∈ tables_1, d.before a0 Z = true) : (Jvm.Cond.laysStatic "com/example/tierstone/tierstone/core/StreamFormat$Kind" "BRIEFCASE" "Lcom/example/tierstone/tierstone/core/StreamFormat$Kind;" : Jvm.Cond).before a0 Z = true := hw _ (List.mem_of_getElem? (i := 35) rfl)
theorem tw_36 {Z : State} {a0 : Array Value} (hw : ∀ d ∈ tables_1, d.before a0 Z = true) : (Jvm.Cond.fieldLink "com/example/tierstone/tierstone/core/StreamFormatHeaderPinLaw" (13 : Nat) "com/example/tierstone/tierstone/core/StreamFormat$Kind" "CHANGE_SET" "Lcom/example/tierstone/tierstone/core/StreamFormat$Kind;" : Jvm.Cond).before a0 Z = true := hw _ (List.mem_of_getElem? (i := 36) rfl)
theorem tw_37 {Z : State} {a0 : Array Value} (hw : ∀ d ∈ tables_1, d.before a0 Z = true) : (Jvm.Cond.laysStatic "com/example/tierstone/tierstone/core/StreamFormat$Kind" "CHANGE_SET" "Lcom/example/tierstone/tierstone/core/StreamFormat$Kind;" : Jvm.Cond).before a0 Z = true := hw _ (List.mem_of_getElem? (i := 37) rfl)
theorem tw_38 {Z : State} {a0 : Array Value} (hw : ∀ d ∈ tables_1, d.before a0 Z = true) : (Jvm.Cond.fieldLink "com/example/tierstone/tierstone/core/StreamFormatHeaderPinLaw" (16 : Nat) "com/example/tierstone/tierstone/core/StreamFormat$Kind" "ANSWER" "Lcom/example/tierstone/tierstone/core/StreamFormat$Kind;" : Jvm.Cond).before a0 Z = true := hw _ (List.mem_of_getElem? (i := 38) rfl)
theorem tw_39 {Z : State} {a0 : Array Value} (hw : ∀ d ∈ tables_1, d.before a0 Z = true) : (Jvm.Cond.laysStatic "com/example/tierstone/tierstone/core/StreamFormat$Kind" "ANSWER" "Lcom/example/tierstone/tierstone/core/StreamFormat$Kind;" : Jvm.Cond).before a0 Z = true := hw _ (List.mem_of_getElem? (i := 39) rfl)
def own_pick (k : Int32) (t c a b : Addr) : Addr := if k &&& (3 : Int32) = (0 : Int32) then t else if k &&& (3 : Int32) = (1 : Int32) then c else if k &&& (3 : Int32) = (2 : Int32) then a else b
def own_code (k : Int32) : Int32 := if k &&& (3 : Int32) = (0 : Int32) then 84 else if k &&& (3 : Int32) = (1 : Int32) then 67 else if k &&& (3 : Int32) = (2 : Int32) then 65 else 66
theorem own_code_byte (k : Int32) : (own_code k).toInt8.toInt32 = own_code k := by
  unfold own_code
  split
  · decide
  · split
    · decide
    · split <;> decide
theorem own_code_nar (k : Int32) : narrow .byte (.int (own_code k)) = .int (own_code k) := by
  show Value.int _ = _
  exact congrArg Value.int (own_code_byte k)
theorem own_pick_fld {Z : State} {h : Heap} {C n d : String} {t c a b : Addr} (k : Int32) (h1 : Fld Z h t C n d (.int (84 : Int32))) (h2 : Fld Z h c C n d (.int (67 : Int32))) (h3 : Fld Z h a C n d (.int (65 : Int32))) (h4 : Fld Z h b C n d (.int (66 : Int32))) : Fld Z h (own_pick k t c a b) C n d (.int (own_code k)) := by
  unfold own_pick own_code
  by_cases e0 : k &&& (3 : Int32) = (0 : Int32)
  · rw [if_pos e0, if_pos e0]; exact h1
  · rw [if_neg e0, if_neg e0]
    by_cases e1 : k &&& (3 : Int32) = (1 : Int32)
    · rw [if_pos e1, if_pos e1]; exact h2
    · rw [if_neg e1, if_neg e1]
      by_cases e2 : k &&& (3 : Int32) = (2 : Int32)
      · rw [if_pos e2, if_pos e2]; exact h3
      · rw [if_neg e2, if_neg e2]; exact h4
theorem own_fb {v : Int32} (h : v.toInt8.toInt32 = v) : fits .byte (.int v) = true := by
  rw [← h]; exact fits_nar_byte v
theorem own_arr4 {args : Array Value} {s : State} {t : Term} {a : Addr} {cl : Cell} {z0 z1 z2 z3 : Int32} (hf : Fit s) (ev : t.eval args s none [] s = some (.ref a)) (A : Arr s s.heap a cl .byte) (hl : (Cond.eq (.length t) (.int (4 : Int32))).value args s none s [] = some true)
    (h0 : (Cond.eq (.elem t (.int (0 : Int32))) (.int z0)).value args s none s [] = some true) (h1 : (Cond.eq (.elem t (.int (1 : Int32))) (.int z1)).value args s none s [] = some true) (h2 : (Cond.eq (.elem t (.int (2 : Int32))) (.int z2)).value args s none s [] = some true) (h3 : (Cond.eq (.elem t (.int (3 : Int32))) (.int z3)).value args s none s [] = some true) :
    Arv s s.heap a cl.cls .byte (4 : Int32) [.int z0, .int z1, .int z2, .int z3] (.int (0 : Int32)) := by
  obtain ⟨q1, q2⟩ := own_lenE ev A hl
  exact Arv.start hf A q1 q2 (by decide) rfl ⟨own_elem ev A.1 h0, own_elem ev A.1 h1, own_elem ev A.1 h2, own_elem ev A.1 h3, trivial⟩
def Q_pick (Z : State) (p0 : Int32) (aT : Addr) (aC : Addr) (aA : Addr) (aB : Addr) (h0 : Heap) (n0 : Nat) (v : Option Value) (h : Heap) (L : List Loc) : Prop := v = some (.ref (own_pick p0 aT aC aA aB)) ∧ Fr n0 L ∧ h = h0
theorem ef_pick (m : MethodId) (p0 : Int32) (aT : Addr) (aC : Addr) (aA : Addr) (aB : Addr) : entryFrame m #[(.int p0)] 2 = mkF m 0 #[.val (.int p0), .unset] [] := by first | (simp [entryFrame, mkF, argsToLocals, Value.category]; done) | rfl
set_option maxRecDepth 65536 in
set_option maxHeartbeats 40000000 in
theorem rm_pick (l : Launch) (Z : State) (a0 : Array Value) (hw : ∀ d ∈ tables_1, d.before a0 Z = true) (ws : List Jvm.Cond) (p0 : Int32) (aT : Addr) (aC : Addr) (aA : Addr) (aB : Addr) (h0 : Heap) (n0 : Nat) (Z0 : n0 ≤ h0.size) (O0 : Old Z n0 h0) (SaT : Sta Z Z.heap "com/example/tierstone/tierstone/core/StreamFormat$Kind" "TABLE" "Lcom/example/tierstone/tierstone/core/StreamFormat$Kind;" (.ref aT)) (SaC : Sta Z Z.heap "com/example/tierstone/tierstone/core/StreamFormat$Kind" "CHANGE_SET" "Lcom/example/tierstone/tierstone/core/StreamFormat$Kind;" (.ref aC)) (SaA : Sta Z Z.heap "com/example/tierstone/tierstone/core/StreamFormat$Kind" "ANSWER" "Lcom/example/tierstone/tierstone/core/StreamFormat$Kind;" (.ref aA)) (SaB : Sta Z Z.heap "com/example/tierstone/tierstone/core/StreamFormat$Kind" "BRIEFCASE" "Lcom/example/tierstone/tierstone/core/StreamFormat$Kind;" (.ref aB)) :
    MetFree l (⟨"com/example/tierstone/tierstone/core/StreamFormatHeaderPinLaw", "pick", "(I)Lcom/example/tierstone/tierstone/core/StreamFormat$Kind;"⟩ : MethodName) (head1 (Jvm.Cond.code (⟨"com/example/tierstone/tierstone/core/StreamFormatHeaderPinLaw", "pick", "(I)Lcom/example/tierstone/tierstone/core/StreamFormat$Kind;"⟩ : MethodName) method_2_code 2 (some (.object "com/example/tierstone/tierstone/core/StreamFormat$Kind")) :: ws) ({ frames := 0, cells := 0, slots := 0, locals := 0 } : Room)) (fun a U => a = #[(.int p0)] ∧ Z.Warmed39 U.vm ∧ U.heap = h0) (fun _ _ _ _ _ => True) (fun _ U o U' => ∃ v L, o = .returned v ∧ Q_pick Z p0 aT aC aA aB h0 n0 v U'.heap L ∧ FrameEnd U o U' L ({ frames := 0, cells := 0, slots := 0, locals := 0 } : Room).cells ({ frames := 0, cells := 0, slots := 0, locals := 0 } : Room).slots) := by
  refine MetFree.of_bodySF (plainFor_of_name pn_com_example_tierstone_tierstone_core_StreamFormatHeaderPinLaw) hisR ?_
  intro p e s m args below meth c s₁ Bd hml0 hP hK
  obtain ⟨rfl, hZ, hh⟩ := hP
  have hx := Bd.exec
  have hby := Bd.bytes
  have hml : c.maxLocals = 2 := hml0
  have hown : s.vm.findClass "com/example/tierstone/tierstone/core/StreamFormatHeaderPinLaw" = some m.cls := findClass_of_methodNamed Bd.named
  have hnm := (name_of_methodNamed Bd.named Bd.method).1
  have X0 : Stand p l e ({ frames := 0, cells := 0, slots := 0, locals := 0 } : Room) s m #[(.int p0)] below meth c s₁ [] 0 0 := Stand.of_body Bd
  have e0 : s₁.heap = h0 := by rw [← hh, Bd.state]; rfl
  have N0 := Fr.nil n0
  have hlk : meth.locks = false := Bd.notSynchronized
  obtain ⟨P, hP⟩ : ∃ P : Outcome → State → Prop, P = PQ s (Q_pick Z p0 aT aC aA aB h0 n0) ({ frames := 0, cells := 0, slots := 0, locals := 0 } : Room).cells ({ frames := 0, cells := 0, slots := 0, locals := 0 } : Room).slots := ⟨_, rfl⟩
  have fin : ∀ {T : State} {locs : List Loc} {k n : Nat} {v : Option Value} {S0 : State}, Stand p l e ({ frames := 0, cells := 0, slots := 0, locals := 0 } : Room) s m #[(.int p0)] below meth c T locs k n → (meth.sig.returnType = none → v = none) → k ≤ ({ frames := 0, cells := 0, slots := 0, locals := 0 } : Room).cells → n ≤ ({ frames := 0, cells := 0, slots := 0, locals := 0 } : Room).slots → Q_pick Z p0 aT aC aA aB h0 n0 v T.heap locs → (∀ fs, (∀ (f : JFrame) (acts : List Action), f.method = m → f.locked = none → f.entered = [] → (doReturn e (T.setTop f) acts v).1 = T.setFrames fs) → Steps p.tables e below S0 (T.setFrames fs)) → Go p e below P S0 := fun X hv hk hn hQ hst => hP ▸ Go.fin X hlk hv hk hn hQ hst
  suffices hgo : Go p e below P (s₁.setTop (mkF m 0 #[.val (.int p0), .unset] [])) by
    rw [hP] at hgo
    exact Go.by (fun t k => castTop (ef_pick m p0 aT aC aA aB) k) hgo
  show Go p e below P (s₁.setTop (mkF m 0 #[.val (.int p0), .unset] []))
  refine Go.by (fun _ => XS.iloadN X0.here hx rfl (hb hby d_method_2_code_0) rfl) ?_
  show Go p e below P (s₁.setTop (mkF m 1 #[.val (.int p0), .unset] [(.int p0)]))
  refine Go.by (fun _ => XS.iconst X0.here hx rfl (hb hby d_method_2_code_1)) ?_
  show Go p e below P (s₁.setTop (mkF m 2 #[.val (.int p0), .unset] [(.int (3 : Int32)), (.int p0)]))
  refine Go.by (fun _ => XS.iand X0.here hx rfl (hb hby d_method_2_code_2) rfl) ?_
  show Go p e below P (s₁.setTop (mkF m 3 #[.val (.int p0), .unset] [(.int (p0 &&& (3 : Int32)))]))
  refine Go.by (fun _ => XS.istoreN X0.here hx rfl (hb hby d_method_2_code_3) rfl (l' := #[.val (.int p0), .val (.int (p0 &&& (3 : Int32)))]) rfl) ?_
  show Go p e below P (s₁.setTop (mkF m 4 #[.val (.int p0), .val (.int (p0 &&& (3 : Int32)))] []))
  refine Go.by (fun _ => XS.iloadN X0.here hx rfl (hb hby d_method_2_code_4) rfl) ?_
  show Go p e below P (s₁.setTop (mkF m 5 #[.val (.int p0), .val (.int (p0 &&& (3 : Int32)))] [(.int (p0 &&& (3 : Int32)))]))
  by_cases hc5_1 : (p0 &&& (3 : Int32)) = (0 : Int32)
  · refine Go.by (fun _ => XS.ifNo X0.here hx rfl (hb hby d_method_2_code_5) rfl (XT.i0_ne_f hc5_1)) ?_
    show Go p e below P (s₁.setTop (mkF m 8 #[.val (.int p0), .val (.int (p0 &&& (3 : Int32)))] []))
    obtain ⟨T2, X2, e2, st2⟩ := getS2 X0 hx hZ hown (host := "") (Or.inl (tw_4 hw)) Via.refl e0 (SaT.ext O0.2) (g := (mkF m 8 #[.val (.int p0), .val (.int (p0 &&& (3 : Int32)))] [])) rfl (hb hby d_method_2_code_8)
    refine Go.by st2 ?_
    show Go p e below P (T2.setTop (mkF m 11 #[.val (.int p0), .val (.int (p0 &&& (3 : Int32)))] [(.ref aT)]))
    refine fin X2 (v := some (.ref aT)) (fun h => by rw [Bd.returns] at h; cases h) (by decide) (by decide) ?_ (fun fs hr => retOut X2 hx Bd.returns rfl (Or.inr (Or.inr (Or.inr (Or.inr ⟨rfl, rfl, rfl⟩)))) (hb hby d_method_2_code_11) hr)
    show Q_pick Z p0 aT aC aA aB h0 n0 _ T2.heap _
    rw [e2]
    exact ⟨by unfold own_pick; rw [if_pos hc5_1], N0, rfl⟩
  · refine Go.by (fun _ => XS.ifYes X0.here hx rfl (pc0 := 5) (pc' := 12) rfl (hb hby d_method_2_code_5) rfl (XT.i0_ne_t hc5_1) (by decide) (by decide)) ?_
    show Go p e below P (s₁.setTop (mkF m 12 #[.val (.int p0), .val (.int (p0 &&& (3 : Int32)))] []))
    refine Go.by (fun _ => XS.iloadN X0.here hx rfl (hb hby d_method_2_code_12) rfl) ?_
    show Go p e below P (s₁.setTop (mkF m 13 #[.val (.int p0), .val (.int (p0 &&& (3 : Int32)))] [(.int (p0 &&& (3 : Int32)))]))
    refine Go.by (fun _ => XS.iconst X0.here hx rfl (hb hby d_method_2_code_13)) ?_
    show Go p e below P (s₁.setTop (mkF m 14 #[.val (.int p0), .val (.int (p0 &&& (3 : Int32)))] [(.int (1 : Int32)), (.int (p0 &&& (3 : Int32)))]))
    by_cases hc14_3 : (p0 &&& (3 : Int32)) = (1 : Int32)
    · refine Go.by (fun _ => XS.icmpNo X0.here hx rfl (hb hby d_method_2_code_14) rfl (XT.ii_ne_f hc14_3)) ?_
      show Go p e below P (s₁.setTop (mkF m 17 #[.val (.int p0), .val (.int (p0 &&& (3 : Int32)))] []))
      obtain ⟨T4, X4, e4, st4⟩ := getS2 X0 hx hZ hown (host := "") (Or.inl (tw_36 hw)) Via.refl e0 (SaC.ext O0.2) (g := (mkF m 17 #[.val (.int p0), .val (.int (p0 &&& (3 : Int32)))] [])) rfl (hb hby d_method_2_code_17)
      refine Go.by st4 ?_
      show Go p e below P (T4.setTop (mkF m 20 #[.val (.int p0), .val (.int (p0 &&& (3 : Int32)))] [(.ref aC)]))
      refine fin X4 (v := some (.ref aC)) (fun h => by rw [Bd.returns] at h; cases h) (by decide) (by decide) ?_ (fun fs hr => retOut X4 hx Bd.returns rfl (Or.inr (Or.inr (Or.inr (Or.inr ⟨rfl, rfl, rfl⟩)))) (hb hby d_method_2_code_20) hr)
      show Q_pick Z p0 aT aC aA aB h0 n0 _ T4.heap _
      rw [e4]
      exact ⟨by unfold own_pick; rw [if_neg hc5_1, if_pos hc14_3], N0, rfl⟩
    · refine Go.by (fun _ => XS.icmpYes X0.here hx rfl (pc0 := 14) (pc' := 21) rfl (hb hby d_method_2_code_14) rfl (XT.ii_ne_t hc14_3) (by decide) (by decide)) ?_
      show Go p e below P (s₁.setTop (mkF m 21 #[.val (.int p0), .val (.int (p0 &&& (3 : Int32)))] []))
      refine Go.by (fun _ => XS.iloadN X0.here hx rfl (hb hby d_method_2_code_21) rfl) ?_
      show Go p e below P (s₁.setTop (mkF m 22 #[.val (.int p0), .val (.int (p0 &&& (3 : Int32)))] [(.int (p0 &&& (3 : Int32)))]))
      refine Go.by (fun _ => XS.iconst X0.here hx rfl (hb hby d_method_2_code_22)) ?_
      show Go p e below P (s₁.setTop (mkF m 23 #[.val (.int p0), .val (.int (p0 &&& (3 : Int32)))] [(.int (2 : Int32)), (.int (p0 &&& (3 : Int32)))]))
      by_cases hc23_5 : (p0 &&& (3 : Int32)) = (2 : Int32)
      · refine Go.by (fun _ => XS.icmpNo X0.here hx rfl (hb hby d_method_2_code_23) rfl (XT.ii_ne_f hc23_5)) ?_
        show Go p e below P (s₁.setTop (mkF m 26 #[.val (.int p0), .val (.int (p0 &&& (3 : Int32)))] []))
        obtain ⟨T6, X6, e6, st6⟩ := getS2 X0 hx hZ hown (host := "") (Or.inl (tw_38 hw)) Via.refl e0 (SaA.ext O0.2) (g := (mkF m 26 #[.val (.int p0), .val (.int (p0 &&& (3 : Int32)))] [])) rfl (hb hby d_method_2_code_26)
        refine Go.by st6 ?_
        show Go p e below P (T6.setTop (mkF m 29 #[.val (.int p0), .val (.int (p0 &&& (3 : Int32)))] [(.ref aA)]))
        refine fin X6 (v := some (.ref aA)) (fun h => by rw [Bd.returns] at h; cases h) (by decide) (by decide) ?_ (fun fs hr => retOut X6 hx Bd.returns rfl (Or.inr (Or.inr (Or.inr (Or.inr ⟨rfl, rfl, rfl⟩)))) (hb hby d_method_2_code_29) hr)
        show Q_pick Z p0 aT aC aA aB h0 n0 _ T6.heap _
        rw [e6]
        exact ⟨by unfold own_pick; rw [if_neg hc5_1, if_neg hc14_3, if_pos hc23_5], N0, rfl⟩
      · refine Go.by (fun _ => XS.icmpYes X0.here hx rfl (pc0 := 23) (pc' := 30) rfl (hb hby d_method_2_code_23) rfl (XT.ii_ne_t hc23_5) (by decide) (by decide)) ?_
        show Go p e below P (s₁.setTop (mkF m 30 #[.val (.int p0), .val (.int (p0 &&& (3 : Int32)))] []))
        obtain ⟨T7, X7, e7, st7⟩ := getS2 X0 hx hZ hown (host := "") (Or.inl (tw_34 hw)) Via.refl e0 (SaB.ext O0.2) (g := (mkF m 30 #[.val (.int p0), .val (.int (p0 &&& (3 : Int32)))] [])) rfl (hb hby d_method_2_code_30)
        refine Go.by st7 ?_
        show Go p e below P (T7.setTop (mkF m 33 #[.val (.int p0), .val (.int (p0 &&& (3 : Int32)))] [(.ref aB)]))
        refine fin X7 (v := some (.ref aB)) (fun h => by rw [Bd.returns] at h; cases h) (by decide) (by decide) ?_ (fun fs hr => retOut X7 hx Bd.returns rfl (Or.inr (Or.inr (Or.inr (Or.inr ⟨rfl, rfl, rfl⟩)))) (hb hby d_method_2_code_33) hr)
        show Q_pick Z p0 aT aC aA aB h0 n0 _ T7.heap _
        rw [e7]
        exact ⟨by unfold own_pick; rw [if_neg hc5_1, if_neg hc14_3, if_neg hc23_5], N0, rfl⟩
def Q_code (Z : State) (p0 : Int32) (h0 : Heap) (n0 : Nat) (v : Option Value) (h : Heap) (L : List Loc) : Prop := v = some (.int (own_code p0)) ∧ Fr n0 L ∧ h = h0
theorem ef_code (m : MethodId) (p0 : Int32) : entryFrame m #[(.int p0)] 2 = mkF m 0 #[.val (.int p0), .unset] [] := by first | (simp [entryFrame, mkF, argsToLocals, Value.category]; done) | rfl
set_option maxRecDepth 65536 in
set_option maxHeartbeats 40000000 in
theorem rm_code (l : Launch) (Z : State) (a0 : Array Value) (hw : ∀ d ∈ tables_1, d.before a0 Z = true) (ws : List Jvm.Cond) (p0 : Int32) (h0 : Heap) (n0 : Nat) (Z0 : n0 ≤ h0.size) :
    MetFree l (⟨"com/example/tierstone/tierstone/core/StreamFormatHeaderPinLaw", "code", "(I)B"⟩ : MethodName) (head1 (Jvm.Cond.code (⟨"com/example/tierstone/tierstone/core/StreamFormatHeaderPinLaw", "code", "(I)B"⟩ : MethodName) method_3_code 2 (some .byte) :: ws) ({ frames := 0, cells := 0, slots := 0, locals := 0 } : Room)) (fun a U => a = #[(.int p0)] ∧ Z.Warmed39 U.vm ∧ U.heap = h0) (fun _ _ _ _ _ => True) (fun _ U o U' => ∃ v L, o = .returned v ∧ Q_code Z p0 h0 n0 v U'.heap L ∧ FrameEnd U o U' L ({ frames := 0, cells := 0, slots := 0, locals := 0 } : Room).cells ({ frames := 0, cells := 0, slots := 0, locals := 0 } : Room).slots) := by
  refine MetFree.of_bodySF (plainFor_of_name pn_com_example_tierstone_tierstone_core_StreamFormatHeaderPinLaw) hisR ?_
  intro p e s m args below meth c s₁ Bd hml0 hP hK
  obtain ⟨rfl, hZ, hh⟩ := hP
  have hx := Bd.exec
  have hby := Bd.bytes
  have hml : c.maxLocals = 2 := hml0
  have hown : s.vm.findClass "com/example/tierstone/tierstone/core/StreamFormatHeaderPinLaw" = some m.cls := findClass_of_methodNamed Bd.named
  have hnm := (name_of_methodNamed Bd.named Bd.method).1
  have X0 : Stand p l e ({ frames := 0, cells := 0, slots := 0, locals := 0 } : Room) s m #[(.int p0)] below meth c s₁ [] 0 0 := Stand.of_body Bd
  have e0 : s₁.heap = h0 := by rw [← hh, Bd.state]; rfl
  have N0 := Fr.nil n0
  have hlk : meth.locks = false := Bd.notSynchronized
  obtain ⟨P, hP⟩ : ∃ P : Outcome → State → Prop, P = PQ s (Q_code Z p0 h0 n0) ({ frames := 0, cells := 0, slots := 0, locals := 0 } : Room).cells ({ frames := 0, cells := 0, slots := 0, locals := 0 } : Room).slots := ⟨_, rfl⟩
  have fin : ∀ {T : State} {locs : List Loc} {k n : Nat} {v : Option Value} {S0 : State}, Stand p l e ({ frames := 0, cells := 0, slots := 0, locals := 0 } : Room) s m #[(.int p0)] below meth c T locs k n → (meth.sig.returnType = none → v = none) → k ≤ ({ frames := 0, cells := 0, slots := 0, locals := 0 } : Room).cells → n ≤ ({ frames := 0, cells := 0, slots := 0, locals := 0 } : Room).slots → Q_code Z p0 h0 n0 v T.heap locs → (∀ fs, (∀ (f : JFrame) (acts : List Action), f.method = m → f.locked = none → f.entered = [] → (doReturn e (T.setTop f) acts v).1 = T.setFrames fs) → Steps p.tables e below S0 (T.setFrames fs)) → Go p e below P S0 := fun X hv hk hn hQ hst => hP ▸ Go.fin X hlk hv hk hn hQ hst
  suffices hgo : Go p e below P (s₁.setTop (mkF m 0 #[.val (.int p0), .unset] [])) by
    rw [hP] at hgo
    exact Go.by (fun t k => castTop (ef_code m p0) k) hgo
  show Go p e below P (s₁.setTop (mkF m 0 #[.val (.int p0), .unset] []))
  refine Go.by (fun _ => XS.iloadN X0.here hx rfl (hb hby d_method_3_code_0) rfl) ?_
  show Go p e below P (s₁.setTop (mkF m 1 #[.val (.int p0), .unset] [(.int p0)]))
  refine Go.by (fun _ => XS.iconst X0.here hx rfl (hb hby d_method_3_code_1)) ?_
  show Go p e below P (s₁.setTop (mkF m 2 #[.val (.int p0), .unset] [(.int (3 : Int32)), (.int p0)]))
  refine Go.by (fun _ => XS.iand X0.here hx rfl (hb hby d_method_3_code_2) rfl) ?_
  show Go p e below P (s₁.setTop (mkF m 3 #[.val (.int p0), .unset] [(.int (p0 &&& (3 : Int32)))]))
  refine Go.by (fun _ => XS.istoreN X0.here hx rfl (hb hby d_method_3_code_3) rfl (l' := #[.val (.int p0), .val (.int (p0 &&& (3 : Int32)))]) rfl) ?_
  show Go p e below P (s₁.setTop (mkF m 4 #[.val (.int p0), .val (.int (p0 &&& (3 : Int32)))] []))
  refine Go.by (fun _ => XS.iloadN X0.here hx rfl (hb hby d_method_3_code_4) rfl) ?_
  show Go p e below P (s₁.setTop (mkF m 5 #[.val (.int p0), .val (.int (p0 &&& (3 : Int32)))] [(.int (p0 &&& (3 : Int32)))]))
  by_cases hc5_1 : (p0 &&& (3 : Int32)) = (0 : Int32)
  · refine Go.by (fun _ => XS.ifNo X0.here hx rfl (hb hby d_method_3_code_5) rfl (XT.i0_ne_f hc5_1)) ?_
    show Go p e below P (s₁.setTop (mkF m 8 #[.val (.int p0), .val (.int (p0 &&& (3 : Int32)))] []))
    refine Go.by (fun _ => XS.bipush X0.here hx rfl (hb hby d_method_3_code_8)) ?_
    show Go p e below P (s₁.setTop (mkF m 10 #[.val (.int p0), .val (.int (p0 &&& (3 : Int32)))] [(.int (84 : Int32))]))
    refine fin X0 (v := some (.int (84 : Int32))) (fun h => by rw [Bd.returns] at h; cases h) (by decide) (by decide) ?_ (fun fs hr => retOut X0 hx Bd.returns rfl (Or.inl ⟨rfl, Or.inr (Or.inr (Or.inl rfl)), _, rfl⟩) (hb hby d_method_3_code_10) hr)
    show Q_code Z p0 h0 n0 _ s₁.heap _
    rw [e0]
    exact ⟨by unfold own_code; rw [if_pos hc5_1], N0, rfl⟩
  · refine Go.by (fun _ => XS.ifYes X0.here hx rfl (pc0 := 5) (pc' := 11) rfl (hb hby d_method_3_code_5) rfl (XT.i0_ne_t hc5_1) (by decide) (by decide)) ?_
    show Go p e below P (s₁.setTop (mkF m 11 #[.val (.int p0), .val (.int (p0 &&& (3 : Int32)))] []))
    refine Go.by (fun _ => XS.iloadN X0.here hx rfl (hb hby d_method_3_code_11) rfl) ?_
    show Go p e below P (s₁.setTop (mkF m 12 #[.val (.int p0), .val (.int (p0 &&& (3 : Int32)))] [(.int (p0 &&& (3 : Int32)))]))
    refine Go.by (fun _ => XS.iconst X0.here hx rfl (hb hby d_method_3_code_12)) ?_
    show Go p e below P (s₁.setTop (mkF m 13 #[.val (.int p0), .val (.int (p0 &&& (3 : Int32)))] [(.int (1 : Int32)), (.int (p0 &&& (3 : Int32)))]))
    by_cases hc13_2 : (p0 &&& (3 : Int32)) = (1 : Int32)
    · refine Go.by (fun _ => XS.icmpNo X0.here hx rfl (hb hby d_method_3_code_13) rfl (XT.ii_ne_f hc13_2)) ?_
      show Go p e below P (s₁.setTop (mkF m 16 #[.val (.int p0), .val (.int (p0 &&& (3 : Int32)))] []))
      refine Go.by (fun _ => XS.bipush X0.here hx rfl (hb hby d_method_3_code_16)) ?_
      show Go p e below P (s₁.setTop (mkF m 18 #[.val (.int p0), .val (.int (p0 &&& (3 : Int32)))] [(.int (67 : Int32))]))
      refine fin X0 (v := some (.int (67 : Int32))) (fun h => by rw [Bd.returns] at h; cases h) (by decide) (by decide) ?_ (fun fs hr => retOut X0 hx Bd.returns rfl (Or.inl ⟨rfl, Or.inr (Or.inr (Or.inl rfl)), _, rfl⟩) (hb hby d_method_3_code_18) hr)
      show Q_code Z p0 h0 n0 _ s₁.heap _
      rw [e0]
      exact ⟨by unfold own_code; rw [if_neg hc5_1, if_pos hc13_2], N0, rfl⟩
    · refine Go.by (fun _ => XS.icmpYes X0.here hx rfl (pc0 := 13) (pc' := 19) rfl (hb hby d_method_3_code_13) rfl (XT.ii_ne_t hc13_2) (by decide) (by decide)) ?_
      show Go p e below P (s₁.setTop (mkF m 19 #[.val (.int p0), .val (.int (p0 &&& (3 : Int32)))] []))
      refine Go.by (fun _ => XS.iloadN X0.here hx rfl (hb hby d_method_3_code_19) rfl) ?_
      show Go p e below P (s₁.setTop (mkF m 20 #[.val (.int p0), .val (.int (p0 &&& (3 : Int32)))] [(.int (p0 &&& (3 : Int32)))]))
      refine Go.by (fun _ => XS.iconst X0.here hx rfl (hb hby d_method_3_code_20)) ?_
      show Go p e below P (s₁.setTop (mkF m 21 #[.val (.int p0), .val (.int (p0 &&& (3 : Int32)))] [(.int (2 : Int32)), (.int (p0 &&& (3 : Int32)))]))
      by_cases hc21_3 : (p0 &&& (3 : Int32)) = (2 : Int32)
      · refine Go.by (fun _ => XS.icmpNo X0.here hx rfl (hb hby d_method_3_code_21) rfl (XT.ii_ne_f hc21_3)) ?_
        show Go p e below P (s₁.setTop (mkF m 24 #[.val (.int p0), .val (.int (p0 &&& (3 : Int32)))] []))
        refine Go.by (fun _ => XS.bipush X0.here hx rfl (hb hby d_method_3_code_24)) ?_
        show Go p e below P (s₁.setTop (mkF m 26 #[.val (.int p0), .val (.int (p0 &&& (3 : Int32)))] [(.int (65 : Int32))]))
        refine fin X0 (v := some (.int (65 : Int32))) (fun h => by rw [Bd.returns] at h; cases h) (by decide) (by decide) ?_ (fun fs hr => retOut X0 hx Bd.returns rfl (Or.inl ⟨rfl, Or.inr (Or.inr (Or.inl rfl)), _, rfl⟩) (hb hby d_method_3_code_26) hr)
        show Q_code Z p0 h0 n0 _ s₁.heap _
        rw [e0]
        exact ⟨by unfold own_code; rw [if_neg hc5_1, if_neg hc13_2, if_pos hc21_3], N0, rfl⟩
      · refine Go.by (fun _ => XS.icmpYes X0.here hx rfl (pc0 := 21) (pc' := 27) rfl (hb hby d_method_3_code_21) rfl (XT.ii_ne_t hc21_3) (by decide) (by decide)) ?_
        show Go p e below P (s₁.setTop (mkF m 27 #[.val (.int p0), .val (.int (p0 &&& (3 : Int32)))] []))
        refine Go.by (fun _ => XS.bipush X0.here hx rfl (hb hby d_method_3_code_27)) ?_
        show Go p e below P (s₁.setTop (mkF m 29 #[.val (.int p0), .val (.int (p0 &&& (3 : Int32)))] [(.int (66 : Int32))]))
        refine fin X0 (v := some (.int (66 : Int32))) (fun h => by rw [Bd.returns] at h; cases h) (by decide) (by decide) ?_ (fun fs hr => retOut X0 hx Bd.returns rfl (Or.inl ⟨rfl, Or.inr (Or.inr (Or.inl rfl)), _, rfl⟩) (hb hby d_method_3_code_29) hr)
        show Q_code Z p0 h0 n0 _ s₁.heap _
        rw [e0]
        exact ⟨by unfold own_code; rw [if_neg hc5_1, if_neg hc13_2, if_neg hc21_3], N0, rfl⟩
def Q_min (Z : State) (p0 : Int32) (p1 : Int32) (r : Int32) (h0 : Heap) (n0 : Nat) (v : Option Value) (h : Heap) (L : List Loc) : Prop := v = some (.int r) ∧ Fr n0 L ∧ h = h0
theorem ef_min (m : MethodId) (p0 : Int32) (p1 : Int32) (r : Int32) : entryFrame m #[(.int p0), (.int p1)] 2 = mkF m 0 #[.val (.int p0), .val (.int p1)] [] := by first | (simp [entryFrame, mkF, argsToLocals, Value.category]; done) | rfl
set_option maxRecDepth 65536 in
set_option maxHeartbeats 40000000 in
theorem rm_min (l : Launch) (Z : State) (a0 : Array Value) (hw : ∀ d ∈ tables_1, d.before a0 Z = true) (ws : List Jvm.Cond) (p0 : Int32) (p1 : Int32) (r : Int32) (h0 : Heap) (n0 : Nat) (Z0 : n0 ≤ h0.size) (hr0 : r = if p1 < p0 then p1 else p0) :
    MetFree l (⟨"java/lang/Math", "min", "(II)I"⟩ : MethodName) (head1 (Jvm.Cond.code (⟨"java/lang/Math", "min", "(II)I"⟩ : MethodName) jdk_29_method_69_code 2 (some .int) :: ws) ({ frames := 0, cells := 0, slots := 0, locals := 0 } : Room)) (fun a U => a = #[(.int p0), (.int p1)] ∧ Z.Warmed39 U.vm ∧ U.heap = h0) (fun _ _ _ _ _ => True) (fun _ U o U' => ∃ v L, o = .returned v ∧ Q_min Z p0 p1 r h0 n0 v U'.heap L ∧ FrameEnd U o U' L ({ frames := 0, cells := 0, slots := 0, locals := 0 } : Room).cells ({ frames := 0, cells := 0, slots := 0, locals := 0 } : Room).slots) := by
  refine MetFree.of_bodySF (Jvm.Free.JP.mathPlain rfl (by decide +kernel)) hisR ?_
  intro p e s m args below meth c s₁ Bd hml0 hP hK
  obtain ⟨rfl, hZ, hh⟩ := hP
  have hx := Bd.exec
  have hby := Bd.bytes
  have hml : c.maxLocals = 2 := hml0
  have hown : s.vm.findClass "java/lang/Math" = some m.cls := findClass_of_methodNamed Bd.named
  have hnm := (name_of_methodNamed Bd.named Bd.method).1
  have X0 : Stand p l e ({ frames := 0, cells := 0, slots := 0, locals := 0 } : Room) s m #[(.int p0), (.int p1)] below meth c s₁ [] 0 0 := Stand.of_body Bd
  have e0 : s₁.heap = h0 := by rw [← hh, Bd.state]; rfl
  have N0 := Fr.nil n0
  have hlk : meth.locks = false := Bd.notSynchronized
  obtain ⟨P, hP⟩ : ∃ P : Outcome → State → Prop, P = PQ s (Q_min Z p0 p1 r h0 n0) ({ frames := 0, cells := 0, slots := 0, locals := 0 } : Room).cells ({ frames := 0, cells := 0, slots := 0, locals := 0 } : Room).slots := ⟨_, rfl⟩
  have fin : ∀ {T : State} {locs : List Loc} {k n : Nat} {v : Option Value} {S0 : State}, Stand p l e ({ frames := 0, cells := 0, slots := 0, locals := 0 } : Room) s m #[(.int p0), (.int p1)] below meth c T locs k n → (meth.sig.returnType = none → v = none) → k ≤ ({ frames := 0, cells := 0, slots := 0, locals := 0 } : Room).cells → n ≤ ({ frames := 0, cells := 0, slots := 0, locals := 0 } : Room).slots → Q_min Z p0 p1 r h0 n0 v T.heap locs → (∀ fs, (∀ (f : JFrame) (acts : List Action), f.method = m → f.locked = none → f.entered = [] → (doReturn e (T.setTop f) acts v).1 = T.setFrames fs) → Steps p.tables e below S0 (T.setFrames fs)) → Go p e below P S0 := fun X hv hk hn hQ hst => hP ▸ Go.fin X hlk hv hk hn hQ hst
  suffices hgo : Go p e below P (s₁.setTop (mkF m 0 #[.val (.int p0), .val (.int p1)] [])) by
    rw [hP] at hgo
    exact Go.by (fun t k => castTop (ef_min m p0 p1 r) k) hgo
  show Go p e below P (s₁.setTop (mkF m 0 #[.val (.int p0), .val (.int p1)] []))
  refine Go.by (fun _ => XS.iloadN X0.here hx rfl (hb hby d_jdk_29_method_69_code_0) rfl) ?_
  show Go p e below P (s₁.setTop (mkF m 1 #[.val (.int p0), .val (.int p1)] [(.int p0)]))
  refine Go.by (fun _ => XS.iloadN X0.here hx rfl (hb hby d_jdk_29_method_69_code_1) rfl) ?_
  show Go p e below P (s₁.setTop (mkF m 2 #[.val (.int p0), .val (.int p1)] [(.int p1), (.int p0)]))
  by_cases hc2_1 : p1 < p0
  · refine Go.by (fun _ => XS.icmpYes X0.here hx rfl (pc0 := 2) (pc' := 9) rfl (hb hby d_jdk_29_method_69_code_2) rfl (XT.ii_gt_t hc2_1) (by decide) (by decide)) ?_
    show Go p e below P (s₁.setTop (mkF m 9 #[.val (.int p0), .val (.int p1)] []))
    refine Go.by (fun _ => XS.iloadN X0.here hx rfl (hb hby d_jdk_29_method_69_code_9) rfl) ?_
    show Go p e below P (s₁.setTop (mkF m 10 #[.val (.int p0), .val (.int p1)] [(.int p1)]))
    refine fin X0 (v := some (.int p1)) (fun h => by rw [Bd.returns] at h; cases h) (by decide) (by decide) ?_ (fun fs hr => retOut X0 hx Bd.returns rfl (Or.inl ⟨rfl, Or.inl rfl, _, rfl⟩) (hb hby d_jdk_29_method_69_code_10) hr)
    show Q_min Z p0 p1 r h0 n0 _ s₁.heap _
    rw [e0]
    exact ⟨by rw [hr0, if_pos hc2_1], N0, rfl⟩
  · refine Go.by (fun _ => XS.icmpNo X0.here hx rfl (hb hby d_jdk_29_method_69_code_2) rfl (XT.ii_gt_f hc2_1)) ?_
    show Go p e below P (s₁.setTop (mkF m 5 #[.val (.int p0), .val (.int p1)] []))
    refine Go.by (fun _ => XS.iloadN X0.here hx rfl (hb hby d_jdk_29_method_69_code_5) rfl) ?_
    show Go p e below P (s₁.setTop (mkF m 6 #[.val (.int p0), .val (.int p1)] [(.int p0)]))
    refine Go.by (fun _ => XS.goto X0.here hx rfl (pc0 := 6) (pc' := 10) rfl (hb hby d_jdk_29_method_69_code_6) (by decide) (by decide)) ?_
    show Go p e below P (s₁.setTop (mkF m 10 #[.val (.int p0), .val (.int p1)] [(.int p0)]))
    refine fin X0 (v := some (.int p0)) (fun h => by rw [Bd.returns] at h; cases h) (by decide) (by decide) ?_ (fun fs hr => retOut X0 hx Bd.returns rfl (Or.inl ⟨rfl, Or.inl rfl, _, rfl⟩) (hb hby d_jdk_29_method_69_code_10) hr)
    show Q_min Z p0 p1 r h0 n0 _ s₁.heap _
    rw [e0]
    exact ⟨by rw [hr0, if_neg hc2_1], N0, rfl⟩
def Q_copyOf (Z : State) (a0_ : Addr) (k0_ : ClassId) (h0 : Heap) (n0 : Nat) (v : Option Value) (h : Heap) (L : List Loc) : Prop := ∃ b k, v = some (.ref b) ∧ Fr n0 L ∧ Keep h0 h [] ∧ h0.size ≤ b ∧ Arv Z h b k .byte (6 : Int32) [(.int (84 : Int32)), (.int (83 : Int32)), (.int (84 : Int32)), (.int (82 : Int32)), (.int (0 : Int32)), (.int (0 : Int32))] (.int (0 : Int32))
theorem ef_copyOf (m : MethodId) (a0_ : Addr) (k0_ : ClassId) : entryFrame m #[(.ref a0_), (.int (6 : Int32))] 3 = mkF m 0 #[.val (.ref a0_), .val (.int (6 : Int32)), .unset] [] := by first | (simp [entryFrame, mkF, argsToLocals, Value.category]; done) | rfl
set_option maxRecDepth 65536 in
set_option maxHeartbeats 40000000 in
theorem rm_copyOf (l : Launch) (Z : State) (a0 : Array Value) (hw : ∀ d ∈ tables_1, d.before a0 Z = true) (ws : List Jvm.Cond) (a0_ : Addr) (k0_ : ClassId) (h0 : Heap) (n0 : Nat) (Z0 : n0 ≤ h0.size) (V0 : Arv Z h0 a0_ k0_ .byte (4 : Int32) [(.int (84 : Int32)), (.int (83 : Int32)), (.int (84 : Int32)), (.int (82 : Int32))] (.int (0 : Int32))) :
    MetFree l (⟨"java/util/Arrays", "copyOf", "([BI)[B"⟩ : MethodName) (head1 (Jvm.Cond.code (⟨"java/util/Arrays", "copyOf", "([BI)[B"⟩ : MethodName) jdk_65_method_121_code 3 (some (.array .byte)) :: ws) ({ frames := 1, cells := 1, slots := 6, locals := 40 } : Room)) (fun a U => a = #[(.ref a0_), (.int (6 : Int32))] ∧ Z.Warmed39 U.vm ∧ U.heap = h0) (fun _ _ _ _ _ => True) (fun _ U o U' => ∃ v L, o = .returned v ∧ Q_copyOf Z a0_ k0_ h0 n0 v U'.heap L ∧ FrameEnd U o U' L ({ frames := 1, cells := 1, slots := 6, locals := 40 } : Room).cells ({ frames := 1, cells := 1, slots := 6, locals := 40 } : Room).slots) := by
  refine MetFree.of_bodySF (plainFor_of_name pn_java_util_Arrays) hisR ?_
  intro p e s m args below meth c s₁ Bd hml0 hP hK
  obtain ⟨rfl, hZ, hh⟩ := hP
  have hx := Bd.exec
  have hby := Bd.bytes
  have hml : c.maxLocals = 3 := hml0
  have hown : s.vm.findClass "java/util/Arrays" = some m.cls := findClass_of_methodNamed Bd.named
  have hnm := (name_of_methodNamed Bd.named Bd.method).1
  have X0 : Stand p l e ({ frames := 1, cells := 1, slots := 6, locals := 40 } : Room) s m #[(.ref a0_), (.int (6 : Int32))] below meth c s₁ [] 0 0 := Stand.of_body Bd
  have e0 : s₁.heap = h0 := by rw [← hh, Bd.state]; rfl
  have N0 := Fr.nil n0
  have hlk : meth.locks = false := Bd.notSynchronized
  obtain ⟨P, hP⟩ : ∃ P : Outcome → State → Prop, P = PQ s (Q_copyOf Z a0_ k0_ h0 n0) ({ frames := 1, cells := 1, slots := 6, locals := 40 } : Room).cells ({ frames := 1, cells := 1, slots := 6, locals := 40 } : Room).slots := ⟨_, rfl⟩
  have fin : ∀ {T : State} {locs : List Loc} {k n : Nat} {v : Option Value} {S0 : State}, Stand p l e ({ frames := 1, cells := 1, slots := 6, locals := 40 } : Room) s m #[(.ref a0_), (.int (6 : Int32))] below meth c T locs k n → (meth.sig.returnType = none → v = none) → k ≤ ({ frames := 1, cells := 1, slots := 6, locals := 40 } : Room).cells → n ≤ ({ frames := 1, cells := 1, slots := 6, locals := 40 } : Room).slots → Q_copyOf Z a0_ k0_ h0 n0 v T.heap locs → (∀ fs, (∀ (f : JFrame) (acts : List Action), f.method = m → f.locked = none → f.entered = [] → (doReturn e (T.setTop f) acts v).1 = T.setFrames fs) → Steps p.tables e below S0 (T.setFrames fs)) → Go p e below P S0 := fun X hv hk hn hQ hst => hP ▸ Go.fin X hlk hv hk hn hQ hst
  suffices hgo : Go p e below P (s₁.setTop (mkF m 0 #[.val (.ref a0_), .val (.int (6 : Int32)), .unset] [])) by
    rw [hP] at hgo
    exact Go.by (fun t k => castTop (ef_copyOf m a0_ k0_) k) hgo
  show Go p e below P (s₁.setTop (mkF m 0 #[.val (.ref a0_), .val (.int (6 : Int32)), .unset] []))
  refine Go.by (fun _ => XS.iloadN X0.here hx rfl (hb hby d_jdk_65_method_121_code_0) rfl) ?_
  show Go p e below P (s₁.setTop (mkF m 1 #[.val (.ref a0_), .val (.int (6 : Int32)), .unset] [(.int (6 : Int32))]))
  refine Go.by (fun _ => XS.aloadN X0.here hx rfl (hb hby d_jdk_65_method_121_code_1) rfl rfl) ?_
  show Go p e below P (s₁.setTop (mkF m 2 #[.val (.ref a0_), .val (.int (6 : Int32)), .unset] [(.ref a0_), (.int (6 : Int32))]))
  have av1 := V0
  obtain ⟨cl1, Ar1, -, Sz1, Nn1, -, -⟩ := av1
  refine Go.by (X0.arraylength hx (by rw [e0]; exact Ar1.1) (State.isArrayOf_alike hZ.alike Ar1.2.1) (g := (mkF m 2 #[.val (.ref a0_), .val (.int (6 : Int32)), .unset] [(.ref a0_), (.int (6 : Int32))])) rfl rfl (hb hby d_jdk_65_method_121_code_2)) ?_
  rw [len_of Sz1 Nn1]
  show Go p e below P (s₁.setTop (mkF m 3 #[.val (.ref a0_), .val (.int (6 : Int32)), .unset] [(.int (4 : Int32)), (.int (6 : Int32))]))
  refine Go.by (fun _ => XS.icmpYes X0.here hx rfl (pc0 := 3) (pc' := 14) rfl (hb hby d_jdk_65_method_121_code_3) rfl (XT.ii_ne_t (by decide : ¬ (6 : Int32) = (4 : Int32))) (by decide) (by decide)) ?_
  show Go p e below P (s₁.setTop (mkF m 14 #[.val (.ref a0_), .val (.int (6 : Int32)), .unset] []))
  refine Go.by (fun _ => XS.iloadN X0.here hx rfl (hb hby d_jdk_65_method_121_code_14) rfl) ?_
  show Go p e below P (s₁.setTop (mkF m 15 #[.val (.ref a0_), .val (.int (6 : Int32)), .unset] [(.int (6 : Int32))]))
  obtain ⟨T2, h2, k2, X2, e2, E2, A2, st2⟩ := newP X0 hx hZ (aty := .byte) (tw_17 hw) e0 (g := (mkF m 15 #[.val (.ref a0_), .val (.int (6 : Int32)), .unset] [(.int (6 : Int32))])) rfl (hb hby d_jdk_65_method_121_code_15) rfl (by decide) (cap := 6) (by decide) (by decide) (by decide) (by decide)
  obtain ⟨b2, g2⟩ : ∃ z, z = h0.size := ⟨_, rfl⟩
  rw [← g2] at A2 st2
  have g_b2 : n0 ≤ b2 := Nat.le_trans Z0 (Nat.le_of_eq g2.symm)
  have sz_b2 : h0.size ≤ b2 := Nat.le_trans (Keep.refl h0 []).1 (Nat.le_of_eq g2.symm)
  have ne_a0__b2 : a0_ ≠ b2 := Nat.ne_of_lt (Nat.lt_of_lt_of_le (V0.lt) (Nat.le_of_eq g2.symm))
  have f2_0 : n0 ≤ h2.size := (Nat.le_trans Z0 E2.1)
  have f2_1 : Keep h0 h2 [] := (Keep.ext (Keep.refl h0 []) E2)
  have f2_2 : Arv Z h2 a0_ k0_ .byte (4 : Int32) [(.int (84 : Int32)), (.int (83 : Int32)), (.int (84 : Int32)), (.int (82 : Int32))] (.int (0 : Int32)) := (Arv.ext V0 E2)
  refine Go.by st2 ?_
  have V2 : Arv Z h2 b2 k2 .byte (6 : Int32) [(.int (0 : Int32)), (.int (0 : Int32)), (.int (0 : Int32)), (.int (0 : Int32)), (.int (0 : Int32)), (.int (0 : Int32))] (.int (0 : Int32)) := (Arv.new A2 (by decide)).pad (pad_rep [] (.int (0 : Int32)) 6)
  show Go p e below P (T2.setTop (mkF m 17 #[.val (.ref a0_), .val (.int (6 : Int32)), .unset] [(.ref b2)]))
  refine Go.by (fun _ => XS.astoreN X2.here hx rfl (hb hby d_jdk_65_method_121_code_17) rfl rfl (l' := #[.val (.ref a0_), .val (.int (6 : Int32)), .val (.ref b2)]) rfl) ?_
  show Go p e below P (T2.setTop (mkF m 18 #[.val (.ref a0_), .val (.int (6 : Int32)), .val (.ref b2)] []))
  refine Go.by (fun _ => XS.aloadN X2.here hx rfl (hb hby d_jdk_65_method_121_code_18) rfl rfl) ?_
  show Go p e below P (T2.setTop (mkF m 19 #[.val (.ref a0_), .val (.int (6 : Int32)), .val (.ref b2)] [(.ref a0_)]))
  refine Go.by (fun _ => XS.iconst X2.here hx rfl (hb hby d_jdk_65_method_121_code_19)) ?_
  show Go p e below P (T2.setTop (mkF m 20 #[.val (.ref a0_), .val (.int (6 : Int32)), .val (.ref b2)] [(.int (0 : Int32)), (.ref a0_)]))
  refine Go.by (fun _ => XS.aloadN X2.here hx rfl (hb hby d_jdk_65_method_121_code_20) rfl rfl) ?_
  show Go p e below P (T2.setTop (mkF m 21 #[.val (.ref a0_), .val (.int (6 : Int32)), .val (.ref b2)] [(.ref b2), (.int (0 : Int32)), (.ref a0_)]))
  refine Go.by (fun _ => XS.iconst X2.here hx rfl (hb hby d_jdk_65_method_121_code_21)) ?_
  show Go p e below P (T2.setTop (mkF m 22 #[.val (.ref a0_), .val (.int (6 : Int32)), .val (.ref b2)] [(.int (0 : Int32)), (.ref b2), (.int (0 : Int32)), (.ref a0_)]))
  refine Go.by (fun _ => XS.aloadN X2.here hx rfl (hb hby d_jdk_65_method_121_code_22) rfl rfl) ?_
  show Go p e below P (T2.setTop (mkF m 23 #[.val (.ref a0_), .val (.int (6 : Int32)), .val (.ref b2)] [(.ref a0_), (.int (0 : Int32)), (.ref b2), (.int (0 : Int32)), (.ref a0_)]))
  have av3 := f2_2
  obtain ⟨cl3, Ar3, -, Sz3, Nn3, -, -⟩ := av3
  refine Go.by (X2.arraylength hx (by rw [e2]; exact Ar3.1) (State.isArrayOf_alike hZ.alike Ar3.2.1) (g := (mkF m 23 #[.val (.ref a0_), .val (.int (6 : Int32)), .val (.ref b2)] [(.ref a0_), (.int (0 : Int32)), (.ref b2), (.int (0 : Int32)), (.ref a0_)])) rfl rfl (hb hby d_jdk_65_method_121_code_23)) ?_
  rw [len_of Sz3 Nn3]
  show Go p e below P (T2.setTop (mkF m 24 #[.val (.ref a0_), .val (.int (6 : Int32)), .val (.ref b2)] [(.int (4 : Int32)), (.int (0 : Int32)), (.ref b2), (.int (0 : Int32)), (.ref a0_)]))
  refine Go.by (fun _ => XS.iloadN X2.here hx rfl (hb hby d_jdk_65_method_121_code_24) rfl) ?_
  show Go p e below P (T2.setTop (mkF m 25 #[.val (.ref a0_), .val (.int (6 : Int32)), .val (.ref b2)] [(.int (6 : Int32)), (.int (4 : Int32)), (.int (0 : Int32)), (.ref b2), (.int (0 : Int32)), (.ref a0_)]))
  obtain ⟨_, _, ⟨T4, L4, k4, n4⟩, -, X4, ⟨Lc4, hQ4, l4, y4, z4⟩, st4⟩ := Jvm.LawKit.callS X2 hx (y := (⟨"java/lang/Math", "min", "(II)I"⟩ : MethodName)) hown (mvT hZ (tw_18 hw)) (mvT hZ (tw_19 hw)) (mvT hZ (tw_20 hw)) (mvT hZ (tw_21 hw)) (by decide) (backOf (W := 4) (rm_min l Z a0 hw [] (4 : Int32) (6 : Int32) (4 : Int32) h2 n0 f2_0 (by decide)) hZ (tw_21 hw) (tw_20 hw) (by decide) (by decide)) (g := (mkF m 25 #[.val (.ref a0_), .val (.int (6 : Int32)), .val (.ref b2)] [(.int (6 : Int32)), (.int (4 : Int32)), (.int (0 : Int32)), (.ref b2), (.int (0 : Int32)), (.ref a0_)])) rfl (by rw [hml]; rfl) (argsL := [(.int (4 : Int32)), (.int (6 : Int32))]) (rest := [(.int (0 : Int32)), (.ref b2), (.int (0 : Int32)), (.ref a0_)]) (lenOf pd__II_I rfl) rfl (by show 2 * 0 + _ ≤ _; exact Nat.le_of_eq rfl) (hb hby d_jdk_65_method_121_code_25) (fun _ _ => ⟨rfl, e2, (by decide : 1 + 0 ≤ _), (by decide : 6 + 0 ≤ _)⟩)
  dsimp only [Pt.U, Pt.locs, Pt.cells, Pt.slots] at X4 l4 y4 z4 st4 hQ4
  subst l4 y4 z4
  obtain ⟨rfl, N4q, q4⟩ := hQ4
  have N4 := Fr.app N0 N4q
  refine Go.by (fun t k => st4 t k) ?_
  show Go p e below P (T4.setTop (mkF m 28 #[.val (.ref a0_), .val (.int (6 : Int32)), .val (.ref b2)] [(.int (4 : Int32)), (.int (0 : Int32)), (.ref b2), (.int (0 : Int32)), (.ref a0_)]))
  obtain ⟨T5, h5, Lc5, X5, e5, N5, K5, V5, st5⟩ := cpA X4 hx hZ hown (tw_22 hw) (tw_25 hw) (tw_23 hw) (tw_24 hw) (q4.trans rfl) f2_2 V2 (us := [(.int (84 : Int32)), (.int (83 : Int32)), (.int (84 : Int32)), (.int (82 : Int32))]) (Or.inl ⟨rfl, rfl⟩) (by decide) (by decide) (by decide) (by decide) (by decide) rfl (by decide) N4 g_b2 (g := (mkF m 28 #[.val (.ref a0_), .val (.int (6 : Int32)), .val (.ref b2)] [(.int (4 : Int32)), (.int (0 : Int32)), (.ref b2), (.int (0 : Int32)), (.ref a0_)])) rfl (by rw [hml]; rfl) rfl (hb hby d_jdk_65_method_121_code_28) (by decide) (W := 0) (by show 2 * 0 + _ ≤ _; exact Nat.le_of_eq rfl) (by decide)
  have V5' : Arv Z h5 b2 k2 .byte (6 : Int32) [(.int (84 : Int32)), (.int (83 : Int32)), (.int (84 : Int32)), (.int (82 : Int32)), (.int (0 : Int32)), (.int (0 : Int32))] (.int (0 : Int32)) := V5
  have f5_0 : n0 ≤ h5.size := (Nat.le_trans f2_0 K5.1)
  have f5_1 : Keep h0 h5 [] := (Keep.trans f2_1 K5 (allS (Or.inr sz_b2) all0))
  have f5_2 : Arv Z h5 a0_ k0_ .byte (4 : Int32) [(.int (84 : Int32)), (.int (83 : Int32)), (.int (84 : Int32)), (.int (82 : Int32))] (.int (0 : Int32)) := (Arv.keep f2_2 K5 (ninS ne_a0__b2 nin0))
  refine Go.by st5 ?_
  show Go p e below P (T5.setTop (mkF m 31 #[.val (.ref a0_), .val (.int (6 : Int32)), .val (.ref b2)] []))
  refine Go.by (fun _ => XS.aloadN X5.here hx rfl (hb hby d_jdk_65_method_121_code_31) rfl rfl) ?_
  show Go p e below P (T5.setTop (mkF m 32 #[.val (.ref a0_), .val (.int (6 : Int32)), .val (.ref b2)] [(.ref b2)]))
  refine fin X5 (v := some (.ref b2)) (fun h => by rw [Bd.returns] at h; cases h) (by decide) (by decide) ?_ (fun fs hr => retOut X5 hx Bd.returns rfl (Or.inr (Or.inr (Or.inr (Or.inr ⟨rfl, rfl, rfl⟩)))) (hb hby d_jdk_65_method_121_code_32) hr)
  show Q_copyOf Z a0_ k0_ h0 n0 _ T5.heap _
  rw [e5]
  exact ⟨b2, k2, rfl, N5, f5_1, sz_b2, V5'⟩
def Q_header (Z : State) (a1 : Addr) (cv : Int32) (aM : Addr) (kM : ClassId) (h0 : Heap) (n0 : Nat) (v : Option Value) (h : Heap) (L : List Loc) : Prop := ∃ b k, v = some (.ref b) ∧ Fr n0 L ∧ Keep h0 h [] ∧ h0.size ≤ b ∧ Arv Z h b k .byte (6 : Int32) [(.int (84 : Int32)), (.int (83 : Int32)), (.int (84 : Int32)), (.int (82 : Int32)), (.int (1 : Int32)), (.int cv)] (.int (0 : Int32))
theorem ef_header (m : MethodId) (a1 : Addr) (cv : Int32) (aM : Addr) (kM : ClassId) : entryFrame m #[(.ref a1)] 2 = mkF m 0 #[.val (.ref a1), .unset] [] := by first | (simp [entryFrame, mkF, argsToLocals, Value.category]; done) | rfl
set_option maxRecDepth 65536 in
set_option maxHeartbeats 40000000 in
theorem rm_header (l : Launch) (Z : State) (a0 : Array Value) (hw : ∀ d ∈ tables_1, d.before a0 Z = true) (ws : List Jvm.Cond) (a1 : Addr) (cv : Int32) (aM : Addr) (kM : ClassId) (h0 : Heap) (n0 : Nat) (Z0 : n0 ≤ h0.size) (O0 : Old Z n0 h0) (SM : Sta Z Z.heap "com/example/tierstone/tierstone/core/StreamFormat" "MAGIC" "[B" (.ref aM)) (VM : Arv Z Z.heap aM kM .byte (4 : Int32) [(.int (84 : Int32)), (.int (83 : Int32)), (.int (84 : Int32)), (.int (82 : Int32))] (.int (0 : Int32))) (F1 : Fld Z h0 a1 "com/example/tierstone/tierstone/core/StreamFormat$Kind" "code" "B" (.int cv)) (hcv : cv.toInt8.toInt32 = cv) (lt1 : a1 < n0) :
    MetFree l (⟨"com/example/tierstone/tierstone/core/StreamFormat", "header", "(Lcom/example/tierstone/tierstone/core/StreamFormat$Kind;)[B"⟩ : MethodName) (head1 (Jvm.Cond.code (⟨"com/example/tierstone/tierstone/core/StreamFormat", "header", "(Lcom/example/tierstone/tierstone/core/StreamFormat$Kind;)[B"⟩ : MethodName) prog_20_method_3_code 2 (some (.array .byte)) :: ws) ({ frames := 2, cells := 1, slots := 6, locals := 60 } : Room)) (fun a U => a = #[(.ref a1)] ∧ Z.Warmed39 U.vm ∧ U.heap = h0) (fun _ _ _ _ _ => True) (fun _ U o U' => ∃ v L, o = .returned v ∧ Q_header Z a1 cv aM kM h0 n0 v U'.heap L ∧ FrameEnd U o U' L ({ frames := 2, cells := 1, slots := 6, locals := 60 } : Room).cells ({ frames := 2, cells := 1, slots := 6, locals := 60 } : Room).slots) := by
  refine MetFree.of_bodySF (plainFor_of_name pn_com_example_tierstone_tierstone_core_StreamFormat) hisR ?_
  intro p e s m args below meth c s₁ Bd hml0 hP hK
  obtain ⟨rfl, hZ, hh⟩ := hP
  have hx := Bd.exec
  have hby := Bd.bytes
  have hml : c.maxLocals = 2 := hml0
  have hown : s.vm.findClass "com/example/tierstone/tierstone/core/StreamFormat" = some m.cls := findClass_of_methodNamed Bd.named
  have hnm := (name_of_methodNamed Bd.named Bd.method).1
  have X0 : Stand p l e ({ frames := 2, cells := 1, slots := 6, locals := 60 } : Room) s m #[(.ref a1)] below meth c s₁ [] 0 0 := Stand.of_body Bd
  have e0 : s₁.heap = h0 := by rw [← hh, Bd.state]; rfl
  have N0 := Fr.nil n0
  have hlk : meth.locks = false := Bd.notSynchronized
  obtain ⟨P, hP⟩ : ∃ P : Outcome → State → Prop, P = PQ s (Q_header Z a1 cv aM kM h0 n0) ({ frames := 2, cells := 1, slots := 6, locals := 60 } : Room).cells ({ frames := 2, cells := 1, slots := 6, locals := 60 } : Room).slots := ⟨_, rfl⟩
  have fin : ∀ {T : State} {locs : List Loc} {k n : Nat} {v : Option Value} {S0 : State}, Stand p l e ({ frames := 2, cells := 1, slots := 6, locals := 60 } : Room) s m #[(.ref a1)] below meth c T locs k n → (meth.sig.returnType = none → v = none) → k ≤ ({ frames := 2, cells := 1, slots := 6, locals := 60 } : Room).cells → n ≤ ({ frames := 2, cells := 1, slots := 6, locals := 60 } : Room).slots → Q_header Z a1 cv aM kM h0 n0 v T.heap locs → (∀ fs, (∀ (f : JFrame) (acts : List Action), f.method = m → f.locked = none → f.entered = [] → (doReturn e (T.setTop f) acts v).1 = T.setFrames fs) → Steps p.tables e below S0 (T.setFrames fs)) → Go p e below P S0 := fun X hv hk hn hQ hst => hP ▸ Go.fin X hlk hv hk hn hQ hst
  suffices hgo : Go p e below P (s₁.setTop (mkF m 0 #[.val (.ref a1), .unset] [])) by
    rw [hP] at hgo
    exact Go.by (fun t k => castTop (ef_header m a1 cv aM kM) k) hgo
  show Go p e below P (s₁.setTop (mkF m 0 #[.val (.ref a1), .unset] []))
  obtain ⟨T1, X1, e1, st1⟩ := getS2 X0 hx hZ hown (host := "") (Or.inl (tw_11 hw)) Via.refl e0 (SM.ext O0.2) (g := (mkF m 0 #[.val (.ref a1), .unset] [])) rfl (hb hby d_prog_20_method_3_code_0)
  refine Go.by st1 ?_
  show Go p e below P (T1.setTop (mkF m 3 #[.val (.ref a1), .unset] [(.ref aM)]))
  refine Go.by (fun _ => XS.bipush X1.here hx rfl (hb hby d_prog_20_method_3_code_3)) ?_
  show Go p e below P (T1.setTop (mkF m 5 #[.val (.ref a1), .unset] [(.int (6 : Int32)), (.ref aM)]))
  obtain ⟨_, _, ⟨T2, L2, k2, n2⟩, -, X2, ⟨Lc2, hQ2, l2, y2, z2⟩, st2⟩ := Jvm.LawKit.callS X1 hx (y := (⟨"java/util/Arrays", "copyOf", "([BI)[B"⟩ : MethodName)) hown (mvT hZ (tw_13 hw)) (mvT hZ (tw_14 hw)) (mvT hZ (tw_15 hw)) (mvT hZ (tw_16 hw)) (by decide) (backOf (W := 0) (rm_copyOf l Z a0 hw [] aM kM h0 n0 Z0 (Arv.ext VM O0.2)) hZ (tw_16 hw) (tw_15 hw) (by decide) (by decide)) (g := (mkF m 5 #[.val (.ref a1), .unset] [(.int (6 : Int32)), (.ref aM)])) rfl (by rw [hml]; rfl) (argsL := [(.ref aM), (.int (6 : Int32))]) (rest := []) (lenOf pd___BI__B rfl) rfl (by show 2 * 0 + _ ≤ _; exact Nat.le_of_eq rfl) (hb hby d_prog_20_method_3_code_5) (fun _ _ => ⟨rfl, e1, (by decide : 0 + 1 ≤ _), (by decide : 0 + 6 ≤ _)⟩)
  dsimp only [Pt.U, Pt.locs, Pt.cells, Pt.slots] at X2 l2 y2 z2 st2 hQ2
  subst l2 y2 z2
  obtain ⟨b2, k2', rfl, N2q, K2, z2, V2⟩ := hQ2
  have N2 := Fr.app N0 N2q
  refine Go.by (fun t k => st2 t k) ?_
  have f2_0 : n0 ≤ T2.heap.size := (Nat.le_trans Z0 K2.1)
  have f2_1 : Keep h0 T2.heap [] := (Keep.trans (Keep.refl h0 []) K2 all0)
  have f2_2 : Old Z n0 T2.heap := (Old.keep O0 K2 all0)
  have f2_3 : Fld Z T2.heap a1 "com/example/tierstone/tierstone/core/StreamFormat$Kind" "code" "B" (.int cv) := (Fld.keep F1 K2 nin0)
  have f2_4 : Arv Z T2.heap aM kM .byte (4 : Int32) [(.int (84 : Int32)), (.int (83 : Int32)), (.int (84 : Int32)), (.int (82 : Int32))] (.int (0 : Int32)) := (Arv.keep (Arv.ext VM O0.2) K2 nin0)
  have g_b2 : n0 ≤ b2 := Nat.le_trans Z0 z2
  have sz_b2 : h0.size ≤ b2 := z2
  have ne_aM_b2 : aM ≠ b2 := Nat.ne_of_lt (Nat.lt_of_lt_of_le (Arv.ext VM O0.2).lt z2)
  have ne_a1_b2 : a1 ≠ b2 := Nat.ne_of_lt (Nat.lt_of_lt_of_le F1.lt z2)
  show Go p e below P (T2.setTop (mkF m 8 #[.val (.ref a1), .unset] [(.ref b2)]))
  refine Go.by (fun _ => XS.astoreN X2.here hx rfl (hb hby d_prog_20_method_3_code_8) rfl rfl (l' := #[.val (.ref a1), .val (.ref b2)]) rfl) ?_
  show Go p e below P (T2.setTop (mkF m 9 #[.val (.ref a1), .val (.ref b2)] []))
  refine Go.by (fun _ => XS.aloadN X2.here hx rfl (hb hby d_prog_20_method_3_code_9) rfl rfl) ?_
  show Go p e below P (T2.setTop (mkF m 10 #[.val (.ref a1), .val (.ref b2)] [(.ref b2)]))
  obtain ⟨T3, X3, e3, st3⟩ := getS2 X2 hx hZ hown (host := "") (Or.inl (tw_11 hw)) Via.refl rfl (SM.ext f2_2.2) (g := (mkF m 10 #[.val (.ref a1), .val (.ref b2)] [(.ref b2)])) rfl (hb hby d_prog_20_method_3_code_10)
  refine Go.by st3 ?_
  show Go p e below P (T3.setTop (mkF m 13 #[.val (.ref a1), .val (.ref b2)] [(.ref aM), (.ref b2)]))
  have av4 := f2_4
  obtain ⟨cl4, Ar4, -, Sz4, Nn4, -, -⟩ := av4
  refine Go.by (X3.arraylength hx (by rw [e3]; exact Ar4.1) (State.isArrayOf_alike hZ.alike Ar4.2.1) (g := (mkF m 13 #[.val (.ref a1), .val (.ref b2)] [(.ref aM), (.ref b2)])) rfl rfl (hb hby d_prog_20_method_3_code_13)) ?_
  rw [len_of Sz4 Nn4]
  show Go p e below P (T3.setTop (mkF m 14 #[.val (.ref a1), .val (.ref b2)] [(.int (4 : Int32)), (.ref b2)]))
  refine Go.by (fun _ => XS.iconst X3.here hx rfl (hb hby d_prog_20_method_3_code_14)) ?_
  show Go p e below P (T3.setTop (mkF m 15 #[.val (.ref a1), .val (.ref b2)] [(.int (1 : Int32)), (.int (4 : Int32)), (.ref b2)]))
  have av5 := V2
  obtain ⟨cl5, Ar5, q5, Sz5, Nn5, Ha5, Gf5⟩ := av5
  have hin5 : ¬ ((4 : Int32) < 0 ∨ cl5.slots.size ≤ ((4 : Int32)).toNatClampNeg) := inb_of Sz5 ⟨by decide, by decide⟩
  obtain ⟨T6, h6, X6, e6, W6, st6⟩ := stB X3 hx hZ e3 Ar5 (j := (4 : Int32)) hin5 (g := (mkF m 15 #[.val (.ref a1), .val (.ref b2)] [(.int (1 : Int32)), (.int (4 : Int32)), (.ref b2)])) rfl rfl (hb hby d_prog_20_method_3_code_15)
  have W6' : Wr T2.heap h6 b2 ((4 : Int32)).toNatClampNeg (.int (1 : Int32)) := W6
  have V6 : Arv Z h6 b2 k2' .byte (6 : Int32) [(.int (84 : Int32)), (.int (83 : Int32)), (.int (84 : Int32)), (.int (82 : Int32)), (.int (1 : Int32)), (.int (0 : Int32))] (.int (0 : Int32)) := Arv.set Ar5 q5 Sz5 Nn5 Ha5 Gf5 rfl W6' 4 rfl (Nat.le_of_ble_eq_true rfl)
  have N6 := Fr.snoc X6 N2 g_b2
  have f6_0 : n0 ≤ h6.size := (Nat.le_trans f2_0 (Keep.of_wr W6).1)
  have f6_1 : Keep h0 h6 [] := (Keep.wr f2_1 W6 (Or.inr sz_b2))
  have f6_2 : Old Z n0 h6 := (Old.wr f2_2 W6 g_b2)
  have f6_3 : Fld Z h6 a1 "com/example/tierstone/tierstone/core/StreamFormat$Kind" "code" "B" (.int cv) := (Fld.other W6 f2_3 (Or.inl ne_a1_b2))
  have f6_4 : Arv Z h6 aM kM .byte (4 : Int32) [(.int (84 : Int32)), (.int (83 : Int32)), (.int (84 : Int32)), (.int (82 : Int32))] (.int (0 : Int32)) := (Arv.other f2_4 W6 ne_aM_b2)
  refine Go.by st6 ?_
  show Go p e below P (T6.setTop (mkF m 16 #[.val (.ref a1), .val (.ref b2)] []))
  refine Go.by (fun _ => XS.aloadN X6.here hx rfl (hb hby d_prog_20_method_3_code_16) rfl rfl) ?_
  show Go p e below P (T6.setTop (mkF m 17 #[.val (.ref a1), .val (.ref b2)] [(.ref b2)]))
  obtain ⟨T7, X7, e7, st7⟩ := getS2 X6 hx hZ hown (host := "") (Or.inl (tw_11 hw)) Via.refl e6 (SM.ext f6_2.2) (g := (mkF m 17 #[.val (.ref a1), .val (.ref b2)] [(.ref b2)])) rfl (hb hby d_prog_20_method_3_code_17)
  refine Go.by st7 ?_
  show Go p e below P (T7.setTop (mkF m 20 #[.val (.ref a1), .val (.ref b2)] [(.ref aM), (.ref b2)]))
  have av8 := f6_4
  obtain ⟨cl8, Ar8, -, Sz8, Nn8, -, -⟩ := av8
  refine Go.by (X7.arraylength hx (by rw [e7]; exact Ar8.1) (State.isArrayOf_alike hZ.alike Ar8.2.1) (g := (mkF m 20 #[.val (.ref a1), .val (.ref b2)] [(.ref aM), (.ref b2)])) rfl rfl (hb hby d_prog_20_method_3_code_20)) ?_
  rw [len_of Sz8 Nn8]
  show Go p e below P (T7.setTop (mkF m 21 #[.val (.ref a1), .val (.ref b2)] [(.int (4 : Int32)), (.ref b2)]))
  refine Go.by (fun _ => XS.iconst X7.here hx rfl (hb hby d_prog_20_method_3_code_21)) ?_
  show Go p e below P (T7.setTop (mkF m 22 #[.val (.ref a1), .val (.ref b2)] [(.int (1 : Int32)), (.int (4 : Int32)), (.ref b2)]))
  refine Go.by (fun _ => XS.iadd X7.here hx rfl (hb hby d_prog_20_method_3_code_22) rfl) ?_
  show Go p e below P (T7.setTop (mkF m 23 #[.val (.ref a1), .val (.ref b2)] [(.int (5 : Int32)), (.ref b2)]))
  refine Go.by (fun _ => XS.aloadN X7.here hx rfl (hb hby d_prog_20_method_3_code_23) rfl rfl) ?_
  show Go p e below P (T7.setTop (mkF m 24 #[.val (.ref a1), .val (.ref b2)] [(.ref a1), (.int (5 : Int32)), (.ref b2)]))
  obtain ⟨T9, X9, e9, st9⟩ := own_getR X7 hx hZ hown (tw_26 hw) Via.refl e7 f6_3 (g := (mkF m 24 #[.val (.ref a1), .val (.ref b2)] [(.ref a1), (.int (5 : Int32)), (.ref b2)])) rfl rfl (hb hby d_prog_20_method_3_code_24)
  refine Go.by st9 ?_
  show Go p e below P (T9.setTop (mkF m 27 #[.val (.ref a1), .val (.ref b2)] [(.int cv), (.int (5 : Int32)), (.ref b2)]))
  have av10 := V6
  obtain ⟨cl10, Ar10, q10, Sz10, Nn10, Ha10, Gf10⟩ := av10
  have hin10 : ¬ ((5 : Int32) < 0 ∨ cl10.slots.size ≤ ((5 : Int32)).toNatClampNeg) := inb_of Sz10 ⟨by decide, by decide⟩
  obtain ⟨T11, h11, X11, e11, W11, st11⟩ := stB X9 hx hZ e9 Ar10 (j := (5 : Int32)) hin10 (g := (mkF m 27 #[.val (.ref a1), .val (.ref b2)] [(.int cv), (.int (5 : Int32)), (.ref b2)])) rfl rfl (hb hby d_prog_20_method_3_code_27)
  have W11' : Wr h6 h11 b2 ((5 : Int32)).toNatClampNeg (.int cv) := (by have q : Wr h6 h11 b2 ((5 : Int32)).toNatClampNeg (.int (cv).toInt8.toInt32) := W11; rw [hcv] at q; exact q)
  have V11 : Arv Z h11 b2 k2' .byte (6 : Int32) [(.int (84 : Int32)), (.int (83 : Int32)), (.int (84 : Int32)), (.int (82 : Int32)), (.int (1 : Int32)), (.int cv)] (.int (0 : Int32)) := Arv.set Ar10 q10 Sz10 Nn10 Ha10 Gf10 (own_fb hcv) W11' 5 rfl (Nat.le_of_ble_eq_true rfl)
  have N11 := Fr.snoc X11 N6 g_b2
  have f11_0 : n0 ≤ h11.size := (Nat.le_trans f6_0 (Keep.of_wr W11).1)
  have f11_1 : Keep h0 h11 [] := (Keep.wr f6_1 W11 (Or.inr sz_b2))
  have f11_2 : Old Z n0 h11 := (Old.wr f6_2 W11 g_b2)
  have f11_3 : Fld Z h11 a1 "com/example/tierstone/tierstone/core/StreamFormat$Kind" "code" "B" (.int cv) := (Fld.other W11 f6_3 (Or.inl ne_a1_b2))
  have f11_4 : Arv Z h11 aM kM .byte (4 : Int32) [(.int (84 : Int32)), (.int (83 : Int32)), (.int (84 : Int32)), (.int (82 : Int32))] (.int (0 : Int32)) := (Arv.other f6_4 W11 ne_aM_b2)
  refine Go.by st11 ?_
  show Go p e below P (T11.setTop (mkF m 28 #[.val (.ref a1), .val (.ref b2)] []))
  refine Go.by (fun _ => XS.aloadN X11.here hx rfl (hb hby d_prog_20_method_3_code_28) rfl rfl) ?_
  show Go p e below P (T11.setTop (mkF m 29 #[.val (.ref a1), .val (.ref b2)] [(.ref b2)]))
  refine fin X11 (v := some (.ref b2)) (fun h => by rw [Bd.returns] at h; cases h) (by decide) (by decide) ?_ (fun fs hr => retOut X11 hx Bd.returns rfl (Or.inr (Or.inr (Or.inr (Or.inr ⟨rfl, rfl, rfl⟩)))) (hb hby d_prog_20_method_3_code_29) hr)
  show Q_header Z a1 cv aM kM h0 n0 _ T11.heap _
  rw [e11]
  exact ⟨b2, k2', rfl, N11, f11_1, sz_b2, V11⟩
def Q_ok (Z : State) (a1 : Addr) (k1 : ClassId) (p1 : Int32) (h0 : Heap) (n0 : Nat) (v : Option Value) (h : Heap) (L : List Loc) : Prop := v = some (.int (1 : Int32)) ∧ Fr n0 L ∧ h = h0
theorem ef_ok (m : MethodId) (a1 : Addr) (k1 : ClassId) (p1 : Int32) : entryFrame m #[(.ref a1), (.int p1)] 2 = mkF m 0 #[.val (.ref a1), .val (.int p1)] [] := by first | (simp [entryFrame, mkF, argsToLocals, Value.category]; done) | rfl
set_option maxRecDepth 65536 in
set_option maxHeartbeats 40000000 in
theorem rm_ok (l : Launch) (Z : State) (a0 : Array Value) (hw : ∀ d ∈ tables_1, d.before a0 Z = true) (ws : List Jvm.Cond) (a1 : Addr) (k1 : ClassId) (p1 : Int32) (h0 : Heap) (n0 : Nat) (Z0 : n0 ≤ h0.size) (V1 : Arv Z h0 a1 k1 .byte (6 : Int32) [(.int (84 : Int32)), (.int (83 : Int32)), (.int (84 : Int32)), (.int (82 : Int32)), (.int (1 : Int32)), (.int (own_code p1))] (.int (0 : Int32))) :
    MetFree l (⟨"com/example/tierstone/tierstone/core/StreamFormatHeaderPinLaw", "ok", "([BI)Z"⟩ : MethodName) (head1 (Jvm.Cond.code (⟨"com/example/tierstone/tierstone/core/StreamFormatHeaderPinLaw", "ok", "([BI)Z"⟩ : MethodName) method_4_code 2 (some .boolean) :: ws) ({ frames := 1, cells := 0, slots := 0, locals := 30 } : Room)) (fun a U => a = #[(.ref a1), (.int p1)] ∧ Z.Warmed39 U.vm ∧ U.heap = h0) (fun _ _ _ _ _ => True) (fun _ U o U' => ∃ v L, o = .returned v ∧ Q_ok Z a1 k1 p1 h0 n0 v U'.heap L ∧ FrameEnd U o U' L ({ frames := 1, cells := 0, slots := 0, locals := 30 } : Room).cells ({ frames := 1, cells := 0, slots := 0, locals := 30 } : Room).slots) := by
  refine MetFree.of_bodySF (plainFor_of_name pn_com_example_tierstone_tierstone_core_StreamFormatHeaderPinLaw) hisR ?_
  intro p e s m args below meth c s₁ Bd hml0 hP hK
  obtain ⟨rfl, hZ, hh⟩ := hP
  have hx := Bd.exec
  have hby := Bd.bytes
  have hml : c.maxLocals = 2 := hml0
  have hown : s.vm.findClass "com/example/tierstone/tierstone/core/StreamFormatHeaderPinLaw" = some m.cls := findClass_of_methodNamed Bd.named
  have hnm := (name_of_methodNamed Bd.named Bd.method).1
  have X0 : Stand p l e ({ frames := 1, cells := 0, slots := 0, locals := 30 } : Room) s m #[(.ref a1), (.int p1)] below meth c s₁ [] 0 0 := Stand.of_body Bd
  have e0 : s₁.heap = h0 := by rw [← hh, Bd.state]; rfl
  have N0 := Fr.nil n0
  have hlk : meth.locks = false := Bd.notSynchronized
  obtain ⟨P, hP⟩ : ∃ P : Outcome → State → Prop, P = PQ s (Q_ok Z a1 k1 p1 h0 n0) ({ frames := 1, cells := 0, slots := 0, locals := 30 } : Room).cells ({ frames := 1, cells := 0, slots := 0, locals := 30 } : Room).slots := ⟨_, rfl⟩
  have fin : ∀ {T : State} {locs : List Loc} {k n : Nat} {v : Option Value} {S0 : State}, Stand p l e ({ frames := 1, cells := 0, slots := 0, locals := 30 } : Room) s m #[(.ref a1), (.int p1)] below meth c T locs k n → (meth.sig.returnType = none → v = none) → k ≤ ({ frames := 1, cells := 0, slots := 0, locals := 30 } : Room).cells → n ≤ ({ frames := 1, cells := 0, slots := 0, locals := 30 } : Room).slots → Q_ok Z a1 k1 p1 h0 n0 v T.heap locs → (∀ fs, (∀ (f : JFrame) (acts : List Action), f.method = m → f.locked = none → f.entered = [] → (doReturn e (T.setTop f) acts v).1 = T.setFrames fs) → Steps p.tables e below S0 (T.setFrames fs)) → Go p e below P S0 := fun X hv hk hn hQ hst => hP ▸ Go.fin X hlk hv hk hn hQ hst
  suffices hgo : Go p e below P (s₁.setTop (mkF m 0 #[.val (.ref a1), .val (.int p1)] [])) by
    rw [hP] at hgo
    exact Go.by (fun t k => castTop (ef_ok m a1 k1 p1) k) hgo
  show Go p e below P (s₁.setTop (mkF m 0 #[.val (.ref a1), .val (.int p1)] []))
  refine Go.by (fun _ => XS.aloadN X0.here hx rfl (hb hby d_method_4_code_0) rfl rfl) ?_
  show Go p e below P (s₁.setTop (mkF m 1 #[.val (.ref a1), .val (.int p1)] [(.ref a1)]))
  refine Go.by (fun _ => XS.ifnullNo X0.here hx rfl (hb hby d_method_4_code_1) rfl) ?_
  show Go p e below P (s₁.setTop (mkF m 4 #[.val (.ref a1), .val (.int p1)] []))
  refine Go.by (fun _ => XS.aloadN X0.here hx rfl (hb hby d_method_4_code_4) rfl rfl) ?_
  show Go p e below P (s₁.setTop (mkF m 5 #[.val (.ref a1), .val (.int p1)] [(.ref a1)]))
  have av1 := V1
  obtain ⟨cl1, Ar1, -, Sz1, Nn1, -, -⟩ := av1
  refine Go.by (X0.arraylength hx (by rw [e0]; exact Ar1.1) (State.isArrayOf_alike hZ.alike Ar1.2.1) (g := (mkF m 5 #[.val (.ref a1), .val (.int p1)] [(.ref a1)])) rfl rfl (hb hby d_method_4_code_5)) ?_
  rw [len_of Sz1 Nn1]
  show Go p e below P (s₁.setTop (mkF m 6 #[.val (.ref a1), .val (.int p1)] [(.int (6 : Int32))]))
  refine Go.by (fun _ => XS.bipush X0.here hx rfl (hb hby d_method_4_code_6)) ?_
  show Go p e below P (s₁.setTop (mkF m 8 #[.val (.ref a1), .val (.int p1)] [(.int (6 : Int32)), (.int (6 : Int32))]))
  refine Go.by (fun _ => XS.icmpNo X0.here hx rfl (hb hby d_method_4_code_8) rfl (XT.ii_ne_f (by decide : (6 : Int32) = (6 : Int32)))) ?_
  show Go p e below P (s₁.setTop (mkF m 11 #[.val (.ref a1), .val (.int p1)] []))
  refine Go.by (fun _ => XS.aloadN X0.here hx rfl (hb hby d_method_4_code_11) rfl rfl) ?_
  show Go p e below P (s₁.setTop (mkF m 12 #[.val (.ref a1), .val (.int p1)] [(.ref a1)]))
  refine Go.by (fun _ => XS.iconst X0.here hx rfl (hb hby d_method_4_code_12)) ?_
  show Go p e below P (s₁.setTop (mkF m 13 #[.val (.ref a1), .val (.int p1)] [(.int (0 : Int32)), (.ref a1)]))
  have av2 := V1
  obtain ⟨cl2, Ar2, -, Sz2, Nn2, Ha2, Gf2⟩ := av2
  have hin2 : ¬ ((0 : Int32) < 0 ∨ cl2.slots.size ≤ ((0 : Int32)).toNatClampNeg) := inb_of Sz2 ⟨by decide, by decide⟩
  have hat2 : cl2.slots[((0 : Int32)).toNatClampNeg]? = some (.int (84 : Int32)) := Ha2.at hin2 rfl
  refine Go.by (X0.baloadBytes hx (j := (0 : Int32)) (v := (.int (84 : Int32))) (by rw [e0]; exact Ar2.1) (State.isArrayOf_alike hZ.alike Ar2.2.1) Ar2.2.2 hin2 hat2 (g := (mkF m 13 #[.val (.ref a1), .val (.int p1)] [(.int (0 : Int32)), (.ref a1)])) rfl rfl (hb hby d_method_4_code_13)) ?_
  show Go p e below P (s₁.setTop (mkF m 14 #[.val (.ref a1), .val (.int p1)] [(.int (84 : Int32))]))
  refine Go.by (fun _ => XS.bipush X0.here hx rfl (hb hby d_method_4_code_14)) ?_
  show Go p e below P (s₁.setTop (mkF m 16 #[.val (.ref a1), .val (.int p1)] [(.int (84 : Int32)), (.int (84 : Int32))]))
  refine Go.by (fun _ => XS.icmpNo X0.here hx rfl (hb hby d_method_4_code_16) rfl (XT.ii_ne_f (by decide : (84 : Int32) = (84 : Int32)))) ?_
  show Go p e below P (s₁.setTop (mkF m 19 #[.val (.ref a1), .val (.int p1)] []))
  refine Go.by (fun _ => XS.aloadN X0.here hx rfl (hb hby d_method_4_code_19) rfl rfl) ?_
  show Go p e below P (s₁.setTop (mkF m 20 #[.val (.ref a1), .val (.int p1)] [(.ref a1)]))
  refine Go.by (fun _ => XS.iconst X0.here hx rfl (hb hby d_method_4_code_20)) ?_
  show Go p e below P (s₁.setTop (mkF m 21 #[.val (.ref a1), .val (.int p1)] [(.int (1 : Int32)), (.ref a1)]))
  have av3 := V1
  obtain ⟨cl3, Ar3, -, Sz3, Nn3, Ha3, Gf3⟩ := av3
  have hin3 : ¬ ((1 : Int32) < 0 ∨ cl3.slots.size ≤ ((1 : Int32)).toNatClampNeg) := inb_of Sz3 ⟨by decide, by decide⟩
  have hat3 : cl3.slots[((1 : Int32)).toNatClampNeg]? = some (.int (83 : Int32)) := Ha3.at hin3 rfl
  refine Go.by (X0.baloadBytes hx (j := (1 : Int32)) (v := (.int (83 : Int32))) (by rw [e0]; exact Ar3.1) (State.isArrayOf_alike hZ.alike Ar3.2.1) Ar3.2.2 hin3 hat3 (g := (mkF m 21 #[.val (.ref a1), .val (.int p1)] [(.int (1 : Int32)), (.ref a1)])) rfl rfl (hb hby d_method_4_code_21)) ?_
  show Go p e below P (s₁.setTop (mkF m 22 #[.val (.ref a1), .val (.int p1)] [(.int (83 : Int32))]))
  refine Go.by (fun _ => XS.bipush X0.here hx rfl (hb hby d_method_4_code_22)) ?_
  show Go p e below P (s₁.setTop (mkF m 24 #[.val (.ref a1), .val (.int p1)] [(.int (83 : Int32)), (.int (83 : Int32))]))
  refine Go.by (fun _ => XS.icmpNo X0.here hx rfl (hb hby d_method_4_code_24) rfl (XT.ii_ne_f (by decide : (83 : Int32) = (83 : Int32)))) ?_
  show Go p e below P (s₁.setTop (mkF m 27 #[.val (.ref a1), .val (.int p1)] []))
  refine Go.by (fun _ => XS.aloadN X0.here hx rfl (hb hby d_method_4_code_27) rfl rfl) ?_
  show Go p e below P (s₁.setTop (mkF m 28 #[.val (.ref a1), .val (.int p1)] [(.ref a1)]))
  refine Go.by (fun _ => XS.iconst X0.here hx rfl (hb hby d_method_4_code_28)) ?_
  show Go p e below P (s₁.setTop (mkF m 29 #[.val (.ref a1), .val (.int p1)] [(.int (2 : Int32)), (.ref a1)]))
  have av4 := V1
  obtain ⟨cl4, Ar4, -, Sz4, Nn4, Ha4, Gf4⟩ := av4
  have hin4 : ¬ ((2 : Int32) < 0 ∨ cl4.slots.size ≤ ((2 : Int32)).toNatClampNeg) := inb_of Sz4 ⟨by decide, by decide⟩
  have hat4 : cl4.slots[((2 : Int32)).toNatClampNeg]? = some (.int (84 : Int32)) := Ha4.at hin4 rfl
  refine Go.by (X0.baloadBytes hx (j := (2 : Int32)) (v := (.int (84 : Int32))) (by rw [e0]; exact Ar4.1) (State.isArrayOf_alike hZ.alike Ar4.2.1) Ar4.2.2 hin4 hat4 (g := (mkF m 29 #[.val (.ref a1), .val (.int p1)] [(.int (2 : Int32)), (.ref a1)])) rfl rfl (hb hby d_method_4_code_29)) ?_
  show Go p e below P (s₁.setTop (mkF m 30 #[.val (.ref a1), .val (.int p1)] [(.int (84 : Int32))]))
  refine Go.by (fun _ => XS.bipush X0.here hx rfl (hb hby d_method_4_code_30)) ?_
  show Go p e below P (s₁.setTop (mkF m 32 #[.val (.ref a1), .val (.int p1)] [(.int (84 : Int32)), (.int (84 : Int32))]))
  refine Go.by (fun _ => XS.icmpNo X0.here hx rfl (hb hby d_method_4_code_32) rfl (XT.ii_ne_f (by decide : (84 : Int32) = (84 : Int32)))) ?_
  show Go p e below P (s₁.setTop (mkF m 35 #[.val (.ref a1), .val (.int p1)] []))
  refine Go.by (fun _ => XS.aloadN X0.here hx rfl (hb hby d_method_4_code_35) rfl rfl) ?_
  show Go p e below P (s₁.setTop (mkF m 36 #[.val (.ref a1), .val (.int p1)] [(.ref a1)]))
  refine Go.by (fun _ => XS.iconst X0.here hx rfl (hb hby d_method_4_code_36)) ?_
  show Go p e below P (s₁.setTop (mkF m 37 #[.val (.ref a1), .val (.int p1)] [(.int (3 : Int32)), (.ref a1)]))
  have av5 := V1
  obtain ⟨cl5, Ar5, -, Sz5, Nn5, Ha5, Gf5⟩ := av5
  have hin5 : ¬ ((3 : Int32) < 0 ∨ cl5.slots.size ≤ ((3 : Int32)).toNatClampNeg) := inb_of Sz5 ⟨by decide, by decide⟩
  have hat5 : cl5.slots[((3 : Int32)).toNatClampNeg]? = some (.int (82 : Int32)) := Ha5.at hin5 rfl
  refine Go.by (X0.baloadBytes hx (j := (3 : Int32)) (v := (.int (82 : Int32))) (by rw [e0]; exact Ar5.1) (State.isArrayOf_alike hZ.alike Ar5.2.1) Ar5.2.2 hin5 hat5 (g := (mkF m 37 #[.val (.ref a1), .val (.int p1)] [(.int (3 : Int32)), (.ref a1)])) rfl rfl (hb hby d_method_4_code_37)) ?_
  show Go p e below P (s₁.setTop (mkF m 38 #[.val (.ref a1), .val (.int p1)] [(.int (82 : Int32))]))
  refine Go.by (fun _ => XS.bipush X0.here hx rfl (hb hby d_method_4_code_38)) ?_
  show Go p e below P (s₁.setTop (mkF m 40 #[.val (.ref a1), .val (.int p1)] [(.int (82 : Int32)), (.int (82 : Int32))]))
  refine Go.by (fun _ => XS.icmpNo X0.here hx rfl (hb hby d_method_4_code_40) rfl (XT.ii_ne_f (by decide : (82 : Int32) = (82 : Int32)))) ?_
  show Go p e below P (s₁.setTop (mkF m 43 #[.val (.ref a1), .val (.int p1)] []))
  refine Go.by (fun _ => XS.aloadN X0.here hx rfl (hb hby d_method_4_code_43) rfl rfl) ?_
  show Go p e below P (s₁.setTop (mkF m 44 #[.val (.ref a1), .val (.int p1)] [(.ref a1)]))
  refine Go.by (fun _ => XS.iconst X0.here hx rfl (hb hby d_method_4_code_44)) ?_
  show Go p e below P (s₁.setTop (mkF m 45 #[.val (.ref a1), .val (.int p1)] [(.int (4 : Int32)), (.ref a1)]))
  have av6 := V1
  obtain ⟨cl6, Ar6, -, Sz6, Nn6, Ha6, Gf6⟩ := av6
  have hin6 : ¬ ((4 : Int32) < 0 ∨ cl6.slots.size ≤ ((4 : Int32)).toNatClampNeg) := inb_of Sz6 ⟨by decide, by decide⟩
  have hat6 : cl6.slots[((4 : Int32)).toNatClampNeg]? = some (.int (1 : Int32)) := Ha6.at hin6 rfl
  refine Go.by (X0.baloadBytes hx (j := (4 : Int32)) (v := (.int (1 : Int32))) (by rw [e0]; exact Ar6.1) (State.isArrayOf_alike hZ.alike Ar6.2.1) Ar6.2.2 hin6 hat6 (g := (mkF m 45 #[.val (.ref a1), .val (.int p1)] [(.int (4 : Int32)), (.ref a1)])) rfl rfl (hb hby d_method_4_code_45)) ?_
  show Go p e below P (s₁.setTop (mkF m 46 #[.val (.ref a1), .val (.int p1)] [(.int (1 : Int32))]))
  refine Go.by (fun _ => XS.iconst X0.here hx rfl (hb hby d_method_4_code_46)) ?_
  show Go p e below P (s₁.setTop (mkF m 47 #[.val (.ref a1), .val (.int p1)] [(.int (1 : Int32)), (.int (1 : Int32))]))
  refine Go.by (fun _ => XS.icmpNo X0.here hx rfl (hb hby d_method_4_code_47) rfl (XT.ii_ne_f (by decide : (1 : Int32) = (1 : Int32)))) ?_
  show Go p e below P (s₁.setTop (mkF m 50 #[.val (.ref a1), .val (.int p1)] []))
  refine Go.by (fun _ => XS.aloadN X0.here hx rfl (hb hby d_method_4_code_50) rfl rfl) ?_
  show Go p e below P (s₁.setTop (mkF m 51 #[.val (.ref a1), .val (.int p1)] [(.ref a1)]))
  refine Go.by (fun _ => XS.iconst X0.here hx rfl (hb hby d_method_4_code_51)) ?_
  show Go p e below P (s₁.setTop (mkF m 52 #[.val (.ref a1), .val (.int p1)] [(.int (5 : Int32)), (.ref a1)]))
  have av7 := V1
  obtain ⟨cl7, Ar7, -, Sz7, Nn7, Ha7, Gf7⟩ := av7
  have hin7 : ¬ ((5 : Int32) < 0 ∨ cl7.slots.size ≤ ((5 : Int32)).toNatClampNeg) := inb_of Sz7 ⟨by decide, by decide⟩
  have hat7 : cl7.slots[((5 : Int32)).toNatClampNeg]? = some (.int (own_code p1)) := Ha7.at hin7 rfl
  refine Go.by (X0.baloadBytes hx (j := (5 : Int32)) (v := (.int (own_code p1))) (by rw [e0]; exact Ar7.1) (State.isArrayOf_alike hZ.alike Ar7.2.1) Ar7.2.2 hin7 hat7 (g := (mkF m 52 #[.val (.ref a1), .val (.int p1)] [(.int (5 : Int32)), (.ref a1)])) rfl rfl (hb hby d_method_4_code_52)) ?_
  show Go p e below P (s₁.setTop (mkF m 53 #[.val (.ref a1), .val (.int p1)] [(.int (own_code p1))]))
  refine Go.by (fun _ => XS.iloadN X0.here hx rfl (hb hby d_method_4_code_53) rfl) ?_
  show Go p e below P (s₁.setTop (mkF m 54 #[.val (.ref a1), .val (.int p1)] [(.int p1), (.int (own_code p1))]))
  obtain ⟨_, _, ⟨T8, L8, k8, n8⟩, -, X8, ⟨Lc8, hQ8, l8, y8, z8⟩, st8⟩ := Jvm.LawKit.callS X0 hx (y := (⟨"com/example/tierstone/tierstone/core/StreamFormatHeaderPinLaw", "code", "(I)B"⟩ : MethodName)) hown (mvT hZ (tw_31 hw)) (mvT hZ (tw_32 hw)) (mvT hZ (tw_2 hw)) (mvT hZ (tw_33 hw)) (by decide) (backOf (W := 1) (rm_code l Z a0 hw [] p1 h0 n0 Z0 ) hZ (tw_33 hw) (tw_2 hw) (by decide) (by decide)) (g := (mkF m 54 #[.val (.ref a1), .val (.int p1)] [(.int p1), (.int (own_code p1))])) rfl (by rw [hml]; rfl) (argsL := [(.int p1)]) (rest := [(.int (own_code p1))]) (lenOf pd__I_B rfl) rfl (by show 2 * 0 + _ ≤ _; exact Nat.le_of_eq rfl) (hb hby d_method_4_code_54) (fun _ _ => ⟨rfl, e0, (by decide : 0 + 0 ≤ _), (by decide : 0 + 0 ≤ _)⟩)
  dsimp only [Pt.U, Pt.locs, Pt.cells, Pt.slots] at X8 l8 y8 z8 st8 hQ8
  subst l8 y8 z8
  obtain ⟨rfl, N8q, q8⟩ := hQ8
  have N8 := Fr.app N0 N8q
  refine Go.by (fun t k => st8 t k) ?_
  show Go p e below P (T8.setTop (mkF m 57 #[.val (.ref a1), .val (.int p1)] [(.int (own_code p1)), (.int (own_code p1))]))
  refine Go.by (fun _ => XS.icmpNo X8.here hx rfl (hb hby d_method_4_code_57) rfl (XT.ii_ne_f rfl)) ?_
  show Go p e below P (T8.setTop (mkF m 60 #[.val (.ref a1), .val (.int p1)] []))
  refine Go.by (fun _ => XS.iconst X8.here hx rfl (hb hby d_method_4_code_60)) ?_
  show Go p e below P (T8.setTop (mkF m 61 #[.val (.ref a1), .val (.int p1)] [(.int (1 : Int32))]))
  refine Go.by (fun _ => XS.goto X8.here hx rfl (pc0 := 61) (pc' := 65) rfl (hb hby d_method_4_code_61) (by decide) (by decide)) ?_
  show Go p e below P (T8.setTop (mkF m 65 #[.val (.ref a1), .val (.int p1)] [(.int (1 : Int32))]))
  refine fin X8 (v := some (.int (1 : Int32))) (fun h => by rw [Bd.returns] at h; cases h) (by decide) (by decide) ?_ (fun fs hr => retOut X8 hx Bd.returns rfl (Or.inl ⟨rfl, Or.inr (Or.inl rfl), _, rfl⟩) (hb hby d_method_4_code_65) hr)
  show Q_ok Z a1 k1 p1 h0 n0 _ T8.heap _
  rw [q8]
  exact ⟨rfl, N8, rfl⟩
def Q_law (Z : State) (p0 : Int32) (p1 : Int32) (p2 : Int32) (aT : Addr) (aC : Addr) (aA : Addr) (aB : Addr) (aM : Addr) (kM : ClassId) (h0 : Heap) (n0 : Nat) (v : Option Value) (h : Heap) (L : List Loc) : Prop := v = some (.int (1 : Int32)) ∧ Fr n0 L
theorem ef_law (m : MethodId) (p0 : Int32) (p1 : Int32) (p2 : Int32) (aT : Addr) (aC : Addr) (aA : Addr) (aB : Addr) (aM : Addr) (kM : ClassId) : entryFrame m #[(.int p0), (.int p1), (.int p2)] maxLocals = mkF m 0 #[.val (.int p0), .val (.int p1), .val (.int p2), .unset, .unset] [] := by first | (simp [entryFrame, mkF, argsToLocals, Value.category, maxLocals]; done) | rfl
set_option maxRecDepth 65536 in
set_option maxHeartbeats 40000000 in
theorem rm_law (l : Launch) (Z : State) (a0 : Array Value) (hw : ∀ d ∈ tables_1, d.before a0 Z = true) (ws : List Jvm.Cond) (p0 : Int32) (p1 : Int32) (p2 : Int32) (aT : Addr) (aC : Addr) (aA : Addr) (aB : Addr) (aM : Addr) (kM : ClassId) (h0 : Heap) (n0 : Nat) (Z0 : n0 ≤ h0.size) (O0 : Old Z n0 h0) (SaT : Sta Z Z.heap "com/example/tierstone/tierstone/core/StreamFormat$Kind" "TABLE" "Lcom/example/tierstone/tierstone/core/StreamFormat$Kind;" (.ref aT)) (SaC : Sta Z Z.heap "com/example/tierstone/tierstone/core/StreamFormat$Kind" "CHANGE_SET" "Lcom/example/tierstone/tierstone/core/StreamFormat$Kind;" (.ref aC)) (SaA : Sta Z Z.heap "com/example/tierstone/tierstone/core/StreamFormat$Kind" "ANSWER" "Lcom/example/tierstone/tierstone/core/StreamFormat$Kind;" (.ref aA)) (SaB : Sta Z Z.heap "com/example/tierstone/tierstone/core/StreamFormat$Kind" "BRIEFCASE" "Lcom/example/tierstone/tierstone/core/StreamFormat$Kind;" (.ref aB)) (FaT : Fld Z Z.heap aT "com/example/tierstone/tierstone/core/StreamFormat$Kind" "code" "B" (.int (84 : Int32))) (FaC : Fld Z Z.heap aC "com/example/tierstone/tierstone/core/StreamFormat$Kind" "code" "B" (.int (67 : Int32))) (FaA : Fld Z Z.heap aA "com/example/tierstone/tierstone/core/StreamFormat$Kind" "code" "B" (.int (65 : Int32))) (FaB : Fld Z Z.heap aB "com/example/tierstone/tierstone/core/StreamFormat$Kind" "code" "B" (.int (66 : Int32))) (SM : Sta Z Z.heap "com/example/tierstone/tierstone/core/StreamFormat" "MAGIC" "[B" (.ref aM)) (VM : Arv Z Z.heap aM kM .byte (4 : Int32) [(.int (84 : Int32)), (.int (83 : Int32)), (.int (84 : Int32)), (.int (82 : Int32))] (.int (0 : Int32))) :
    MetFree l x (head1 (Jvm.Cond.code x code maxLocals ret :: ws) room_1) (fun a U => a = #[(.int p0), (.int p1), (.int p2)] ∧ Z.Warmed39 U.vm ∧ U.heap = h0) (fun _ _ _ _ _ => True) (fun _ U o U' => ∃ v L, o = .returned v ∧ Q_law Z p0 p1 p2 aT aC aA aB aM kM h0 n0 v U'.heap L ∧ FrameEnd U o U' L room_1.cells room_1.slots) := by
  refine MetFree.of_bodySF (plainFor_of_name pn_com_example_tierstone_tierstone_core_StreamFormatHeaderPinLaw) hisR ?_
  intro p e s m args below meth c s₁ Bd hml0 hP hK
  obtain ⟨rfl, hZ, hh⟩ := hP
  have hx := Bd.exec
  have hby := Bd.bytes
  have hml : c.maxLocals = 5 := hml0
  have hown : s.vm.findClass "com/example/tierstone/tierstone/core/StreamFormatHeaderPinLaw" = some m.cls := findClass_of_methodNamed Bd.named
  have hnm := (name_of_methodNamed Bd.named Bd.method).1
  have X0 : Stand p l e room_1 s m #[(.int p0), (.int p1), (.int p2)] below meth c s₁ [] 0 0 := Stand.of_body Bd
  have e0 : s₁.heap = h0 := by rw [← hh, Bd.state]; rfl
  have N0 := Fr.nil n0
  have hlk : meth.locks = false := Bd.notSynchronized
  obtain ⟨P, hP⟩ : ∃ P : Outcome → State → Prop, P = PQ s (Q_law Z p0 p1 p2 aT aC aA aB aM kM h0 n0) room_1.cells room_1.slots := ⟨_, rfl⟩
  have fin : ∀ {T : State} {locs : List Loc} {k n : Nat} {v : Option Value} {S0 : State}, Stand p l e room_1 s m #[(.int p0), (.int p1), (.int p2)] below meth c T locs k n → (meth.sig.returnType = none → v = none) → k ≤ room_1.cells → n ≤ room_1.slots → Q_law Z p0 p1 p2 aT aC aA aB aM kM h0 n0 v T.heap locs → (∀ fs, (∀ (f : JFrame) (acts : List Action), f.method = m → f.locked = none → f.entered = [] → (doReturn e (T.setTop f) acts v).1 = T.setFrames fs) → Steps p.tables e below S0 (T.setFrames fs)) → Go p e below P S0 := fun X hv hk hn hQ hst => hP ▸ Go.fin X hlk hv hk hn hQ hst
  suffices hgo : Go p e below P (s₁.setTop (mkF m 0 #[.val (.int p0), .val (.int p1), .val (.int p2), .unset, .unset] [])) by
    rw [hP] at hgo
    exact Go.by (fun t k => castTop (ef_law m p0 p1 p2 aT aC aA aB aM kM) k) hgo
  show Go p e below P (s₁.setTop (mkF m 0 #[.val (.int p0), .val (.int p1), .val (.int p2), .unset, .unset] []))
  refine Go.by (fun _ => XS.iloadN X0.here hx rfl (hb hby at_0) rfl) ?_
  show Go p e below P (s₁.setTop (mkF m 1 #[.val (.int p0), .val (.int p1), .val (.int p2), .unset, .unset] [(.int p0)]))
  obtain ⟨_, _, ⟨T1, L1, k1, n1⟩, -, X1, ⟨Lc1, hQ1, l1, y1, z1⟩, st1⟩ := Jvm.LawKit.callS X0 hx (y := (⟨"com/example/tierstone/tierstone/core/StreamFormatHeaderPinLaw", "pick", "(I)Lcom/example/tierstone/tierstone/core/StreamFormat$Kind;"⟩ : MethodName)) hown (mvT hZ (tw_0 hw)) (mvT hZ (tw_1 hw)) (mvT hZ (tw_2 hw)) (mvT hZ (tw_3 hw)) (by decide) (backOf (W := 0) (rm_pick l Z a0 hw [] p0 aT aC aA aB h0 n0 Z0 O0 SaT SaC SaA SaB) hZ (tw_3 hw) (tw_2 hw) (by decide) (by decide)) (g := (mkF m 1 #[.val (.int p0), .val (.int p1), .val (.int p2), .unset, .unset] [(.int p0)])) rfl (by rw [hml]; rfl) (argsL := [(.int p0)]) (rest := []) (lenOf pd__I_Lcom_example_tierstone_tierstone_core_StreamFormat_Kind_ rfl) rfl (by show 2 * 0 + _ ≤ _; exact Nat.le_of_eq rfl) (hb hby at_1) (fun _ _ => ⟨rfl, e0, (by decide : 0 + 0 ≤ _), (by decide : 0 + 0 ≤ _)⟩)
  dsimp only [Pt.U, Pt.locs, Pt.cells, Pt.slots] at X1 l1 y1 z1 st1 hQ1
  subst l1 y1 z1
  obtain ⟨rfl, N1q, q1⟩ := hQ1
  have N1 := Fr.app N0 N1q
  refine Go.by (fun t k => st1 t k) ?_
  show Go p e below P (T1.setTop (mkF m 4 #[.val (.int p0), .val (.int p1), .val (.int p2), .unset, .unset] [(.ref (own_pick p0 aT aC aA aB))]))
  obtain ⟨_, _, ⟨T2, L2, k2, n2⟩, -, X2, ⟨Lc2, hQ2, l2, y2, z2⟩, st2⟩ := Jvm.LawKit.callS X1 hx (y := (⟨"com/example/tierstone/tierstone/core/StreamFormat", "header", "(Lcom/example/tierstone/tierstone/core/StreamFormat$Kind;)[B"⟩ : MethodName)) hown (mvT hZ (tw_7 hw)) (mvT hZ (tw_8 hw)) (mvT hZ (tw_9 hw)) (mvT hZ (tw_10 hw)) (by decide) (backOf (W := 0) (rm_header l Z a0 hw [] (own_pick p0 aT aC aA aB) (own_code p0) aM kM h0 n0 Z0 O0 SM VM (own_pick_fld p0 (Fld.ext O0.2 FaT) (Fld.ext O0.2 FaC) (Fld.ext O0.2 FaA) (Fld.ext O0.2 FaB)) (own_code_byte p0) (O0.1 ▸ (own_pick_fld p0 FaT FaC FaA FaB).lt)) hZ (tw_10 hw) (tw_9 hw) (by decide) (by decide)) (g := (mkF m 4 #[.val (.int p0), .val (.int p1), .val (.int p2), .unset, .unset] [(.ref (own_pick p0 aT aC aA aB))])) rfl (by rw [hml]; rfl) (argsL := [(.ref (own_pick p0 aT aC aA aB))]) (rest := []) (lenOf pd__Lcom_example_tierstone_tierstone_core_StreamFormat_Kind___B rfl) rfl (by show 2 * 0 + _ ≤ _; exact Nat.le_of_eq rfl) (hb hby at_4) (fun _ _ => ⟨rfl, (q1.trans rfl), (by decide : 0 + 1 ≤ _), (by decide : 0 + 6 ≤ _)⟩)
  dsimp only [Pt.U, Pt.locs, Pt.cells, Pt.slots] at X2 l2 y2 z2 st2 hQ2
  subst l2 y2 z2
  obtain ⟨b2, k2', rfl, N2q, K2, z2, V2⟩ := hQ2
  have N2 := Fr.app N1 N2q
  refine Go.by (fun t k => st2 t k) ?_
  have f2_0 : n0 ≤ T2.heap.size := (Nat.le_trans Z0 K2.1)
  have f2_1 : Keep h0 T2.heap [] := (Keep.trans (Keep.refl h0 []) K2 all0)
  have f2_2 : Old Z n0 T2.heap := (Old.keep O0 K2 all0)
  have g_b2 : n0 ≤ b2 := Nat.le_trans Z0 z2
  have sz_b2 : h0.size ≤ b2 := Nat.le_trans (Keep.refl h0 []).1 z2
  show Go p e below P (T2.setTop (mkF m 7 #[.val (.int p0), .val (.int p1), .val (.int p2), .unset, .unset] [(.ref b2)]))
  refine Go.by (fun _ => XS.astoreN X2.here hx rfl (hb hby at_7) rfl rfl (l' := #[.val (.int p0), .val (.int p1), .val (.int p2), .val (.ref b2), .unset]) rfl) ?_
  show Go p e below P (T2.setTop (mkF m 8 #[.val (.int p0), .val (.int p1), .val (.int p2), .val (.ref b2), .unset] []))
  refine Go.by (fun _ => XS.aloadN X2.here hx rfl (hb hby at_8) rfl rfl) ?_
  show Go p e below P (T2.setTop (mkF m 9 #[.val (.int p0), .val (.int p1), .val (.int p2), .val (.ref b2), .unset] [(.ref b2)]))
  refine Go.by (fun _ => XS.iloadN X2.here hx rfl (hb hby at_9) rfl) ?_
  show Go p e below P (T2.setTop (mkF m 10 #[.val (.int p0), .val (.int p1), .val (.int p2), .val (.ref b2), .unset] [(.int p0), (.ref b2)]))
  obtain ⟨_, _, ⟨T3, L3, k3, n3⟩, -, X3, ⟨Lc3, hQ3, l3, y3, z3⟩, st3⟩ := Jvm.LawKit.callS X2 hx (y := (⟨"com/example/tierstone/tierstone/core/StreamFormatHeaderPinLaw", "ok", "([BI)Z"⟩ : MethodName)) hown (mvT hZ (tw_28 hw)) (mvT hZ (tw_29 hw)) (mvT hZ (tw_2 hw)) (mvT hZ (tw_30 hw)) (by decide) (backOf (W := 0) (rm_ok l Z a0 hw [] b2 k2' p0 T2.heap n0 f2_0 V2) hZ (tw_30 hw) (tw_2 hw) (by decide) (by decide)) (g := (mkF m 10 #[.val (.int p0), .val (.int p1), .val (.int p2), .val (.ref b2), .unset] [(.int p0), (.ref b2)])) rfl (by rw [hml]; rfl) (argsL := [(.ref b2), (.int p0)]) (rest := []) (lenOf pd___BI_Z rfl) rfl (by show 2 * 0 + _ ≤ _; exact Nat.le_of_eq rfl) (hb hby at_10) (fun _ _ => ⟨rfl, rfl, (by decide : 1 + 0 ≤ _), (by decide : 6 + 0 ≤ _)⟩)
  dsimp only [Pt.U, Pt.locs, Pt.cells, Pt.slots] at X3 l3 y3 z3 st3 hQ3
  subst l3 y3 z3
  obtain ⟨rfl, N3q, q3⟩ := hQ3
  have N3 := Fr.app N2 N3q
  refine Go.by (fun t k => st3 t k) ?_
  show Go p e below P (T3.setTop (mkF m 13 #[.val (.int p0), .val (.int p1), .val (.int p2), .val (.ref b2), .unset] [(.int (1 : Int32))]))
  refine Go.by (fun _ => XS.ifYes X3.here hx rfl (pc0 := 13) (pc' := 18) rfl (hb hby at_13) rfl (XT.i0_ne_t (by decide : ¬ (1 : Int32) = (0 : Int32))) (by decide) (by decide)) ?_
  show Go p e below P (T3.setTop (mkF m 18 #[.val (.int p0), .val (.int p1), .val (.int p2), .val (.ref b2), .unset] []))
  refine Go.by (fun _ => XS.aloadN X3.here hx rfl (hb hby at_18) rfl rfl) ?_
  show Go p e below P (T3.setTop (mkF m 19 #[.val (.int p0), .val (.int p1), .val (.int p2), .val (.ref b2), .unset] [(.ref b2)]))
  refine Go.by (fun _ => XS.iconst X3.here hx rfl (hb hby at_19)) ?_
  show Go p e below P (T3.setTop (mkF m 20 #[.val (.int p0), .val (.int p1), .val (.int p2), .val (.ref b2), .unset] [(.int (0 : Int32)), (.ref b2)]))
  refine Go.by (fun _ => XS.iloadN X3.here hx rfl (hb hby at_20) rfl) ?_
  show Go p e below P (T3.setTop (mkF m 21 #[.val (.int p0), .val (.int p1), .val (.int p2), .val (.ref b2), .unset] [(.int p2), (.int (0 : Int32)), (.ref b2)]))
  refine Go.by (fun _ => XS.i2b X3.here hx rfl (hb hby at_21) rfl) ?_
  show Go p e below P (T3.setTop (mkF m 22 #[.val (.int p0), .val (.int p1), .val (.int p2), .val (.ref b2), .unset] [(.int (p2.toInt8.toInt32)), (.int (0 : Int32)), (.ref b2)]))
  have av4 := V2
  obtain ⟨cl4, Ar4, q4, Sz4, Nn4, Ha4, Gf4⟩ := av4
  have hin4 : ¬ ((0 : Int32) < 0 ∨ cl4.slots.size ≤ ((0 : Int32)).toNatClampNeg) := inb_of Sz4 ⟨by decide, by decide⟩
  obtain ⟨T5, h5, X5, e5, W5, st5⟩ := stB X3 hx hZ q3 Ar4 (j := (0 : Int32)) hin4 (g := (mkF m 22 #[.val (.int p0), .val (.int p1), .val (.int p2), .val (.ref b2), .unset] [(.int (p2.toInt8.toInt32)), (.int (0 : Int32)), (.ref b2)])) rfl rfl (hb hby at_22)
  have W5' : Wr T2.heap h5 b2 ((0 : Int32)).toNatClampNeg (.int (p2.toInt8.toInt32).toInt8.toInt32) := W5
  have V5 : Arv Z h5 b2 k2' .byte (6 : Int32) [(.int (p2.toInt8.toInt32).toInt8.toInt32), (.int (83 : Int32)), (.int (84 : Int32)), (.int (82 : Int32)), (.int (1 : Int32)), (.int (own_code p0))] (.int (0 : Int32)) := Arv.set Ar4 q4 Sz4 Nn4 Ha4 Gf4 (fits_nar_byte _) W5' 0 rfl (Nat.le_of_ble_eq_true rfl)
  have N5 := Fr.snoc X5 N3 g_b2
  have f5_0 : n0 ≤ h5.size := (Nat.le_trans f2_0 (Keep.of_wr W5).1)
  have f5_1 : Keep h0 h5 [] := (Keep.wr f2_1 W5 (Or.inr sz_b2))
  have f5_2 : Old Z n0 h5 := (Old.wr f2_2 W5 g_b2)
  refine Go.by st5 ?_
  show Go p e below P (T5.setTop (mkF m 23 #[.val (.int p0), .val (.int p1), .val (.int p2), .val (.ref b2), .unset] []))
  refine Go.by (fun _ => XS.aloadN X5.here hx rfl (hb hby at_23) rfl rfl) ?_
  show Go p e below P (T5.setTop (mkF m 24 #[.val (.int p0), .val (.int p1), .val (.int p2), .val (.ref b2), .unset] [(.ref b2)]))
  refine Go.by (fun _ => XS.iconst X5.here hx rfl (hb hby at_24)) ?_
  show Go p e below P (T5.setTop (mkF m 25 #[.val (.int p0), .val (.int p1), .val (.int p2), .val (.ref b2), .unset] [(.int (1 : Int32)), (.ref b2)]))
  refine Go.by (fun _ => XS.iloadN X5.here hx rfl (hb hby at_25) rfl) ?_
  show Go p e below P (T5.setTop (mkF m 26 #[.val (.int p0), .val (.int p1), .val (.int p2), .val (.ref b2), .unset] [(.int p2), (.int (1 : Int32)), (.ref b2)]))
  refine Go.by (fun _ => XS.bipush X5.here hx rfl (hb hby at_26)) ?_
  show Go p e below P (T5.setTop (mkF m 28 #[.val (.int p0), .val (.int p1), .val (.int p2), .val (.ref b2), .unset] [(.int (8 : Int32)), (.int p2), (.int (1 : Int32)), (.ref b2)]))
  refine Go.by (fun _ => XS.ishr X5.here hx rfl (hb hby at_28) rfl) ?_
  show Go p e below P (T5.setTop (mkF m 29 #[.val (.int p0), .val (.int p1), .val (.int p2), .val (.ref b2), .unset] [(.int (p2 >>> ((8 : Int32) &&& 31))), (.int (1 : Int32)), (.ref b2)]))
  refine Go.by (fun _ => XS.i2b X5.here hx rfl (hb hby at_29) rfl) ?_
  show Go p e below P (T5.setTop (mkF m 30 #[.val (.int p0), .val (.int p1), .val (.int p2), .val (.ref b2), .unset] [(.int ((p2 >>> ((8 : Int32) &&& 31)).toInt8.toInt32)), (.int (1 : Int32)), (.ref b2)]))
  have av6 := V5
  obtain ⟨cl6, Ar6, q6, Sz6, Nn6, Ha6, Gf6⟩ := av6
  have hin6 : ¬ ((1 : Int32) < 0 ∨ cl6.slots.size ≤ ((1 : Int32)).toNatClampNeg) := inb_of Sz6 ⟨by decide, by decide⟩
  obtain ⟨T7, h7, X7, e7, W7, st7⟩ := stB X5 hx hZ e5 Ar6 (j := (1 : Int32)) hin6 (g := (mkF m 30 #[.val (.int p0), .val (.int p1), .val (.int p2), .val (.ref b2), .unset] [(.int ((p2 >>> ((8 : Int32) &&& 31)).toInt8.toInt32)), (.int (1 : Int32)), (.ref b2)])) rfl rfl (hb hby at_30)
  have W7' : Wr h5 h7 b2 ((1 : Int32)).toNatClampNeg (.int ((p2 >>> ((8 : Int32) &&& 31)).toInt8.toInt32).toInt8.toInt32) := W7
  have V7 : Arv Z h7 b2 k2' .byte (6 : Int32) [(.int (p2.toInt8.toInt32).toInt8.toInt32), (.int ((p2 >>> ((8 : Int32) &&& 31)).toInt8.toInt32).toInt8.toInt32), (.int (84 : Int32)), (.int (82 : Int32)), (.int (1 : Int32)), (.int (own_code p0))] (.int (0 : Int32)) := Arv.set Ar6 q6 Sz6 Nn6 Ha6 Gf6 (fits_nar_byte _) W7' 1 rfl (Nat.le_of_ble_eq_true rfl)
  have N7 := Fr.snoc X7 N5 g_b2
  have f7_0 : n0 ≤ h7.size := (Nat.le_trans f5_0 (Keep.of_wr W7).1)
  have f7_1 : Keep h0 h7 [] := (Keep.wr f5_1 W7 (Or.inr sz_b2))
  have f7_2 : Old Z n0 h7 := (Old.wr f5_2 W7 g_b2)
  refine Go.by st7 ?_
  show Go p e below P (T7.setTop (mkF m 31 #[.val (.int p0), .val (.int p1), .val (.int p2), .val (.ref b2), .unset] []))
  refine Go.by (fun _ => XS.aloadN X7.here hx rfl (hb hby at_31) rfl rfl) ?_
  show Go p e below P (T7.setTop (mkF m 32 #[.val (.int p0), .val (.int p1), .val (.int p2), .val (.ref b2), .unset] [(.ref b2)]))
  refine Go.by (fun _ => XS.iconst X7.here hx rfl (hb hby at_32)) ?_
  show Go p e below P (T7.setTop (mkF m 33 #[.val (.int p0), .val (.int p1), .val (.int p2), .val (.ref b2), .unset] [(.int (2 : Int32)), (.ref b2)]))
  refine Go.by (fun _ => XS.iloadN X7.here hx rfl (hb hby at_33) rfl) ?_
  show Go p e below P (T7.setTop (mkF m 34 #[.val (.int p0), .val (.int p1), .val (.int p2), .val (.ref b2), .unset] [(.int p2), (.int (2 : Int32)), (.ref b2)]))
  refine Go.by (fun _ => XS.bipush X7.here hx rfl (hb hby at_34)) ?_
  show Go p e below P (T7.setTop (mkF m 36 #[.val (.int p0), .val (.int p1), .val (.int p2), .val (.ref b2), .unset] [(.int (16 : Int32)), (.int p2), (.int (2 : Int32)), (.ref b2)]))
  refine Go.by (fun _ => XS.ishr X7.here hx rfl (hb hby at_36) rfl) ?_
  show Go p e below P (T7.setTop (mkF m 37 #[.val (.int p0), .val (.int p1), .val (.int p2), .val (.ref b2), .unset] [(.int (p2 >>> ((16 : Int32) &&& 31))), (.int (2 : Int32)), (.ref b2)]))
  refine Go.by (fun _ => XS.i2b X7.here hx rfl (hb hby at_37) rfl) ?_
  show Go p e below P (T7.setTop (mkF m 38 #[.val (.int p0), .val (.int p1), .val (.int p2), .val (.ref b2), .unset] [(.int ((p2 >>> ((16 : Int32) &&& 31)).toInt8.toInt32)), (.int (2 : Int32)), (.ref b2)]))
  have av8 := V7
  obtain ⟨cl8, Ar8, q8, Sz8, Nn8, Ha8, Gf8⟩ := av8
  have hin8 : ¬ ((2 : Int32) < 0 ∨ cl8.slots.size ≤ ((2 : Int32)).toNatClampNeg) := inb_of Sz8 ⟨by decide, by decide⟩
  obtain ⟨T9, h9, X9, e9, W9, st9⟩ := stB X7 hx hZ e7 Ar8 (j := (2 : Int32)) hin8 (g := (mkF m 38 #[.val (.int p0), .val (.int p1), .val (.int p2), .val (.ref b2), .unset] [(.int ((p2 >>> ((16 : Int32) &&& 31)).toInt8.toInt32)), (.int (2 : Int32)), (.ref b2)])) rfl rfl (hb hby at_38)
  have W9' : Wr h7 h9 b2 ((2 : Int32)).toNatClampNeg (.int ((p2 >>> ((16 : Int32) &&& 31)).toInt8.toInt32).toInt8.toInt32) := W9
  have V9 : Arv Z h9 b2 k2' .byte (6 : Int32) [(.int (p2.toInt8.toInt32).toInt8.toInt32), (.int ((p2 >>> ((8 : Int32) &&& 31)).toInt8.toInt32).toInt8.toInt32), (.int ((p2 >>> ((16 : Int32) &&& 31)).toInt8.toInt32).toInt8.toInt32), (.int (82 : Int32)), (.int (1 : Int32)), (.int (own_code p0))] (.int (0 : Int32)) := Arv.set Ar8 q8 Sz8 Nn8 Ha8 Gf8 (fits_nar_byte _) W9' 2 rfl (Nat.le_of_ble_eq_true rfl)
  have N9 := Fr.snoc X9 N7 g_b2
  have f9_0 : n0 ≤ h9.size := (Nat.le_trans f7_0 (Keep.of_wr W9).1)
  have f9_1 : Keep h0 h9 [] := (Keep.wr f7_1 W9 (Or.inr sz_b2))
  have f9_2 : Old Z n0 h9 := (Old.wr f7_2 W9 g_b2)
  refine Go.by st9 ?_
  show Go p e below P (T9.setTop (mkF m 39 #[.val (.int p0), .val (.int p1), .val (.int p2), .val (.ref b2), .unset] []))
  refine Go.by (fun _ => XS.aloadN X9.here hx rfl (hb hby at_39) rfl rfl) ?_
  show Go p e below P (T9.setTop (mkF m 40 #[.val (.int p0), .val (.int p1), .val (.int p2), .val (.ref b2), .unset] [(.ref b2)]))
  refine Go.by (fun _ => XS.iconst X9.here hx rfl (hb hby at_40)) ?_
  show Go p e below P (T9.setTop (mkF m 41 #[.val (.int p0), .val (.int p1), .val (.int p2), .val (.ref b2), .unset] [(.int (3 : Int32)), (.ref b2)]))
  refine Go.by (fun _ => XS.iloadN X9.here hx rfl (hb hby at_41) rfl) ?_
  show Go p e below P (T9.setTop (mkF m 42 #[.val (.int p0), .val (.int p1), .val (.int p2), .val (.ref b2), .unset] [(.int p2), (.int (3 : Int32)), (.ref b2)]))
  refine Go.by (fun _ => XS.bipush X9.here hx rfl (hb hby at_42)) ?_
  show Go p e below P (T9.setTop (mkF m 44 #[.val (.int p0), .val (.int p1), .val (.int p2), .val (.ref b2), .unset] [(.int (24 : Int32)), (.int p2), (.int (3 : Int32)), (.ref b2)]))
  refine Go.by (fun _ => XS.ishr X9.here hx rfl (hb hby at_44) rfl) ?_
  show Go p e below P (T9.setTop (mkF m 45 #[.val (.int p0), .val (.int p1), .val (.int p2), .val (.ref b2), .unset] [(.int (p2 >>> ((24 : Int32) &&& 31))), (.int (3 : Int32)), (.ref b2)]))
  refine Go.by (fun _ => XS.i2b X9.here hx rfl (hb hby at_45) rfl) ?_
  show Go p e below P (T9.setTop (mkF m 46 #[.val (.int p0), .val (.int p1), .val (.int p2), .val (.ref b2), .unset] [(.int ((p2 >>> ((24 : Int32) &&& 31)).toInt8.toInt32)), (.int (3 : Int32)), (.ref b2)]))
  have av10 := V9
  obtain ⟨cl10, Ar10, q10, Sz10, Nn10, Ha10, Gf10⟩ := av10
  have hin10 : ¬ ((3 : Int32) < 0 ∨ cl10.slots.size ≤ ((3 : Int32)).toNatClampNeg) := inb_of Sz10 ⟨by decide, by decide⟩
  obtain ⟨T11, h11, X11, e11, W11, st11⟩ := stB X9 hx hZ e9 Ar10 (j := (3 : Int32)) hin10 (g := (mkF m 46 #[.val (.int p0), .val (.int p1), .val (.int p2), .val (.ref b2), .unset] [(.int ((p2 >>> ((24 : Int32) &&& 31)).toInt8.toInt32)), (.int (3 : Int32)), (.ref b2)])) rfl rfl (hb hby at_46)
  have W11' : Wr h9 h11 b2 ((3 : Int32)).toNatClampNeg (.int ((p2 >>> ((24 : Int32) &&& 31)).toInt8.toInt32).toInt8.toInt32) := W11
  have V11 : Arv Z h11 b2 k2' .byte (6 : Int32) [(.int (p2.toInt8.toInt32).toInt8.toInt32), (.int ((p2 >>> ((8 : Int32) &&& 31)).toInt8.toInt32).toInt8.toInt32), (.int ((p2 >>> ((16 : Int32) &&& 31)).toInt8.toInt32).toInt8.toInt32), (.int ((p2 >>> ((24 : Int32) &&& 31)).toInt8.toInt32).toInt8.toInt32), (.int (1 : Int32)), (.int (own_code p0))] (.int (0 : Int32)) := Arv.set Ar10 q10 Sz10 Nn10 Ha10 Gf10 (fits_nar_byte _) W11' 3 rfl (Nat.le_of_ble_eq_true rfl)
  have N11 := Fr.snoc X11 N9 g_b2
  have f11_0 : n0 ≤ h11.size := (Nat.le_trans f9_0 (Keep.of_wr W11).1)
  have f11_1 : Keep h0 h11 [] := (Keep.wr f9_1 W11 (Or.inr sz_b2))
  have f11_2 : Old Z n0 h11 := (Old.wr f9_2 W11 g_b2)
  refine Go.by st11 ?_
  show Go p e below P (T11.setTop (mkF m 47 #[.val (.int p0), .val (.int p1), .val (.int p2), .val (.ref b2), .unset] []))
  refine Go.by (fun _ => XS.aloadN X11.here hx rfl (hb hby at_47) rfl rfl) ?_
  show Go p e below P (T11.setTop (mkF m 48 #[.val (.int p0), .val (.int p1), .val (.int p2), .val (.ref b2), .unset] [(.ref b2)]))
  refine Go.by (fun _ => XS.iconst X11.here hx rfl (hb hby at_48)) ?_
  show Go p e below P (T11.setTop (mkF m 49 #[.val (.int p0), .val (.int p1), .val (.int p2), .val (.ref b2), .unset] [(.int (4 : Int32)), (.ref b2)]))
  refine Go.by (fun _ => XS.iloadN X11.here hx rfl (hb hby at_49) rfl) ?_
  show Go p e below P (T11.setTop (mkF m 50 #[.val (.int p0), .val (.int p1), .val (.int p2), .val (.ref b2), .unset] [(.int p2), (.int (4 : Int32)), (.ref b2)]))
  refine Go.by (fun _ => XS.i2b X11.here hx rfl (hb hby at_50) rfl) ?_
  show Go p e below P (T11.setTop (mkF m 51 #[.val (.int p0), .val (.int p1), .val (.int p2), .val (.ref b2), .unset] [(.int (p2.toInt8.toInt32)), (.int (4 : Int32)), (.ref b2)]))
  have av12 := V11
  obtain ⟨cl12, Ar12, q12, Sz12, Nn12, Ha12, Gf12⟩ := av12
  have hin12 : ¬ ((4 : Int32) < 0 ∨ cl12.slots.size ≤ ((4 : Int32)).toNatClampNeg) := inb_of Sz12 ⟨by decide, by decide⟩
  obtain ⟨T13, h13, X13, e13, W13, st13⟩ := stB X11 hx hZ e11 Ar12 (j := (4 : Int32)) hin12 (g := (mkF m 51 #[.val (.int p0), .val (.int p1), .val (.int p2), .val (.ref b2), .unset] [(.int (p2.toInt8.toInt32)), (.int (4 : Int32)), (.ref b2)])) rfl rfl (hb hby at_51)
  have W13' : Wr h11 h13 b2 ((4 : Int32)).toNatClampNeg (.int (p2.toInt8.toInt32).toInt8.toInt32) := W13
  have V13 : Arv Z h13 b2 k2' .byte (6 : Int32) [(.int (p2.toInt8.toInt32).toInt8.toInt32), (.int ((p2 >>> ((8 : Int32) &&& 31)).toInt8.toInt32).toInt8.toInt32), (.int ((p2 >>> ((16 : Int32) &&& 31)).toInt8.toInt32).toInt8.toInt32), (.int ((p2 >>> ((24 : Int32) &&& 31)).toInt8.toInt32).toInt8.toInt32), (.int (p2.toInt8.toInt32).toInt8.toInt32), (.int (own_code p0))] (.int (0 : Int32)) := Arv.set Ar12 q12 Sz12 Nn12 Ha12 Gf12 (fits_nar_byte _) W13' 4 rfl (Nat.le_of_ble_eq_true rfl)
  have N13 := Fr.snoc X13 N11 g_b2
  have f13_0 : n0 ≤ h13.size := (Nat.le_trans f11_0 (Keep.of_wr W13).1)
  have f13_1 : Keep h0 h13 [] := (Keep.wr f11_1 W13 (Or.inr sz_b2))
  have f13_2 : Old Z n0 h13 := (Old.wr f11_2 W13 g_b2)
  refine Go.by st13 ?_
  show Go p e below P (T13.setTop (mkF m 52 #[.val (.int p0), .val (.int p1), .val (.int p2), .val (.ref b2), .unset] []))
  refine Go.by (fun _ => XS.aloadN X13.here hx rfl (hb hby at_52) rfl rfl) ?_
  show Go p e below P (T13.setTop (mkF m 53 #[.val (.int p0), .val (.int p1), .val (.int p2), .val (.ref b2), .unset] [(.ref b2)]))
  refine Go.by (fun _ => XS.iconst X13.here hx rfl (hb hby at_53)) ?_
  show Go p e below P (T13.setTop (mkF m 54 #[.val (.int p0), .val (.int p1), .val (.int p2), .val (.ref b2), .unset] [(.int (5 : Int32)), (.ref b2)]))
  refine Go.by (fun _ => XS.iloadN X13.here hx rfl (hb hby at_54) rfl) ?_
  show Go p e below P (T13.setTop (mkF m 55 #[.val (.int p0), .val (.int p1), .val (.int p2), .val (.ref b2), .unset] [(.int p2), (.int (5 : Int32)), (.ref b2)]))
  refine Go.by (fun _ => XS.bipush X13.here hx rfl (hb hby at_55)) ?_
  show Go p e below P (T13.setTop (mkF m 57 #[.val (.int p0), .val (.int p1), .val (.int p2), .val (.ref b2), .unset] [(.int (8 : Int32)), (.int p2), (.int (5 : Int32)), (.ref b2)]))
  refine Go.by (fun _ => XS.ishr X13.here hx rfl (hb hby at_57) rfl) ?_
  show Go p e below P (T13.setTop (mkF m 58 #[.val (.int p0), .val (.int p1), .val (.int p2), .val (.ref b2), .unset] [(.int (p2 >>> ((8 : Int32) &&& 31))), (.int (5 : Int32)), (.ref b2)]))
  refine Go.by (fun _ => XS.i2b X13.here hx rfl (hb hby at_58) rfl) ?_
  show Go p e below P (T13.setTop (mkF m 59 #[.val (.int p0), .val (.int p1), .val (.int p2), .val (.ref b2), .unset] [(.int ((p2 >>> ((8 : Int32) &&& 31)).toInt8.toInt32)), (.int (5 : Int32)), (.ref b2)]))
  have av14 := V13
  obtain ⟨cl14, Ar14, q14, Sz14, Nn14, Ha14, Gf14⟩ := av14
  have hin14 : ¬ ((5 : Int32) < 0 ∨ cl14.slots.size ≤ ((5 : Int32)).toNatClampNeg) := inb_of Sz14 ⟨by decide, by decide⟩
  obtain ⟨T15, h15, X15, e15, W15, st15⟩ := stB X13 hx hZ e13 Ar14 (j := (5 : Int32)) hin14 (g := (mkF m 59 #[.val (.int p0), .val (.int p1), .val (.int p2), .val (.ref b2), .unset] [(.int ((p2 >>> ((8 : Int32) &&& 31)).toInt8.toInt32)), (.int (5 : Int32)), (.ref b2)])) rfl rfl (hb hby at_59)
  have W15' : Wr h13 h15 b2 ((5 : Int32)).toNatClampNeg (.int ((p2 >>> ((8 : Int32) &&& 31)).toInt8.toInt32).toInt8.toInt32) := W15
  have V15 : Arv Z h15 b2 k2' .byte (6 : Int32) [(.int (p2.toInt8.toInt32).toInt8.toInt32), (.int ((p2 >>> ((8 : Int32) &&& 31)).toInt8.toInt32).toInt8.toInt32), (.int ((p2 >>> ((16 : Int32) &&& 31)).toInt8.toInt32).toInt8.toInt32), (.int ((p2 >>> ((24 : Int32) &&& 31)).toInt8.toInt32).toInt8.toInt32), (.int (p2.toInt8.toInt32).toInt8.toInt32), (.int ((p2 >>> ((8 : Int32) &&& 31)).toInt8.toInt32).toInt8.toInt32)] (.int (0 : Int32)) := Arv.set Ar14 q14 Sz14 Nn14 Ha14 Gf14 (fits_nar_byte _) W15' 5 rfl (Nat.le_of_ble_eq_true rfl)
  have N15 := Fr.snoc X15 N13 g_b2
  have f15_0 : n0 ≤ h15.size := (Nat.le_trans f13_0 (Keep.of_wr W15).1)
  have f15_1 : Keep h0 h15 [] := (Keep.wr f13_1 W15 (Or.inr sz_b2))
  have f15_2 : Old Z n0 h15 := (Old.wr f13_2 W15 g_b2)
  refine Go.by st15 ?_
  show Go p e below P (T15.setTop (mkF m 60 #[.val (.int p0), .val (.int p1), .val (.int p2), .val (.ref b2), .unset] []))
  refine Go.by (fun _ => XS.iloadN X15.here hx rfl (hb hby at_60) rfl) ?_
  show Go p e below P (T15.setTop (mkF m 61 #[.val (.int p0), .val (.int p1), .val (.int p2), .val (.ref b2), .unset] [(.int p1)]))
  obtain ⟨_, _, ⟨T16, L16, k16, n16⟩, -, X16, ⟨Lc16, hQ16, l16, y16, z16⟩, st16⟩ := Jvm.LawKit.callS X15 hx (y := (⟨"com/example/tierstone/tierstone/core/StreamFormatHeaderPinLaw", "pick", "(I)Lcom/example/tierstone/tierstone/core/StreamFormat$Kind;"⟩ : MethodName)) hown (mvT hZ (tw_0 hw)) (mvT hZ (tw_1 hw)) (mvT hZ (tw_2 hw)) (mvT hZ (tw_3 hw)) (by decide) (backOf (W := 0) (rm_pick l Z a0 hw [] p1 aT aC aA aB h15 n0 f15_0 f15_2 SaT SaC SaA SaB) hZ (tw_3 hw) (tw_2 hw) (by decide) (by decide)) (g := (mkF m 61 #[.val (.int p0), .val (.int p1), .val (.int p2), .val (.ref b2), .unset] [(.int p1)])) rfl (by rw [hml]; rfl) (argsL := [(.int p1)]) (rest := []) (lenOf pd__I_Lcom_example_tierstone_tierstone_core_StreamFormat_Kind_ rfl) rfl (by show 2 * 0 + _ ≤ _; exact Nat.le_of_eq rfl) (hb hby at_61) (fun _ _ => ⟨rfl, e15, (by decide : 1 + 0 ≤ _), (by decide : 6 + 0 ≤ _)⟩)
  dsimp only [Pt.U, Pt.locs, Pt.cells, Pt.slots] at X16 l16 y16 z16 st16 hQ16
  subst l16 y16 z16
  obtain ⟨rfl, N16q, q16⟩ := hQ16
  have N16 := Fr.app N15 N16q
  refine Go.by (fun t k => st16 t k) ?_
  show Go p e below P (T16.setTop (mkF m 64 #[.val (.int p0), .val (.int p1), .val (.int p2), .val (.ref b2), .unset] [(.ref (own_pick p1 aT aC aA aB))]))
  obtain ⟨_, _, ⟨T17, L17, k17, n17⟩, -, X17, ⟨Lc17, hQ17, l17, y17, z17⟩, st17⟩ := Jvm.LawKit.callS X16 hx (y := (⟨"com/example/tierstone/tierstone/core/StreamFormat", "header", "(Lcom/example/tierstone/tierstone/core/StreamFormat$Kind;)[B"⟩ : MethodName)) hown (mvT hZ (tw_7 hw)) (mvT hZ (tw_8 hw)) (mvT hZ (tw_9 hw)) (mvT hZ (tw_10 hw)) (by decide) (backOf (W := 0) (rm_header l Z a0 hw [] (own_pick p1 aT aC aA aB) (own_code p1) aM kM h15 n0 f15_0 f15_2 SM VM (own_pick_fld p1 (Fld.ext f15_2.2 FaT) (Fld.ext f15_2.2 FaC) (Fld.ext f15_2.2 FaA) (Fld.ext f15_2.2 FaB)) (own_code_byte p1) (f15_2.1 ▸ (own_pick_fld p1 FaT FaC FaA FaB).lt)) hZ (tw_10 hw) (tw_9 hw) (by decide) (by decide)) (g := (mkF m 64 #[.val (.int p0), .val (.int p1), .val (.int p2), .val (.ref b2), .unset] [(.ref (own_pick p1 aT aC aA aB))])) rfl (by rw [hml]; rfl) (argsL := [(.ref (own_pick p1 aT aC aA aB))]) (rest := []) (lenOf pd__Lcom_example_tierstone_tierstone_core_StreamFormat_Kind___B rfl) rfl (by show 2 * 0 + _ ≤ _; exact Nat.le_of_eq rfl) (hb hby at_64) (fun _ _ => ⟨rfl, (q16.trans rfl), (by decide : 1 + 1 ≤ _), (by decide : 6 + 6 ≤ _)⟩)
  dsimp only [Pt.U, Pt.locs, Pt.cells, Pt.slots] at X17 l17 y17 z17 st17 hQ17
  subst l17 y17 z17
  obtain ⟨b17, k17', rfl, N17q, K17, z17, V17⟩ := hQ17
  have N17 := Fr.app N16 N17q
  refine Go.by (fun t k => st17 t k) ?_
  have f17_0 : n0 ≤ T17.heap.size := (Nat.le_trans f15_0 K17.1)
  have f17_1 : Keep h0 T17.heap [] := (Keep.trans f15_1 K17 all0)
  have f17_2 : Old Z n0 T17.heap := (Old.keep f15_2 K17 all0)
  have f17_3 : Arv Z T17.heap b2 k2' .byte (6 : Int32) [(.int (p2.toInt8.toInt32).toInt8.toInt32), (.int ((p2 >>> ((8 : Int32) &&& 31)).toInt8.toInt32).toInt8.toInt32), (.int ((p2 >>> ((16 : Int32) &&& 31)).toInt8.toInt32).toInt8.toInt32), (.int ((p2 >>> ((24 : Int32) &&& 31)).toInt8.toInt32).toInt8.toInt32), (.int (p2.toInt8.toInt32).toInt8.toInt32), (.int ((p2 >>> ((8 : Int32) &&& 31)).toInt8.toInt32).toInt8.toInt32)] (.int (0 : Int32)) := (Arv.keep V15 K17 nin0)
  have g_b17 : n0 ≤ b17 := Nat.le_trans f15_0 z17
  have sz_b17 : h0.size ≤ b17 := Nat.le_trans f15_1.1 z17
  show Go p e below P (T17.setTop (mkF m 67 #[.val (.int p0), .val (.int p1), .val (.int p2), .val (.ref b2), .unset] [(.ref b17)]))
  refine Go.by (fun _ => XS.astore X17.here hx rfl (hb hby at_67) rfl rfl (l' := #[.val (.int p0), .val (.int p1), .val (.int p2), .val (.ref b2), .val (.ref b17)]) rfl) ?_
  show Go p e below P (T17.setTop (mkF m 69 #[.val (.int p0), .val (.int p1), .val (.int p2), .val (.ref b2), .val (.ref b17)] []))
  refine Go.by (fun _ => XS.aload X17.here hx rfl (hb hby at_69) rfl rfl) ?_
  show Go p e below P (T17.setTop (mkF m 71 #[.val (.int p0), .val (.int p1), .val (.int p2), .val (.ref b2), .val (.ref b17)] [(.ref b17)]))
  refine Go.by (fun _ => XS.iloadN X17.here hx rfl (hb hby at_71) rfl) ?_
  show Go p e below P (T17.setTop (mkF m 72 #[.val (.int p0), .val (.int p1), .val (.int p2), .val (.ref b2), .val (.ref b17)] [(.int p1), (.ref b17)]))
  obtain ⟨_, _, ⟨T18, L18, k18, n18⟩, -, X18, ⟨Lc18, hQ18, l18, y18, z18⟩, st18⟩ := Jvm.LawKit.callS X17 hx (y := (⟨"com/example/tierstone/tierstone/core/StreamFormatHeaderPinLaw", "ok", "([BI)Z"⟩ : MethodName)) hown (mvT hZ (tw_28 hw)) (mvT hZ (tw_29 hw)) (mvT hZ (tw_2 hw)) (mvT hZ (tw_30 hw)) (by decide) (backOf (W := 0) (rm_ok l Z a0 hw [] b17 k17' p1 T17.heap n0 f17_0 V17) hZ (tw_30 hw) (tw_2 hw) (by decide) (by decide)) (g := (mkF m 72 #[.val (.int p0), .val (.int p1), .val (.int p2), .val (.ref b2), .val (.ref b17)] [(.int p1), (.ref b17)])) rfl (by rw [hml]; rfl) (argsL := [(.ref b17), (.int p1)]) (rest := []) (lenOf pd___BI_Z rfl) rfl (by show 2 * 0 + _ ≤ _; exact Nat.le_of_eq rfl) (hb hby at_72) (fun _ _ => ⟨rfl, rfl, (by decide : 2 + 0 ≤ _), (by decide : 12 + 0 ≤ _)⟩)
  dsimp only [Pt.U, Pt.locs, Pt.cells, Pt.slots] at X18 l18 y18 z18 st18 hQ18
  subst l18 y18 z18
  obtain ⟨rfl, N18q, q18⟩ := hQ18
  have N18 := Fr.app N17 N18q
  refine Go.by (fun t k => st18 t k) ?_
  show Go p e below P (T18.setTop (mkF m 75 #[.val (.int p0), .val (.int p1), .val (.int p2), .val (.ref b2), .val (.ref b17)] [(.int (1 : Int32))]))
  refine fin X18 (v := some (.int (1 : Int32))) (fun h => by rw [Bd.returns] at h; cases h) (by decide) (by decide) ?_ (fun fs hr => retOut X18 hx Bd.returns rfl (Or.inl ⟨rfl, Or.inr (Or.inl rfl), _, rfl⟩) (hb hby at_75) hr)
  show Q_law Z p0 p1 p2 aT aC aA aB aM kM h0 n0 _ T18.heap _
  rw [q18]
  exact ⟨rfl, N18⟩
set_option maxRecDepth 65536 in
set_option maxHeartbeats 40000000 in
theorem comes_1 {Post : Tables → Env → Array Value → State → Outcome → State → Prop} (hpost : ∀ tb e args s v u, (limb_1_1.after args s (.returned v) u = true ∧ limb_1_2.after args s (.returned v) u = true ∧ True) → FrameEnd s (.returned v) u (Jvm.fieldLocs frame_1_writes args s ++ Jvm.arrayLocs frame_1_arrays args s ++ Jvm.staticLocs frame_1_statics s) 16 128 → Post tb e args s (.returned v) u) :
    ArmFor flags0 classFile x code maxLocals ret World_1 tables_1 room_1 Calls_1 rest_1 Pre_1 Post := by
  intro l hfl _ _ p e ha hc hk s m args below hf hA hF happ hP
  obtain ⟨hcalls, hrest, hpre⟩ := hP
  obtain ⟨-, -, -, hnamed, -, -, -, hat⟩ := (Spec.applies_iff hf).mp happ
  obtain ⟨hg, hn⟩ := and_e (Cond.before_iff.mp (show (Jvm.Cond.and given_1 narrow_1).before args s = true from hpre))
  obtain ⟨hg_0, hg_1⟩ := and_e hg
  obtain ⟨hg_2, hg_3⟩ := and_e hg_1
  obtain ⟨hg_4, hg_5⟩ := and_e hg_3
  obtain ⟨w0, w1, w2, rfl⟩ : ∃ w0 w1 w2 : Value, args = #[w0, w1, w2] := by
    have hs : args.size = 3 := by simpa [Cond.value, given_1] using hg_0
    obtain ⟨L⟩ := args
    match L, hs with
    | [w0, w1, w2], _ => exact ⟨w0, w1, w2, rfl⟩
  have hw := fun d (hd : d ∈ tables_1) => atoms_spec (ws := Jvm.Cond.code x code maxLocals ret :: tables_1) hat d (List.mem_cons_of_mem _ hd)
  have hfit : Fit s := fun {y c} hc i hi => by
    obtain ⟨ha, rfl⟩ := Array.getElem?_eq_some_iff.mp hc
    have q := List.all_eq_true.mp ((Array.all_eq_true_iff_forall_mem.mp hF) _ (Array.getElem_mem ha)) i (List.mem_range.mpr hi)
    simpa [Array.getElem?_eq_getElem hi] using q
  obtain ⟨i0, ei0⟩ := is_v hg_2
  obtain rfl : w0 = (.int i0) := Option.some.inj ei0
  obtain ⟨i1, ei1⟩ := is_v hg_4
  obtain rfl : w1 = (.int i1) := Option.some.inj ei1
  obtain ⟨i2, ei2⟩ := is_v hg_5
  obtain rfl : w2 = (.int i2) := Option.some.inj ei2
  obtain ⟨hn_0, hn_1⟩ := and_e hn
  obtain ⟨hn_2, hn_3⟩ := and_e hn_1
  obtain ⟨hn_4, hn_5⟩ := and_e hn_3
  obtain ⟨hn_6, hn_7⟩ := and_e hn_5
  obtain ⟨hn_8, hn_9⟩ := and_e hn_7
  obtain ⟨hn_10, hn_11⟩ := and_e hn_9
  obtain ⟨hn_12, hn_13⟩ := and_e hn_11
  obtain ⟨hn_14, hn_15⟩ := and_e hn_13
  obtain ⟨hn_16, hn_17⟩ := and_e hn_15
  obtain ⟨hn_18, hn_19⟩ := and_e hn_17
  obtain ⟨hn_20, hn_21⟩ := and_e hn_19
  obtain ⟨hn_22, hn_23⟩ := and_e hn_21
  obtain ⟨hn_24, hn_25⟩ := and_e hn_23
  obtain ⟨hn_26, hn_27⟩ := and_e hn_25
  obtain ⟨aT, evaT⟩ := exa_v hn_0
  have FaT := own_fint evaT hn_16
  have SaT := Sta.start evaT (Or.inr ⟨(tw_5 hw), (tw_6 hw)⟩)
  obtain ⟨aC, evaC⟩ := exa_v hn_22
  have FaC := own_fint evaC hn_24
  have SaC := Sta.start evaC (Or.inr ⟨(tw_5 hw), (tw_37 hw)⟩)
  obtain ⟨aA, evaA⟩ := exa_v hn_26
  have FaA := own_fint evaA hn_27
  have SaA := Sta.start evaA (Or.inr ⟨(tw_5 hw), (tw_39 hw)⟩)
  obtain ⟨aB, evaB⟩ := exa_v hn_18
  have FaB := own_fint evaB hn_20
  have SaB := Sta.start evaB (Or.inr ⟨(tw_5 hw), (tw_35 hw)⟩)
  obtain ⟨aM, evM⟩ := arr_v hn_2
  obtain ⟨clM, AM⟩ := Arr.start evM hn_2
  have SM := Sta.start evM (Or.inr ⟨(tw_9 hw), (tw_12 hw)⟩)
  have VM := own_arr4 hfit evM AM hn_6 hn_8 hn_10 hn_12 hn_14
  obtain ⟨n, o, h1, h2, h3, _, L, rfl, ⟨rfl, N⟩, hq⟩ := rm_law l s _ hw tables_1 i0 i1 i2 aT aC aA aB aM clM.cls s.heap s.heap.size (Nat.le_refl _) (Old.start s) SaT SaC SaA SaB FaT FaC FaA FaB SM VM p e ha hc hk s m _ below hf ((Spec.applies_iff_loose hf).mp happ).1 ⟨rfl, State.Warmed39.refl s, rfl⟩ trivial
  refine ⟨n, _, h1, h2, h3, hpost _ _ _ _ _ _ ⟨Cond.after_iff.mpr rfl, Cond.after_iff.mpr (eq_i res_at (Term.int_eval (1)) rfl), trivial⟩ ⟨hq.1, hq.2.1, (hq.2.2.sift fun y hy => Or.inr (N y hy)).mono (by decide) (by decide)⟩⟩
theorem main_1_1 : Claimed_1_1 := comes_1 fun _ _ _ _ _ _ h hF => ⟨h.1, hF⟩
theorem main_1_2 : Claimed_1_2 := comes_1 fun _ _ _ _ _ _ h hF => ⟨h.2.1, hF⟩
end Jvm.Pilot.@@N@@
namespace Jvm.Pilot.@@N@@
open Jvm Jvm.ClassFile Sem Op Lib Jvm.Free Jvm.Stand Jvm.Pilot.@@N@@.Jvm.D
/-! MADE BY PROGRAM (witnessworld.py) out of the Statement's table words and the real class files: 16 classes; the members and pool entries that the words name. The judged class is class 1, her method 4. -/
namespace start1
open Jvm.ClassFile
def u (s : String) : CpInfo := .utf8 (stringToUtf16 s)
/-- a pool by its gaps: so many unusable entries, then the entry; so many at the end -/
def gap : Nat → List CpInfo → List CpInfo
  | 0, r => r
  | n + 1, r => .unusable :: gap n r
def poolList (es : List (Nat × CpInfo)) (last : Nat) : List CpInfo := es.foldr (fun e r => gap e.1 (e.2 :: r)) (gap last [])
def pool (es : List (Nat × CpInfo)) (last : Nat) : Array CpInfo := ⟨poolList es last⟩
def fileOf (pool : Array CpInfo) (this : Nat) (attrs : Array Attribute := #[]) (ms : Array MethodInfo := #[]) (fl : Nat := 33) (sup : Nat := 0) (ifs : Array Nat := #[]) (fds : Array FieldInfo := #[]) : ClassFile where
  minorVersion := 0
  majorVersion := 65
  constantPool := pool
  accessFlags := fl
  thisClass := this
  superClass := sup
  interfaces := ifs
  fields := fds
  methods := ms
  attributes := attrs
def plain (name : String) (sup : Option ClassId) : Class where
  name := name
  kind := .ordinary
  loader := none
  accessFlags := 33
  super := sup
  interfaces := #[]
  cf := none
  fields := #[]
  methods := #[]
  instanceTypes := #[]
  staticTypes := #[]
  resolved := #[]
  callSites := []
  init := .initialized
  statics := none
  mirror := none

def pool0 : Array CpInfo := pool [(5, u "<init>"), (0, u "()V"), (1, .class_ 10), (1, u "java/lang/Object")] 113

def k0m0 : Method := { name := "<init>", desc := "()V", sig := { parameters := [], returnType := none }, accessFlags := 1, code := none }
/-- java/lang/Object -/
def k0 : Class := { plain "java/lang/Object" none with
  accessFlags := 33
  interfaces := #[]
  cf := some (fileOf pool0 8 #[] #[{ accessFlags := 1, nameIndex := 5, descriptorIndex := 6, attributes := #[] }] 33 0 #[] #[])
  fields := #[]
  methods := #[k0m0]
  instanceTypes := #[]
  staticTypes := #[]
  resolved := Array.replicate 124 none
  statics := none }

def pool1 : Array CpInfo := pool [(2, .class_ 4), (1, u "java/lang/Object"), (0, u "<init>"), (0, u "()V"), (0, .fieldref 8 9), (0, .class_ 10), (0, .nameAndType 11 12), (0, u "com/example/tierstone/tierstone/core/StreamFormat$Kind"), (0, u "TABLE"), (0, u "Lcom/example/tierstone/tierstone/core/StreamFormat$Kind;"), (0, .fieldref 8 14), (0, .nameAndType 15 12), (0, u "CHANGE_SET"), (0, .fieldref 8 17), (0, .nameAndType 18 12), (0, u "ANSWER"), (0, .fieldref 8 20), (0, .nameAndType 21 12), (0, u "BRIEFCASE"), (0, .methodref 23 24), (0, .class_ 25), (0, .nameAndType 26 27), (0, u "com/example/tierstone/tierstone/core/StreamFormatHeaderPinLaw"), (0, u "code"), (0, u "(I)B"), (0, .methodref 23 29), (0, .nameAndType 30 31), (0, u "pick"), (0, u "(I)Lcom/example/tierstone/tierstone/core/StreamFormat$Kind;"), (0, .methodref 33 34), (0, .class_ 35), (0, .nameAndType 36 37), (0, u "com/example/tierstone/tierstone/core/StreamFormat"), (0, u "header"), (0, u "(Lcom/example/tierstone/tierstone/core/StreamFormat$Kind;)[B"), (0, .methodref 23 39), (0, .nameAndType 40 41), (0, u "ok"), (0, u "([BI)Z"), (3, u "law"), (0, u "(III)Z")] 6

def k1m0 : Method := { name := "<init>", desc := "()V", sig := { parameters := [], returnType := none }, accessFlags := 2, code := none }
def k1c1 : Code := { maxStack := 2, maxLocals := 2, code := method_2_code, exceptionTable := #[], attributes := #[] }
def k1m1 : Method := { name := "pick", desc := "(I)Lcom/example/tierstone/tierstone/core/StreamFormat$Kind;", sig := { parameters := [.int], returnType := some (.object "com/example/tierstone/tierstone/core/StreamFormat$Kind") }, accessFlags := 10, code := some k1c1 }
def k1c2 : Code := { maxStack := 2, maxLocals := 2, code := method_3_code, exceptionTable := #[], attributes := #[] }
def k1m2 : Method := { name := "code", desc := "(I)B", sig := { parameters := [.int], returnType := some .byte }, accessFlags := 10, code := some k1c2 }
def k1c3 : Code := { maxStack := 2, maxLocals := 2, code := method_4_code, exceptionTable := #[], attributes := #[] }
def k1m3 : Method := { name := "ok", desc := "([BI)Z", sig := { parameters := [(.array .byte), .int], returnType := some .boolean }, accessFlags := 10, code := some k1c3 }
def k1c4 : Code := { maxStack := 4, maxLocals := 5, code := code, exceptionTable := #[], attributes := #[] }
def k1m4 : Method := { name := "law", desc := "(III)Z", sig := { parameters := [.int, .int, .int], returnType := some .boolean }, accessFlags := 9, code := some k1c4 }
/-- com/example/tierstone/tierstone/core/StreamFormatHeaderPinLaw -/
def k1 : Class := { plain "com/example/tierstone/tierstone/core/StreamFormatHeaderPinLaw" (some 0) with
  accessFlags := 49
  interfaces := #[]
  cf := some (fileOf pool1 23 #[] #[{ accessFlags := 2, nameIndex := 5, descriptorIndex := 6, attributes := #[] }, { accessFlags := 10, nameIndex := 30, descriptorIndex := 31, attributes := #[] }, { accessFlags := 10, nameIndex := 26, descriptorIndex := 27, attributes := #[] }, { accessFlags := 10, nameIndex := 40, descriptorIndex := 41, attributes := #[] }, { accessFlags := 9, nameIndex := 45, descriptorIndex := 46, attributes := #[] }] 49 2 #[] #[])
  fields := #[]
  methods := #[k1m0, k1m1, k1m2, k1m3, k1m4]
  instanceTypes := #[]
  staticTypes := #[]
  resolved := Array.replicate 53 none
  statics := none }

def pool2 : Array CpInfo := pool [(1, .class_ 2), (0, u "java/lang/constant/Constable"), (0, .class_ 4), (0, u "java/lang/Object")] 6

/-- java/lang/constant/Constable -/
def k2 : Class := { plain "java/lang/constant/Constable" (some 0) with
  accessFlags := 1537
  interfaces := #[]
  cf := some (fileOf pool2 1 #[] #[] 1537 3 #[] #[])
  fields := #[]
  methods := #[]
  instanceTypes := #[]
  staticTypes := #[]
  resolved := Array.replicate 11 none
  statics := none }

def pool3 : Array CpInfo := pool [(1, .class_ 2), (0, u "java/lang/Comparable"), (0, .class_ 4), (0, u "java/lang/Object")] 7

/-- java/lang/Comparable -/
def k3 : Class := { plain "java/lang/Comparable" (some 0) with
  accessFlags := 1537
  interfaces := #[]
  cf := some (fileOf pool3 1 #[] #[] 1537 3 #[] #[])
  fields := #[]
  methods := #[]
  instanceTypes := #[]
  staticTypes := #[]
  resolved := Array.replicate 12 none
  statics := none }

def pool4 : Array CpInfo := pool [(1, .class_ 2), (0, u "java/io/Serializable"), (0, .class_ 4), (0, u "java/lang/Object")] 2

/-- java/io/Serializable -/
def k4 : Class := { plain "java/io/Serializable" (some 0) with
  accessFlags := 1537
  interfaces := #[]
  cf := some (fileOf pool4 1 #[] #[] 1537 3 #[] #[])
  fields := #[]
  methods := #[]
  instanceTypes := #[]
  staticTypes := #[]
  resolved := Array.replicate 7 none
  statics := none }

def pool5 : Array CpInfo := pool [(2, .class_ 4), (1, u "java/lang/Enum"), (0, u "name"), (0, u "Ljava/lang/String;"), (2, u "ordinal"), (0, u "I"), (1, .class_ 14), (1, u "java/lang/Object"), (4, u "hash"), (86, .class_ 108), (1, u "java/lang/Enum$EnumDesc"), (2, .class_ 112), (0, u "java/lang/constant/Constable"), (0, .class_ 114), (0, u "java/lang/Comparable"), (0, .class_ 116), (0, u "java/io/Serializable")] 87

/-- java/lang/Enum -/
def k5 : Class := { plain "java/lang/Enum" (some 0) with
  accessFlags := 1057
  interfaces := #[2, 3, 4]
  cf := some (fileOf pool5 2 #[.nestMembers #[106]] #[] 1057 12 #[111, 113, 115] #[{ accessFlags := 18, nameIndex := 5, descriptorIndex := 6, attributes := #[] }, { accessFlags := 18, nameIndex := 9, descriptorIndex := 10, attributes := #[] }, { accessFlags := 2, nameIndex := 19, descriptorIndex := 10, attributes := #[] }])
  fields := #[{ name := "name", type := (.object "java/lang/String"), accessFlags := 18, slot := 0, constantValue := 0 }, { name := "ordinal", type := .int, accessFlags := 18, slot := 1, constantValue := 0 }, { name := "hash", type := .int, accessFlags := 2, slot := 2, constantValue := 0 }]
  methods := #[]
  instanceTypes := #[(.object "java/lang/String"), .int, .int]
  staticTypes := #[]
  resolved := Array.replicate 204 none
  statics := none }

def pool6 : Array CpInfo := pool [(1, .class_ 2), (0, u "com/example/tierstone/tierstone/core/StreamFormat$Kind"), (2, u "TABLE"), (0, u "Lcom/example/tierstone/tierstone/core/StreamFormat$Kind;"), (2, u "CHANGE_SET"), (2, u "ANSWER"), (2, u "BRIEFCASE"), (2, u "$VALUES"), (0, u "[Lcom/example/tierstone/tierstone/core/StreamFormat$Kind;"), (6, .class_ 28), (1, u "java/lang/Enum"), (8, u "code"), (0, u "B"), (2, u "what"), (0, u "Ljava/lang/String;"), (33, .class_ 77), (0, u "com/example/tierstone/tierstone/core/StreamFormat")] 2

/-- com/example/tierstone/tierstone/core/StreamFormat$Kind -/
def k6 : Class := { plain "com/example/tierstone/tierstone/core/StreamFormat$Kind" (some 5) with
  accessFlags := 16433
  interfaces := #[]
  cf := some (fileOf pool6 1 #[.nestHost 76] #[] 16433 26 #[] #[{ accessFlags := 16409, nameIndex := 5, descriptorIndex := 6, attributes := #[] }, { accessFlags := 16409, nameIndex := 9, descriptorIndex := 6, attributes := #[] }, { accessFlags := 16409, nameIndex := 12, descriptorIndex := 6, attributes := #[] }, { accessFlags := 16409, nameIndex := 15, descriptorIndex := 6, attributes := #[] }, { accessFlags := 18, nameIndex := 37, descriptorIndex := 38, attributes := #[] }, { accessFlags := 18, nameIndex := 41, descriptorIndex := 42, attributes := #[] }, { accessFlags := 4122, nameIndex := 18, descriptorIndex := 19, attributes := #[] }])
  fields := #[{ name := "TABLE", type := (.object "com/example/tierstone/tierstone/core/StreamFormat$Kind"), accessFlags := 16409, slot := 0, constantValue := 0 }, { name := "CHANGE_SET", type := (.object "com/example/tierstone/tierstone/core/StreamFormat$Kind"), accessFlags := 16409, slot := 1, constantValue := 0 }, { name := "ANSWER", type := (.object "com/example/tierstone/tierstone/core/StreamFormat$Kind"), accessFlags := 16409, slot := 2, constantValue := 0 }, { name := "BRIEFCASE", type := (.object "com/example/tierstone/tierstone/core/StreamFormat$Kind"), accessFlags := 16409, slot := 3, constantValue := 0 }, { name := "code", type := .byte, accessFlags := 18, slot := 3, constantValue := 0 }, { name := "what", type := (.object "java/lang/String"), accessFlags := 18, slot := 4, constantValue := 0 }, { name := "$VALUES", type := (.array (.object "com/example/tierstone/tierstone/core/StreamFormat$Kind")), accessFlags := 4122, slot := 4, constantValue := 0 }]
  methods := #[]
  instanceTypes := #[(.object "java/lang/String"), .int, .int, .byte, (.object "java/lang/String")]
  staticTypes := #[(.object "com/example/tierstone/tierstone/core/StreamFormat$Kind"), (.object "com/example/tierstone/tierstone/core/StreamFormat$Kind"), (.object "com/example/tierstone/tierstone/core/StreamFormat$Kind"), (.object "com/example/tierstone/tierstone/core/StreamFormat$Kind"), (.array (.object "com/example/tierstone/tierstone/core/StreamFormat$Kind"))]
  resolved := Array.replicate 80 none
  statics := some 0 }

def pool7 : Array CpInfo := pool [(2, .class_ 4), (1, u "java/lang/Object"), (0, u "<init>"), (0, u "()V"), (0, .class_ 8), (0, u "com/example/tierstone/tierstone/core/StreamFormat"), (30, .fieldref 7 40), (0, .nameAndType 41 42), (0, u "MAGIC"), (0, u "[B"), (0, .methodref 44 45), (0, .class_ 46), (0, .nameAndType 47 48), (0, u "java/util/Arrays"), (0, u "copyOf"), (0, u "([BI)[B"), (0, .fieldref 50 51), (0, .class_ 52), (0, .nameAndType 53 54), (0, u "com/example/tierstone/tierstone/core/StreamFormat$Kind"), (0, u "code"), (0, u "B"), (20, u "MEDIA_TYPE"), (0, u "Ljava/lang/String;"), (3, u "VERSION"), (0, u "I"), (1, u "HEADER_LENGTH"), (1, u "NULL"), (1, u "FALSE"), (0, u "TRUE"), (1, u "INTEGER"), (1, u "DECIMAL"), (1, u "FLOAT"), (1, u "TEXT"), (0, u "DATETIME"), (1, u "BLOB"), (1, u "END_OF_ROWS"), (0, u "ROW"), (0, u "KEY"), (0, u "REQUIRED"), (9, u "header"), (0, u "(Lcom/example/tierstone/tierstone/core/StreamFormat$Kind;)[B")] 24

def k7m0 : Method := { name := "<init>", desc := "()V", sig := { parameters := [], returnType := none }, accessFlags := 2, code := none }
def k7c1 : Code := { maxStack := 3, maxLocals := 2, code := prog_20_method_3_code, exceptionTable := #[], attributes := #[] }
def k7m1 : Method := { name := "header", desc := "(Lcom/example/tierstone/tierstone/core/StreamFormat$Kind;)[B", sig := { parameters := [(.object "com/example/tierstone/tierstone/core/StreamFormat$Kind")], returnType := some (.array .byte) }, accessFlags := 8, code := some k7c1 }
/-- com/example/tierstone/tierstone/core/StreamFormat -/
def k7 : Class := { plain "com/example/tierstone/tierstone/core/StreamFormat" (some 0) with
  accessFlags := 49
  interfaces := #[]
  cf := some (fileOf pool7 7 #[.nestMembers #[50]] #[{ accessFlags := 2, nameIndex := 5, descriptorIndex := 6, attributes := #[] }, { accessFlags := 8, nameIndex := 114, descriptorIndex := 115, attributes := #[] }] 49 2 #[] #[{ accessFlags := 25, nameIndex := 75, descriptorIndex := 76, attributes := #[] }, { accessFlags := 24, nameIndex := 80, descriptorIndex := 81, attributes := #[] }, { accessFlags := 24, nameIndex := 83, descriptorIndex := 81, attributes := #[] }, { accessFlags := 24, nameIndex := 85, descriptorIndex := 81, attributes := #[] }, { accessFlags := 24, nameIndex := 87, descriptorIndex := 81, attributes := #[] }, { accessFlags := 24, nameIndex := 88, descriptorIndex := 81, attributes := #[] }, { accessFlags := 24, nameIndex := 90, descriptorIndex := 81, attributes := #[] }, { accessFlags := 24, nameIndex := 92, descriptorIndex := 81, attributes := #[] }, { accessFlags := 24, nameIndex := 94, descriptorIndex := 81, attributes := #[] }, { accessFlags := 24, nameIndex := 96, descriptorIndex := 81, attributes := #[] }, { accessFlags := 24, nameIndex := 97, descriptorIndex := 81, attributes := #[] }, { accessFlags := 24, nameIndex := 99, descriptorIndex := 81, attributes := #[] }, { accessFlags := 24, nameIndex := 101, descriptorIndex := 81, attributes := #[] }, { accessFlags := 24, nameIndex := 102, descriptorIndex := 81, attributes := #[] }, { accessFlags := 24, nameIndex := 103, descriptorIndex := 81, attributes := #[] }, { accessFlags := 24, nameIndex := 104, descriptorIndex := 81, attributes := #[] }, { accessFlags := 26, nameIndex := 41, descriptorIndex := 42, attributes := #[] }])
  fields := #[{ name := "MEDIA_TYPE", type := (.object "java/lang/String"), accessFlags := 25, slot := 0, constantValue := 0 }, { name := "VERSION", type := .int, accessFlags := 24, slot := 1, constantValue := 0 }, { name := "HEADER_LENGTH", type := .int, accessFlags := 24, slot := 2, constantValue := 0 }, { name := "NULL", type := .int, accessFlags := 24, slot := 3, constantValue := 0 }, { name := "FALSE", type := .int, accessFlags := 24, slot := 4, constantValue := 0 }, { name := "TRUE", type := .int, accessFlags := 24, slot := 5, constantValue := 0 }, { name := "INTEGER", type := .int, accessFlags := 24, slot := 6, constantValue := 0 }, { name := "DECIMAL", type := .int, accessFlags := 24, slot := 7, constantValue := 0 }, { name := "FLOAT", type := .int, accessFlags := 24, slot := 8, constantValue := 0 }, { name := "TEXT", type := .int, accessFlags := 24, slot := 9, constantValue := 0 }, { name := "DATETIME", type := .int, accessFlags := 24, slot := 10, constantValue := 0 }, { name := "BLOB", type := .int, accessFlags := 24, slot := 11, constantValue := 0 }, { name := "END_OF_ROWS", type := .int, accessFlags := 24, slot := 12, constantValue := 0 }, { name := "ROW", type := .int, accessFlags := 24, slot := 13, constantValue := 0 }, { name := "KEY", type := .int, accessFlags := 24, slot := 14, constantValue := 0 }, { name := "REQUIRED", type := .int, accessFlags := 24, slot := 15, constantValue := 0 }, { name := "MAGIC", type := (.array .byte), accessFlags := 26, slot := 16, constantValue := 0 }]
  methods := #[k7m0, k7m1]
  instanceTypes := #[]
  staticTypes := #[(.object "java/lang/String"), .int, .int, .int, .int, .int, .int, .int, .int, .int, .int, .int, .int, .int, .int, .int, (.array .byte)]
  resolved := Array.replicate 49 none ++ #[some (.field 6 4)] ++ Array.replicate 90 none
  statics := some 1 }

def pool8 : Array CpInfo := pool [(2, .class_ 4), (1, u "java/lang/Object"), (0, u "<init>"), (0, u "()V"), (7, .class_ 16), (1, u "java/util/Arrays"), (57, .class_ 76), (1, u "java/util/Arrays$NaturalOrder"), (36, .class_ 115), (1, u "java/util/Arrays$LegacyMergeSort"), (1, u "Z"), (32, .methodref 151 152), (0, .class_ 153), (0, .nameAndType 154 155), (0, u "java/lang/System"), (0, u "arraycopy"), (0, u "(Ljava/lang/Object;ILjava/lang/Object;II)V"), (146, u "copyOf"), (1, .methodref 305 306), (0, .class_ 307), (0, .nameAndType 308 309), (0, u "java/lang/Math"), (0, u "min"), (0, u "(II)I"), (65, .class_ 376), (0, u "java/util/Arrays$ArrayList"), (68, u "$assertionsDisabled"), (269, u "MIN_ARRAY_SORT_GRAN"), (0, u "I"), (2, u "INSERTIONSORT_THRESHOLD"), (149, u "([BI)[B"), (105, .class_ 976), (0, u "java/util/Arrays$ArrayItr")] 52

def k8m0 : Method := { name := "<init>", desc := "()V", sig := { parameters := [], returnType := none }, accessFlags := 2, code := none }
def k8c1 : Code := { maxStack := 6, maxLocals := 3, code := jdk_65_method_121_code, exceptionTable := #[], attributes := #[] }
def k8m1 : Method := { name := "copyOf", desc := "([BI)[B", sig := { parameters := [(.array .byte), .int], returnType := some (.array .byte) }, accessFlags := 9, code := some k8c1 }
/-- java/util/Arrays -/
def k8 : Class := { plain "java/util/Arrays" (some 0) with
  accessFlags := 49
  interfaces := #[]
  cf := some (fileOf pool8 14 #[.nestMembers #[975, 375, 113, 74]] #[{ accessFlags := 2, nameIndex := 5, descriptorIndex := 6, attributes := #[] }, { accessFlags := 9, nameIndex := 302, descriptorIndex := 869, attributes := #[] }] 49 2 #[] #[{ accessFlags := 26, nameIndex := 715, descriptorIndex := 716, attributes := #[] }, { accessFlags := 26, nameIndex := 719, descriptorIndex := 716, attributes := #[] }, { accessFlags := 4120, nameIndex := 445, descriptorIndex := 117, attributes := #[] }])
  fields := #[{ name := "MIN_ARRAY_SORT_GRAN", type := .int, accessFlags := 26, slot := 0, constantValue := 0 }, { name := "INSERTIONSORT_THRESHOLD", type := .int, accessFlags := 26, slot := 1, constantValue := 0 }, { name := "$assertionsDisabled", type := .boolean, accessFlags := 4120, slot := 2, constantValue := 0 }]
  methods := #[k8m0, k8m1]
  instanceTypes := #[]
  staticTypes := #[.int, .int, .boolean]
  resolved := Array.replicate 1029 none
  statics := none }

def pool9 : Array CpInfo := pool [(1, .class_ 2), (0, u "java/lang/Math"), (1, .class_ 6), (1, u "java/lang/Object"), (0, u "<init>"), (0, u "()V"), (89, .class_ 100), (1, u "java/lang/Math$RandomNumberGeneratorHolder"), (71, u "negativeZeroFloatBits"), (0, u "J"), (2, u "negativeZeroDoubleBits"), (24, u "min"), (43, u "$assertionsDisabled"), (0, u "Z"), (88, u "(II)I"), (2, u "twoToTheDoubleScaleDown"), (0, u "D"), (4, u "twoToTheDoubleScaleUp"), (9, u "E"), (3, u "PI"), (2, u "TAU"), (2, u "DEGREES_TO_RADIANS"), (0, u "RADIANS_TO_DEGREES")] 94

def k9m0 : Method := { name := "<init>", desc := "()V", sig := { parameters := [], returnType := none }, accessFlags := 2, code := none }
def k9c1 : Code := { maxStack := 2, maxLocals := 2, code := jdk_29_method_69_code, exceptionTable := #[], attributes := #[] }
def k9m1 : Method := { name := "min", desc := "(II)I", sig := { parameters := [.int, .int], returnType := some .int }, accessFlags := 9, code := some k9c1 }
/-- java/lang/Math -/
def k9 : Class := { plain "java/lang/Math" (some 0) with
  accessFlags := 49
  interfaces := #[]
  cf := some (fileOf pool9 1 #[.nestMembers #[98]] #[{ accessFlags := 2, nameIndex := 7, descriptorIndex := 8, attributes := #[] }, { accessFlags := 9, nameIndex := 201, descriptorIndex := 335, attributes := #[] }] 49 4 #[] #[{ accessFlags := 25, nameIndex := 354, descriptorIndex := 339, attributes := #[] }, { accessFlags := 25, nameIndex := 358, descriptorIndex := 339, attributes := #[] }, { accessFlags := 25, nameIndex := 361, descriptorIndex := 339, attributes := #[] }, { accessFlags := 26, nameIndex := 364, descriptorIndex := 339, attributes := #[] }, { accessFlags := 26, nameIndex := 365, descriptorIndex := 339, attributes := #[] }, { accessFlags := 26, nameIndex := 172, descriptorIndex := 173, attributes := #[] }, { accessFlags := 26, nameIndex := 176, descriptorIndex := 173, attributes := #[] }, { accessFlags := 8, nameIndex := 344, descriptorIndex := 339, attributes := #[] }, { accessFlags := 8, nameIndex := 338, descriptorIndex := 339, attributes := #[] }, { accessFlags := 4120, nameIndex := 245, descriptorIndex := 246, attributes := #[] }])
  fields := #[{ name := "E", type := .double, accessFlags := 25, slot := 0, constantValue := 0 }, { name := "PI", type := .double, accessFlags := 25, slot := 1, constantValue := 0 }, { name := "TAU", type := .double, accessFlags := 25, slot := 2, constantValue := 0 }, { name := "DEGREES_TO_RADIANS", type := .double, accessFlags := 26, slot := 3, constantValue := 0 }, { name := "RADIANS_TO_DEGREES", type := .double, accessFlags := 26, slot := 4, constantValue := 0 }, { name := "negativeZeroFloatBits", type := .long, accessFlags := 26, slot := 5, constantValue := 0 }, { name := "negativeZeroDoubleBits", type := .long, accessFlags := 26, slot := 6, constantValue := 0 }, { name := "twoToTheDoubleScaleUp", type := .double, accessFlags := 8, slot := 7, constantValue := 0 }, { name := "twoToTheDoubleScaleDown", type := .double, accessFlags := 8, slot := 8, constantValue := 0 }, { name := "$assertionsDisabled", type := .boolean, accessFlags := 4120, slot := 9, constantValue := 0 }]
  methods := #[k9m0, k9m1]
  instanceTypes := #[]
  staticTypes := #[.double, .double, .double, .double, .double, .long, .long, .double, .double, .boolean]
  resolved := Array.replicate 460 none
  statics := none }

def pool10 : Array CpInfo := pool [(2, .class_ 4), (1, u "java/lang/Object"), (0, u "<init>"), (0, u "()V"), (1, .class_ 10), (1, u "java/lang/System"), (0, u "allowSecurityManager"), (0, u "I"), (16, u "cons"), (0, u "Ljava/io/Console;"), (77, .class_ 110), (1, u "java/lang/System$CallersHolder"), (43, u "initialErrStream"), (0, u "Ljava/io/PrintStream;"), (19, u "security"), (0, u "Ljava/lang/SecurityManager;"), (31, .class_ 209), (0, u "java/lang/System$1"), (7, u "props"), (0, u "Ljava/util/Properties;"), (2, u "lineSeparator"), (0, u "Ljava/lang/String;"), (96, .class_ 321), (1, u "java/lang/System$LoggerFinder"), (5, .class_ 328), (0, u "java/lang/System$Logger"), (67, u "err"), (2, u "out"), (91, u "notSupportedJnuEncoding"), (15, u "in"), (17, u "initialIn"), (0, u "Ljava/io/InputStream;"), (35, u "bootLayer"), (0, u "Ljava/lang/ModuleLayer;"), (99, .class_ 664), (0, u "java/lang/System$2"), (9, u "NEVER"), (2, u "MAYBE"), (49, u "arraycopy"), (0, u "(Ljava/lang/Object;ILjava/lang/Object;II)V"), (72, .class_ 802), (0, u "java/lang/System$Logger$Level")] 31

def k10m0 : Method := { name := "<init>", desc := "()V", sig := { parameters := [], returnType := none }, accessFlags := 2, code := none }
def k10m1 : Method := { name := "arraycopy", desc := "(Ljava/lang/Object;ILjava/lang/Object;II)V", sig := { parameters := [(.object "java/lang/Object"), .int, (.object "java/lang/Object"), .int, .int], returnType := none }, accessFlags := 265, code := none }
/-- java/lang/System -/
def k10 : Class := { plain "java/lang/System" (some 0) with
  accessFlags := 49
  interfaces := #[]
  cf := some (fileOf pool10 8 #[.nestMembers #[319, 327, 801, 108, 663, 208]] #[{ accessFlags := 2, nameIndex := 5, descriptorIndex := 6, attributes := #[] }, { accessFlags := 265, nameIndex := 727, descriptorIndex := 728, attributes := #[] }] 49 2 #[] #[{ accessFlags := 25, nameIndex := 507, descriptorIndex := 526, attributes := #[] }, { accessFlags := 25, nameIndex := 399, descriptorIndex := 155, attributes := #[] }, { accessFlags := 25, nameIndex := 396, descriptorIndex := 155, attributes := #[] }, { accessFlags := 10, nameIndex := 525, descriptorIndex := 526, attributes := #[] }, { accessFlags := 26, nameIndex := 674, descriptorIndex := 12, attributes := #[] }, { accessFlags := 26, nameIndex := 677, descriptorIndex := 12, attributes := #[] }, { accessFlags := 10, nameIndex := 11, descriptorIndex := 12, attributes := #[] }, { accessFlags := 74, nameIndex := 175, descriptorIndex := 176, attributes := #[] }, { accessFlags := 10, nameIndex := 491, descriptorIndex := 222, attributes := #[] }, { accessFlags := 74, nameIndex := 29, descriptorIndex := 30, attributes := #[] }, { accessFlags := 74, nameIndex := 154, descriptorIndex := 155, attributes := #[] }, { accessFlags := 10, nameIndex := 217, descriptorIndex := 218, attributes := #[] }, { accessFlags := 10, nameIndex := 221, descriptorIndex := 222, attributes := #[] }, { accessFlags := 8, nameIndex := 562, descriptorIndex := 563, attributes := #[] }])
  fields := #[{ name := "in", type := (.object "java/io/InputStream"), accessFlags := 25, slot := 0, constantValue := 0 }, { name := "out", type := (.object "java/io/PrintStream"), accessFlags := 25, slot := 1, constantValue := 0 }, { name := "err", type := (.object "java/io/PrintStream"), accessFlags := 25, slot := 2, constantValue := 0 }, { name := "initialIn", type := (.object "java/io/InputStream"), accessFlags := 10, slot := 3, constantValue := 0 }, { name := "NEVER", type := .int, accessFlags := 26, slot := 4, constantValue := 0 }, { name := "MAYBE", type := .int, accessFlags := 26, slot := 5, constantValue := 0 }, { name := "allowSecurityManager", type := .int, accessFlags := 10, slot := 6, constantValue := 0 }, { name := "security", type := (.object "java/lang/SecurityManager"), accessFlags := 74, slot := 7, constantValue := 0 }, { name := "notSupportedJnuEncoding", type := (.object "java/lang/String"), accessFlags := 10, slot := 8, constantValue := 0 }, { name := "cons", type := (.object "java/io/Console"), accessFlags := 74, slot := 9, constantValue := 0 }, { name := "initialErrStream", type := (.object "java/io/PrintStream"), accessFlags := 74, slot := 10, constantValue := 0 }, { name := "props", type := (.object "java/util/Properties"), accessFlags := 10, slot := 11, constantValue := 0 }, { name := "lineSeparator", type := (.object "java/lang/String"), accessFlags := 10, slot := 12, constantValue := 0 }, { name := "bootLayer", type := (.object "java/lang/ModuleLayer"), accessFlags := 8, slot := 13, constantValue := 0 }]
  methods := #[k10m0, k10m1]
  instanceTypes := #[]
  staticTypes := #[(.object "java/io/InputStream"), (.object "java/io/PrintStream"), (.object "java/io/PrintStream"), (.object "java/io/InputStream"), .int, .int, .int, (.object "java/lang/SecurityManager"), (.object "java/lang/String"), (.object "java/io/Console"), (.object "java/io/PrintStream"), (.object "java/util/Properties"), (.object "java/lang/String"), (.object "java/lang/ModuleLayer")]
  resolved := Array.replicate 834 none
  statics := none }

def pool11 : Array CpInfo := pool [(1, u "java/lang/Cloneable"), (0, .class_ 1), (0, u "java/lang/Object"), (0, .class_ 3)] 3

/-- java/lang/Cloneable -/
def k11 : Class := { plain "java/lang/Cloneable" (some 0) with
  accessFlags := 1537
  interfaces := #[]
  cf := some (fileOf pool11 2 #[] #[] 1537 4 #[] #[])
  fields := #[]
  methods := #[]
  instanceTypes := #[]
  staticTypes := #[]
  resolved := Array.replicate 8 none
  statics := none }

/-- the primitive byte -/
def k12 : Class := { plain "byte" none with kind := .primitive 'B', accessFlags := 0x411 }
/-- [B -/
def k13 : Class := { plain "[B" (some 0) with kind := .array 12 .byte, interfaces := #[11, 4], accessFlags := 1041 }

/-- the primitive int -/
def k14 : Class := { plain "int" none with kind := .primitive 'I', accessFlags := 0x411 }
/-- [I -/
def k15 : Class := { plain "[I" (some 0) with kind := .array 14 .int, interfaces := #[11, 4], accessFlags := 1041 }

def heap : Heap := #[{ cls := 6, slots := #[.ref 2, .ref 3, .ref 4, .ref 5, .null], vm := .statics 6 },
  { cls := 7, slots := #[.null, .int 0, .int 0, .int 0, .int 0, .int 0, .int 0, .int 0, .int 0, .int 0, .int 0, .int 0, .int 0, .int 0, .int 0, .int 0, .ref 6], vm := .statics 7 },
  { cls := 6, slots := #[.null, .int 0, .int 0, .int 84, .null], vm := .none },
  { cls := 6, slots := #[.null, .int 1, .int 0, .int 67, .null], vm := .none },
  { cls := 6, slots := #[.null, .int 2, .int 0, .int 65, .null], vm := .none },
  { cls := 6, slots := #[.null, .int 3, .int 0, .int 66, .null], vm := .none },
  { cls := 13, slots := #[.int 84, .int 83, .int 84, .int 82], vm := .none }]
def classes : Array Class := #[k0, k1, k2, k3, k4, k5, k6, k7, k8, k9, k10, k11, k12, k13, k14, k15]
def interned : List (Array UInt16 × Addr) := []
def slotsUsed : Nat := 46
def theMethod : MethodId := ⟨1, 4⟩
def args0 : Array Value := #[.int 5, .int 3, .int 4]
def aboutOver (below : List Frame) : State where
  vm := { classes := classes, interned := interned.toArray }
  heap := heap
  slotsUsed := slotsUsed
  threads := #[{ frames := .invoking theMethod args0 :: below }]
def below0 : List Frame := [.native { method := ⟨0, 0⟩, args := #[] }]
def about1 : State := aboutOver below0
def p0 : Program := .bare "" "" ""
def e0 : Env := launch0.env 0 0 0
theorem w_frames : about1.frames = Frame.invoking theMethod args0 :: below0 := rfl
set_option maxRecDepth 65536 in
theorem w_args : argsFit about1.vm theMethod args0 = true := by decide +kernel
set_option maxRecDepth 65536 in
theorem w_heap : heapFits about1 = true := by decide +kernel
set_option maxRecDepth 65536 in
theorem w_runnable : about1.curStatus? = some .runnable := by decide +kernel
set_option maxRecDepth 65536 in
theorem w_alone : about1.alone = true := by decide +kernel
set_option maxRecDepth 65536 in
theorem w_named : about1.methodNamed? x = some theMethod := by decide +kernel
set_option maxRecDepth 65536 in
theorem w_hears : about1.hears theMethod below0 = true := by decide +kernel
set_option maxRecDepth 65536 in
theorem w_ripe : about1.ripe theMethod args0 below0 = true := by decide +kernel
theorem w_running : about1.status = .running := rfl
set_option maxRecDepth 65536 in
theorem w_room : about1.hasRoom e0.platform room_1 = true :=
  launch0.hasRoom_least _ room_1 (by decide +kernel) (by decide +kernel) (by decide +kernel) (by decide +kernel) (by decide +kernel) (by decide +kernel)
theorem allAtoms_all (ts : List Jvm.Cond) (a : Array Jvm.Value) (st : Jvm.State) : (allAtoms ts).before a st = ts.all (fun c => c.before a st) := by
  induction ts with
  | nil => rfl
  | cons c t ih =>
    show (Jvm.Cond.and c (allAtoms t)).before a st = _
    rw [Jvm.Cond.before_and, ih, List.all_cons]
def words1 : List Jvm.Cond := Jvm.Cond.code x code maxLocals ret :: tables_1
/-- a 'code' word, met by the world's own term for the bytes: nothing is compared byte by byte -/
theorem code_word {y : MethodName} {bytes : ByteArray} {mx : Nat} {rt : Option FieldType} {a : Array Value} {s : State} {m : MethodId} {meth : Method} {c : Code} (h1 : s.methodNamed? y = some m) (h2 : s.vm.method? m = some meth) (h3 : meth.code = some c) (h4 : c.code = bytes)
    (h5 : (c.maxLocals == mx && c.exceptionTable.isEmpty && decide (c.maxStack ≤ mostOperands) && decide (meth.sig.returnType = rt) && !meth.locks && decide (parseMethodDescriptor y.desc = some meth.sig)) = true) : (Jvm.Cond.code y bytes mx rt).before a s = true := by
  simp only [Bool.and_eq_true, beq_iff_eq, Bool.not_eq_true', decide_eq_true_eq] at h5
  obtain ⟨⟨⟨⟨⟨g1, g2⟩, g3⟩, g4⟩, g5⟩, g6⟩ := h5
  simp [Cond.before, Cond.holds, Cond.value, h1, h2, h3, h4, g1, g2, g3, g4, g5, g6]
def isCode : Jvm.Cond → Bool
  | .code _ _ _ _ => true
  | _ => false
theorem all_split {L : List Jvm.Cond} {P : Jvm.Cond → Bool} (h1 : L.all (fun c => isCode c || P c) = true) (h2 : ∀ c ∈ L.filter isCode, P c = true) : L.all P = true := by
  refine List.all_eq_true.mpr fun c hc => ?_
  have h := List.all_eq_true.mp h1 c hc
  rcases Bool.eq_false_or_eq_true (isCode c) with hi | hi
  · exact h2 c (List.mem_filter.mpr ⟨hc, hi⟩)
  · simpa [hi] using h
set_option maxRecDepth 65536 in
theorem w_c0 : (Jvm.Cond.code x code maxLocals ret).before args0 about1 = true := code_word (m := ⟨1, 4⟩) (meth := k1m4) (c := k1c4) (by decide +kernel) rfl rfl rfl (by decide +kernel)
set_option maxRecDepth 65536 in
theorem w_c1 : (Jvm.Cond.code ({ cls := "com/example/tierstone/tierstone/core/StreamFormatHeaderPinLaw", name := "pick", desc := "(I)Lcom/example/tierstone/tierstone/core/StreamFormat$Kind;" } : Jvm.MethodName) method_2_code (2 : Nat) (Option.some (Jvm.ClassFile.FieldType.object "com/example/tierstone/tierstone/core/StreamFormat$Kind"))).before args0 about1 = true := code_word (m := ⟨1, 1⟩) (meth := k1m1) (c := k1c1) (by decide +kernel) rfl rfl rfl (by decide +kernel)
set_option maxRecDepth 65536 in
theorem w_c2 : (Jvm.Cond.code ({ cls := "com/example/tierstone/tierstone/core/StreamFormat", name := "header", desc := "(Lcom/example/tierstone/tierstone/core/StreamFormat$Kind;)[B" } : Jvm.MethodName) prog_20_method_3_code (2 : Nat) (Option.some (Jvm.ClassFile.FieldType.array Jvm.ClassFile.FieldType.byte))).before args0 about1 = true := code_word (m := ⟨7, 1⟩) (meth := k7m1) (c := k7c1) (by decide +kernel) rfl rfl rfl (by decide +kernel)
set_option maxRecDepth 65536 in
theorem w_c3 : (Jvm.Cond.code ({ cls := "java/util/Arrays", name := "copyOf", desc := "([BI)[B" } : Jvm.MethodName) jdk_65_method_121_code (3 : Nat) (Option.some (Jvm.ClassFile.FieldType.array Jvm.ClassFile.FieldType.byte))).before args0 about1 = true := code_word (m := ⟨8, 1⟩) (meth := k8m1) (c := k8c1) (by decide +kernel) rfl rfl rfl (by decide +kernel)
set_option maxRecDepth 65536 in
theorem w_c4 : (Jvm.Cond.code ({ cls := "java/lang/Math", name := "min", desc := "(II)I" } : Jvm.MethodName) jdk_29_method_69_code (2 : Nat) (Option.some Jvm.ClassFile.FieldType.int)).before args0 about1 = true := code_word (m := ⟨9, 1⟩) (meth := k9m1) (c := k9c1) (by decide +kernel) rfl rfl rfl (by decide +kernel)
set_option maxRecDepth 65536 in
theorem w_c5 : (Jvm.Cond.code ({ cls := "com/example/tierstone/tierstone/core/StreamFormatHeaderPinLaw", name := "ok", desc := "([BI)Z" } : Jvm.MethodName) method_4_code (2 : Nat) (Option.some Jvm.ClassFile.FieldType.boolean)).before args0 about1 = true := code_word (m := ⟨1, 3⟩) (meth := k1m3) (c := k1c3) (by decide +kernel) rfl rfl rfl (by decide +kernel)
set_option maxRecDepth 65536 in
theorem w_c6 : (Jvm.Cond.code ({ cls := "com/example/tierstone/tierstone/core/StreamFormatHeaderPinLaw", name := "code", desc := "(I)B" } : Jvm.MethodName) method_3_code (2 : Nat) (Option.some Jvm.ClassFile.FieldType.byte)).before args0 about1 = true := code_word (m := ⟨1, 2⟩) (meth := k1m2) (c := k1c2) (by decide +kernel) rfl rfl rfl (by decide +kernel)
def codes1 : List Jvm.Cond := [Jvm.Cond.code x code maxLocals ret, Jvm.Cond.code ({ cls := "com/example/tierstone/tierstone/core/StreamFormatHeaderPinLaw", name := "pick", desc := "(I)Lcom/example/tierstone/tierstone/core/StreamFormat$Kind;" } : Jvm.MethodName) method_2_code (2 : Nat) (Option.some (Jvm.ClassFile.FieldType.object "com/example/tierstone/tierstone/core/StreamFormat$Kind")), Jvm.Cond.code ({ cls := "com/example/tierstone/tierstone/core/StreamFormat", name := "header", desc := "(Lcom/example/tierstone/tierstone/core/StreamFormat$Kind;)[B" } : Jvm.MethodName) prog_20_method_3_code (2 : Nat) (Option.some (Jvm.ClassFile.FieldType.array Jvm.ClassFile.FieldType.byte)), Jvm.Cond.code ({ cls := "java/util/Arrays", name := "copyOf", desc := "([BI)[B" } : Jvm.MethodName) jdk_65_method_121_code (3 : Nat) (Option.some (Jvm.ClassFile.FieldType.array Jvm.ClassFile.FieldType.byte)), Jvm.Cond.code ({ cls := "java/lang/Math", name := "min", desc := "(II)I" } : Jvm.MethodName) jdk_29_method_69_code (2 : Nat) (Option.some Jvm.ClassFile.FieldType.int), Jvm.Cond.code ({ cls := "com/example/tierstone/tierstone/core/StreamFormatHeaderPinLaw", name := "ok", desc := "([BI)Z" } : Jvm.MethodName) method_4_code (2 : Nat) (Option.some Jvm.ClassFile.FieldType.boolean), Jvm.Cond.code ({ cls := "com/example/tierstone/tierstone/core/StreamFormatHeaderPinLaw", name := "code", desc := "(I)B" } : Jvm.MethodName) method_3_code (2 : Nat) (Option.some Jvm.ClassFile.FieldType.byte)]
set_option maxRecDepth 65536 in
theorem codes_eq : words1.filter isCode = codes1 := rfl
theorem w_codes : ∀ c ∈ words1.filter isCode, c.before args0 about1 = true := by
  rw [codes_eq]
  intro c hc
  simp only [codes1, List.mem_cons, List.not_mem_nil, or_false] at hc
  rcases hc with rfl | rfl | rfl | rfl | rfl | rfl | rfl
  · exact w_c0
  · exact w_c1
  · exact w_c2
  · exact w_c3
  · exact w_c4
  · exact w_c5
  · exact w_c6
set_option maxRecDepth 65536 in
theorem w_t1 : (words1.take 24).all (fun c => isCode c || c.before args0 about1) = true := by decide +kernel
set_option maxRecDepth 65536 in
theorem w_t2 : (words1.drop 24).all (fun c => isCode c || c.before args0 about1) = true := by decide +kernel
theorem w_tables : (allAtoms (Jvm.Cond.code x code maxLocals ret :: tables_1)).before args0 about1 = true := by
  rw [allAtoms_all]
  show words1.all (fun c => c.before args0 about1) = true
  refine all_split ?_ w_codes
  rw [← List.take_append_drop 24 words1, List.all_append, w_t1, w_t2]
  rfl
set_option maxRecDepth 65536 in
theorem w_case : (Jvm.Cond.and given_1 narrow_1).before args0 about1 = true := by decide +kernel
theorem w_applies : (headSpec (Jvm.Cond.code x code maxLocals ret :: tables_1) room_1).applies x e0.platform about1 = true :=
  (Spec.applies_iff w_frames).mpr ⟨w_running, w_runnable, w_alone, w_named, w_hears, w_ripe, w_room, w_tables⟩
theorem atStart : AtStart classFile x code maxLocals ret World_1 tables_1 room_1 Calls_1 rest_1 Pre_1 launch0 p0 e0 about1 theMethod args0 below0 :=
  ⟨lists_1, trivial, launch0.admits_env _ _ _, launch0.least_env, fairChoices_fair.cas, fairChoices_fair.clock, w_frames, w_args, w_heap, w_applies, trivial, trivial, w_case⟩
end start1
theorem witness_1 : WitnessClaimed_1 := ⟨start1.p0, start1.e0, start1.about1, start1.theMethod, start1.args0, start1.below0, start1.atStart⟩
end Jvm.Pilot.@@N@@
