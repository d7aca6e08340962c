import JvmDerived
import JvmDerived.Pilot.@@N@@Statement
import JvmDerived.Pilot.@@N@@Code
set_option linter.unusedVariables false
set_option maxRecDepth 65536
set_option maxHeartbeats 40000000
set_option linter.unusedSimpArgs false
@@BLOCK:LamKit.lean.txt@@
namespace Jvm.Pilot.@@N@@
open Jvm Jvm.ClassFile Sem Op Lib Jvm.Free Jvm.Stand Jvm.LawKit Jvm.RoadKit Bundle Jvm.Pilot.@@N@@.Jvm.D
/-! ### the form of my walks: what is left to do from a state -/
def Go (p : Program) (e : Env) (below : List Frame) (P : Outcome → State → Prop) (S : State) : Prop :=
 ∃ s₂ o, Steps p.tables e below S s₂ ∧ s₂.status = .running ∧ Ended s₂ below o ∧ P o s₂
def PQ (s : State) (Q : Option Value → Heap → List Loc → Prop) (C S : Nat) : Outcome → State → Prop :=
 fun o U' => ∃ v L, o = .returned v ∧ Q v U'.heap L ∧ FrameEnd s o U' L C S
theorem Go.by {p : Program} {e : Env} {below : List Frame} {P : Outcome → State → Prop} {S S' : State} (k : ∀ t, Steps p.tables e below S' t → Steps p.tables e below S t) (h : Go p e below P S') : Go p e below P S := by
 obtain ⟨t, o, h1, h2⟩ := h
 exact ⟨t, o, k t h1, h2⟩
theorem Go.fin {p : Program} {l : Launch} {e : Env} {R : Room} {s : State} {m : MethodId} {args : Array Value} {below : List Frame} {meth : Method} {c : Code} {T : State} {locs : List Loc} {k n C S : Nat} {v : Option Value} {Q : Option Value → Heap → List Loc → Prop} {S0 : State}
   (X : Stand p l e R s m args below meth c T locs k n) (hlk : meth.locks = false) (hv : meth.sig.returnType = none → v = none) (hk : k ≤ C) (hn : n ≤ S) (hQ : Q v T.heap locs)
   (hst : ∀ fs, (∀ (f : JFrame) (acts : List Action), f.method = m → f.locked = none → f.entered = [] → (doReturn e (T.setTop f) acts v).1 = T.setFrames fs) → Steps p.tables e below S0 (T.setFrames fs)) : Go p e below (PQ s Q C S) S0 := by
 obtain ⟨fs, hr, hrun, hended, hW, hsame⟩ := X.leave (v := v) hv hlk
 exact ⟨_, _, hst fs hr, hrun, hended, v, locs, rfl, hQ, ⟨_, rfl⟩, hW, hsame.mono hk hn⟩
abbrev vI (x : Int32) : Slot := .val (.int x)
abbrev vR (x : Addr) : Slot := .val (.ref x)
abbrev vJ (x : Int64) : Slot := .val (.long x)
abbrev own_R (f c s l : Nat) : Room := { frames := f, cells := c, slots := s, locals := l }
abbrev oG (p : Program) (e : Env) (below : List Frame) (P : Outcome → State → Prop) (m : MethodId) (T : State) (pc : Nat) (L : Array Slot) (S : List Value) : Prop := Go p e below P (T.setTop (mkF m pc L S))
abbrev oW (a0 : Array Value) (Z : State) : Prop := ∀ d ∈ tables_1, d.before a0 Z = true
theorem oT {Z : State} {a0 : Array Value} (hw : oW a0 Z) (i : Nat) {d : Jvm.Cond} (h : tables_1[i]? = some d) : d.before a0 Z = true := hw _ (List.mem_of_getElem? h)
abbrev oY0 : MethodName := ⟨"java/util/TreeMap", "containsKey", "(Ljava/lang/Object;)Z"⟩
abbrev oY1 : MethodName := ⟨"java/util/TreeMap", "getEntry", "(Ljava/lang/Object;)Ljava/util/TreeMap$Entry;"⟩
abbrev oY2 : MethodName := ⟨"com/example/chorale/chorale/core/ReliableMulticast", "receive", "(IJ[B)Z"⟩
abbrev oY3 : MethodName := ⟨"com/example/chorale/chorale/core/ReliableMulticast", "plausible", "(IJ)Z"⟩
abbrev oY4 : MethodName := ⟨"java/lang/Long", "compareTo", "(Ljava/lang/Object;)I"⟩
abbrev oY5 : MethodName := ⟨"java/lang/Long", "valueOf", "(J)Ljava/lang/Long;"⟩
abbrev oY6 : MethodName := ⟨"java/util/TreeMap", "put", "(Ljava/lang/Object;Ljava/lang/Object;)Ljava/lang/Object;"⟩
abbrev oY7 : MethodName := ⟨"java/lang/Comparable", "compareTo", "(Ljava/lang/Object;)I"⟩
abbrev oY8 : MethodName := ⟨"java/util/Objects", "requireNonNull", "(Ljava/lang/Object;)Ljava/lang/Object;"⟩
abbrev oY9 : MethodName := ⟨"java/util/TreeMap", "parentOf", "(Ljava/util/TreeMap$Entry;)Ljava/util/TreeMap$Entry;"⟩
abbrev oY10 : MethodName := ⟨"java/util/TreeMap", "put", "(Ljava/lang/Object;Ljava/lang/Object;Z)Ljava/lang/Object;"⟩
abbrev oY11 : MethodName := ⟨"com/example/chorale/chorale/core/ReliableMulticast", "send", "([B)J"⟩
abbrev oY12 : MethodName := ⟨"java/lang/Long", "compareTo", "(Ljava/lang/Long;)I"⟩
abbrev oY13 : MethodName := ⟨"java/util/TreeMap", "addEntry", "(Ljava/lang/Object;Ljava/lang/Object;Ljava/util/TreeMap$Entry;Z)V"⟩
abbrev oY14 : MethodName := ⟨"java/lang/Long", "compare", "(JJ)I"⟩
abbrev oY15 : MethodName := ⟨"java/util/TreeMap", "setColor", "(Ljava/util/TreeMap$Entry;Z)V"⟩
abbrev oY16 : MethodName := ⟨"java/util/TreeMap", "fixAfterInsertion", "(Ljava/util/TreeMap$Entry;)V"⟩
abbrev oY17 : MethodName := ⟨"com/example/chorale/chorale/core/ReliableMulticast", "lambda$new$0", "(I)Lcom/example/chorale/chorale/core/ReliableMulticast$Origin;"⟩
abbrev oY18 : MethodName := ⟨"com/example/chorale/chorale/core/ReliableMulticast$Origin", "know", "(J)V"⟩
abbrev oY19 : MethodName := ⟨"java/util/TreeMap$Entry", "<init>", "(Ljava/lang/Object;Ljava/lang/Object;Ljava/util/TreeMap$Entry;)V"⟩
abbrev oY20 : MethodName := ⟨"java/util/TreeMap", "leftOf", "(Ljava/util/TreeMap$Entry;)Ljava/util/TreeMap$Entry;"⟩
abbrev oY21 : MethodName := ⟨"com/example/chorale/chorale/core/ReliableMulticast", "<init>", "(II)V"⟩
abbrev oY22 : MethodName := ⟨"java/util/TreeMap", "colorOf", "(Ljava/util/TreeMap$Entry;)Z"⟩
abbrev oY23 : MethodName := ⟨"java/util/Arrays", "setAll", "([Ljava/lang/Object;Ljava/util/function/IntFunction;)V"⟩
abbrev oY24 : MethodName := ⟨"java/util/function/IntFunction", "apply", "(I)Ljava/lang/Object;"⟩
abbrev oY25 : MethodName := ⟨"java/util/TreeMap", "compare", "(Ljava/lang/Object;Ljava/lang/Object;)I"⟩
abbrev oY26 : MethodName := ⟨"java/util/TreeMap", "addEntryToEmptyMap", "(Ljava/lang/Object;Ljava/lang/Object;)V"⟩
abbrev oY27 : MethodName := ⟨"java/util/TreeMap", "rotateLeft", "(Ljava/util/TreeMap$Entry;)V"⟩
abbrev oY28 : MethodName := ⟨"java/util/AbstractMap", "<init>", "()V"⟩
abbrev oY29 : MethodName := ⟨"java/util/TreeMap", "<init>", "()V"⟩
abbrev oY30 : MethodName := ⟨"com/example/chorale/chorale/core/ReliableMulticast$Origin", "<init>", "()V"⟩
abbrev oY31 : MethodName := ⟨"java/lang/Math", "min", "(JJ)J"⟩
abbrev oY32 : MethodName := ⟨"java/lang/Math", "max", "(JJ)J"⟩
abbrev j35_24 := jdk_35_method_24_code
abbrev j35_42 := jdk_35_method_42_code
abbrev j35_41 := jdk_35_method_41_code
abbrev j35_64 := jdk_35_method_64_code
abbrev j31_10 := jdk_31_method_10_code
abbrev j2729_77 := jdk_2729_method_77_code
abbrev j2729_79 := jdk_2729_method_79_code
abbrev j2729_76 := jdk_2729_method_76_code
abbrev j2729_78 := jdk_2729_method_78_code
abbrev j2736_1 := jdk_2736_method_1_code
abbrev j2729_81 := jdk_2729_method_81_code
abbrev j2729_83 := jdk_2729_method_83_code
abbrev j2729_29 := jdk_2729_method_29_code
abbrev j2729_67 := jdk_2729_method_67_code
abbrev j2729_30 := jdk_2729_method_30_code
abbrev j2729_31 := jdk_2729_method_31_code
abbrev j2729_21 := jdk_2729_method_21_code
abbrev j2729_15 := jdk_2729_method_15_code
abbrev j2729_6 := jdk_2729_method_6_code
abbrev j2729_1 := jdk_2729_method_1_code
abbrev p70_1 := prog_70_method_1_code
abbrev p68_25 := prog_68_method_25_code
abbrev j65_173 := jdk_65_method_173_code
abbrev p68_1 := prog_68_method_1_code
abbrev j29_70 := jdk_29_method_70_code
abbrev j29_66 := jdk_29_method_66_code
abbrev p70_3 := prog_70_method_3_code
abbrev p68_3 := prog_68_method_3_code
abbrev p68_4 := prog_68_method_4_code
abbrev p68_5 := prog_68_method_5_code
abbrev q_0 : String := "java/util/TreeMap$Entry"
abbrev q_1 : String := "Ljava/util/TreeMap$Entry;"
abbrev q_2 : String := "java/util/TreeMap"
abbrev q_3 : String := "com/example/chorale/chorale/core/ReliableMulticast$Origin"
abbrev q_4 : String := "Ljava/lang/Object;"
abbrev q_5 : String := "parent"
abbrev q_6 : String := "left"
abbrev q_7 : String := "color"
abbrev q_8 : String := "key"
abbrev q_9 : String := "right"
abbrev q_10 : String := "comparator"
abbrev q_11 : String := "Ljava/util/Comparator;"
abbrev q_12 : String := "root"
abbrev q_13 : String := "size"
abbrev q_14 : String := "modCount"
abbrev q_15 : String := "com/example/chorale/chorale/core/ReliableMulticast"
abbrev q_16 : String := "java/lang/Object"
abbrev q_17 : String := "java/lang/Long"
abbrev q_18 : String := "messages"
abbrev q_19 : String := "Ljava/util/TreeMap;"
abbrev q_20 : String := "[Lcom/example/chorale/chorale/core/ReliableMulticast$Origin;"
abbrev q_21 : String := "java/util/Comparator"
abbrev q_22 : String := "java/lang/Long$LongCache"
abbrev q_23 : String := "[Ljava/lang/Long;"
section OwnW
variable {p : Program} {l : Launch} {e : Env} {R : Room} {s : State} {m : MethodId} {args : Array Value} {below : List Frame} {meth : Method} {c : Code} {T : State} {locs : List Loc} {cells slots : Nat} {P : Outcome → State → Prop} {code : ByteArray} {pc : Nat} {L : Array Slot} {S : List Value}
theorem iA (X : Stand p l e R s m args below meth c T locs cells slots) (hx : p.tables.exec = Jvm.exec) (hby : c.code = code) {i : Fin 4} {v : Int32} (hd : decode code pc = .ok (.iload_n i, 1)) (hl : L[i.val]? = some (.val (.int v))) (h : Go p e below P (T.setTop (mkF m (pc + 1) L (.int v :: S)))) : Go p e below P (T.setTop (mkF m pc L S)) := Go.by (fun _ => XS.iloadN X.here hx rfl (hb hby hd) hl) h
theorem iB (X : Stand p l e R s m args below meth c T locs cells slots) (hx : p.tables.exec = Jvm.exec) (hby : c.code = code) {i : Nat} {v : Int32} (hd : decode code pc = .ok (.iload i, 2)) (hl : L[i]? = some (.val (.int v))) (h : Go p e below P (T.setTop (mkF m (pc + 2) L (.int v :: S)))) : Go p e below P (T.setTop (mkF m pc L S)) := Go.by (fun _ => XS.iload X.here hx rfl (hb hby hd) hl) h
theorem iS (X : Stand p l e R s m args below meth c T locs cells slots) (hx : p.tables.exec = Jvm.exec) (hby : c.code = code) {i : Fin 4} {x : Int32} {l' : Array Slot} (hd : decode code pc = .ok (.istore_n i, 1)) (hl : storeLocals L i.val (.int x) = some l') (h : Go p e below P (T.setTop (mkF m (pc + 1) l' S))) : Go p e below P (T.setTop (mkF m pc L (.int x :: S))) := Go.by (fun _ => XS.istoreN X.here hx rfl (hb hby hd) rfl hl) h
theorem iT (X : Stand p l e R s m args below meth c T locs cells slots) (hx : p.tables.exec = Jvm.exec) (hby : c.code = code) {i : Nat} {x : Int32} {l' : Array Slot} (hd : decode code pc = .ok (.istore i, 2)) (hl : storeLocals L i (.int x) = some l') (h : Go p e below P (T.setTop (mkF m (pc + 2) l' S))) : Go p e below P (T.setTop (mkF m pc L (.int x :: S))) := Go.by (fun _ => XS.istore X.here hx rfl (hb hby hd) rfl hl) h
theorem lA (X : Stand p l e R s m args below meth c T locs cells slots) (hx : p.tables.exec = Jvm.exec) (hby : c.code = code) {i : Fin 4} {v : Int64} (hd : decode code pc = .ok (.lload_n i, 1)) (hl : L[i.val]? = some (.val (.long v))) (h : Go p e below P (T.setTop (mkF m (pc + 1) L (.long v :: S)))) : Go p e below P (T.setTop (mkF m pc L S)) := Go.by (fun _ => XS.lloadN X.here hx rfl (hb hby hd) hl) h
theorem lB (X : Stand p l e R s m args below meth c T locs cells slots) (hx : p.tables.exec = Jvm.exec) (hby : c.code = code) {i : Nat} {v : Int64} (hd : decode code pc = .ok (.lload i, 2)) (hl : L[i]? = some (.val (.long v))) (h : Go p e below P (T.setTop (mkF m (pc + 2) L (.long v :: S)))) : Go p e below P (T.setTop (mkF m pc L S)) := Go.by (fun _ => XS.lload X.here hx rfl (hb hby hd) hl) h
theorem w_lstoreN (X : Stand p l e R s m args below meth c T locs cells slots) (hx : p.tables.exec = Jvm.exec) (hby : c.code = code) {i : Fin 4} {x : Int64} {l' : Array Slot} (hd : decode code pc = .ok (.lstore_n i, 1)) (hl : storeLocals L i.val (.long x) = some l') (h : Go p e below P (T.setTop (mkF m (pc + 1) l' S))) : Go p e below P (T.setTop (mkF m pc L (.long x :: S))) := Go.by (fun _ => XS.lstoreN X.here hx rfl (hb hby hd) rfl hl) h
theorem w_lstore (X : Stand p l e R s m args below meth c T locs cells slots) (hx : p.tables.exec = Jvm.exec) (hby : c.code = code) {i : Nat} {x : Int64} {l' : Array Slot} (hd : decode code pc = .ok (.lstore i, 2)) (hl : storeLocals L i (.long x) = some l') (h : Go p e below P (T.setTop (mkF m (pc + 2) l' S))) : Go p e below P (T.setTop (mkF m pc L (.long x :: S))) := Go.by (fun _ => XS.lstore X.here hx rfl (hb hby hd) rfl hl) h
theorem aA (X : Stand p l e R s m args below meth c T locs cells slots) (hx : p.tables.exec = Jvm.exec) (hby : c.code = code) {i : Fin 4} {v : Value} (hd : decode code pc = .ok (.aload_n i, 1)) (hl : L[i.val]? = some (.val v)) (hv : v.isRef = true) (h : Go p e below P (T.setTop (mkF m (pc + 1) L (v :: S)))) : Go p e below P (T.setTop (mkF m pc L S)) := Go.by (fun _ => XS.aloadN X.here hx rfl (hb hby hd) hl hv) h
theorem aB (X : Stand p l e R s m args below meth c T locs cells slots) (hx : p.tables.exec = Jvm.exec) (hby : c.code = code) {i : Nat} {v : Value} (hd : decode code pc = .ok (.aload i, 2)) (hl : L[i]? = some (.val v)) (hv : v.isRef = true) (h : Go p e below P (T.setTop (mkF m (pc + 2) L (v :: S)))) : Go p e below P (T.setTop (mkF m pc L S)) := Go.by (fun _ => XS.aload X.here hx rfl (hb hby hd) hl hv) h
theorem aS (X : Stand p l e R s m args below meth c T locs cells slots) (hx : p.tables.exec = Jvm.exec) (hby : c.code = code) {i : Fin 4} {x : Value} {l' : Array Slot} (hd : decode code pc = .ok (.astore_n i, 1)) (hv : x.isRef = true) (hl : storeLocals L i.val x = some l') (h : Go p e below P (T.setTop (mkF m (pc + 1) l' S))) : Go p e below P (T.setTop (mkF m pc L (x :: S))) := Go.by (fun _ => XS.astoreN X.here hx rfl (hb hby hd) rfl hv hl) h
theorem aT (X : Stand p l e R s m args below meth c T locs cells slots) (hx : p.tables.exec = Jvm.exec) (hby : c.code = code) {i : Nat} {x : Value} {l' : Array Slot} (hd : decode code pc = .ok (.astore i, 2)) (hv : x.isRef = true) (hl : storeLocals L i x = some l') (h : Go p e below P (T.setTop (mkF m (pc + 2) l' S))) : Go p e below P (T.setTop (mkF m pc L (x :: S))) := Go.by (fun _ => XS.astore X.here hx rfl (hb hby hd) rfl hv hl) h
theorem iC (X : Stand p l e R s m args below meth c T locs cells slots) (hx : p.tables.exec = Jvm.exec) (hby : c.code = code) {i : Int} {v : Int32} (hd : decode code pc = .ok (.iconst i, 1)) (hv : Int32.ofInt i = v) (h : Go p e below P (T.setTop (mkF m (pc + 1) L (.int v :: S)))) : Go p e below P (T.setTop (mkF m pc L S)) := by
  subst hv
  exact Go.by (fun _ => XS.iconst X.here hx rfl (hb hby hd)) h
theorem sC (X : Stand p l e R s m args below meth c T locs cells slots) (hx : p.tables.exec = Jvm.exec) (hby : c.code = code) {i : Int} {v : Int32} (hd : decode code pc = .ok (.sipush i, 3)) (hv : (Int16.ofInt i).toInt32 = v) (h : Go p e below P (T.setTop (mkF m (pc + 3) L (.int v :: S)))) : Go p e below P (T.setTop (mkF m pc L S)) := by
  subst hv
  exact Go.by (fun _ => XS.sipush X.here hx rfl (hb hby hd)) h
theorem w_aconstNull (X : Stand p l e R s m args below meth c T locs cells slots) (hx : p.tables.exec = Jvm.exec) (hby : c.code = code)  (hd : decode code pc = .ok (.aconst_null, 1)) (h : Go p e below P (T.setTop (mkF m (pc + 1) L (.null :: S)))) : Go p e below P (T.setTop (mkF m pc L S)) := Go.by (fun _ => XS.aconstNull X.here hx rfl (hb hby hd)) h
theorem dU (X : Stand p l e R s m args below meth c T locs cells slots) (hx : p.tables.exec = Jvm.exec) (hby : c.code = code) {x : Value} (hd : decode code pc = .ok (.dup, 1)) (hc : x.category = 1) (h : Go p e below P (T.setTop (mkF m (pc + 1) L (x :: x :: S)))) : Go p e below P (T.setTop (mkF m pc L (x :: S))) := Go.by (fun _ => XS.dup X.here hx rfl (hb hby hd) rfl hc) h
theorem pO (X : Stand p l e R s m args below meth c T locs cells slots) (hx : p.tables.exec = Jvm.exec) (hby : c.code = code) {x : Value} (hd : decode code pc = .ok (.pop, 1)) (hc : x.category = 1) (h : Go p e below P (T.setTop (mkF m (pc + 1) L S))) : Go p e below P (T.setTop (mkF m pc L (x :: S))) := Go.by (fun _ => XS.pop X.here hx rfl (hb hby hd) rfl hc) h
theorem iI (X : Stand p l e R s m args below meth c T locs cells slots) (hx : p.tables.exec = Jvm.exec) (hby : c.code = code) {i : Nat} {k : Int} {x : Int32} {l' : Array Slot} (hd : decode code pc = .ok (.iinc i k, 3)) (hl : L[i]? = some (.val (.int x))) (hl' : storeLocals L i (.int (x + Int32.ofInt k)) = some l') (h : Go p e below P (T.setTop (mkF m (pc + 3) l' S))) : Go p e below P (T.setTop (mkF m pc L S)) := Go.by (fun _ => XS.iinc X.here hx rfl (hb hby hd) hl hl') h
theorem iP (X : Stand p l e R s m args below meth c T locs cells slots) (hx : p.tables.exec = Jvm.exec) (hby : c.code = code) {x y v : Int32} (hd : decode code pc = .ok (.iadd, 1)) (hv : x + y = v) (h : Go p e below P (T.setTop (mkF m (pc + 1) L (.int v :: S)))) : Go p e below P (T.setTop (mkF m pc L (.int y :: .int x :: S))) := by
  subst hv
  exact Go.by (fun _ => XS.iadd X.here hx rfl (hb hby hd) rfl) h
theorem w_iand (X : Stand p l e R s m args below meth c T locs cells slots) (hx : p.tables.exec = Jvm.exec) (hby : c.code = code) {x y v : Int32} (hd : decode code pc = .ok (.iand, 1)) (hv : x &&& y = v) (h : Go p e below P (T.setTop (mkF m (pc + 1) L (.int v :: S)))) : Go p e below P (T.setTop (mkF m pc L (.int y :: .int x :: S))) := by
  subst hv
  exact Go.by (fun _ => XS.iand X.here hx rfl (hb hby hd) rfl) h
theorem gO (X : Stand p l e R s m args below meth c T locs cells slots) (hx : p.tables.exec = Jvm.exec) (hby : c.code = code) {o : Int} {pc' : Nat} (hd : decode code pc = .ok (.goto o, 3)) (h : Go p e below P (T.setTop (mkF m pc' L S))) (hp : 0 ≤ (pc : Int) + o ∧ ((pc : Int) + o).toNat = pc' := by first | decide | exact of_decide_eq_true rfl) : Go p e below P (T.setTop (mkF m pc L S)) := Go.by (fun _ => XS.goto X.here hx rfl rfl (hb hby hd) hp.1 hp.2) h
theorem fY (X : Stand p l e R s m args below meth c T locs cells slots) (hx : p.tables.exec = Jvm.exec) (hby : c.code = code) {cd : ClassFile.Cond} {o : Int} {x : Int32} {pc' : Nat} (hd : decode code pc = .ok (.ifCond cd o, 3)) (hc : ifCond.holds cd x = true) (h : Go p e below P (T.setTop (mkF m pc' L S))) (hp : 0 ≤ (pc : Int) + o ∧ ((pc : Int) + o).toNat = pc' := by first | decide | exact of_decide_eq_true rfl) : Go p e below P (T.setTop (mkF m pc L (.int x :: S))) := Go.by (fun _ => XS.ifYes X.here hx rfl rfl (hb hby hd) rfl hc hp.1 hp.2) h
theorem fN (X : Stand p l e R s m args below meth c T locs cells slots) (hx : p.tables.exec = Jvm.exec) (hby : c.code = code) {cd : ClassFile.Cond} {o : Int} {x : Int32} (hd : decode code pc = .ok (.ifCond cd o, 3)) (hc : ifCond.holds cd x = false) (h : Go p e below P (T.setTop (mkF m (pc + 3) L S))) : Go p e below P (T.setTop (mkF m pc L (.int x :: S))) := Go.by (fun _ => XS.ifNo X.here hx rfl (hb hby hd) rfl hc) h
theorem cY (X : Stand p l e R s m args below meth c T locs cells slots) (hx : p.tables.exec = Jvm.exec) (hby : c.code = code) {cd : ClassFile.Cond} {o : Int} {x y : Int32} {pc' : Nat} (hd : decode code pc = .ok (.if_icmp cd o, 3)) (hc : if_icmp.holds cd x y = true) (h : Go p e below P (T.setTop (mkF m pc' L S))) (hp : 0 ≤ (pc : Int) + o ∧ ((pc : Int) + o).toNat = pc' := by first | decide | exact of_decide_eq_true rfl) : Go p e below P (T.setTop (mkF m pc L (.int y :: .int x :: S))) := Go.by (fun _ => XS.icmpYes X.here hx rfl rfl (hb hby hd) rfl hc hp.1 hp.2) h
theorem cN (X : Stand p l e R s m args below meth c T locs cells slots) (hx : p.tables.exec = Jvm.exec) (hby : c.code = code) {cd : ClassFile.Cond} {o : Int} {x y : Int32} (hd : decode code pc = .ok (.if_icmp cd o, 3)) (hc : if_icmp.holds cd x y = false) (h : Go p e below P (T.setTop (mkF m (pc + 3) L S))) : Go p e below P (T.setTop (mkF m pc L (.int y :: .int x :: S))) := Go.by (fun _ => XS.icmpNo X.here hx rfl (hb hby hd) rfl hc) h
theorem w_ifnullYes (X : Stand p l e R s m args below meth c T locs cells slots) (hx : p.tables.exec = Jvm.exec) (hby : c.code = code) {o : Int} {pc' : Nat} (hd : decode code pc = .ok (.ifnull o, 3)) (h : Go p e below P (T.setTop (mkF m pc' L S))) (hp : 0 ≤ (pc : Int) + o ∧ ((pc : Int) + o).toNat = pc' := by first | decide | exact of_decide_eq_true rfl) : Go p e below P (T.setTop (mkF m pc L (.null :: S))) := Go.by (fun _ => XS.ifnullYes X.here hx rfl rfl (hb hby hd) rfl hp.1 hp.2) h
theorem w_ifnullNo (X : Stand p l e R s m args below meth c T locs cells slots) (hx : p.tables.exec = Jvm.exec) (hby : c.code = code) {o : Int} {b : Addr} (hd : decode code pc = .ok (.ifnull o, 3)) (h : Go p e below P (T.setTop (mkF m (pc + 3) L S))) : Go p e below P (T.setTop (mkF m pc L (.ref b :: S))) := Go.by (fun _ => XS.ifnullNo X.here hx rfl (hb hby hd) rfl) h
theorem w_ifnonnullYes (X : Stand p l e R s m args below meth c T locs cells slots) (hx : p.tables.exec = Jvm.exec) (hby : c.code = code) {o : Int} {pc' : Nat} {b : Addr} (hd : decode code pc = .ok (.ifnonnull o, 3)) (h : Go p e below P (T.setTop (mkF m pc' L S))) (hp : 0 ≤ (pc : Int) + o ∧ ((pc : Int) + o).toNat = pc' := by first | decide | exact of_decide_eq_true rfl) : Go p e below P (T.setTop (mkF m pc L (.ref b :: S))) := Go.by (fun _ => XS.ifnonnullYes X.here hx rfl rfl (hb hby hd) rfl hp.1 hp.2) h
theorem w_ifnonnullNo (X : Stand p l e R s m args below meth c T locs cells slots) (hx : p.tables.exec = Jvm.exec) (hby : c.code = code) {o : Int} (hd : decode code pc = .ok (.ifnonnull o, 3)) (h : Go p e below P (T.setTop (mkF m (pc + 3) L S))) : Go p e below P (T.setTop (mkF m pc L (.null :: S))) := Go.by (fun _ => XS.ifnonnullNo X.here hx rfl (hb hby hd) rfl) h
theorem lP (X : Stand p l e R s m args below meth c T locs cells slots) (hx : p.tables.exec = Jvm.exec) (hby : c.code = code) {x y v : Int64} (hd : decode code pc = .ok (.ladd, 1)) (hv : x + y = v) (h : Go p e below P (T.setTop (mkF m (pc + 1) L (.long v :: S)))) : Go p e below P (T.setTop (mkF m pc L (.long y :: .long x :: S))) := by
  subst hv
  exact Go.by (fun _ => XS.ladd X.here hx rfl (hb hby hd) rfl) h
theorem w_land (X : Stand p l e R s m args below meth c T locs cells slots) (hx : p.tables.exec = Jvm.exec) (hby : c.code = code) {x y v : Int64} (hd : decode code pc = .ok (.land, 1)) (hv : x &&& y = v) (h : Go p e below P (T.setTop (mkF m (pc + 1) L (.long v :: S)))) : Go p e below P (T.setTop (mkF m pc L (.long y :: .long x :: S))) := by
  subst hv
  exact Go.by (fun _ => XS.land X.here hx rfl (hb hby hd) rfl) h
theorem lK (X : Stand p l e R s m args below meth c T locs cells slots) (hx : p.tables.exec = Jvm.exec) (hby : c.code = code) {x y : Int64} (hd : decode code pc = .ok (.lcmp, 1)) (h : Go p e below P (T.setTop (mkF m (pc + 1) L (.int (lcmpW x y) :: S)))) : Go p e below P (T.setTop (mkF m pc L (.long y :: .long x :: S))) := Go.by (fun _ => XS.lcmp X.here hx rfl (hb hby hd) rfl) h
theorem lC (X : Stand p l e R s m args below meth c T locs cells slots) (hx : p.tables.exec = Jvm.exec) (hby : c.code = code) {k : Fin 2} {v : Int64} (hd : decode code pc = .ok (.lconst k, 1)) (hv : Int64.ofNat k = v) (h : Go p e below P (T.setTop (mkF m (pc + 1) L (.long v :: S)))) : Go p e below P (T.setTop (mkF m pc L S)) := by
  subst hv
  exact Go.by (fun _ => XS.lconst X.here hx rfl (hb hby hd)) h
theorem w_i2l (X : Stand p l e R s m args below meth c T locs cells slots) (hx : p.tables.exec = Jvm.exec) (hby : c.code = code) {x : Int32} {v : Int64} (hd : decode code pc = .ok (.i2l, 1)) (hv : x.toInt64 = v) (h : Go p e below P (T.setTop (mkF m (pc + 1) L (.long v :: S)))) : Go p e below P (T.setTop (mkF m pc L (.int x :: S))) := by
  subst hv
  exact Go.by (fun _ => XS.i2l X.here hx rfl (hb hby hd) rfl) h
theorem w_l2i (X : Stand p l e R s m args below meth c T locs cells slots) (hx : p.tables.exec = Jvm.exec) (hby : c.code = code) {x : Int64} {v : Int32} (hd : decode code pc = .ok (.l2i, 1)) (hv : x.toInt32 = v) (h : Go p e below P (T.setTop (mkF m (pc + 1) L (.int v :: S)))) : Go p e below P (T.setTop (mkF m pc L (.long x :: S))) := by
  subst hv
  exact Go.by (fun _ => XS.l2i X.here hx rfl (hb hby hd) rfl) h
theorem lD (X : Stand p l e R s m args below meth c T locs cells slots) (hx : p.tables.exec = Jvm.exec) (hby : c.code = code) {Z : State} {a0 : Array Value} {own : String} {index : Nat} {v v' : Int64} (hown : s.vm.findClass own = some m.cls) (hZ : Z.Warmed39 s.vm) (w : (Cond.constantLong own index v).before a0 Z = true) (hd : decode code pc = .ok (.ldc2_w index, 3)) (hv : v = v') (h : Go p e below P (T.setTop (mkF m (pc + 3) L (.long v' :: S)))) : Go p e below P (T.setTop (mkF m pc L S)) := by
  subst hv
  exact Go.by (fun _ => Jvm.Stand.ldc2J X hx hown (mvT hZ w) rfl (hb hby hd)) h
end OwnW
theorem own_fin {p : Program} {l : Launch} {e : Env} {R : Room} {s : State} {m : MethodId} {args : Array Value} {below : List Frame} {meth : Method} {c : Code} {T : State} {locs : List Loc} {k n C S : Nat} {v : Option Value} {Q : Option Value → Heap → List Loc → Prop} {S0 : State} {P : Outcome → State → Prop} (hP : P = PQ s Q C S) (hlk : meth.locks = false)
    (X : Stand p l e R s m args below meth c T locs k n) (hv : meth.sig.returnType = none → v = none) (hk : k ≤ C) (hn : n ≤ S) (hQ : Q v T.heap locs)
    (hst : ∀ fs, (∀ (f : JFrame) (acts : List Action), f.method = m → f.locked = none → f.entered = [] → (doReturn e (T.setTop f) acts v).1 = T.setFrames fs) → Steps p.tables e below S0 (T.setFrames fs)) : Go p e below P S0 := hP ▸ Go.fin X hlk hv hk hn hQ hst
abbrev oM (l : Launch) (x : MethodName) (code : ByteArray) (ml : Nat) (ret : Option FieldType) (ws : List Jvm.Cond) (R : Room) (A : Array Value) (Z : State) (h0 : Heap) (Q : Option Value → Heap → List Loc → Prop) : Prop := MetFree l x (head1 (Jvm.Cond.code x code ml ret :: ws) R) (fun a U => a = A ∧ Z.Warmed39 U.vm ∧ U.heap = h0) (fun _ _ _ _ _ => True) (fun _ U o U' => ∃ v L, o = .returned v ∧ Q v U'.heap L ∧ FrameEnd U o U' L R.cells R.slots)
theorem own_open {l : Launch} {x : MethodName} {code : ByteArray} {ml : Nat} {ret : Option FieldType} {ws : List Jvm.Cond} {R : Room} {A : Array Value} {Z : State} {h0 : Heap} {n0 : Nat} {Q : Option Value → Heap → List Loc → Prop} {L0 : Array Slot} {cn : String} (hcn : x.cls = cn) (hpl : plainFor x = true)
    (body : ∀ (p : Program) (e : Env) (s : State) (m : MethodId) (below : List Frame) (meth : Method) (c : Code) (s₁ : State) (P : Outcome → State → Prop), p.tables.exec = Jvm.exec → c.code = code → c.maxLocals = ml → s.vm.findClass cn = some m.cls → meth.name = x.name → Stand p l e R s m A below meth c s₁ [] 0 0 → s₁.heap = h0 → Fr n0 [] → meth.locks = false → meth.sig.returnType = ret → Z.Warmed39 s.vm → P = PQ s Q R.cells R.slots → Go p e below P (s₁.setTop (mkF m 0 L0 []))) (hef : ∀ m, entryFrame m A ml = mkF m 0 L0 [] := by intro m; first | (simp [entryFrame, mkF, argsToLocals, Value.category]; done) | rfl) : oM l x code ml ret ws R A Z h0 Q := by
  subst hcn
  refine MetFree.of_bodySF hpl hisR ?_
  intro p e s m args below meth c s₁ Bd hml0 hP hK
  obtain ⟨rfl, hZ, hh⟩ := hP
  have e0 : s₁.heap = h0 := by rw [← hh, Bd.state]; rfl
  have hgo := body p e s m below meth c s₁ _ Bd.exec Bd.bytes hml0 (findClass_of_methodNamed Bd.named) (name_of_methodNamed Bd.named Bd.method).1 (Stand.of_body Bd) e0 (Fr.nil n0) Bd.notSynchronized Bd.returns hZ rfl
  exact Go.by (fun t k => castTop (hef m) k) hgo
section OwnCall
variable {p : Program} {l : Launch} {e : Env} {R : Room} {s : State} {m : MethodId} {args : Array Value} {below : List Frame} {meth : Method} {c : Code} {T : State} {locs : List Loc} {cells slots : Nat} {P : Outcome → State → Prop} {code : ByteArray} {pc : Nat} {L : Array Slot} {Z : State} {a0 : Array Value} {h : Heap} {own C : String} {index zl : Nat} {y : MethodName} {zc : ByteArray} {zr : Option FieldType} {rm : Room} {as' : Array Value} {Q : Option Value → Heap → List Loc → Prop} {b : Addr}
theorem c_virt (W : Nat) (X : Stand p l e R s m args below meth c T locs cells slots) (hx : p.tables.exec = Jvm.exec) (hby : c.code = code) {N : Nat} (hml : c.maxLocals = N) (hZ : Z.Warmed39 s.vm) (hown : s.vm.findClass own = some m.cls) (w1 : (Cond.methodLink own index y).before a0 Z = true) (w2 : (Cond.declares y).before a0 Z = true) (w3 : (Cond.selects C y y).before a0 Z = true) (w4 : (Cond.instanceMethod y).before a0 Z = true) (wc : (Cond.code y zc zl zr).before a0 Z = true) (wz : (Cond.initialized y.cls).before a0 Z = true) (hM : oM l y zc zl zr [] rm as' Z h Q) (eT : T.heap = h) (E : Exa Z h b C) (hd : decode code pc = .ok (.invokevirtual index, 3)) (argsL rest : List Value) (hlen : ∀ sig, parseMethodDescriptor y.desc = some sig → argsL.length = sig.parameters.length) (ha : (.ref b :: argsL).toArray = as') (hW : (rest.map fun v => v.category).sum = W)
    (k : ∀ v (T' : State) Lc, Q v T'.heap Lc → Stand p l e R s m args below meth c T' (locs ++ Lc) (cells + rm.cells) (slots + rm.slots) → Go p e below P (T'.setTop (mkF m (pc + 3) L (v.toList ++ rest)))) (hsz : L.size = N := by rfl) (hn : (y.cls ≠ "java/lang/invoke/MethodHandle" ∧ y.cls ≠ "java/lang/invoke/VarHandle") ∧ rm.frames + 1 ≤ R.frames ∧ W + (zl + 11) + rm.locals ≤ R.locals ∧ cells + rm.cells ≤ R.cells ∧ slots + rm.slots ≤ R.slots := by decide) : Go p e below P (T.setTop (mkF m pc L (argsL.reverse ++ .ref b :: rest))) := by
  obtain ⟨cB, kB, q1, q2, q3⟩ := isOf hZ eT E
  obtain ⟨v, vm1, ⟨U, ls, cs, ss⟩, -, X', ⟨Lc, hQ, l1, y1, z1⟩, st⟩ := X.virtualBack hx (y := y) (z := y) hown (mvT hZ w1) (mvT hZ w2) (notFace_of_selects (args := #[]) (mvT hZ w3)) (mvT hZ w3) (mvT hZ w4) hn.1 (backOf (W := W) hM hZ wc wz hn.2.1 hn.2.2.1) q1 q3 (g := (mkF m pc L (argsL.reverse ++ .ref b :: rest))) rfl (by rw [hml]; exact hsz) (Steps.refl _) (argsL := argsL) (rest := rest) hlen rfl (by show 2 * 0 + _ ≤ _; rw [Nat.mul_zero, Nat.zero_add]; exact Nat.le_of_eq hW) (hb hby hd) (fun _ _ => ⟨ha, eT, hn.2.2.2.1, hn.2.2.2.2⟩)
  dsimp only [Pt.U, Pt.locs, Pt.cells, Pt.slots] at X' l1 y1 z1 st hQ
  subst l1 y1 z1
  exact Go.by (fun t k => st.trans k) (k v U Lc hQ X')
theorem c_stat (W : Nat) (X : Stand p l e R s m args below meth c T locs cells slots) (hx : p.tables.exec = Jvm.exec) (hby : c.code = code) {N : Nat} (hml : c.maxLocals = N) (hZ : Z.Warmed39 s.vm) (hown : s.vm.findClass own = some m.cls) (w1 : (Cond.methodLink own index y).before a0 Z = true) (w2 : (Cond.static y).before a0 Z = true) (wz : (Cond.initialized y.cls).before a0 Z = true) (wc : (Cond.code y zc zl zr).before a0 Z = true) (hM : oM l y zc zl zr [] rm as' Z h Q) (eT : T.heap = h) (hd : decode code pc = .ok (.invokestatic index, 3)) (argsL rest : List Value) (hlen : ∀ sig, parseMethodDescriptor y.desc = some sig → argsL.length = sig.parameters.length) (ha : argsL.toArray = as') (hW : (rest.map fun v => v.category).sum = W)
    (k : ∀ v (T' : State) Lc, Q v T'.heap Lc → Stand p l e R s m args below meth c T' (locs ++ Lc) (cells + rm.cells) (slots + rm.slots) → Go p e below P (T'.setTop (mkF m (pc + 3) L (v.toList ++ rest)))) (hsz : L.size = N := by rfl) (hn : (y.cls ≠ "java/lang/invoke/MethodHandle" ∧ y.cls ≠ "java/lang/invoke/VarHandle") ∧ rm.frames + 1 ≤ R.frames ∧ W + (zl + 11) + rm.locals ≤ R.locals ∧ cells + rm.cells ≤ R.cells ∧ slots + rm.slots ≤ R.slots := by decide) : Go p e below P (T.setTop (mkF m pc L (argsL.reverse ++ rest))) := by
  obtain ⟨v, vm1, ⟨U, ls, cs, ss⟩, -, X', ⟨Lc, hQ, l1, y1, z1⟩, st⟩ := Jvm.LawKit.callS X hx (y := y) hown (mvT hZ w1) (mvT hZ w2) (mvT hZ wz) (mvT hZ wc) hn.1 (backOf (W := W) hM hZ wc wz hn.2.1 hn.2.2.1) (g := (mkF m pc L (argsL.reverse ++ rest))) rfl (by rw [hml]; exact hsz) (argsL := argsL) (rest := rest) hlen rfl (by show 2 * 0 + _ ≤ _; rw [Nat.mul_zero, Nat.zero_add]; exact Nat.le_of_eq hW) (hb hby hd) (fun _ _ => ⟨ha, eT, hn.2.2.2.1, hn.2.2.2.2⟩)
  dsimp only [Pt.U, Pt.locs, Pt.cells, Pt.slots] at X' l1 y1 z1 st hQ
  subst l1 y1 z1
  exact Go.by (fun t k => st t k) (k v U Lc hQ X')
end OwnCall
theorem r_val {p : Program} {l : Launch} {e : Env} {R : Room} {s : State} {m : MethodId} {args : Array Value} {below : List Frame} {meth : Method} {c : Code} {T : State} {locs : List Loc} {k n C S : Nat} {Q : Option Value → Heap → List Loc → Prop} {P : Outcome → State → Prop} {code : ByteArray} {pc : Nat} {Ls : Array Slot} {w : Value} {t : FieldType} {i : Instr} {rest : List Value} (hP : P = PQ s Q C S) (hlk : meth.locks = false) (hret : meth.sig.returnType = some t) (X : Stand p l e R s m args below meth c T locs k n) (hx : p.tables.exec = Jvm.exec) (hby : c.code = code) (hd : decode code pc = .ok (i, 1)) (hn : narrow t w = w)
    (hi : (i = .ireturn ∧ (t = .int ∨ t = .boolean ∨ t = .byte ∨ t = .char ∨ t = .short) ∧ ∃ z, w = .int z) ∨ (i = .lreturn ∧ t = .long ∧ ∃ z, w = .long z) ∨ (i = .dreturn ∧ t = .double ∧ ∃ z, w = .double z) ∨ (i = .freturn ∧ t = .float ∧ ∃ z, w = .float z) ∨ (i = .areturn ∧ t.isReference = true ∧ w.isRef = true)) (hk : k ≤ C ∧ n ≤ S) (hQ : Q (some w) T.heap locs) : Go p e below P (T.setTop (mkF m pc Ls (w :: rest))) := own_fin hP hlk X (v := some w) (fun h => by rw [hret] at h; cases h) hk.1 hk.2 hQ (fun fs hr => retOut X hx hret hn hi (hb hby hd) hr)
/-! ### from a case's words to facts -/
section OwnWords
variable {args : Array Value} {s : State} {t : Term} {C n d : String} {a : Addr} {z : Int32}
theorem own_fint (hx : t.eval args s none [] s = some (.ref a)) (h : (Cond.eq (.field t C n d) (.int z)).value args s none s [] = some true) : Fld s s.heap a C n d (.int z) := by
 refine Fld.start ?_
 have e1 : (Term.field t C n d).eval args s none [] s = s.fieldOf? a C n d := fld_at hx
 cases hf : s.fieldOf? a C n d with
 | none => simp [Cond.value, e1, hf] at h
 | some v =>
   cases v <;> simp [Cond.value, e1, hf, Term.int_eval] at h
   subst h; rfl
theorem own_lenE {cl : Cell} {ty : FieldType} (ev : t.eval args s none [] s = some (.ref a)) (A : Arr s s.heap a cl ty) (h : (Cond.eq (.length t) (.int z)).value args s none s [] = some true) : cl.slots.size < 2 ^ 31 ∧ cl.slots.size.toInt32 = z := by
 have ha : s.arrayAt? a = some cl := Arr.fin (Vm.Alike.refl _) A
 by_cases hl : cl.slots.size < 2 ^ 31
 · have q := len_f (o := none) (idx := []) (first := s) ev ha hl
   simp [Cond.value, q, Term.int_eval] at h
   exact ⟨hl, h⟩
 · simp [Cond.value, Term.eval, ev, ha, hl] at h
theorem own_len {cl : Cell} {ty : FieldType} {N : Nat} (ev : t.eval args s none [] s = some (.ref a)) (A : Arr s s.heap a cl ty) (hz : z.toInt = N) (h : (Cond.eq (.length t) (.int z)).value args s none s [] = some true) : cl.slots.size = N := by
 obtain ⟨h1, h2⟩ := own_lenE ev A h
 have h3 := len_toInt h1
 rw [h2, hz] at h3
 omega
theorem own_elem {cl : Cell} {j : Int32} (ev : t.eval args s none [] s = some (.ref a)) (hc : s.heap[a]? = some cl) (h : (Cond.eq (.elem t (.int j)) (.int z)).value args s none s [] = some true) : cl.slots[j.toNatClampNeg]? = some (.int z) := by
 obtain ⟨x, y, e1, e2, -, -⟩ := cmp_v (Or.inl h)
 have q := (elem_in e1 ev rfl hc).2
 cases e2
 cases x <;> simp [Cond.value, e1, Term.int_eval] at h
 subst h; exact q
end OwnWords
/-! ### the end of a walk that may intern -/
def PQW (s Z : State) (EL : List (String × Nat)) (Q : Option Value → Heap → List Loc → Prop) (C S : Nat) : Outcome → State → Prop :=
 fun o U' => ∃ v L, o = .returned v ∧ Q v U'.heap L ∧ CHr Z EL s.vm s.heap U'.vm U'.heap ∧ ReturnedEndW s o U' L C S
theorem Go.finW {p : Program} {l : Launch} {e : Env} {R : Room} {s Z : State} {a0 : Array Value} {EL : List (String × Nat)} {vm0 : Vm} {k0 : Nat} {m : MethodId} {args : Array Value} {below : List Frame} {meth : Method} {c : Code} {T : State} {locs : List Loc} {k n C S : Nat} {v : Option Value} {Q : Option Value → Heap → List Loc → Prop} {S0 : State} {h0 H : Heap}
   (X : Stand p l e R (s.setVm vm0) m args below meth c T locs k n) (hlk : meth.locks = false) (hEL : EW Z a0 EL) (hv : meth.sig.returnType = none → v = none) (hk : k ≤ C) (hn : n ≤ S) (hh : s.heap = h0) (eT : T.heap = H) (hS : s.Since vm0 k0) (hk0 : k0 ≤ H.size) (hZ : Z.Warmed39 vm0) (hC : CHr Z EL s.vm h0 vm0 H) (hQ : Q v H locs)
   (hst : ∀ fs, (∀ (f : JFrame) (acts : List Action), f.method = m → f.locked = none → f.entered = [] → (doReturn e (T.setTop f) acts v).1 = T.setFrames fs) → Steps p.tables e below S0 (T.setFrames fs)) : Go p e below (PQW s Z EL Q C S) S0 := by
 subst eT hh
 obtain ⟨fs, hr, hrun, hended, hW1, hW2, hW3, hsame⟩ := X.leaveW hS hk0 (v := v) hv hlk
 have hc := CHr.trans hC (CHv.at X hZ hEL hC.1)
 exact ⟨_, _, hst fs hr, hrun, hended, v, locs, rfl, hQ, hc, hW1, hW2, hW3, hsame.mono hk hn⟩
/-! ### a callee that may intern and that is handed addresses which no literal bears -/
theorem own_ss0 {Z : State} {EL : List (String × Nat)} {vm : Vm} {h : Heap} : ∀ x ∈ ([] : List Addr), x < h.size ∧ Safe Z EL vm h x := fun _ q => nomatch q
theorem own_ssS {Z : State} {EL : List (String × Nat)} {vm : Vm} {h : Heap} {y : Addr} {L : List Addr} (q : Safe Z EL vm h y) (lt : y < h.size) (r : ∀ x ∈ L, x < h.size ∧ Safe Z EL vm h x) : ∀ x ∈ y :: L, x < h.size ∧ Safe Z EL vm h x := fun x hx => by
 rcases List.mem_cons.mp hx with rfl | hx
 · exact ⟨lt, q⟩
 · exact r x hx
theorem own_backC {l : Launch} {R : Room} {p : Program} {e : Env} {below : List Frame} {s Z : State} {args a0 : Array Value} {EL : List (String × Nat)} {h : Heap} {vm0 : Vm} {y : MethodName} {bytes : ByteArray} {maxL : Nat} {ret : Option FieldType} {rm : Room} {len W : Nat} {as' : Array Value} {ss : List Addr} {Q : Option Value → Heap → List Loc → Prop}
   (hM : MetFree l y (head1 [Cond.code y bytes maxL ret] rm) (fun a U => a = as' ∧ Z.Warmed39 U.vm ∧ U.heap = h ∧ CHv Z EL U.vm h ∧ ∀ x ∈ ss, Safe Z EL U.vm h x) (fun _ _ _ _ _ => True) (fun _ U o U' => ∃ v L, o = .returned v ∧ Q v U'.heap L ∧ CHr Z EL U.vm U.heap U'.vm U'.heap ∧ ReturnedEndW U o U' L rm.cells rm.slots))
   (hZ : Z.Warmed39 vm0) (wc : (Cond.code y bytes maxL ret).before a0 Z = true) (wz : (Cond.initialized y.cls).before a0 Z = true) (hf : rm.frames + 1 ≤ R.frames) (hl : W + (maxL + 11) + rm.locals ≤ R.locals) (hEL : EW Z a0 EL) (H : CHv Z EL vm0 h) (hss : ∀ x ∈ ss, x < h.size ∧ Safe Z EL vm0 h x) :
   BackS l R p e below (s.setVm vm0) args y len W (fun A a => a = as' ∧ A.U.heap = h ∧ A.cells + rm.cells ≤ R.cells ∧ A.slots + rm.slots ≤ R.slots)
     (fun A _ v B => ∃ L, Q v B.U.heap L ∧ B.locs = A.locs ++ L ∧ B.cells = A.cells + rm.cells ∧ B.slots = A.slots + rm.slots ∧ CHr Z EL vm0 h B.U.vm B.U.heap) := by
 refine BackS.of_freeW (bytes := bytes) (maxL := maxL) (ret := ret) (E := fun _ U o t L k n => k = rm.cells ∧ n = rm.slots ∧ CHr Z EL U.vm U.heap t.vm t.heap ∧ ∃ v, o = .returned v ∧ Q v t.heap L) hM hf hl ?_ ?_ (fun _ _ _ _ _ _ _ _ _ => trivial) ?_ ?_
 · intro m meth c A a Y hp
   have hU : Z.Warmed39 A.U.vm := wtrans (s := s.setVm vm0) hZ Y.warmed
   refine ⟨?_, mv hU wc, mv hU wz, hp.2.2.1, hp.2.2.2⟩
   show (Cond.and _ .tt).before a A.U = true
   rw [Cond.before_and, mv hU wc]; rfl
 · intro m meth c A a g mk Y hp
   have C := CHv.at Y hZ hEL H
   exact ⟨hp.1, wtrans (s := s.setVm vm0) hZ Y.warmed, hp.2.1, C.1, fun x hx => C.safe (hss x hx).1 (hss x hx).2⟩
 · rintro a U o t ⟨v, L, h1, h2, h3, h4⟩
   exact ⟨L, _, _, h4, rfl, rfl, h3, v, h1, h2⟩
 · rintro m meth c A a g mk v t L k n Y hp - - ⟨e1, e2, e3, v', e4, e5⟩
   cases e4
   subst e1 e2
   refine ⟨L, e5, rfl, rfl, rfl, (CHv.at Y hZ hEL H).trans ?_⟩
   rw [← hp.2.1]; exact e3
theorem own_backCK {l : Launch} {R : Room} {p : Program} {e : Env} {below : List Frame} {s Z : State} {args a0 : Array Value} {EL : List (String × Nat)} {h : Heap} {vm0 : Vm} {y : MethodName} {bytes : ByteArray} {maxL : Nat} {ret : Option FieldType} {rm : Room} {len W : Nat} {as' : Array Value} {ss : List Addr} {Q : Option Value → Heap → List Loc → Prop}
   (hM : MetFree l y (head1 [Cond.code y bytes maxL ret] rm) (fun a U => a = as' ∧ Z.Warmed39 U.vm ∧ U.heap = h ∧ CHv Z EL U.vm h ∧ ∀ x ∈ ss, Safe Z EL U.vm h x) (fun _ _ bl s _ => s.vm.MethodsKnown ∧ s.vm.FramesKnown bl) (fun _ U o U' => ∃ v L, o = .returned v ∧ Q v U'.heap L ∧ CHr Z EL U.vm U.heap U'.vm U'.heap ∧ ReturnedEndW U o U' L rm.cells rm.slots))
   (hZ : Z.Warmed39 vm0) (wc : (Cond.code y bytes maxL ret).before a0 Z = true) (wz : (Cond.initialized y.cls).before a0 Z = true) (hf : rm.frames + 1 ≤ R.frames) (hl : W + (maxL + 11) + rm.locals ≤ R.locals) (hEL : EW Z a0 EL) (H : CHv Z EL vm0 h) (hss : ∀ x ∈ ss, x < h.size ∧ Safe Z EL vm0 h x) (hTK : (s.setVm vm0).vm.MethodsKnown) (hBelow : (s.setVm vm0).vm.FramesKnown below) :
   BackS l R p e below (s.setVm vm0) args y len W (fun A a => a = as' ∧ A.U.heap = h ∧ A.cells + rm.cells ≤ R.cells ∧ A.slots + rm.slots ≤ R.slots)
     (fun A _ v B => ∃ L, Q v B.U.heap L ∧ B.locs = A.locs ++ L ∧ B.cells = A.cells + rm.cells ∧ B.slots = A.slots + rm.slots ∧ CHr Z EL vm0 h B.U.vm B.U.heap) := by
 refine BackS.of_freeWG (bytes := bytes) (maxL := maxL) (ret := ret) (E := fun _ U o t L k n => k = rm.cells ∧ n = rm.slots ∧ CHr Z EL U.vm U.heap t.vm t.heap ∧ ∃ v, o = .returned v ∧ Q v t.heap L) hM hf hl ?_ ?_ (fun m meth c A a g mk Y _ hg => known_frames Y hg hTK hBelow) ?_ ?_
 · intro m meth c A a Y hp
   have hU : Z.Warmed39 A.U.vm := wtrans (s := s.setVm vm0) hZ Y.warmed
   refine ⟨?_, mv hU wc, mv hU wz, hp.2.2.1, hp.2.2.2⟩
   show (Cond.and _ .tt).before a A.U = true
   rw [Cond.before_and, mv hU wc]; rfl
 · intro m meth c A a g mk Y hp
   have C := CHv.at Y hZ hEL H
   exact ⟨hp.1, wtrans (s := s.setVm vm0) hZ Y.warmed, hp.2.1, C.1, fun x hx => C.safe (hss x hx).1 (hss x hx).2⟩
 · rintro a U o t ⟨v, L, h1, h2, h3, h4⟩
   exact ⟨L, _, _, h4, rfl, rfl, h3, v, h1, h2⟩
 · rintro m meth c A a g mk v t L k n Y hp - - ⟨e1, e2, e3, v', e4, e5⟩
   cases e4
   subst e1 e2
   refine ⟨L, e5, rfl, rfl, rfl, (CHv.at Y hZ hEL H).trans ?_⟩
   rw [← hp.2.1]; exact e3
theorem own_selfP {args : Array Value} {s : State} {C : String} {y : MethodName} (h1 : (Cond.selects C y y).before args s = true) (h2 : (Cond.instanceMethod y).before args s = true) (h3 : (Cond.privateMethod y).before args s = true) (hy : y.cls ≠ "java/lang/invoke/MethodHandle" ∧ y.cls ≠ "java/lang/invoke/VarHandle") : (Cond.selects y.cls y y).before args s = true := by
 obtain ⟨c, r, m, q1, q2, q3, q4, mk, q5, q6⟩ := Cond.selects_spec h1
 exact selects_self_of_private (findClass_of_methodNamed q3) q5 q6 (Cond.privateMethod_at h3) h2 hy
theorem own_nf {args : Array Value} {s : State} {C : String} {y y' : MethodName} (h : (Cond.selects C y' y').before args s = true) (e : y'.cls = y.cls) : NotFace s y := fun r0 h0 => by
 obtain ⟨_, _, m2, _, _, q3, _, kP, hk, hi⟩ := Cond.selects_spec h
 have a := findClass_of_methodNamed q3
 rw [e] at a
 have em : m2.cls = r0.cls := Option.some.inj (a.symm.trans (findClass_of_methodNamed h0))
 exact ⟨kP, em ▸ hk, hi⟩
theorem own_sameP {a0 : Array Value} {Z : State} {C : String} {y y' : MethodName} (h : (Cond.declares y).before a0 Z = true) (hs : (Cond.selects C y' y').before a0 Z = true) (e : y'.cls = y.cls) (hy : y.cls ≠ "java/lang/invoke/MethodHandle" ∧ y.cls ≠ "java/lang/invoke/VarHandle") : (Cond.sameMethod y.cls y.cls y.name y.desc).before a0 Z = true := by
 obtain ⟨m, meth, n1, n2, n3, n4⟩ := Cond.declares_spec h
 obtain ⟨c, r, m2, q1, q2, q3, q4, mk, q5, q6⟩ := Cond.selects_spec hs
 have hc := findClass_of_methodNamed n1
 have hc2 := findClass_of_methodNamed q3
 rw [e] at hc2
 have em : m2.cls = m.cls := Option.some.inj (hc2.symm.trans hc)
 rw [em] at q5
 have hf : Z.methodFound? y.cls y.name y.desc = some m := State.methodFound?_of_named n1 hy
 have n1' : Z.methodNamed? ⟨y.cls, y.name, y.desc⟩ = some m := n1
 simp [Cond.before, Cond.holds, Cond.value, hc, hf, n1', q5, q6]
/-! ### getfield where the entry stands resolved (the word fieldRef) -/
section OwnRef
variable {p : Program} {l : Launch} {e : Env} {R : Room} {s : State} {m : MethodId} {args : Array Value} {below : List Frame} {meth : Method} {c : Code} {T : State} {locs : List Loc} {cells slots : Nat} {Z : State} {a0 : Array Value} {h : Heap}
theorem own_getR (X : Stand p l e R s m args below meth c T locs cells slots) (hx : p.tables.exec = Jvm.exec) (hZ : Z.Warmed39 s.vm) {own R0 O n d : String} {index : Nat} (hown : s.vm.findClass own = some m.cls) (w : (Cond.fieldRef own index R0 n d).before a0 Z = true) (via : Via Z R0 O n d)
   (eT : T.heap = h) {a : Addr} {v : Value} (F : Fld Z h a O n d v) {g : JFrame} (hg : g.method = m) {rest : List Value} (hs : g.stack = .ref a :: rest) (hd : decode c.code g.pc = .ok (.getfield index, 3)) : ∃ T', Stand p l e R s m args below meth c T' locs cells slots ∧ T'.heap = h ∧ ∀ target, Steps p.tables e below (T'.setTop { g with pc := g.pc + 3, stack := v :: rest }) target → Steps p.tables e below (T.setTop g) target := by
 obtain ⟨cell, cf, k, i, f, h1, h2, h3, h4, -, -, h7⟩ := F
 have hU : Z.Warmed39 T.vm := wtrans hZ X.warmed
 have w' : (Cond.fieldRef own index R0 n d).before a0 (Z.setVm T.vm) = true := Cond.fieldRef_warmed39 hU w
 have hown' : (Z.setVm T.vm).vm.findClass own = some m.cls := by
   rw [State.vm_setVm, X.warmed.alike.findClass]; exact hown
 obtain ⟨c2, k2, i2, f2, hi2, hready⟩ := Cond.fieldRef_spec (s := Z.setVm T.vm) hown' w'
 obtain ⟨k', hi', -⟩ := State.fieldFound?_setVm (s := Z) hU.alike (via _ h2)
 cases hi2.symm.trans hi'
 refine ⟨T, X, eT, fun target hrest => ?_⟩
 subst hg
 have hc : T.heap[a]? = some cell := by rw [eT]; exact h1
 jvm_step X.here [hx, hd, getfield.wp_ready (e := e) (s := T) (f := g) X.here.top hready h3 hs hc h4 h7]
 exact hrest
end OwnRef
section OwnGet
variable {p : Program} {l : Launch} {e : Env} {R : Room} {s : State} {m : MethodId} {args : Array Value} {below : List Frame} {meth : Method} {c : Code} {T : State} {locs : List Loc} {cells slots : Nat} {P : Outcome → State → Prop} {code : ByteArray} {pc : Nat} {L : Array Slot} {Z : State} {a0 : Array Value} {h : Heap} {own R0 O n d : String} {index : Nat} {a : Addr} {v : Value} {rest : List Value}
theorem gF (X : Stand p l e R s m args below meth c T locs cells slots) (hx : p.tables.exec = Jvm.exec) (hby : c.code = code) (hZ : Z.Warmed39 s.vm) (hown : s.vm.findClass own = some m.cls) (w : (Cond.fieldLink own index R0 n d).before a0 Z = true) (via : Via Z R0 O n d) (eT : T.heap = h) (F : Fld Z h a O n d v) (hd : decode code pc = .ok (.getfield index, 3)) (k : ∀ T', Stand p l e R s m args below meth c T' locs cells slots → T'.heap = h → Go p e below P (T'.setTop (mkF m (pc + 3) L (v :: rest)))) : Go p e below P (T.setTop (mkF m pc L (.ref a :: rest))) := by
  obtain ⟨T1, X1, e1, st⟩ := getF X hx hZ hown (host := "") (Or.inl w) via eT F (g := (mkF m pc L (.ref a :: rest))) rfl rfl (hb hby hd)
  exact Go.by st (k T1 X1 e1)
theorem gR (X : Stand p l e R s m args below meth c T locs cells slots) (hx : p.tables.exec = Jvm.exec) (hby : c.code = code) (hZ : Z.Warmed39 s.vm) (hown : s.vm.findClass own = some m.cls) (w : (Cond.fieldRef own index R0 n d).before a0 Z = true) (via : Via Z R0 O n d) (eT : T.heap = h) (F : Fld Z h a O n d v) (hd : decode code pc = .ok (.getfield index, 3)) (k : ∀ T', Stand p l e R s m args below meth c T' locs cells slots → T'.heap = h → Go p e below P (T'.setTop (mkF m (pc + 3) L (v :: rest)))) : Go p e below P (T.setTop (mkF m pc L (.ref a :: rest))) := by
  obtain ⟨T1, X1, e1, st⟩ := own_getR X hx hZ hown w via eT F (g := (mkF m pc L (.ref a :: rest))) rfl rfl (hb hby hd)
  exact Go.by st (k T1 X1 e1)
end OwnGet
theorem pn2 : plainName "java/lang/Long" = true := by first | (simp [plainName, overriddenIn]; done) | decide +kernel
theorem dg_0 : decode j35_24 0 = .ok (.sipush 128, 3) := by decide +kernel
theorem dg_3 : decode j35_24 3 = .ok (.istore_n 2, 1) := by decide +kernel
theorem dg_4 : decode j35_24 4 = .ok (.lload_n 0, 1) := by decide +kernel
theorem dg_5 : decode j35_24 5 = .ok (.ldc2_w 230, 3) := by decide +kernel
theorem dg_8 : decode j35_24 8 = .ok (.lcmp, 1) := by decide +kernel
theorem dg_9 : decode j35_24 9 = .ok (.ifCond .lt 22, 3) := by decide +kernel
theorem dg_12 : decode j35_24 12 = .ok (.lload_n 0, 1) := by decide +kernel
theorem dg_13 : decode j35_24 13 = .ok (.ldc2_w 232, 3) := by decide +kernel
theorem dg_16 : decode j35_24 16 = .ok (.lcmp, 1) := by decide +kernel
theorem dg_17 : decode j35_24 17 = .ok (.ifCond .gt 14, 3) := by decide +kernel
theorem dg_20 : decode j35_24 20 = .ok (.getstatic 234, 3) := by decide +kernel
theorem dg_23 : decode j35_24 23 = .ok (.lload_n 0, 1) := by decide +kernel
theorem dg_24 : decode j35_24 24 = .ok (.l2i, 1) := by decide +kernel
theorem dg_25 : decode j35_24 25 = .ok (.sipush 128, 3) := by decide +kernel
theorem dg_28 : decode j35_24 28 = .ok (.iadd, 1) := by decide +kernel
theorem dg_29 : decode j35_24 29 = .ok (.aaload, 1) := by decide +kernel
theorem dg_30 : decode j35_24 30 = .ok (.areturn, 1) := by decide +kernel
theorem dp_0 : decode j35_42 0 = .ok (.lload_n 0, 1) := by decide +kernel
theorem dp_1 : decode j35_42 1 = .ok (.lload_n 2, 1) := by decide +kernel
theorem dp_2 : decode j35_42 2 = .ok (.lcmp, 1) := by decide +kernel
theorem dp_3 : decode j35_42 3 = .ok (.ifCond .ge 7, 3) := by decide +kernel
theorem dp_6 : decode j35_42 6 = .ok (.iconst (-1), 1) := by decide +kernel
theorem dp_7 : decode j35_42 7 = .ok (.goto 14, 3) := by decide +kernel
theorem dp_21 : decode j35_42 21 = .ok (.ireturn, 1) := by decide +kernel
theorem dr_0 : decode j35_41 0 = .ok (.aload_n 0, 1) := by decide +kernel
theorem dr_1 : decode j35_41 1 = .ok (.getfield 273, 3) := by decide +kernel
theorem dr_4 : decode j35_41 4 = .ok (.aload_n 1, 1) := by decide +kernel
theorem dr_5 : decode j35_41 5 = .ok (.getfield 273, 3) := by decide +kernel
theorem pd18 : parseMethodDescriptor "(JJ)I" = some ⟨[.long, .long], some .int⟩ := by decide +kernel
theorem dr_8 : decode j35_41 8 = .ok (.invokestatic 302, 3) := by decide +kernel
theorem dr_11 : decode j35_41 11 = .ok (.ireturn, 1) := by decide +kernel
theorem dt_0 : decode j35_64 0 = .ok (.aload_n 0, 1) := by decide +kernel
theorem dt_1 : decode j35_64 1 = .ok (.aload_n 1, 1) := by decide +kernel
theorem dt_2 : decode j35_64 2 = .ok (.checkcast 1, 3) := by decide +kernel
theorem pd19 : parseMethodDescriptor "(Ljava/lang/Long;)I" = some ⟨[(.object "java/lang/Long")], some .int⟩ := by decide +kernel
theorem dt_5 : decode j35_64 5 = .ok (.invokevirtual 343, 3) := by decide +kernel
theorem dt_8 : decode j35_64 8 = .ok (.ireturn, 1) := by decide +kernel
theorem dp_10 : decode j35_42 10 = .ok (.lload_n 0, 1) := by decide +kernel
theorem dp_11 : decode j35_42 11 = .ok (.lload_n 2, 1) := by decide +kernel
theorem dp_12 : decode j35_42 12 = .ok (.lcmp, 1) := by decide +kernel
theorem dp_13 : decode j35_42 13 = .ok (.ifCond .ne 7, 3) := by decide +kernel
theorem dp_16 : decode j35_42 16 = .ok (.iconst 0, 1) := by decide +kernel
theorem dp_17 : decode j35_42 17 = .ok (.goto 4, 3) := by decide +kernel
theorem dp_20 : decode j35_42 20 = .ok (.iconst 1, 1) := by decide +kernel
theorem pn6 : plainName "java/util/Objects" = true := by first | (simp [plainName, overriddenIn]; done) | decide +kernel
theorem dC_0 : decode j31_10 0 = .ok (.aload_n 0, 1) := by decide +kernel
theorem dC_1 : decode j31_10 1 = .ok (.ifnonnull 11, 3) := by decide +kernel
theorem dC_12 : decode j31_10 12 = .ok (.aload_n 0, 1) := by decide +kernel
theorem dC_13 : decode j31_10 13 = .ok (.areturn, 1) := by decide +kernel
theorem pn0 : plainName "java/util/TreeMap" = true := by first | (simp [plainName, overriddenIn]; done) | decide +kernel
theorem dA_0 : decode j2729_77 0 = .ok (.aload_n 0, 1) := by decide +kernel
theorem dA_1 : decode j2729_77 1 = .ok (.ifnonnull 7, 3) := by decide +kernel
theorem dA_8 : decode j2729_77 8 = .ok (.aload_n 0, 1) := by decide +kernel
theorem dA_9 : decode j2729_77 9 = .ok (.getfield 124, 3) := by decide +kernel
theorem dA_12 : decode j2729_77 12 = .ok (.areturn, 1) := by decide +kernel
theorem dB_0 : decode j2729_79 0 = .ok (.aload_n 0, 1) := by decide +kernel
theorem dB_1 : decode j2729_79 1 = .ok (.ifnonnull 7, 3) := by decide +kernel
theorem dB_8 : decode j2729_79 8 = .ok (.aload_n 0, 1) := by decide +kernel
theorem dB_9 : decode j2729_79 9 = .ok (.getfield 111, 3) := by decide +kernel
theorem dB_12 : decode j2729_79 12 = .ok (.areturn, 1) := by decide +kernel
theorem dx_0 : decode j2729_76 0 = .ok (.aload_n 0, 1) := by decide +kernel
theorem dx_1 : decode j2729_76 1 = .ok (.ifnonnull 7, 3) := by decide +kernel
theorem dx_4 : decode j2729_76 4 = .ok (.iconst 1, 1) := by decide +kernel
theorem dx_5 : decode j2729_76 5 = .ok (.goto 7, 3) := by decide +kernel
theorem dx_12 : decode j2729_76 12 = .ok (.ireturn, 1) := by decide +kernel
theorem dx_8 : decode j2729_76 8 = .ok (.aload_n 0, 1) := by decide +kernel
theorem dx_9 : decode j2729_76 9 = .ok (.getfield 290, 3) := by decide +kernel
theorem dv_0 : decode j2729_78 0 = .ok (.aload_n 0, 1) := by decide +kernel
theorem dv_1 : decode j2729_78 1 = .ok (.ifnull 8, 3) := by decide +kernel
theorem dv_4 : decode j2729_78 4 = .ok (.aload_n 0, 1) := by decide +kernel
theorem dv_5 : decode j2729_78 5 = .ok (.iload_n 1, 1) := by decide +kernel
theorem dv_6 : decode j2729_78 6 = .ok (.putfield 290, 3) := by decide +kernel
theorem dv_9 : decode j2729_78 9 = .ok (.return_, 1) := by decide +kernel
theorem pn3 : plainName "java/util/TreeMap$Entry" = true := by first | (simp [plainName, overriddenIn]; done) | decide +kernel
theorem do_0 : decode j2736_1 0 = .ok (.aload_n 0, 1) := by decide +kernel
theorem do_1 : decode j2736_1 1 = .ok (.invokespecial 3, 3) := by decide +kernel
theorem do_4 : decode j2736_1 4 = .ok (.aload_n 0, 1) := by decide +kernel
theorem do_5 : decode j2736_1 5 = .ok (.iconst 1, 1) := by decide +kernel
theorem do_6 : decode j2736_1 6 = .ok (.putfield 9, 3) := by decide +kernel
theorem do_9 : decode j2736_1 9 = .ok (.aload_n 0, 1) := by decide +kernel
theorem do_10 : decode j2736_1 10 = .ok (.aload_n 1, 1) := by decide +kernel
theorem do_11 : decode j2736_1 11 = .ok (.putfield 15, 3) := by decide +kernel
theorem do_14 : decode j2736_1 14 = .ok (.aload_n 0, 1) := by decide +kernel
theorem do_15 : decode j2736_1 15 = .ok (.aload_n 2, 1) := by decide +kernel
theorem do_16 : decode j2736_1 16 = .ok (.putfield 19, 3) := by decide +kernel
theorem do_19 : decode j2736_1 19 = .ok (.aload_n 0, 1) := by decide +kernel
theorem do_20 : decode j2736_1 20 = .ok (.aload_n 3, 1) := by decide +kernel
theorem do_21 : decode j2736_1 21 = .ok (.putfield 22, 3) := by decide +kernel
theorem do_24 : decode j2736_1 24 = .ok (.return_, 1) := by decide +kernel
theorem dk_0 : decode j2729_81 0 = .ok (.aload_n 1, 1) := by decide +kernel
theorem dk_1 : decode j2729_81 1 = .ok (.ifnull 94, 3) := by decide +kernel
theorem dk_4 : decode j2729_81 4 = .ok (.aload_n 1, 1) := by decide +kernel
theorem dk_5 : decode j2729_81 5 = .ok (.getfield 114, 3) := by decide +kernel
theorem dk_8 : decode j2729_81 8 = .ok (.astore_n 2, 1) := by decide +kernel
theorem dk_9 : decode j2729_81 9 = .ok (.aload_n 1, 1) := by decide +kernel
theorem dk_10 : decode j2729_81 10 = .ok (.aload_n 2, 1) := by decide +kernel
theorem dk_11 : decode j2729_81 11 = .ok (.getfield 111, 3) := by decide +kernel
theorem dk_14 : decode j2729_81 14 = .ok (.putfield 114, 3) := by decide +kernel
theorem dk_17 : decode j2729_81 17 = .ok (.aload_n 2, 1) := by decide +kernel
theorem dk_18 : decode j2729_81 18 = .ok (.getfield 111, 3) := by decide +kernel
theorem dk_21 : decode j2729_81 21 = .ok (.ifnull 11, 3) := by decide +kernel
theorem dk_32 : decode j2729_81 32 = .ok (.aload_n 2, 1) := by decide +kernel
theorem dk_33 : decode j2729_81 33 = .ok (.aload_n 1, 1) := by decide +kernel
theorem dk_34 : decode j2729_81 34 = .ok (.getfield 124, 3) := by decide +kernel
theorem dk_37 : decode j2729_81 37 = .ok (.putfield 124, 3) := by decide +kernel
theorem dk_40 : decode j2729_81 40 = .ok (.aload_n 1, 1) := by decide +kernel
theorem dk_41 : decode j2729_81 41 = .ok (.getfield 124, 3) := by decide +kernel
theorem dk_44 : decode j2729_81 44 = .ok (.ifnonnull 11, 3) := by decide +kernel
theorem dk_47 : decode j2729_81 47 = .ok (.aload_n 0, 1) := by decide +kernel
theorem dk_48 : decode j2729_81 48 = .ok (.aload_n 2, 1) := by decide +kernel
theorem dk_49 : decode j2729_81 49 = .ok (.putfield 101, 3) := by decide +kernel
theorem dk_52 : decode j2729_81 52 = .ok (.goto 33, 3) := by decide +kernel
theorem dk_85 : decode j2729_81 85 = .ok (.aload_n 2, 1) := by decide +kernel
theorem dk_86 : decode j2729_81 86 = .ok (.aload_n 1, 1) := by decide +kernel
theorem dk_87 : decode j2729_81 87 = .ok (.putfield 111, 3) := by decide +kernel
theorem dk_90 : decode j2729_81 90 = .ok (.aload_n 1, 1) := by decide +kernel
theorem dk_91 : decode j2729_81 91 = .ok (.aload_n 2, 1) := by decide +kernel
theorem dk_92 : decode j2729_81 92 = .ok (.putfield 124, 3) := by decide +kernel
theorem dk_95 : decode j2729_81 95 = .ok (.return_, 1) := by decide +kernel
theorem dd_0 : decode j2729_83 0 = .ok (.aload_n 1, 1) := by decide +kernel
theorem dd_1 : decode j2729_83 1 = .ok (.iconst 0, 1) := by decide +kernel
theorem dd_2 : decode j2729_83 2 = .ok (.putfield 290, 3) := by decide +kernel
theorem dd_5 : decode j2729_83 5 = .ok (.aload_n 1, 1) := by decide +kernel
theorem dd_6 : decode j2729_83 6 = .ok (.ifnull 252, 3) := by decide +kernel
theorem dd_9 : decode j2729_83 9 = .ok (.aload_n 1, 1) := by decide +kernel
theorem dd_10 : decode j2729_83 10 = .ok (.aload_n 0, 1) := by decide +kernel
theorem dd_11 : decode j2729_83 11 = .ok (.getfield 101, 3) := by decide +kernel
theorem dd_14 : decode j2729_83 14 = .ok (.if_acmp .eq 244, 3) := by decide +kernel
theorem dd_17 : decode j2729_83 17 = .ok (.aload_n 1, 1) := by decide +kernel
theorem dd_18 : decode j2729_83 18 = .ok (.getfield 124, 3) := by decide +kernel
theorem dd_21 : decode j2729_83 21 = .ok (.getfield 290, 3) := by decide +kernel
theorem dd_24 : decode j2729_83 24 = .ok (.ifCond .ne 234, 3) := by decide +kernel
theorem dd_258 : decode j2729_83 258 = .ok (.aload_n 0, 1) := by decide +kernel
theorem dd_259 : decode j2729_83 259 = .ok (.getfield 101, 3) := by decide +kernel
theorem dd_262 : decode j2729_83 262 = .ok (.iconst 1, 1) := by decide +kernel
theorem dd_263 : decode j2729_83 263 = .ok (.putfield 290, 3) := by decide +kernel
theorem dd_266 : decode j2729_83 266 = .ok (.return_, 1) := by decide +kernel
theorem dd_27 : decode j2729_83 27 = .ok (.aload_n 1, 1) := by decide +kernel
theorem pd2 : parseMethodDescriptor "(Ljava/util/TreeMap$Entry;)Ljava/util/TreeMap$Entry;" = some ⟨[(.object "java/util/TreeMap$Entry")], some (.object "java/util/TreeMap$Entry")⟩ := by decide +kernel
theorem dd_28 : decode j2729_83 28 = .ok (.invokestatic 294, 3) := by decide +kernel
theorem dd_31 : decode j2729_83 31 = .ok (.aload_n 1, 1) := by decide +kernel
theorem dd_32 : decode j2729_83 32 = .ok (.invokestatic 294, 3) := by decide +kernel
theorem dd_35 : decode j2729_83 35 = .ok (.invokestatic 294, 3) := by decide +kernel
theorem dd_38 : decode j2729_83 38 = .ok (.invokestatic 297, 3) := by decide +kernel
theorem dd_41 : decode j2729_83 41 = .ok (.if_acmp .ne 110, 3) := by decide +kernel
theorem dd_151 : decode j2729_83 151 = .ok (.aload_n 1, 1) := by decide +kernel
theorem dd_152 : decode j2729_83 152 = .ok (.invokestatic 294, 3) := by decide +kernel
theorem dd_155 : decode j2729_83 155 = .ok (.invokestatic 294, 3) := by decide +kernel
theorem dd_158 : decode j2729_83 158 = .ok (.invokestatic 297, 3) := by decide +kernel
theorem dd_161 : decode j2729_83 161 = .ok (.astore_n 2, 1) := by decide +kernel
theorem dd_162 : decode j2729_83 162 = .ok (.aload_n 2, 1) := by decide +kernel
theorem pd21 : parseMethodDescriptor "(Ljava/util/TreeMap$Entry;)Z" = some ⟨[(.object "java/util/TreeMap$Entry")], some .boolean⟩ := by decide +kernel
theorem dd_163 : decode j2729_83 163 = .ok (.invokestatic 303, 3) := by decide +kernel
theorem dd_166 : decode j2729_83 166 = .ok (.ifCond .ne 38, 3) := by decide +kernel
theorem dd_204 : decode j2729_83 204 = .ok (.aload_n 1, 1) := by decide +kernel
theorem dd_205 : decode j2729_83 205 = .ok (.aload_n 1, 1) := by decide +kernel
theorem dd_206 : decode j2729_83 206 = .ok (.invokestatic 294, 3) := by decide +kernel
theorem dd_209 : decode j2729_83 209 = .ok (.invokestatic 297, 3) := by decide +kernel
theorem dd_212 : decode j2729_83 212 = .ok (.if_acmp .ne 13, 3) := by decide +kernel
theorem dd_225 : decode j2729_83 225 = .ok (.aload_n 1, 1) := by decide +kernel
theorem dd_226 : decode j2729_83 226 = .ok (.invokestatic 294, 3) := by decide +kernel
theorem dd_229 : decode j2729_83 229 = .ok (.iconst 1, 1) := by decide +kernel
theorem pd12 : parseMethodDescriptor "(Ljava/util/TreeMap$Entry;Z)V" = some ⟨[(.object "java/util/TreeMap$Entry"), .boolean], none⟩ := by decide +kernel
theorem dd_230 : decode j2729_83 230 = .ok (.invokestatic 307, 3) := by decide +kernel
theorem dd_233 : decode j2729_83 233 = .ok (.aload_n 1, 1) := by decide +kernel
theorem dd_234 : decode j2729_83 234 = .ok (.invokestatic 294, 3) := by decide +kernel
theorem dd_237 : decode j2729_83 237 = .ok (.invokestatic 294, 3) := by decide +kernel
theorem dd_240 : decode j2729_83 240 = .ok (.iconst 0, 1) := by decide +kernel
theorem dd_241 : decode j2729_83 241 = .ok (.invokestatic 307, 3) := by decide +kernel
theorem dd_244 : decode j2729_83 244 = .ok (.aload_n 0, 1) := by decide +kernel
theorem dd_245 : decode j2729_83 245 = .ok (.aload_n 1, 1) := by decide +kernel
theorem dd_246 : decode j2729_83 246 = .ok (.invokestatic 294, 3) := by decide +kernel
theorem dd_249 : decode j2729_83 249 = .ok (.invokestatic 294, 3) := by decide +kernel
theorem pd16 : parseMethodDescriptor "(Ljava/util/TreeMap$Entry;)V" = some ⟨[(.object "java/util/TreeMap$Entry")], none⟩ := by decide +kernel
theorem dd_252 : decode j2729_83 252 = .ok (.invokevirtual 311, 3) := by decide +kernel
theorem dd_255 : decode j2729_83 255 = .ok (.goto (-250), 3) := by decide +kernel
theorem dd_169 : decode j2729_83 169 = .ok (.aload_n 1, 1) := by decide +kernel
theorem dd_170 : decode j2729_83 170 = .ok (.invokestatic 294, 3) := by decide +kernel
theorem dd_173 : decode j2729_83 173 = .ok (.iconst 1, 1) := by decide +kernel
theorem dd_174 : decode j2729_83 174 = .ok (.invokestatic 307, 3) := by decide +kernel
theorem dd_177 : decode j2729_83 177 = .ok (.aload_n 2, 1) := by decide +kernel
theorem dd_178 : decode j2729_83 178 = .ok (.iconst 1, 1) := by decide +kernel
theorem dd_179 : decode j2729_83 179 = .ok (.invokestatic 307, 3) := by decide +kernel
theorem dd_182 : decode j2729_83 182 = .ok (.aload_n 1, 1) := by decide +kernel
theorem dd_183 : decode j2729_83 183 = .ok (.invokestatic 294, 3) := by decide +kernel
theorem dd_186 : decode j2729_83 186 = .ok (.invokestatic 294, 3) := by decide +kernel
theorem dd_189 : decode j2729_83 189 = .ok (.iconst 0, 1) := by decide +kernel
theorem dd_190 : decode j2729_83 190 = .ok (.invokestatic 307, 3) := by decide +kernel
theorem dd_193 : decode j2729_83 193 = .ok (.aload_n 1, 1) := by decide +kernel
theorem dd_194 : decode j2729_83 194 = .ok (.invokestatic 294, 3) := by decide +kernel
theorem dd_197 : decode j2729_83 197 = .ok (.invokestatic 294, 3) := by decide +kernel
theorem dd_200 : decode j2729_83 200 = .ok (.astore_n 1, 1) := by decide +kernel
theorem dd_201 : decode j2729_83 201 = .ok (.goto 54, 3) := by decide +kernel
theorem df_0 : decode j2729_29 0 = .ok (.new 59, 3) := by decide +kernel
theorem df_3 : decode j2729_29 3 = .ok (.dup, 1) := by decide +kernel
theorem df_4 : decode j2729_29 4 = .ok (.aload_n 1, 1) := by decide +kernel
theorem df_5 : decode j2729_29 5 = .ok (.aload_n 2, 1) := by decide +kernel
theorem df_6 : decode j2729_29 6 = .ok (.aload_n 3, 1) := by decide +kernel
theorem pd17 : parseMethodDescriptor "(Ljava/lang/Object;Ljava/lang/Object;Ljava/util/TreeMap$Entry;)V" = some ⟨[(.object "java/lang/Object"), (.object "java/lang/Object"), (.object "java/util/TreeMap$Entry")], none⟩ := by decide +kernel
theorem df_7 : decode j2729_29 7 = .ok (.invokespecial 167, 3) := by decide +kernel
theorem df_10 : decode j2729_29 10 = .ok (.astore 5, 2) := by decide +kernel
theorem df_12 : decode j2729_29 12 = .ok (.iload 4, 2) := by decide +kernel
theorem df_14 : decode j2729_29 14 = .ok (.ifCond .eq 12, 3) := by decide +kernel
theorem df_26 : decode j2729_29 26 = .ok (.aload_n 3, 1) := by decide +kernel
theorem df_27 : decode j2729_29 27 = .ok (.aload 5, 2) := by decide +kernel
theorem df_29 : decode j2729_29 29 = .ok (.putfield 114, 3) := by decide +kernel
theorem df_32 : decode j2729_29 32 = .ok (.aload_n 0, 1) := by decide +kernel
theorem df_33 : decode j2729_29 33 = .ok (.aload 5, 2) := by decide +kernel
theorem df_35 : decode j2729_29 35 = .ok (.invokevirtual 170, 3) := by decide +kernel
theorem df_38 : decode j2729_29 38 = .ok (.aload_n 0, 1) := by decide +kernel
theorem df_39 : decode j2729_29 39 = .ok (.dup, 1) := by decide +kernel
theorem df_40 : decode j2729_29 40 = .ok (.getfield 7, 3) := by decide +kernel
theorem df_43 : decode j2729_29 43 = .ok (.iconst 1, 1) := by decide +kernel
theorem df_44 : decode j2729_29 44 = .ok (.iadd, 1) := by decide +kernel
theorem df_45 : decode j2729_29 45 = .ok (.putfield 7, 3) := by decide +kernel
theorem df_48 : decode j2729_29 48 = .ok (.aload_n 0, 1) := by decide +kernel
theorem df_49 : decode j2729_29 49 = .ok (.dup, 1) := by decide +kernel
theorem df_50 : decode j2729_29 50 = .ok (.getfield 13, 3) := by decide +kernel
theorem df_53 : decode j2729_29 53 = .ok (.iconst 1, 1) := by decide +kernel
theorem df_54 : decode j2729_29 54 = .ok (.iadd, 1) := by decide +kernel
theorem df_55 : decode j2729_29 55 = .ok (.putfield 13, 3) := by decide +kernel
theorem df_58 : decode j2729_29 58 = .ok (.return_, 1) := by decide +kernel
theorem dw_0 : decode j2729_67 0 = .ok (.aload_n 0, 1) := by decide +kernel
theorem dw_1 : decode j2729_67 1 = .ok (.getfield 16, 3) := by decide +kernel
theorem dw_4 : decode j2729_67 4 = .ok (.ifnonnull 16, 3) := by decide +kernel
theorem dw_7 : decode j2729_67 7 = .ok (.aload_n 1, 1) := by decide +kernel
theorem dw_8 : decode j2729_67 8 = .ok (.checkcast 99, 3) := by decide +kernel
theorem dw_11 : decode j2729_67 11 = .ok (.aload_n 2, 1) := by decide +kernel
theorem pd0 : parseMethodDescriptor "(Ljava/lang/Object;)I" = some ⟨[(.object "java/lang/Object")], some .int⟩ := by decide +kernel
theorem dw_12 : decode j2729_67 12 = .ok (.invokeinterface 107 2, 5) := by decide +kernel
theorem dw_17 : decode j2729_67 17 = .ok (.goto 14, 3) := by decide +kernel
theorem dw_31 : decode j2729_67 31 = .ok (.ireturn, 1) := by decide +kernel
theorem dn_0 : decode j2729_30 0 = .ok (.aload_n 0, 1) := by decide +kernel
theorem dn_1 : decode j2729_30 1 = .ok (.aload_n 1, 1) := by decide +kernel
theorem dn_2 : decode j2729_30 2 = .ok (.aload_n 1, 1) := by decide +kernel
theorem pd25 : parseMethodDescriptor "(Ljava/lang/Object;Ljava/lang/Object;)I" = some ⟨[(.object "java/lang/Object"), (.object "java/lang/Object")], some .int⟩ := by decide +kernel
theorem dn_3 : decode j2729_30 3 = .ok (.invokevirtual 123, 3) := by decide +kernel
theorem dn_6 : decode j2729_30 6 = .ok (.pop, 1) := by decide +kernel
theorem dn_7 : decode j2729_30 7 = .ok (.aload_n 0, 1) := by decide +kernel
theorem dn_8 : decode j2729_30 8 = .ok (.new 59, 3) := by decide +kernel
theorem dn_11 : decode j2729_30 11 = .ok (.dup, 1) := by decide +kernel
theorem dn_12 : decode j2729_30 12 = .ok (.aload_n 1, 1) := by decide +kernel
theorem dn_13 : decode j2729_30 13 = .ok (.aload_n 2, 1) := by decide +kernel
theorem dn_14 : decode j2729_30 14 = .ok (.aconst_null, 1) := by decide +kernel
theorem dn_15 : decode j2729_30 15 = .ok (.invokespecial 167, 3) := by decide +kernel
theorem dn_18 : decode j2729_30 18 = .ok (.putfield 101, 3) := by decide +kernel
theorem dn_21 : decode j2729_30 21 = .ok (.aload_n 0, 1) := by decide +kernel
theorem dn_22 : decode j2729_30 22 = .ok (.iconst 1, 1) := by decide +kernel
theorem dn_23 : decode j2729_30 23 = .ok (.putfield 7, 3) := by decide +kernel
theorem dn_26 : decode j2729_30 26 = .ok (.aload_n 0, 1) := by decide +kernel
theorem dn_27 : decode j2729_30 27 = .ok (.dup, 1) := by decide +kernel
theorem dn_28 : decode j2729_30 28 = .ok (.getfield 13, 3) := by decide +kernel
theorem dn_31 : decode j2729_30 31 = .ok (.iconst 1, 1) := by decide +kernel
theorem dn_32 : decode j2729_30 32 = .ok (.iadd, 1) := by decide +kernel
theorem dn_33 : decode j2729_30 33 = .ok (.putfield 13, 3) := by decide +kernel
theorem dn_36 : decode j2729_30 36 = .ok (.return_, 1) := by decide +kernel
theorem dc_0 : decode j2729_31 0 = .ok (.aload_n 0, 1) := by decide +kernel
theorem dc_1 : decode j2729_31 1 = .ok (.getfield 101, 3) := by decide +kernel
theorem dc_4 : decode j2729_31 4 = .ok (.astore 4, 2) := by decide +kernel
theorem dc_6 : decode j2729_31 6 = .ok (.aload 4, 2) := by decide +kernel
theorem dc_8 : decode j2729_31 8 = .ok (.ifnonnull 11, 3) := by decide +kernel
theorem dc_11 : decode j2729_31 11 = .ok (.aload_n 0, 1) := by decide +kernel
theorem dc_12 : decode j2729_31 12 = .ok (.aload_n 1, 1) := by decide +kernel
theorem dc_13 : decode j2729_31 13 = .ok (.aload_n 2, 1) := by decide +kernel
theorem pd22 : parseMethodDescriptor "(Ljava/lang/Object;Ljava/lang/Object;)V" = some ⟨[(.object "java/lang/Object"), (.object "java/lang/Object")], none⟩ := by decide +kernel
theorem dc_14 : decode j2729_31 14 = .ok (.invokevirtual 135, 3) := by decide +kernel
theorem dc_17 : decode j2729_31 17 = .ok (.aconst_null, 1) := by decide +kernel
theorem dc_18 : decode j2729_31 18 = .ok (.areturn, 1) := by decide +kernel
theorem dm_0 : decode j2729_21 0 = .ok (.aload_n 0, 1) := by decide +kernel
theorem dm_1 : decode j2729_21 1 = .ok (.aload_n 1, 1) := by decide +kernel
theorem dm_2 : decode j2729_21 2 = .ok (.aload_n 2, 1) := by decide +kernel
theorem dm_3 : decode j2729_21 3 = .ok (.iconst 1, 1) := by decide +kernel
theorem pd9 : parseMethodDescriptor "(Ljava/lang/Object;Ljava/lang/Object;Z)Ljava/lang/Object;" = some ⟨[(.object "java/lang/Object"), (.object "java/lang/Object"), .boolean], some (.object "java/lang/Object")⟩ := by decide +kernel
theorem dm_4 : decode j2729_21 4 = .ok (.invokevirtual 127, 3) := by decide +kernel
theorem dm_7 : decode j2729_21 7 = .ok (.areturn, 1) := by decide +kernel
theorem dc_19 : decode j2729_31 19 = .ok (.aload_n 0, 1) := by decide +kernel
theorem dc_20 : decode j2729_31 20 = .ok (.getfield 16, 3) := by decide +kernel
theorem dc_23 : decode j2729_31 23 = .ok (.astore 7, 2) := by decide +kernel
theorem dc_25 : decode j2729_31 25 = .ok (.aload 7, 2) := by decide +kernel
theorem dc_27 : decode j2729_31 27 = .ok (.ifnull 85, 3) := by decide +kernel
theorem dc_112 : decode j2729_31 112 = .ok (.aload_n 1, 1) := by decide +kernel
theorem pd3 : parseMethodDescriptor "(Ljava/lang/Object;)Ljava/lang/Object;" = some ⟨[(.object "java/lang/Object")], some (.object "java/lang/Object")⟩ := by decide +kernel
theorem dc_113 : decode j2729_31 113 = .ok (.invokestatic 95, 3) := by decide +kernel
theorem dc_116 : decode j2729_31 116 = .ok (.pop, 1) := by decide +kernel
theorem dc_117 : decode j2729_31 117 = .ok (.aload_n 1, 1) := by decide +kernel
theorem dc_118 : decode j2729_31 118 = .ok (.checkcast 99, 3) := by decide +kernel
theorem dc_121 : decode j2729_31 121 = .ok (.astore 8, 2) := by decide +kernel
theorem dc_123 : decode j2729_31 123 = .ok (.aload 4, 2) := by decide +kernel
theorem dc_125 : decode j2729_31 125 = .ok (.astore 6, 2) := by decide +kernel
theorem dc_127 : decode j2729_31 127 = .ok (.aload 8, 2) := by decide +kernel
theorem dc_129 : decode j2729_31 129 = .ok (.aload 4, 2) := by decide +kernel
theorem dc_131 : decode j2729_31 131 = .ok (.getfield 105, 3) := by decide +kernel
theorem dc_134 : decode j2729_31 134 = .ok (.invokeinterface 107 2, 5) := by decide +kernel
theorem dc_139 : decode j2729_31 139 = .ok (.istore 5, 2) := by decide +kernel
theorem dc_141 : decode j2729_31 141 = .ok (.iload 5, 2) := by decide +kernel
theorem dc_143 : decode j2729_31 143 = .ok (.ifCond .ge 13, 3) := by decide +kernel
theorem dc_156 : decode j2729_31 156 = .ok (.iload 5, 2) := by decide +kernel
theorem dc_158 : decode j2729_31 158 = .ok (.ifCond .le 13, 3) := by decide +kernel
theorem dc_161 : decode j2729_31 161 = .ok (.aload 4, 2) := by decide +kernel
theorem dc_163 : decode j2729_31 163 = .ok (.getfield 114, 3) := by decide +kernel
theorem dc_166 : decode j2729_31 166 = .ok (.astore 4, 2) := by decide +kernel
theorem dc_168 : decode j2729_31 168 = .ok (.goto 28, 3) := by decide +kernel
theorem dc_196 : decode j2729_31 196 = .ok (.aload 4, 2) := by decide +kernel
theorem dc_198 : decode j2729_31 198 = .ok (.ifnonnull (-75), 3) := by decide +kernel
theorem dc_201 : decode j2729_31 201 = .ok (.aload_n 0, 1) := by decide +kernel
theorem dc_202 : decode j2729_31 202 = .ok (.aload_n 1, 1) := by decide +kernel
theorem dc_203 : decode j2729_31 203 = .ok (.aload_n 2, 1) := by decide +kernel
theorem dc_204 : decode j2729_31 204 = .ok (.aload 6, 2) := by decide +kernel
theorem dc_206 : decode j2729_31 206 = .ok (.iload 5, 2) := by decide +kernel
theorem dc_208 : decode j2729_31 208 = .ok (.ifCond .ge 7, 3) := by decide +kernel
theorem dc_215 : decode j2729_31 215 = .ok (.iconst 0, 1) := by decide +kernel
theorem pd13 : parseMethodDescriptor "(Ljava/lang/Object;Ljava/lang/Object;Ljava/util/TreeMap$Entry;Z)V" = some ⟨[(.object "java/lang/Object"), (.object "java/lang/Object"), (.object "java/util/TreeMap$Entry"), .boolean], none⟩ := by decide +kernel
theorem dc_216 : decode j2729_31 216 = .ok (.invokevirtual 139, 3) := by decide +kernel
theorem dc_219 : decode j2729_31 219 = .ok (.aconst_null, 1) := by decide +kernel
theorem dc_220 : decode j2729_31 220 = .ok (.areturn, 1) := by decide +kernel
theorem da_0 : decode j2729_15 0 = .ok (.aload_n 0, 1) := by decide +kernel
theorem da_1 : decode j2729_15 1 = .ok (.getfield 16, 3) := by decide +kernel
theorem da_4 : decode j2729_15 4 = .ok (.ifnull 9, 3) := by decide +kernel
theorem da_13 : decode j2729_15 13 = .ok (.aload_n 1, 1) := by decide +kernel
theorem da_14 : decode j2729_15 14 = .ok (.invokestatic 95, 3) := by decide +kernel
theorem da_17 : decode j2729_15 17 = .ok (.pop, 1) := by decide +kernel
theorem da_18 : decode j2729_15 18 = .ok (.aload_n 1, 1) := by decide +kernel
theorem da_19 : decode j2729_15 19 = .ok (.checkcast 99, 3) := by decide +kernel
theorem da_22 : decode j2729_15 22 = .ok (.astore_n 2, 1) := by decide +kernel
theorem da_23 : decode j2729_15 23 = .ok (.aload_n 0, 1) := by decide +kernel
theorem da_24 : decode j2729_15 24 = .ok (.getfield 101, 3) := by decide +kernel
theorem da_27 : decode j2729_15 27 = .ok (.astore_n 3, 1) := by decide +kernel
theorem da_28 : decode j2729_15 28 = .ok (.aload_n 3, 1) := by decide +kernel
theorem da_29 : decode j2729_15 29 = .ok (.ifnull 46, 3) := by decide +kernel
theorem da_75 : decode j2729_15 75 = .ok (.aconst_null, 1) := by decide +kernel
theorem da_76 : decode j2729_15 76 = .ok (.areturn, 1) := by decide +kernel
theorem dh_0 : decode j2729_6 0 = .ok (.aload_n 0, 1) := by decide +kernel
theorem dh_1 : decode j2729_6 1 = .ok (.aload_n 1, 1) := by decide +kernel
theorem pd7 : parseMethodDescriptor "(Ljava/lang/Object;)Ljava/util/TreeMap$Entry;" = some ⟨[(.object "java/lang/Object")], some (.object "java/util/TreeMap$Entry")⟩ := by decide +kernel
theorem dh_2 : decode j2729_6 2 = .ok (.invokevirtual 50, 3) := by decide +kernel
theorem dh_5 : decode j2729_6 5 = .ok (.ifnull 7, 3) := by decide +kernel
theorem dh_12 : decode j2729_6 12 = .ok (.iconst 0, 1) := by decide +kernel
theorem dh_13 : decode j2729_6 13 = .ok (.ireturn, 1) := by decide +kernel
theorem da_32 : decode j2729_15 32 = .ok (.aload_n 2, 1) := by decide +kernel
theorem da_33 : decode j2729_15 33 = .ok (.aload_n 3, 1) := by decide +kernel
theorem da_34 : decode j2729_15 34 = .ok (.getfield 105, 3) := by decide +kernel
theorem da_37 : decode j2729_15 37 = .ok (.invokeinterface 107 2, 5) := by decide +kernel
theorem da_42 : decode j2729_15 42 = .ok (.istore 4, 2) := by decide +kernel
theorem da_44 : decode j2729_15 44 = .ok (.iload 4, 2) := by decide +kernel
theorem da_46 : decode j2729_15 46 = .ok (.ifCond .ge 11, 3) := by decide +kernel
theorem da_57 : decode j2729_15 57 = .ok (.iload 4, 2) := by decide +kernel
theorem da_59 : decode j2729_15 59 = .ok (.ifCond .le 11, 3) := by decide +kernel
theorem da_62 : decode j2729_15 62 = .ok (.aload_n 3, 1) := by decide +kernel
theorem da_63 : decode j2729_15 63 = .ok (.getfield 114, 3) := by decide +kernel
theorem da_66 : decode j2729_15 66 = .ok (.astore_n 3, 1) := by decide +kernel
theorem da_67 : decode j2729_15 67 = .ok (.goto 5, 3) := by decide +kernel
theorem da_72 : decode j2729_15 72 = .ok (.goto (-44), 3) := by decide +kernel
theorem da_70 : decode j2729_15 70 = .ok (.aload_n 3, 1) := by decide +kernel
theorem da_71 : decode j2729_15 71 = .ok (.areturn, 1) := by decide +kernel
theorem dh_8 : decode j2729_6 8 = .ok (.iconst 1, 1) := by decide +kernel
theorem dh_9 : decode j2729_6 9 = .ok (.goto 4, 3) := by decide +kernel
theorem da_49 : decode j2729_15 49 = .ok (.aload_n 3, 1) := by decide +kernel
theorem da_50 : decode j2729_15 50 = .ok (.getfield 111, 3) := by decide +kernel
theorem da_53 : decode j2729_15 53 = .ok (.astore_n 3, 1) := by decide +kernel
theorem da_54 : decode j2729_15 54 = .ok (.goto 18, 3) := by decide +kernel
theorem pn7 : plainName "java/util/AbstractMap" = true := by first | (simp [plainName, overriddenIn]; done) | decide +kernel
theorem dE_0 : decode jdk_71_method_1_code 0 = .ok (.aload_n 0, 1) := by decide +kernel
theorem dE_1 : decode jdk_71_method_1_code 1 = .ok (.invokespecial 1, 3) := by decide +kernel
theorem dE_4 : decode jdk_71_method_1_code 4 = .ok (.return_, 1) := by decide +kernel
theorem ds_0 : decode j2729_1 0 = .ok (.aload_n 0, 1) := by decide +kernel
theorem pd20 : parseMethodDescriptor "()V" = some ⟨[], none⟩ := by decide +kernel
theorem ds_1 : decode j2729_1 1 = .ok (.invokespecial 1, 3) := by decide +kernel
theorem ds_4 : decode j2729_1 4 = .ok (.aload_n 0, 1) := by decide +kernel
theorem ds_5 : decode j2729_1 5 = .ok (.iconst 0, 1) := by decide +kernel
theorem ds_6 : decode j2729_1 6 = .ok (.putfield 7, 3) := by decide +kernel
theorem ds_9 : decode j2729_1 9 = .ok (.aload_n 0, 1) := by decide +kernel
theorem ds_10 : decode j2729_1 10 = .ok (.iconst 0, 1) := by decide +kernel
theorem ds_11 : decode j2729_1 11 = .ok (.putfield 13, 3) := by decide +kernel
theorem ds_14 : decode j2729_1 14 = .ok (.aload_n 0, 1) := by decide +kernel
theorem ds_15 : decode j2729_1 15 = .ok (.aconst_null, 1) := by decide +kernel
theorem ds_16 : decode j2729_1 16 = .ok (.putfield 16, 3) := by decide +kernel
theorem ds_19 : decode j2729_1 19 = .ok (.return_, 1) := by decide +kernel
theorem pn4 : plainName "com/example/chorale/chorale/core/ReliableMulticast$Origin" = true := by first | (simp [plainName, overriddenIn]; done) | decide +kernel
theorem dq_0 : decode p70_1 0 = .ok (.aload_n 0, 1) := by decide +kernel
theorem dq_1 : decode p70_1 1 = .ok (.invokespecial 3, 3) := by decide +kernel
theorem dq_4 : decode p70_1 4 = .ok (.aload_n 0, 1) := by decide +kernel
theorem dq_5 : decode p70_1 5 = .ok (.ldc2_w 11, 3) := by decide +kernel
theorem dq_8 : decode p70_1 8 = .ok (.putfield 13, 3) := by decide +kernel
theorem dq_11 : decode p70_1 11 = .ok (.aload_n 0, 1) := by decide +kernel
theorem dq_12 : decode p70_1 12 = .ok (.new 19, 3) := by decide +kernel
theorem dq_15 : decode p70_1 15 = .ok (.dup, 1) := by decide +kernel
theorem dq_16 : decode p70_1 16 = .ok (.invokespecial 21, 3) := by decide +kernel
theorem dq_19 : decode p70_1 19 = .ok (.putfield 22, 3) := by decide +kernel
theorem dq_22 : decode p70_1 22 = .ok (.aload_n 0, 1) := by decide +kernel
theorem dq_23 : decode p70_1 23 = .ok (.ldc2_w 26, 3) := by decide +kernel
theorem dq_26 : decode p70_1 26 = .ok (.putfield 28, 3) := by decide +kernel
theorem dq_29 : decode p70_1 29 = .ok (.aload_n 0, 1) := by decide +kernel
theorem dq_30 : decode p70_1 30 = .ok (.iconst (-1), 1) := by decide +kernel
theorem dq_31 : decode p70_1 31 = .ok (.putfield 31, 3) := by decide +kernel
theorem dq_34 : decode p70_1 34 = .ok (.return_, 1) := by decide +kernel
theorem pn1 : plainName "com/example/chorale/chorale/core/ReliableMulticast" = true := by first | (simp [plainName, overriddenIn]; done) | decide +kernel
theorem dD_0 : decode p68_25 0 = .ok (.new 13, 3) := by decide +kernel
theorem dD_3 : decode p68_25 3 = .ok (.dup, 1) := by decide +kernel
theorem dD_4 : decode p68_25 4 = .ok (.invokespecial 278, 3) := by decide +kernel
theorem dD_7 : decode p68_25 7 = .ok (.areturn, 1) := by decide +kernel
theorem pn5 : plainName "java/util/Arrays" = true := by first | (simp [plainName, overriddenIn]; done) | decide +kernel
theorem di_0 : decode j65_173 0 = .ok (.aload_n 1, 1) := by decide +kernel
theorem di_1 : decode j65_173 1 = .ok (.invokestatic 175, 3) := by decide +kernel
theorem di_4 : decode j65_173 4 = .ok (.pop, 1) := by decide +kernel
theorem di_5 : decode j65_173 5 = .ok (.iconst 0, 1) := by decide +kernel
theorem di_6 : decode j65_173 6 = .ok (.istore_n 2, 1) := by decide +kernel
theorem di_7 : decode j65_173 7 = .ok (.iload_n 2, 1) := by decide +kernel
theorem di_8 : decode j65_173 8 = .ok (.aload_n 0, 1) := by decide +kernel
theorem di_9 : decode j65_173 9 = .ok (.arraylength, 1) := by decide +kernel
theorem di_10 : decode j65_173 10 = .ok (.if_icmp .ge 19, 3) := by decide +kernel
theorem di_13 : decode j65_173 13 = .ok (.aload_n 0, 1) := by decide +kernel
theorem di_14 : decode j65_173 14 = .ok (.iload_n 2, 1) := by decide +kernel
theorem di_15 : decode j65_173 15 = .ok (.aload_n 1, 1) := by decide +kernel
theorem di_16 : decode j65_173 16 = .ok (.iload_n 2, 1) := by decide +kernel
theorem di_17 : decode j65_173 17 = .ok (.invokeinterface 558 2, 5) := by decide +kernel
theorem pd14 : parseMethodDescriptor "(I)Ljava/lang/Object;" = some ⟨[.int], some (.object "java/lang/Object")⟩ := by decide +kernel
theorem pd15 : parseMethodDescriptor "(I)Lcom/example/chorale/chorale/core/ReliableMulticast$Origin;" = some ⟨[.int], some (.object "com/example/chorale/chorale/core/ReliableMulticast$Origin")⟩ := by decide +kernel
theorem di_22 : decode j65_173 22 = .ok (.aastore, 1) := by decide +kernel
theorem di_23 : decode j65_173 23 = .ok (.iinc 2 1, 3) := by decide +kernel
theorem di_26 : decode j65_173 26 = .ok (.goto (-19), 3) := by decide +kernel
theorem di_29 : decode j65_173 29 = .ok (.return_, 1) := by decide +kernel
theorem dl_0 : decode p68_1 0 = .ok (.aload_n 0, 1) := by decide +kernel
theorem dl_1 : decode p68_1 1 = .ok (.invokespecial 1, 3) := by decide +kernel
theorem dl_4 : decode p68_1 4 = .ok (.aload_n 0, 1) := by decide +kernel
theorem dl_5 : decode p68_1 5 = .ok (.iload_n 2, 1) := by decide +kernel
theorem dl_6 : decode p68_1 6 = .ok (.putfield 7, 3) := by decide +kernel
theorem dl_9 : decode p68_1 9 = .ok (.aload_n 0, 1) := by decide +kernel
theorem dl_10 : decode p68_1 10 = .ok (.iload_n 1, 1) := by decide +kernel
theorem dl_11 : decode p68_1 11 = .ok (.anewarray 13, 3) := by decide +kernel
theorem dl_14 : decode p68_1 14 = .ok (.putfield 15, 3) := by decide +kernel
theorem dl_17 : decode p68_1 17 = .ok (.aload_n 0, 1) := by decide +kernel
theorem dl_18 : decode p68_1 18 = .ok (.getfield 15, 3) := by decide +kernel
theorem dl_21 : decode p68_1 21 = .ok (.invokedynamic 19, 5) := by decide +kernel
theorem pd23 : parseMethodDescriptor "([Ljava/lang/Object;Ljava/util/function/IntFunction;)V" = some ⟨[(.array (.object "java/lang/Object")), (.object "java/util/function/IntFunction")], none⟩ := by decide +kernel
theorem dl_26 : decode p68_1 26 = .ok (.invokestatic 23, 3) := by decide +kernel
theorem dl_29 : decode p68_1 29 = .ok (.aload_n 0, 1) := by decide +kernel
theorem dl_30 : decode p68_1 30 = .ok (.iload_n 1, 1) := by decide +kernel
theorem dl_31 : decode p68_1 31 = .ok (.iload_n 1, 1) := by decide +kernel
theorem dl_32 : decode p68_1 32 = .ok (.multianewarray 29 2, 4) := by decide +kernel
theorem dl_36 : decode p68_1 36 = .ok (.putfield 31, 3) := by decide +kernel
theorem dl_39 : decode p68_1 39 = .ok (.return_, 1) := by decide +kernel
theorem dy_0 : decode j29_70 0 = .ok (.lload_n 0, 1) := by decide +kernel
theorem dy_1 : decode j29_70 1 = .ok (.lload_n 2, 1) := by decide +kernel
theorem dy_2 : decode j29_70 2 = .ok (.lcmp, 1) := by decide +kernel
theorem dy_3 : decode j29_70 3 = .ok (.ifCond .gt 7, 3) := by decide +kernel
theorem dy_6 : decode j29_70 6 = .ok (.lload_n 0, 1) := by decide +kernel
theorem dy_7 : decode j29_70 7 = .ok (.goto 4, 3) := by decide +kernel
theorem dy_11 : decode j29_70 11 = .ok (.lreturn, 1) := by decide +kernel
theorem dz_0 : decode j29_66 0 = .ok (.lload_n 0, 1) := by decide +kernel
theorem dz_1 : decode j29_66 1 = .ok (.lload_n 2, 1) := by decide +kernel
theorem dz_2 : decode j29_66 2 = .ok (.lcmp, 1) := by decide +kernel
theorem dz_3 : decode j29_66 3 = .ok (.ifCond .lt 7, 3) := by decide +kernel
theorem dz_10 : decode j29_66 10 = .ok (.lload_n 2, 1) := by decide +kernel
theorem dz_11 : decode j29_66 11 = .ok (.lreturn, 1) := by decide +kernel
theorem du_0 : decode p70_3 0 = .ok (.aload_n 0, 1) := by decide +kernel
theorem du_1 : decode p70_3 1 = .ok (.aload_n 0, 1) := by decide +kernel
theorem du_2 : decode p70_3 2 = .ok (.getfield 41, 3) := by decide +kernel
theorem du_5 : decode p70_3 5 = .ok (.lload_n 1, 1) := by decide +kernel
theorem du_6 : decode p70_3 6 = .ok (.aload_n 0, 1) := by decide +kernel
theorem du_7 : decode p70_3 7 = .ok (.getfield 13, 3) := by decide +kernel
theorem pd24 : parseMethodDescriptor "(JJ)J" = some ⟨[.long, .long], some .long⟩ := by decide +kernel
theorem du_10 : decode p70_3 10 = .ok (.invokestatic 58, 3) := by decide +kernel
theorem du_13 : decode p70_3 13 = .ok (.invokestatic 75, 3) := by decide +kernel
theorem du_16 : decode p70_3 16 = .ok (.putfield 41, 3) := by decide +kernel
theorem du_19 : decode p70_3 19 = .ok (.return_, 1) := by decide +kernel
theorem de_0 : decode p68_3 0 = .ok (.aload_n 0, 1) := by decide +kernel
theorem de_1 : decode p68_3 1 = .ok (.getfield 15, 3) := by decide +kernel
theorem de_4 : decode p68_3 4 = .ok (.aload_n 0, 1) := by decide +kernel
theorem de_5 : decode p68_3 5 = .ok (.getfield 7, 3) := by decide +kernel
theorem de_8 : decode p68_3 8 = .ok (.aaload, 1) := by decide +kernel
theorem de_9 : decode p68_3 9 = .ok (.astore_n 2, 1) := by decide +kernel
theorem de_10 : decode p68_3 10 = .ok (.aload_n 2, 1) := by decide +kernel
theorem de_11 : decode p68_3 11 = .ok (.getfield 34, 3) := by decide +kernel
theorem de_14 : decode p68_3 14 = .ok (.lstore_n 3, 1) := by decide +kernel
theorem de_15 : decode p68_3 15 = .ok (.aload_n 2, 1) := by decide +kernel
theorem de_16 : decode p68_3 16 = .ok (.getfield 44, 3) := by decide +kernel
theorem de_19 : decode p68_3 19 = .ok (.lload_n 3, 1) := by decide +kernel
theorem pd1 : parseMethodDescriptor "(J)Ljava/lang/Long;" = some ⟨[.long], some (.object "java/lang/Long")⟩ := by decide +kernel
theorem de_20 : decode p68_3 20 = .ok (.invokestatic 48, 3) := by decide +kernel
theorem de_23 : decode p68_3 23 = .ok (.aload_n 1, 1) := by decide +kernel
theorem pd8 : parseMethodDescriptor "(Ljava/lang/Object;Ljava/lang/Object;)Ljava/lang/Object;" = some ⟨[(.object "java/lang/Object"), (.object "java/lang/Object")], some (.object "java/lang/Object")⟩ := by decide +kernel
theorem de_24 : decode p68_3 24 = .ok (.invokevirtual 54, 3) := by decide +kernel
theorem de_27 : decode p68_3 27 = .ok (.pop, 1) := by decide +kernel
theorem de_28 : decode p68_3 28 = .ok (.aload_n 2, 1) := by decide +kernel
theorem de_29 : decode p68_3 29 = .ok (.dup, 1) := by decide +kernel
theorem de_30 : decode p68_3 30 = .ok (.getfield 34, 3) := by decide +kernel
theorem de_33 : decode p68_3 33 = .ok (.lconst 1, 1) := by decide +kernel
theorem de_34 : decode p68_3 34 = .ok (.ladd, 1) := by decide +kernel
theorem de_35 : decode p68_3 35 = .ok (.putfield 34, 3) := by decide +kernel
theorem de_38 : decode p68_3 38 = .ok (.aload_n 0, 1) := by decide +kernel
theorem de_39 : decode p68_3 39 = .ok (.getfield 31, 3) := by decide +kernel
theorem de_42 : decode p68_3 42 = .ok (.aload_n 0, 1) := by decide +kernel
theorem de_43 : decode p68_3 43 = .ok (.getfield 7, 3) := by decide +kernel
theorem de_46 : decode p68_3 46 = .ok (.aaload, 1) := by decide +kernel
theorem de_47 : decode p68_3 47 = .ok (.aload_n 0, 1) := by decide +kernel
theorem de_48 : decode p68_3 48 = .ok (.getfield 7, 3) := by decide +kernel
theorem de_51 : decode p68_3 51 = .ok (.aload_n 2, 1) := by decide +kernel
theorem de_52 : decode p68_3 52 = .ok (.getfield 34, 3) := by decide +kernel
theorem de_55 : decode p68_3 55 = .ok (.lastore, 1) := by decide +kernel
theorem de_56 : decode p68_3 56 = .ok (.lload_n 3, 1) := by decide +kernel
theorem de_57 : decode p68_3 57 = .ok (.lreturn, 1) := by decide +kernel
theorem db_0 : decode p68_4 0 = .ok (.aload_n 0, 1) := by decide +kernel
theorem db_1 : decode p68_4 1 = .ok (.getfield 15, 3) := by decide +kernel
theorem db_4 : decode p68_4 4 = .ok (.iload_n 1, 1) := by decide +kernel
theorem db_5 : decode p68_4 5 = .ok (.aaload, 1) := by decide +kernel
theorem db_6 : decode p68_4 6 = .ok (.astore 5, 2) := by decide +kernel
theorem db_8 : decode p68_4 8 = .ok (.iload_n 1, 1) := by decide +kernel
theorem db_9 : decode p68_4 9 = .ok (.aload_n 0, 1) := by decide +kernel
theorem db_10 : decode p68_4 10 = .ok (.getfield 7, 3) := by decide +kernel
theorem db_13 : decode p68_4 13 = .ok (.if_icmp .eq 28, 3) := by decide +kernel
theorem db_16 : decode p68_4 16 = .ok (.lload_n 2, 1) := by decide +kernel
theorem db_17 : decode p68_4 17 = .ok (.aload 5, 2) := by decide +kernel
theorem db_19 : decode p68_4 19 = .ok (.getfield 34, 3) := by decide +kernel
theorem db_22 : decode p68_4 22 = .ok (.lcmp, 1) := by decide +kernel
theorem db_23 : decode p68_4 23 = .ok (.ifCond .lt 18, 3) := by decide +kernel
theorem db_26 : decode p68_4 26 = .ok (.aload 5, 2) := by decide +kernel
theorem db_28 : decode p68_4 28 = .ok (.getfield 44, 3) := by decide +kernel
theorem db_31 : decode p68_4 31 = .ok (.lload_n 2, 1) := by decide +kernel
theorem db_32 : decode p68_4 32 = .ok (.invokestatic 48, 3) := by decide +kernel
theorem pd5 : parseMethodDescriptor "(Ljava/lang/Object;)Z" = some ⟨[(.object "java/lang/Object")], some .boolean⟩ := by decide +kernel
theorem db_35 : decode p68_4 35 = .ok (.invokevirtual 60, 3) := by decide +kernel
theorem db_38 : decode p68_4 38 = .ok (.ifCond .eq 5, 3) := by decide +kernel
theorem db_43 : decode p68_4 43 = .ok (.aload 5, 2) := by decide +kernel
theorem db_45 : decode p68_4 45 = .ok (.getfield 44, 3) := by decide +kernel
theorem db_48 : decode p68_4 48 = .ok (.lload_n 2, 1) := by decide +kernel
theorem db_49 : decode p68_4 49 = .ok (.invokestatic 48, 3) := by decide +kernel
theorem db_52 : decode p68_4 52 = .ok (.aload 4, 2) := by decide +kernel
theorem db_54 : decode p68_4 54 = .ok (.invokevirtual 54, 3) := by decide +kernel
theorem db_57 : decode p68_4 57 = .ok (.pop, 1) := by decide +kernel
theorem db_58 : decode p68_4 58 = .ok (.aload 5, 2) := by decide +kernel
theorem db_60 : decode p68_4 60 = .ok (.getfield 44, 3) := by decide +kernel
theorem db_63 : decode p68_4 63 = .ok (.aload 5, 2) := by decide +kernel
theorem db_65 : decode p68_4 65 = .ok (.getfield 34, 3) := by decide +kernel
theorem db_68 : decode p68_4 68 = .ok (.invokestatic 48, 3) := by decide +kernel
theorem db_71 : decode p68_4 71 = .ok (.invokevirtual 60, 3) := by decide +kernel
theorem db_74 : decode p68_4 74 = .ok (.ifCond .eq 17, 3) := by decide +kernel
theorem db_77 : decode p68_4 77 = .ok (.aload 5, 2) := by decide +kernel
theorem db_79 : decode p68_4 79 = .ok (.dup, 1) := by decide +kernel
theorem db_80 : decode p68_4 80 = .ok (.getfield 34, 3) := by decide +kernel
theorem db_83 : decode p68_4 83 = .ok (.lconst 1, 1) := by decide +kernel
theorem db_84 : decode p68_4 84 = .ok (.ladd, 1) := by decide +kernel
theorem db_85 : decode p68_4 85 = .ok (.putfield 34, 3) := by decide +kernel
theorem db_88 : decode p68_4 88 = .ok (.goto (-30), 3) := by decide +kernel
theorem db_91 : decode p68_4 91 = .ok (.aload_n 0, 1) := by decide +kernel
theorem db_92 : decode p68_4 92 = .ok (.getfield 31, 3) := by decide +kernel
theorem db_95 : decode p68_4 95 = .ok (.aload_n 0, 1) := by decide +kernel
theorem db_96 : decode p68_4 96 = .ok (.getfield 7, 3) := by decide +kernel
theorem db_99 : decode p68_4 99 = .ok (.aaload, 1) := by decide +kernel
theorem db_100 : decode p68_4 100 = .ok (.iload_n 1, 1) := by decide +kernel
theorem db_101 : decode p68_4 101 = .ok (.aload 5, 2) := by decide +kernel
theorem db_103 : decode p68_4 103 = .ok (.getfield 34, 3) := by decide +kernel
theorem db_106 : decode p68_4 106 = .ok (.lastore, 1) := by decide +kernel
theorem db_107 : decode p68_4 107 = .ok (.aload 5, 2) := by decide +kernel
theorem db_109 : decode p68_4 109 = .ok (.lload_n 2, 1) := by decide +kernel
theorem db_110 : decode p68_4 110 = .ok (.lconst 1, 1) := by decide +kernel
theorem db_111 : decode p68_4 111 = .ok (.ladd, 1) := by decide +kernel
theorem pd10 : parseMethodDescriptor "(J)V" = some ⟨[.long], none⟩ := by decide +kernel
theorem db_112 : decode p68_4 112 = .ok (.invokevirtual 64, 3) := by decide +kernel
theorem db_115 : decode p68_4 115 = .ok (.iconst 1, 1) := by decide +kernel
theorem db_116 : decode p68_4 116 = .ok (.ireturn, 1) := by decide +kernel
theorem dj_0 : decode p68_5 0 = .ok (.lload_n 2, 1) := by decide +kernel
theorem dj_1 : decode p68_5 1 = .ok (.aload_n 0, 1) := by decide +kernel
theorem dj_2 : decode p68_5 2 = .ok (.getfield 15, 3) := by decide +kernel
theorem dj_5 : decode p68_5 5 = .ok (.iload_n 1, 1) := by decide +kernel
theorem dj_6 : decode p68_5 6 = .ok (.aaload, 1) := by decide +kernel
theorem dj_7 : decode p68_5 7 = .ok (.getfield 34, 3) := by decide +kernel
theorem dj_10 : decode p68_5 10 = .ok (.ldc2_w 42, 3) := by decide +kernel
theorem dj_13 : decode p68_5 13 = .ok (.ladd, 1) := by decide +kernel
theorem dj_14 : decode p68_5 14 = .ok (.lcmp, 1) := by decide +kernel
theorem dj_15 : decode p68_5 15 = .ok (.ifCond .ge 7, 3) := by decide +kernel
theorem dj_18 : decode p68_5 18 = .ok (.iconst 1, 1) := by decide +kernel
theorem dj_19 : decode p68_5 19 = .ok (.goto 4, 3) := by decide +kernel
theorem dj_23 : decode p68_5 23 = .ok (.ireturn, 1) := by decide +kernel
theorem dj_22 : decode p68_5 22 = .ok (.iconst 0, 1) := by decide +kernel
theorem pn8 : plainName "com/example/chorale/chorale/core/ReliableMulticastPlausible166PinLaw" = true := by first | (simp [plainName, overriddenIn]; done) | decide +kernel
theorem pd6 : parseMethodDescriptor "(IJ)Z" = some ⟨[.int, .long], some .boolean⟩ := by decide +kernel
theorem pd26 : parseMethodDescriptor "(II)V" = some ⟨[.int, .int], none⟩ := by decide +kernel
theorem pd11 : parseMethodDescriptor "([B)J" = some ⟨[(.array .byte)], some .long⟩ := by decide +kernel
theorem pd4 : parseMethodDescriptor "(IJ[B)Z" = some ⟨[.int, .long, (.array .byte)], some .boolean⟩ := by decide +kernel
abbrev tw_0 {Z a0} (hw : oW a0 Z) := oT hw 0 rfl
abbrev tw_1 {Z a0} (hw : oW a0 Z) := oT hw 1 rfl
abbrev tw_2 {Z a0} (hw : oW a0 Z) := oT hw 2 rfl
abbrev tw_3 {Z a0} (hw : oW a0 Z) := oT hw 3 rfl
abbrev tw_4 {Z a0} (hw : oW a0 Z) := oT hw 4 rfl
abbrev tw_5 {Z a0} (hw : oW a0 Z) := oT hw 5 rfl
abbrev tw_6 {Z a0} (hw : oW a0 Z) := oT hw 6 rfl
abbrev tw_7 {Z a0} (hw : oW a0 Z) := oT hw 7 rfl
abbrev tw_8 {Z a0} (hw : oW a0 Z) := oT hw 8 rfl
abbrev tw_9 {Z a0} (hw : oW a0 Z) := oT hw 9 rfl
abbrev tw_10 {Z a0} (hw : oW a0 Z) := oT hw 10 rfl
abbrev tw_11 {Z a0} (hw : oW a0 Z) := oT hw 11 rfl
abbrev tw_12 {Z a0} (hw : oW a0 Z) := oT hw 12 rfl
abbrev tw_13 {Z a0} (hw : oW a0 Z) := oT hw 13 rfl
abbrev tw_14 {Z a0} (hw : oW a0 Z) := oT hw 14 rfl
abbrev tw_15 {Z a0} (hw : oW a0 Z) := oT hw 15 rfl
abbrev tw_16 {Z a0} (hw : oW a0 Z) := oT hw 16 rfl
abbrev tw_17 {Z a0} (hw : oW a0 Z) := oT hw 17 rfl
abbrev tw_20 {Z a0} (hw : oW a0 Z) := oT hw 20 rfl
abbrev tw_21 {Z a0} (hw : oW a0 Z) := oT hw 21 rfl
abbrev tw_22 {Z a0} (hw : oW a0 Z) := oT hw 22 rfl
abbrev tw_23 {Z a0} (hw : oW a0 Z) := oT hw 23 rfl
abbrev tw_24 {Z a0} (hw : oW a0 Z) := oT hw 24 rfl
abbrev tw_25 {Z a0} (hw : oW a0 Z) := oT hw 25 rfl
abbrev tw_26 {Z a0} (hw : oW a0 Z) := oT hw 26 rfl
abbrev tw_27 {Z a0} (hw : oW a0 Z) := oT hw 27 rfl
abbrev tw_28 {Z a0} (hw : oW a0 Z) := oT hw 28 rfl
abbrev tw_29 {Z a0} (hw : oW a0 Z) := oT hw 29 rfl
abbrev tw_30 {Z a0} (hw : oW a0 Z) := oT hw 30 rfl
abbrev tw_31 {Z a0} (hw : oW a0 Z) := oT hw 31 rfl
abbrev tw_32 {Z a0} (hw : oW a0 Z) := oT hw 32 rfl
abbrev tw_33 {Z a0} (hw : oW a0 Z) := oT hw 33 rfl
abbrev tw_34 {Z a0} (hw : oW a0 Z) := oT hw 34 rfl
abbrev tw_35 {Z a0} (hw : oW a0 Z) := oT hw 35 rfl
abbrev tw_36 {Z a0} (hw : oW a0 Z) := oT hw 36 rfl
abbrev tw_37 {Z a0} (hw : oW a0 Z) := oT hw 37 rfl
abbrev tw_38 {Z a0} (hw : oW a0 Z) := oT hw 38 rfl
abbrev tw_39 {Z a0} (hw : oW a0 Z) := oT hw 39 rfl
abbrev tw_40 {Z a0} (hw : oW a0 Z) := oT hw 40 rfl
abbrev tw_41 {Z a0} (hw : oW a0 Z) := oT hw 41 rfl
abbrev tw_42 {Z a0} (hw : oW a0 Z) := oT hw 42 rfl
abbrev tw_43 {Z a0} (hw : oW a0 Z) := oT hw 43 rfl
abbrev tw_44 {Z a0} (hw : oW a0 Z) := oT hw 44 rfl
abbrev tw_45 {Z a0} (hw : oW a0 Z) := oT hw 45 rfl
abbrev tw_46 {Z a0} (hw : oW a0 Z) := oT hw 46 rfl
abbrev tw_47 {Z a0} (hw : oW a0 Z) := oT hw 47 rfl
abbrev tw_48 {Z a0} (hw : oW a0 Z) := oT hw 48 rfl
abbrev tw_49 {Z a0} (hw : oW a0 Z) := oT hw 49 rfl
abbrev tw_52 {Z a0} (hw : oW a0 Z) := oT hw 52 rfl
abbrev tw_53 {Z a0} (hw : oW a0 Z) := oT hw 53 rfl
abbrev tw_54 {Z a0} (hw : oW a0 Z) := oT hw 54 rfl
abbrev tw_55 {Z a0} (hw : oW a0 Z) := oT hw 55 rfl
abbrev tw_56 {Z a0} (hw : oW a0 Z) := oT hw 56 rfl
abbrev tw_57 {Z a0} (hw : oW a0 Z) := oT hw 57 rfl
abbrev tw_58 {Z a0} (hw : oW a0 Z) := oT hw 58 rfl
abbrev tw_59 {Z a0} (hw : oW a0 Z) := oT hw 59 rfl
abbrev tw_60 {Z a0} (hw : oW a0 Z) := oT hw 60 rfl
abbrev tw_61 {Z a0} (hw : oW a0 Z) := oT hw 61 rfl
abbrev tw_62 {Z a0} (hw : oW a0 Z) := oT hw 62 rfl
abbrev tw_63 {Z a0} (hw : oW a0 Z) := oT hw 63 rfl
abbrev tw_64 {Z a0} (hw : oW a0 Z) := oT hw 64 rfl
abbrev tw_65 {Z a0} (hw : oW a0 Z) := oT hw 65 rfl
abbrev tw_66 {Z a0} (hw : oW a0 Z) := oT hw 66 rfl
abbrev tw_67 {Z a0} (hw : oW a0 Z) := oT hw 67 rfl
abbrev tw_69 {Z a0} (hw : oW a0 Z) := oT hw 69 rfl
abbrev tw_70 {Z a0} (hw : oW a0 Z) := oT hw 70 rfl
abbrev tw_71 {Z a0} (hw : oW a0 Z) := oT hw 71 rfl
abbrev tw_72 {Z a0} (hw : oW a0 Z) := oT hw 72 rfl
abbrev tw_73 {Z a0} (hw : oW a0 Z) := oT hw 73 rfl
abbrev tw_74 {Z a0} (hw : oW a0 Z) := oT hw 74 rfl
abbrev tw_75 {Z a0} (hw : oW a0 Z) := oT hw 75 rfl
abbrev tw_76 {Z a0} (hw : oW a0 Z) := oT hw 76 rfl
abbrev tw_77 {Z a0} (hw : oW a0 Z) := oT hw 77 rfl
abbrev tw_78 {Z a0} (hw : oW a0 Z) := oT hw 78 rfl
abbrev tw_79 {Z a0} (hw : oW a0 Z) := oT hw 79 rfl
abbrev tw_80 {Z a0} (hw : oW a0 Z) := oT hw 80 rfl
abbrev tw_81 {Z a0} (hw : oW a0 Z) := oT hw 81 rfl
abbrev tw_82 {Z a0} (hw : oW a0 Z) := oT hw 82 rfl
abbrev tw_83 {Z a0} (hw : oW a0 Z) := oT hw 83 rfl
abbrev tw_84 {Z a0} (hw : oW a0 Z) := oT hw 84 rfl
abbrev tw_85 {Z a0} (hw : oW a0 Z) := oT hw 85 rfl
abbrev tw_86 {Z a0} (hw : oW a0 Z) := oT hw 86 rfl
abbrev tw_87 {Z a0} (hw : oW a0 Z) := oT hw 87 rfl
abbrev tw_88 {Z a0} (hw : oW a0 Z) := oT hw 88 rfl
abbrev tw_90 {Z a0} (hw : oW a0 Z) := oT hw 90 rfl
abbrev tw_91 {Z a0} (hw : oW a0 Z) := oT hw 91 rfl
abbrev tw_92 {Z a0} (hw : oW a0 Z) := oT hw 92 rfl
abbrev tw_93 {Z a0} (hw : oW a0 Z) := oT hw 93 rfl
abbrev tw_94 {Z a0} (hw : oW a0 Z) := oT hw 94 rfl
abbrev tw_95 {Z a0} (hw : oW a0 Z) := oT hw 95 rfl
abbrev tw_96 {Z a0} (hw : oW a0 Z) := oT hw 96 rfl
abbrev tw_97 {Z a0} (hw : oW a0 Z) := oT hw 97 rfl
abbrev tw_98 {Z a0} (hw : oW a0 Z) := oT hw 98 rfl
abbrev tw_99 {Z a0} (hw : oW a0 Z) := oT hw 99 rfl
abbrev tw_100 {Z a0} (hw : oW a0 Z) := oT hw 100 rfl
abbrev tw_101 {Z a0} (hw : oW a0 Z) := oT hw 101 rfl
abbrev tw_102 {Z a0} (hw : oW a0 Z) := oT hw 102 rfl
abbrev tw_103 {Z a0} (hw : oW a0 Z) := oT hw 103 rfl
abbrev tw_104 {Z a0} (hw : oW a0 Z) := oT hw 104 rfl
abbrev tw_105 {Z a0} (hw : oW a0 Z) := oT hw 105 rfl
abbrev tw_106 {Z a0} (hw : oW a0 Z) := oT hw 106 rfl
abbrev tw_107 {Z a0} (hw : oW a0 Z) := oT hw 107 rfl
abbrev tw_108 {Z a0} (hw : oW a0 Z) := oT hw 108 rfl
abbrev tw_109 {Z a0} (hw : oW a0 Z) := oT hw 109 rfl
abbrev tw_110 {Z a0} (hw : oW a0 Z) := oT hw 110 rfl
abbrev tw_111 {Z a0} (hw : oW a0 Z) := oT hw 111 rfl
abbrev tw_112 {Z a0} (hw : oW a0 Z) := oT hw 112 rfl
abbrev tw_113 {Z a0} (hw : oW a0 Z) := oT hw 113 rfl
abbrev tw_114 {Z a0} (hw : oW a0 Z) := oT hw 114 rfl
abbrev tw_115 {Z a0} (hw : oW a0 Z) := oT hw 115 rfl
abbrev tw_116 {Z a0} (hw : oW a0 Z) := oT hw 116 rfl
abbrev tw_117 {Z a0} (hw : oW a0 Z) := oT hw 117 rfl
abbrev tw_118 {Z a0} (hw : oW a0 Z) := oT hw 118 rfl
abbrev tw_119 {Z a0} (hw : oW a0 Z) := oT hw 119 rfl
abbrev tw_120 {Z a0} (hw : oW a0 Z) := oT hw 120 rfl
abbrev tw_121 {Z a0} (hw : oW a0 Z) := oT hw 121 rfl
abbrev tw_122 {Z a0} (hw : oW a0 Z) := oT hw 122 rfl
abbrev tw_124 {Z a0} (hw : oW a0 Z) := oT hw 124 rfl
abbrev tw_125 {Z a0} (hw : oW a0 Z) := oT hw 125 rfl
abbrev tw_126 {Z a0} (hw : oW a0 Z) := oT hw 126 rfl
abbrev tw_127 {Z a0} (hw : oW a0 Z) := oT hw 127 rfl
abbrev tw_128 {Z a0} (hw : oW a0 Z) := oT hw 128 rfl
abbrev tw_129 {Z a0} (hw : oW a0 Z) := oT hw 129 rfl
abbrev tw_131 {Z a0} (hw : oW a0 Z) := oT hw 131 rfl
abbrev tw_132 {Z a0} (hw : oW a0 Z) := oT hw 132 rfl
abbrev tw_133 {Z a0} (hw : oW a0 Z) := oT hw 133 rfl
abbrev tw_134 {Z a0} (hw : oW a0 Z) := oT hw 134 rfl
abbrev tw_135 {Z a0} (hw : oW a0 Z) := oT hw 135 rfl
abbrev tw_136 {Z a0} (hw : oW a0 Z) := oT hw 136 rfl
abbrev tw_137 {Z a0} (hw : oW a0 Z) := oT hw 137 rfl
abbrev tw_138 {Z a0} (hw : oW a0 Z) := oT hw 138 rfl
abbrev tw_140 {Z a0} (hw : oW a0 Z) := oT hw 140 rfl
abbrev tw_141 {Z a0} (hw : oW a0 Z) := oT hw 141 rfl
abbrev tw_142 {Z a0} (hw : oW a0 Z) := oT hw 142 rfl
abbrev tw_143 {Z a0} (hw : oW a0 Z) := oT hw 143 rfl
abbrev tw_144 {Z a0} (hw : oW a0 Z) := oT hw 144 rfl
abbrev tw_145 {Z a0} (hw : oW a0 Z) := oT hw 145 rfl
abbrev tw_146 {Z a0} (hw : oW a0 Z) := oT hw 146 rfl
abbrev tw_147 {Z a0} (hw : oW a0 Z) := oT hw 147 rfl
abbrev tw_148 {Z a0} (hw : oW a0 Z) := oT hw 148 rfl
abbrev tw_149 {Z a0} (hw : oW a0 Z) := oT hw 149 rfl
abbrev tw_150 {Z a0} (hw : oW a0 Z) := oT hw 150 rfl
abbrev tw_151 {Z a0} (hw : oW a0 Z) := oT hw 151 rfl
abbrev tw_152 {Z a0} (hw : oW a0 Z) := oT hw 152 rfl
abbrev tw_153 {Z a0} (hw : oW a0 Z) := oT hw 153 rfl
abbrev tw_154 {Z a0} (hw : oW a0 Z) := oT hw 154 rfl
abbrev tw_155 {Z a0} (hw : oW a0 Z) := oT hw 155 rfl
abbrev tw_156 {Z a0} (hw : oW a0 Z) := oT hw 156 rfl
abbrev tw_157 {Z a0} (hw : oW a0 Z) := oT hw 157 rfl
abbrev tw_158 {Z a0} (hw : oW a0 Z) := oT hw 158 rfl
abbrev tw_159 {Z a0} (hw : oW a0 Z) := oT hw 159 rfl
abbrev tw_160 {Z a0} (hw : oW a0 Z) := oT hw 160 rfl
abbrev tw_161 {Z a0} (hw : oW a0 Z) := oT hw 161 rfl
abbrev tw_162 {Z a0} (hw : oW a0 Z) := oT hw 162 rfl
abbrev tw_163 {Z a0} (hw : oW a0 Z) := oT hw 163 rfl
abbrev tw_164 {Z a0} (hw : oW a0 Z) := oT hw 164 rfl
abbrev tw_165 {Z a0} (hw : oW a0 Z) := oT hw 165 rfl
abbrev tw_166 {Z a0} (hw : oW a0 Z) := oT hw 166 rfl
abbrev tw_167 {Z a0} (hw : oW a0 Z) := oT hw 167 rfl
abbrev tw_168 {Z a0} (hw : oW a0 Z) := oT hw 168 rfl
abbrev tw_169 {Z a0} (hw : oW a0 Z) := oT hw 169 rfl
abbrev tw_170 {Z a0} (hw : oW a0 Z) := oT hw 170 rfl
abbrev tw_171 {Z a0} (hw : oW a0 Z) := oT hw 171 rfl
abbrev tw_172 {Z a0} (hw : oW a0 Z) := oT hw 172 rfl
abbrev tw_173 {Z a0} (hw : oW a0 Z) := oT hw 173 rfl
abbrev tw_174 {Z a0} (hw : oW a0 Z) := oT hw 174 rfl
abbrev tw_175 {Z a0} (hw : oW a0 Z) := oT hw 175 rfl
abbrev tw_176 {Z a0} (hw : oW a0 Z) := oT hw 176 rfl
abbrev tw_177 {Z a0} (hw : oW a0 Z) := oT hw 177 rfl
abbrev tw_178 {Z a0} (hw : oW a0 Z) := oT hw 178 rfl
abbrev tw_179 {Z a0} (hw : oW a0 Z) := oT hw 179 rfl
abbrev tw_180 {Z a0} (hw : oW a0 Z) := oT hw 180 rfl
abbrev tw_181 {Z a0} (hw : oW a0 Z) := oT hw 181 rfl
abbrev tw_182 {Z a0} (hw : oW a0 Z) := oT hw 182 rfl
abbrev tw_183 {Z a0} (hw : oW a0 Z) := oT hw 183 rfl
abbrev tw_184 {Z a0} (hw : oW a0 Z) := oT hw 184 rfl
abbrev tw_185 {Z a0} (hw : oW a0 Z) := oT hw 185 rfl
abbrev tw_186 {Z a0} (hw : oW a0 Z) := oT hw 186 rfl
abbrev tw_187 {Z a0} (hw : oW a0 Z) := oT hw 187 rfl
abbrev tw_188 {Z a0} (hw : oW a0 Z) := oT hw 188 rfl
abbrev tw_189 {Z a0} (hw : oW a0 Z) := oT hw 189 rfl
abbrev tw_190 {Z a0} (hw : oW a0 Z) := oT hw 190 rfl
abbrev tw_191 {Z a0} (hw : oW a0 Z) := oT hw 191 rfl
abbrev tw_192 {Z a0} (hw : oW a0 Z) := oT hw 192 rfl
abbrev tw_193 {Z a0} (hw : oW a0 Z) := oT hw 193 rfl
abbrev tw_194 {Z a0} (hw : oW a0 Z) := oT hw 194 rfl
abbrev tw_195 {Z a0} (hw : oW a0 Z) := oT hw 195 rfl
abbrev tw_196 {Z a0} (hw : oW a0 Z) := oT hw 196 rfl
abbrev tw_197 {Z a0} (hw : oW a0 Z) := oT hw 197 rfl
abbrev tw_198 {Z a0} (hw : oW a0 Z) := oT hw 198 rfl
abbrev tw_199 {Z a0} (hw : oW a0 Z) := oT hw 199 rfl
abbrev tw_200 {Z a0} (hw : oW a0 Z) := oT hw 200 rfl
abbrev tw_201 {Z a0} (hw : oW a0 Z) := oT hw 201 rfl
abbrev tw_202 {Z a0} (hw : oW a0 Z) := oT hw 202 rfl
abbrev tw_203 {Z a0} (hw : oW a0 Z) := oT hw 203 rfl
abbrev tw_204 {Z a0} (hw : oW a0 Z) := oT hw 204 rfl
abbrev tw_205 {Z a0} (hw : oW a0 Z) := oT hw 205 rfl
abbrev tw_206 {Z a0} (hw : oW a0 Z) := oT hw 206 rfl
abbrev tw_207 {Z a0} (hw : oW a0 Z) := oT hw 207 rfl
abbrev tw_208 {Z a0} (hw : oW a0 Z) := oT hw 208 rfl
abbrev tw_209 {Z a0} (hw : oW a0 Z) := oT hw 209 rfl
abbrev tw_210 {Z a0} (hw : oW a0 Z) := oT hw 210 rfl
abbrev tw_211 {Z a0} (hw : oW a0 Z) := oT hw 211 rfl
abbrev tw_212 {Z a0} (hw : oW a0 Z) := oT hw 212 rfl
abbrev tw_213 {Z a0} (hw : oW a0 Z) := oT hw 213 rfl
abbrev tw_214 {Z a0} (hw : oW a0 Z) := oT hw 214 rfl
abbrev tw_215 {Z a0} (hw : oW a0 Z) := oT hw 215 rfl
abbrev tw_216 {Z a0} (hw : oW a0 Z) := oT hw 216 rfl
abbrev tw_217 {Z a0} (hw : oW a0 Z) := oT hw 217 rfl
abbrev tw_218 {Z a0} (hw : oW a0 Z) := oT hw 218 rfl
abbrev tw_219 {Z a0} (hw : oW a0 Z) := oT hw 219 rfl
abbrev tw_220 {Z a0} (hw : oW a0 Z) := oT hw 220 rfl
abbrev tw_221 {Z a0} (hw : oW a0 Z) := oT hw 221 rfl
abbrev tw_222 {Z a0} (hw : oW a0 Z) := oT hw 222 rfl
theorem own_bb {x : Int32} : (x.toInt8.toInt32).toInt8.toInt32 = x.toInt8.toInt32 := by simp
/-! ### Strings with known bytes -/
theorem own_narR {v : Value} {C : String} (h : v.isRef = true) : narrow (.object C) v = v := by cases v <;> first | rfl | (cases h)
theorem own_fitR {v : Value} {C : String} (h : v.isRef = true) : fits (.object C) v = true := by cases v <;> first | rfl | (cases h)
theorem own_chr (x : Int32) (h : ¬ x < 0) (h2 : ¬ (255 : Int32) < x) : nar .char x = x := by
 have e := c_i2c x
 show x.toUInt32.toUInt16.toUInt32.toInt32 = x
 rw [Int32.lt_iff_toInt_lt] at h h2
 have z0 : (0 : Int32).toInt = 0 := rfl
 have z1 : (255 : Int32).toInt = 255 := rfl
 apply Int32.toInt_inj.mp
 omega
theorem own_chf (x : Int32) (h : ¬ x < 0) (h2 : ¬ (255 : Int32) < x) : fits .char (.int x) = true := by
 have e := fits_nar_char x
 rw [own_chr x h h2] at e; exact e
theorem own_m255 (c : Int32) : ¬ (c &&& (255 : Int32)) < 0 ∧ ¬ (255 : Int32) < (c &&& (255 : Int32)) := by
 have h := c_mask c 255 8 (by decide) (by decide)
 rw [Int32.lt_iff_toInt_lt, Int32.lt_iff_toInt_lt]
 have z0 : (0 : Int32).toInt = 0 := rfl
 have z1 : (255 : Int32).toInt = 255 := rfl
 omega
theorem own_cod {z : Int32} : ((((z - z) : Int32).toUInt32 >>> ((31 : Int32) &&& 31).toUInt32).toInt32).toInt8.toInt32 = 0 := by
 rw [Int32.sub_self]; decide
def StrV (Z : State) (h : Heap) (a : Addr) (bs : List Int32) : Prop := ∃ (d : Addr) (k : ClassId), Exa Z h a "java/lang/String" ∧ Fld Z h a "java/lang/String" "coder" "B" (.int 0) ∧ Fld Z h a "java/lang/String" "value" "[B" (.ref d) ∧ Arv Z h d k .byte (Int32.ofNat bs.length) (bs.map Value.int) (.int 0)
theorem StrV.lt {Z : State} {h : Heap} {a : Addr} {bs : List Int32} (S : StrV Z h a bs) : a < h.size := by obtain ⟨_, _, E, _⟩ := S; exact E.lt
theorem StrV.ext {Z : State} {h h' : Heap} {a : Addr} {bs : List Int32} (S : StrV Z h a bs) (X : Ext h h') : StrV Z h' a bs := by
 obtain ⟨d, k, E, C, V, A⟩ := S; exact ⟨d, k, Exa.ext X E, Fld.ext X C, Fld.ext X V, Arv.ext A X⟩
theorem StrV.keep {Z : State} {h h' : Heap} {a : Addr} {bs : List Int32} {ws : List Addr} (S : StrV Z h a bs) (K : Keep h h' ws) (hd : ∀ (d : Addr) (k : ClassId) (z : Int32) (vs : List Value) (dv : Value), Arv Z h d k .byte z vs dv → d ∉ ws) (ha : ∀ b, Exa Z h b "java/lang/String" → b ∉ ws) : StrV Z h' a bs := by
 obtain ⟨d, k, E, C, V, A⟩ := S
 exact ⟨d, k, Exa.keep E K, Fld.keep C K (ha a E), Fld.keep V K (ha a E), Arv.keep A K (hd _ _ _ _ _ A)⟩
theorem StrV.keep0 {Z : State} {h h' : Heap} {a : Addr} {bs : List Int32} (S : StrV Z h a bs) (K : Keep h h' []) : StrV Z h' a bs := S.keep K (fun _ _ _ _ _ _ => nin0) (fun _ _ => nin0)
theorem StrV.keep1 {Z : State} {h h' : Heap} {a x : Addr} {bs : List Int32} {a0 : Array Value} {C : String} {kI : Nat} (S : StrV Z h a bs) (K : Keep h h' [x]) (E : Exa Z h x C) (wi : (Cond.instantiable C kI).before a0 Z = true) (hC : C ≠ "java/lang/String") : StrV Z h' a bs :=
 S.keep K (fun d _ _ _ _ A => ninS (fun q => by obtain ⟨c, Ar, -⟩ := A; exact ne_arr E wi Ar q.symm) nin0) (fun b F => ninS (fun q => ne_exa E F hC q.symm) nin0)
/-- null, or a String -/
def StrO (Z : State) (h : Heap) (r : Value) (o : Option (List Int32)) : Prop := (r = .null ∧ o = none) ∨ ∃ a bs, r = .ref a ∧ o = some bs ∧ StrV Z h a bs
theorem StrO.isRef {Z : State} {h : Heap} {r : Value} {o : Option (List Int32)} (S : StrO Z h r o) : r.isRef = true := by rcases S with ⟨rfl, -⟩ | ⟨a, bs, rfl, -⟩ <;> rfl
theorem StrO.ext {Z : State} {h h' : Heap} {r : Value} {o : Option (List Int32)} (S : StrO Z h r o) (X : Ext h h') : StrO Z h' r o := S.imp id fun ⟨a, bs, e1, e2, T⟩ => ⟨a, bs, e1, e2, T.ext X⟩
theorem StrO.keep0 {Z : State} {h h' : Heap} {r : Value} {o : Option (List Int32)} (S : StrO Z h r o) (K : Keep h h' []) : StrO Z h' r o := S.imp id fun ⟨a, bs, e1, e2, T⟩ => ⟨a, bs, e1, e2, T.keep0 K⟩
theorem StrO.keep1 {Z : State} {h h' : Heap} {r : Value} {o : Option (List Int32)} {x : Addr} {a0 : Array Value} {C : String} {kI : Nat} (S : StrO Z h r o) (K : Keep h h' [x]) (E : Exa Z h x C) (wi : (Cond.instantiable C kI).before a0 Z = true) (hC : C ≠ "java/lang/String") : StrO Z h' r o := S.imp id fun ⟨a, bs, e1, e2, T⟩ => ⟨a, bs, e1, e2, T.keep1 K E wi hC⟩
theorem own_if1 {p : Prop} [Decidable p] (h : ¬ (if p then (1 : Int32) else 0) = 0) : (if p then (1 : Int32) else 0) = 1 := by
 by_cases q : p
 · rw [if_pos q]
 · rw [if_neg q] at h; exact absurd rfl h
theorem own_len2 {bs : List Int32} (h : bs.length ≤ 2) : bs = [] ∨ (∃ x, bs = [x]) ∨ ∃ x y, bs = [x, y] := by
 match bs, h with
 | [], _ => exact Or.inl rfl
 | [x], _ => exact Or.inr (Or.inl ⟨x, rfl⟩)
 | [x, y], _ => exact Or.inr (Or.inr ⟨x, y, rfl⟩)
 | _ :: _ :: _ :: _, h => exact absurd h (by simp)
theorem own_shr0 (z : Int32) : (z >>> ((0 : Int32) &&& 31)) = z := by
 have e : ((0 : Int32) &&& 31) = 0 := by decide
 rw [e]; exact Int32.shiftRight_zero
theorem own_shl0 (z : Int32) : (z <<< ((0 : Int32) &&& 31)) = z := by
 have e : ((0 : Int32) &&& 31) = 0 := by decide
 rw [e]; exact Int32.shiftLeft_zero
/-! ### pop2 of a long -/
theorem own_pop2 {tb : Tables} [Ours tb] {e : Env} {below : List Frame} {T target : State} {m : MethodId} {c : Code} {g : JFrame} (h : At T m c below) (hx : tb.exec = Jvm.exec) (hg : g.method = m) {x : Int64} {rest : List Value} (hd : decode c.code g.pc = .ok (.pop2, 1)) (hs : g.stack = .long x :: rest)
   (hr : Steps tb e below (T.setTop { g with pc := g.pc + 1, stack := rest }) target) : Steps tb e below (T.setTop g) target := by
 subst hg
 jvm_step h [h.top, hx, hd, hs, Value.category]
 exact hr
/-! ### entries that stand resolved -/
section OwnRef2
variable {p : Program} {l : Launch} {e : Env} {R : Room} {s : State} {m : MethodId} {args : Array Value} {below : List Frame} {meth : Method} {c : Code} {T : State} {locs : List Loc} {cells slots : Nat} {Z : State} {a0 : Array Value} {h : Heap}
theorem own_refAt (X : Stand p l e R s m args below meth c T locs cells slots) (hZ : Z.Warmed39 s.vm) {own : String} {index : Nat} {y : MethodName} (hown : s.vm.findClass own = some m.cls) (w : (Cond.methodRef own index y).before a0 Z = true) (hinst : (Cond.instanceMethod y).before a0 Z = true) (hy : y.cls ≠ "java/lang/invoke/MethodHandle" ∧ y.cls ≠ "java/lang/invoke/VarHandle") :
   ∃ (mk : MethodId) (k : Class) (methM : Method), s.methodNamed? y = some mk ∧ s.vm.method? mk = some methM ∧ methM.isStatic = false ∧ methM.isAbstract = false ∧ T.methodNamed? y = some mk ∧ T.vm.method? mk = some methM ∧ T.vm.methodReady m.cls index mk ∧ namesResolved T.vm m.cls index mk.cls ∧ T.vm.classes[mk.cls]? = some k ∧ k.name = y.cls ∧ methM.name = y.name ∧ methM.desc = y.desc := by
 obtain ⟨mk, methM, hnamed, hmethM, hstM, habM⟩ := Cond.instanceMethod_spec (show (Cond.instanceMethod y).before args s = true from mv hZ hinst)
 have al := X.warmed.alike
 have hnT : T.methodNamed? y = some mk := X.named hnamed
 have hmT : T.vm.method? mk = some methM := by rw [al.method?]; exact hmethM
 obtain ⟨mkZ, _, hnZ, -⟩ := Cond.instanceMethod_spec hinst
 have w' : (Cond.methodRef own index y).before a0 (Z.setVm T.vm) = true := Cond.methodRef_warmed39 (wtrans hZ X.warmed) hnZ hy w
 have hownT : (Z.setVm T.vm).vm.findClass own = some m.cls := by rw [State.vm_setVm, al.findClass]; exact hown
 obtain ⟨m2, c', hfd, hready, hfc, hnr⟩ := Cond.methodRef_named (s := Z.setVm T.vm) e hownT w'
 have hn2 : (Z.setVm T.vm).methodNamed? y = some mk := hnT
 cases hfd.symm.trans (State.methodFound?_of_named hn2 hy)
 have hc' : c' = mk.cls := Option.some.inj (hfc.symm.trans (findClass_of_methodNamed hn2))
 subst hc'
 obtain ⟨k, hk, hkn⟩ := className_of_methodNamed hnT
 obtain ⟨n1, n2⟩ := name_of_methodNamed hnT hmT
 exact ⟨mk, k, methM, hnamed, hmethM, hstM, habM, hnT, hmT, hready, hnr, hk, hkn, n1, n2⟩
theorem own_specialRef (X : Stand p l e R s m args below meth c T locs cells slots) (hx : p.tables.exec = Jvm.exec) (hZ : Z.Warmed39 s.vm) {own : String} {index : Nat} {y : MethodName} (hy1 : y.name = "<init>") (hown : s.vm.findClass own = some m.cls) (w : (Cond.methodRef own index y).before a0 Z = true) (hinst : (Cond.instanceMethod y).before a0 Z = true)
   {bytes : ByteArray} {maxL : Nat} {ret : Option FieldType} (hcode : (Cond.code y bytes maxL ret).before a0 Z = true) (hy : y.cls ≠ "java/lang/invoke/MethodHandle" ∧ y.cls ≠ "java/lang/invoke/VarHandle")
   {W : Nat} {Pre : Pt → Array Value → Prop} {Post : Pt → Array Value → Option Value → Pt → Prop} (hK : Back l R p e below s args y 3 W Pre Post) {g : JFrame} (hg : g.method = m) (hsize : g.locals.size = c.maxLocals) {a : Addr} {argsL rest : List Value}
   (hlen : ∀ sig, parseMethodDescriptor y.desc = some sig → argsL.length = sig.parameters.length) (hstack : g.stack = argsL.reverse ++ .ref a :: rest) (hW : 2 * g.monitorRoom + (rest.map fun v => v.category).sum ≤ W) (hdg : decode c.code g.pc = .ok (.invokespecial index, 3))
   (hpre : ∀ vm₁, s.WarmedH vm₁ → Pre ⟨T.setVm vm₁, locs, cells, slots⟩ (.ref a :: argsL).toArray) :
   ∃ (v : Option Value) (vm₁ : Vm) (B : Pt), s.WarmedH vm₁ ∧ Stand p l e R s m args below meth c B.U B.locs B.cells B.slots ∧ Post ⟨T.setVm vm₁, locs, cells, slots⟩ (.ref a :: argsL).toArray v B ∧ Steps p.tables e below (T.setTop g) (B.U.setTop { g with pc := g.pc + 3, stack := v.toList ++ rest }) := by
 obtain ⟨mk, k, methM, hnamed, hmethM, hstM, habM, hnT, hmT, hready, hnr, hk, hkn, n1, n2⟩ := own_refAt X hZ hown w hinst hy
 obtain ⟨methM', cM, hmethM', -, -, -, -, -, -, hsigM⟩ := Cond.code_spec hnamed (show (Cond.code y bytes maxL ret).before args s = true from mv hZ hcode)
 cases hmethM.symm.trans hmethM'
 have hlk : lookupSpecial T.vm mk.cls "<init>" methM.desc = .method mk := by
   have q := lookupSpecial_of_named hnT hmT hstM
   rw [hy1, ← n2] at q; exact q
 have eT : T.setVm T.vm = T := by cases T; rfl
 have hp := hpre T.vm X.warmed
 rw [eT] at hp
 obtain ⟨v, B, X', hpost, hsteps⟩ := hK m meth c ⟨T, locs, cells, slots⟩ { g with stack := rest } (.invokespecial index) mk (.ref a :: argsL).toArray X hg hsize hdg hW hnT hp
 refine ⟨v, T.vm, B, X.warmed, X', by rw [eT]; exact hpost, ?_⟩
 subst hg
 jvm_step X.here [hx, hdg, invokespecial.wp_init (e := e) (s := T) (f := g) X.here.top hnr hready hk hmT (n1.trans hy1) hstM habM hlk (hlen _ hsigM) hstack]
 intro acts
 rw [doInvoke_state]
 exact hsteps
theorem own_privateRef (X : Stand p l e R s m args below meth c T locs cells slots) (hx : p.tables.exec = Jvm.exec) (hZ : Z.Warmed39 s.vm) {own : String} {index : Nat} {y : MethodName} (hown : s.vm.findClass own = some m.cls) (w : (Cond.methodRef own index y).before a0 Z = true) (hinst : (Cond.instanceMethod y).before a0 Z = true) (hpv : (Cond.privateMethod y).before a0 Z = true)
   {bytes : ByteArray} {maxL kk : Nat} {ret : Option FieldType} (hcode : (Cond.code y bytes maxL ret).before a0 Z = true) (wi : (Cond.instantiable y.cls kk).before a0 Z = true) (hy : y.cls ≠ "java/lang/invoke/MethodHandle" ∧ y.cls ≠ "java/lang/invoke/VarHandle")
   {W : Nat} {Pre : Pt → Array Value → Prop} {Post : Pt → Array Value → Option Value → Pt → Prop} (hK : Back l R p e below s args y 3 W Pre Post) {g : JFrame} (hg : g.method = m) (hsize : g.locals.size = c.maxLocals) {a : Addr} {cell : Cell} (hcell : T.heap[a]? = some cell) (hobj : ∀ q, cell.vm ≠ .statics q) {argsL rest : List Value}
   (hlen : ∀ sig, parseMethodDescriptor y.desc = some sig → argsL.length = sig.parameters.length) (hstack : g.stack = argsL.reverse ++ .ref a :: rest) (hW : 2 * g.monitorRoom + (rest.map fun v => v.category).sum ≤ W) (hdg : decode c.code g.pc = .ok (.invokevirtual index, 3))
   (hpre : ∀ vm₁, s.WarmedH vm₁ → Pre ⟨T.setVm vm₁, locs, cells, slots⟩ (.ref a :: argsL).toArray) :
   ∃ (v : Option Value) (vm₁ : Vm) (B : Pt), s.WarmedH vm₁ ∧ Stand p l e R s m args below meth c B.U B.locs B.cells B.slots ∧ Post ⟨T.setVm vm₁, locs, cells, slots⟩ (.ref a :: argsL).toArray v B ∧ Steps p.tables e below (T.setTop g) (B.U.setTop { g with pc := g.pc + 3, stack := v.toList ++ rest }) := by
 obtain ⟨mk, k, methM, hnamed, hmethM, hstM, habM, hnT, hmT, hready, hnr, hk, hkn, n1, n2⟩ := own_refAt X hZ hown w hinst hy
 obtain ⟨methM', cM, hmethM', -, -, -, -, -, -, hsigM⟩ := Cond.code_spec hnamed (show (Cond.code y bytes maxL ret).before args s = true from mv hZ hcode)
 cases hmethM.symm.trans hmethM'
 have hpriv : s.PrivateAt y := Cond.privateMethod_at (args := args) (mvP hZ hpv)
 have hselT : selectMethod e.platform T.vm cell.cls mk = .method mk := selectMethod_private hmT (hpriv mk methM hnamed hmethM)
 have hni : k.isInterface = false := by
   obtain ⟨ci, ki, q1, q2, -, q4, -⟩ := Cond.instantiable_spec wi
   have al : Z.vm.Alike T.vm := hZ.alike.trans X.warmed.alike
   have q5 : T.vm.findClass y.cls = some ci := by rw [al.findClass]; exact q1
   have q6 : ci = mk.cls := Option.some.inj (q5.symm.trans (findClass_of_methodNamed hnT))
   subst q6
   obtain ⟨k', q7, q8⟩ := al.2.2 _ _ q2
   cases hk.symm.trans q7
   have q9 : ki.isInterface = false := by
     cases hh : ki.isInterface
     · rfl
     · rw [hh] at q4; simp at q4
   rw [q8]; exact q9
 have eT : T.setVm T.vm = T := by cases T; rfl
 have hp := hpre T.vm X.warmed
 rw [eT] at hp
 obtain ⟨v, B, X', hpost, hsteps⟩ := hK m meth c ⟨T, locs, cells, slots⟩ { g with stack := rest } (.invokevirtual index) mk (.ref a :: argsL).toArray X hg hsize hdg hW hnT hp
 refine ⟨v, T.vm, B, X.warmed, X', by rw [eT]; exact hpost, ?_⟩
 subst hg
 jvm_step X.here [hx, hdg, invokevirtual.wp_named (e := e) (s := T) (f := g) (r := mk) (m := mk) (c' := mk.cls) (k := k) (k' := k) (mk := k) (rmeth := methM) (meth := methM) (a := a) (args := argsL) (rest := rest) (cell := cell) X.here.top hnr hk hni hready hk hmT (signaturePolymorphic_of_name (by rw [hkn]; exact hy) _) hstM (hlen _ hsigM) hstack hcell hobj hselT hmT habM hk hni]
 intro acts
 rw [doInvoke_state]
 exact hsteps
theorem own_putR (X : Stand p l e R s m args below meth c T locs cells slots) (hx : p.tables.exec = Jvm.exec) (hZ : Z.Warmed39 s.vm) {own R0 O n d C : String} {index kk : Nat} {ty : FieldType} (hown : s.vm.findClass own = some m.cls) (w : (Cond.fieldRef own index R0 n d).before a0 Z = true) (via : Via Z R0 O n d)
   (eT : T.heap = h) {a : Addr} {v old : Value} (F : Fld Z h a O n d old) (E : Exa Z h a C) (L : (Cond.lays C O n d).before a0 Z = true) (wi : (Cond.instantiable C kk).before a0 Z = true)
   (hty : parseFieldDescriptor d = some ty) (hn : narrow ty v = v) (hf : fits ty v = true) {g : JFrame} (hg : g.method = m) {rest : List Value} (hs : g.stack = v :: .ref a :: rest) (hd : decode c.code g.pc = .ok (.putfield index, 3)) :
   ∃ T' h', Stand p l e R s m args below meth c T' (locs ++ [⟨a, Jvm.RoadKit.slotOf Z O n d⟩]) cells slots ∧ T'.heap = h' ∧ Wr h h' a (Jvm.RoadKit.slotOf Z O n d) v ∧ ∀ target, Steps p.tables e below (T'.setTop { g with pc := g.pc + 3, stack := rest }) target → Steps p.tables e below (T.setTop g) target := by
 obtain ⟨cell, cf, k, i, f, h1, h2, h3, h4, h5, -, h7⟩ := F
 obtain ⟨cell', kc, e1, e2, e3, -⟩ := E
 cases h1.symm.trans e1
 obtain ⟨c1, k1, cf1, kf1, i1, f1, a1, a2, a3, -, -, a6, -⟩ := Laid.spec (Or.inl L)
 cases h2.symm.trans a3
 cases e2.symm.trans a1
 obtain ⟨c2, k2, i1, i2, i3, -⟩ := Cond.instantiable_spec wi
 cases e2.symm.trans i1
 cases a2.symm.trans i2
 obtain ⟨_, _, _, _, _, _, -, -, b3, -, a5, -⟩ := Cond.lays_spec L
 cases h2.symm.trans b3
 have ht := (State.fieldFound?_type h2 hty).2
 have hU : Z.Warmed39 T.vm := wtrans hZ X.warmed
 have hfit : Z.fitsSlot cell.cls cell.vm f.slot v = true := by
   have q : Z.slotType? cell.cls cell.vm f.slot = some ty := by
     simp only [State.slotType?, a2, Option.bind_eq_bind, Option.bind_some, i3]
     cases hq : cell.vm <;> first | (rw [hq] at h5; exact Bool.noConfusion h5) | (rw [a6, ht])
   simp [State.fitsSlot, q, hf]
 have hfit' : T.fitsSlot cell.cls cell.vm f.slot v = true := by rw [← State.fitsSlot_setVm hU.alike] at hfit; exact hfit
 have w' : (Cond.fieldRef own index R0 n d).before a0 (Z.setVm T.vm) = true := Cond.fieldRef_warmed39 hU w
 have hown' : (Z.setVm T.vm).vm.findClass own = some m.cls := by rw [State.vm_setVm, X.warmed.alike.findClass]; exact hown
 obtain ⟨c3, k3, i3', f3, hi2, hready⟩ := Cond.fieldRef_spec (s := Z.setVm T.vm) hown' w'
 obtain ⟨k', hi', -⟩ := State.fieldFound?_setVm (s := Z) hU.alike (via _ h2)
 cases hi2.symm.trans hi'
 have hlt := (Array.getElem?_eq_some_iff.mp h7).1
 have es : Jvm.RoadKit.slotOf Z O n d = f.slot := by simp [Jvm.RoadKit.slotOf, h2]
 rw [es]
 obtain ⟨X', st⟩ := X.putfieldReady hx hready h3 (Or.inl a5) (by rw [eT]; exact h1) h4 hlt (by rw [ht]; exact hn) hfit' hg hs hd
 exact ⟨_, _, X', rfl, ⟨cell, h1, h5, hlt, by rw [← eT]; rfl⟩, st⟩
end OwnRef2
/-! ### boxes of Long's cache -/
def own_bx (c : Cell) (j : Nat) : Addr := match c.slots[j]? with | some (.ref b) => b | _ => 0
def own_val (j : Int32) : Value := .long (j - (128 : Int32)).toInt64
/-- b is the box of k, and stood at the start -/
def own_Box (Z : State) (b : Addr) (k : Int64) : Prop := Exa Z Z.heap b "java/lang/Long" ∧ Fld Z Z.heap b "java/lang/Long" "value" "J" (.long k)
theorem own_box {Z : State} {ca : Addr} {cc : Cell} (B : Bxs Z ca cc "java/lang/Long" "J" (256 : Int32) own_val) (j : Int32) (h : ¬ j < 0 ∧ j < (256 : Int32)) : cc.slots[j.toNatClampNeg]? = some (.ref (own_bx cc j.toNatClampNeg)) ∧ own_Box Z (own_bx cc j.toNatClampNeg) (j - (128 : Int32)).toInt64 := by
 obtain ⟨b, q1, q2, q3⟩ := B.2.2.2 j (inb_of B.2.1 h)
 have e : own_bx cc j.toNatClampNeg = b := by unfold own_bx; rw [q1]
 rw [e]
 exact ⟨q1, q2, q3⟩
/-! ### the function object of ReliableMulticast's constructor -/
section OwnLam
open Jvm.LamKit
theorem own_isMade39 {s : State} {vm' : Vm} (hW : s.Warmed39 vm') {d c : ClassId} {σ : Lambda.Shape} (h : Lambda.isMade { classPath := fun _ => none } s.vm d σ c = true) : Lambda.isMade { classPath := fun _ => none } vm' d σ c = true := by
 have hA := hW.alike
 simp only [Lambda.isMade, Option.bind_eq_bind, Option.pure_def, Option.getD_eq_iff, Option.bind_eq_some_iff, Bool.false_eq_true, and_false, or_false] at h ⊢
 obtain ⟨dk, h2, k, h3, file, h4, cf, h5, object, ho, iface, hi, ok, h6, lay, h7, methods, h8, t, ht, tk, htk, h⟩ := h
 obtain ⟨dk', h2', e2⟩ := hA.2.2 _ _ h2
 obtain ⟨k', h3', e3, -, hres, -⟩ := hW.2.2.2 _ _ h3
 obtain ⟨ok', h6', e6⟩ := hA.2.2 _ _ h6
 obtain ⟨tk', htk', e7⟩ := hA.2.2 _ _ htk
 have n2 : dk'.name = dk.name := by rw [e2]
 have n6 : ok'.instanceTypes = ok.instanceTypes := by rw [e6]
 have n7 : tk'.isInterface = tk.isInterface := by rw [e7]; rfl
 refine ⟨dk', h2', k', h3', file, by rw [e3]; exact h4, cf, by rw [n2]; exact h5, object, by rw [hA.findClass]; exact ho, iface, by rw [hA.findClass]; exact hi, ok', h6', lay, by rw [n6]; exact h7, methods, h8, t, by rw [hA.findClass]; exact ht, tk', htk', ?_⟩
 rw [n7, Lambda.methodIn_ask_alike hA, Lambda.methodIn_ask_alike hA]
 cases hg : ((methodIn t σ.implName σ.implDesc.toString tk.isInterface none).ask { classPath := fun _ => none } s.vm).1 with
 | error x => simp [hg] at h
 | ok target =>
   cases hf : ((methodIn iface σ.name σ.sam.toString true none).ask { classPath := fun _ => none } s.vm).1 with
   | error x => simp [hg, hf] at h
   | ok found =>
     simp only [hg, hf, Option.some.injEq, Bool.and_eq_true] at h ⊢
     obtain ⟨⟨hb1, hb13⟩, hb14⟩ := h
     have q : ∀ {α : Type} (F : Class → α), (∀ (kk : Class) r n1 n2', F { kk with resolved := r, nestHost := n1, nestHostError := n2' } = F kk) → F k' = F k := fun F hF => by rw [e3]; exact hF k _ _ _
     have q1 : k'.name = k.name := q (·.name) fun _ _ _ _ => rfl
     have q2 : k'.kind = k.kind := q (·.kind) fun _ _ _ _ => rfl
     have q3 : k'.accessFlags = k.accessFlags := q (·.accessFlags) fun _ _ _ _ => rfl
     have q4 : k'.super = k.super := q (·.super) fun _ _ _ _ => rfl
     have q5 : k'.interfaces = k.interfaces := q (·.interfaces) fun _ _ _ _ => rfl
     have q6 : k'.init = k.init := q (·.init) fun _ _ _ _ => rfl
     have q7 : k'.loader = k.loader := q (·.loader) fun _ _ _ _ => rfl
     have q8 : k'.hidden = k.hidden := q (·.hidden) fun _ _ _ _ => rfl
     have q9 : k'.linked = k.linked := q (·.linked) fun _ _ _ _ => rfl
     have q10 : k'.callSites = k.callSites := q (·.callSites) fun _ _ _ _ => rfl
     have q11 : k'.invokers = k.invokers := q (·.invokers) fun _ _ _ _ => rfl
     have q12 : k'.methods = k.methods := q (·.methods) fun _ _ _ _ => rfl
     have q13 : k'.fields = k.fields := q (·.fields) fun _ _ _ _ => rfl
     have q14 : k'.instanceTypes = k.instanceTypes := q (·.instanceTypes) fun _ _ _ _ => rfl
     have q15 : k'.staticTypes = k.staticTypes := q (·.staticTypes) fun _ _ _ _ => rfl
     rw [q1, q2, q3, q4, q5, q6, q7, q8, q9, q10, q11, q12, q13, q14, q15, n2, n6, Lambda.resolvedOf_alike hA, hA.selectMethod]
     refine ⟨⟨hb1, ?_⟩, hb14⟩
     rw [List.all_eq_true] at hb13 ⊢
     intro y hy
     have hz := hb13 y hy
     obtain ⟨x, i⟩ := y
     cases x with
     | none => rfl
     | some r =>
       simp only [Option.isNone_some, Bool.false_or, decide_eq_true_eq] at hz ⊢
       rcases hres i with u | ⟨u, -⟩
       · rw [u]; exact hz
       · rw [hz] at u; cases u
theorem own_made39 {Z s : State} (hZ : Z.Warmed39 s.vm) {host : String} {σ : Lambda.Shape} {cK : ClassId} (M : Jvm.LamKit.Made Z host σ cK) : Jvm.LamKit.Made s host σ cK := by
 obtain ⟨d, dk, h1, h2, h3, h4⟩ := M
 obtain ⟨dk', h1', e⟩ := hZ.alike.2.2 _ _ h1
 refine ⟨d, dk', h1', by rw [e]; exact h2, own_isMade39 hZ h3, ?_⟩
 have hA := hZ.alike
 simp only [State.lambdaCallable, hA.findClass, hA.assignable, hA.superclasses, hA.declaredIn] at h4 ⊢
 exact h4
theorem own_fnKeep {h h' : Heap} {ws : List Addr} {a : Addr} {cK : ClassId} (K : Keep h h' ws) (F : FnAt h a cK) : FnAt h' a cK := by
 obtain ⟨c, q1, q2, q3⟩ := F
 obtain ⟨c', r1, r2, r3, -⟩ := K.2.2 a c q1
 exact ⟨c', r1, r2.trans q2, r3.trans q3⟩
theorem own_fnLt {h : Heap} {a : Addr} {cK : ClassId} (F : FnAt h a cK) : a < h.size := by
 obtain ⟨c, q1, -⟩ := F
 exact (Array.getElem?_eq_some_iff.mp q1).1
variable {p : Program} {l : Launch} {e : Env} {R : Room} {s : State} {m : MethodId} {args : Array Value} {below : List Frame} {meth : Method} {c : Code} {T : State} {locs : List Loc} {cells slots : Nat} {Z : State} {a0 : Array Value} {h : Heap}
theorem own_site (X : Stand p l e R s m args below meth c T locs cells slots) (hx : p.tables.exec = Jvm.exec) (hZ : Z.Warmed39 s.vm) {x : MethodName} {pc index : Nat} {σ : Lambda.Shape} (hnamed : s.methodNamed? x = some m) (w : (Cond.lambdaSite x pc index σ).before a0 Z = true) (hcap : σ.captured = []) (eT : T.heap = h) (O : Ext Z.heap h)
   {g : JFrame} (hg : g.method = m) (hpc : g.pc = pc) (hsize : g.locals.size = c.maxLocals) (hdg : decode c.code g.pc = .ok (.invokedynamic index, 5)) (hwords : 2 * g.monitorRoom + (g.stack.map fun v => v.category).sum + 3072 ≤ R.locals) :
   ∃ (a : Addr) (cK : ClassId), Jvm.LamKit.Made Z x.cls σ cK ∧ FnAt h a cK ∧ ∀ target, Steps p.tables e below (T.setTop { g with pc := g.pc + 5, stack := .ref a :: g.stack }) target → Steps p.tables e below (T.setTop g) target := by
 obtain ⟨cK, one, hat⟩ := Cond.lambdaSite_spec w
 obtain ⟨mD, kD, cfD, i0, p0, lk, hmD, hkD, -, -, -, hfind, hmade, hcan, hl⟩ := State.lambdaAt?_spec hat
 have hm2 : s.methodNamed? x = some mD := by
   have q := State.methodNamed?_setVm (s := Z) hZ.alike x
   rw [hmD] at q; exact q
 cases hnamed.symm.trans hm2
 obtain ⟨kD', hkD', hnameD⟩ := className_of_methodNamed hmD
 cases hkD.symm.trans hkD'
 obtain ⟨kS, hkS, eS⟩ := hZ.alike.2.2 _ _ hkD
 have hfS : (kS.callSites.find? fun y => y.1 == m.idx && y.2.1 == pc) = some (i0, p0, lk) := by rw [eS]; exact hfind
 rcases hl with ⟨a, cell, rfl, -, -, hcell, hcls, hvm, -⟩ | ⟨-, -, hne⟩
 · have hw : e.platform.lambdaLinkWords = 3072 := by rw [X.admits.platform]
   refine ⟨a, cK, ⟨_, kD, hkD, hnameD, hmade, hcan⟩, ⟨cell, O.2 _ _ hcell, hcls, hvm⟩, fun target k => ?_⟩
   exact X.lambdaConstant hx hg hsize hdg hkS (by rw [hpc]; exact hfS) (by rw [hw]; exact hwords) k
 · exact absurd hcap hne
end OwnLam
/-! ### an array of longs whose elements nobody reads -/
def own_LA (Z : State) (h : Heap) (a : Addr) (z : Int32) : Prop := ∃ c : Cell, Arr Z h a c .long ∧ c.slots.size = z.toNatClampNeg ∧ ¬ z < 0
theorem own_LA.lt {Z : State} {h : Heap} {a : Addr} {z : Int32} (F : own_LA Z h a z) : a < h.size := by obtain ⟨c, A, -⟩ := F; exact A.lt
theorem own_LA.ext {Z : State} {h h' : Heap} {a : Addr} {z : Int32} (F : own_LA Z h a z) (E : Ext h h') : own_LA Z h' a z := by obtain ⟨c, A, r⟩ := F; exact ⟨c, A.ext E, r⟩
theorem own_LA.wr {Z : State} {h h' : Heap} {a b : Addr} {sl : Nat} {v : Value} {z : Int32} (F : own_LA Z h a z) (W : Wr h h' b sl v) : own_LA Z h' a z := by
 obtain ⟨c, A, r⟩ := F
 by_cases q : a = b
 · subst q; exact ⟨_, A.same W, by rw [sz_set]; exact r.1, r.2⟩
 · exact ⟨c, A.other W q, r⟩
theorem own_LA.keep {Z : State} {h h' : Heap} {a : Addr} {ws : List Addr} {z : Int32} (F : own_LA Z h a z) (K : Keep h h' ws) : own_LA Z h' a z := by
 obtain ⟨c, A, r⟩ := F
 obtain ⟨c', q1, q2, q3, q4⟩ := K.2.2 a c A.1
 refine ⟨c', ⟨q1, ?_, by rw [q3]; exact A.2.2⟩, by rw [q4]; exact r.1, r.2⟩
 obtain ⟨u1, u2⟩ := A.2.1
 exact ⟨by rw [q3]; exact u1, by rw [q2]; exact u2⟩
abbrev own_sh : Lambda.Shape := (Jvm.Lambda.Shape.mk "java/util/function/IntFunction" "apply" (Jvm.ClassFile.MethodDescriptor.mk ([Jvm.ClassFile.FieldType.int] : List Jvm.ClassFile.FieldType) (Option.some (Jvm.ClassFile.FieldType.object "java/lang/Object"))) ([] : List Jvm.ClassFile.FieldType) (6 : Nat) "com/example/chorale/chorale/core/ReliableMulticast" "lambda$new$0" (Jvm.ClassFile.MethodDescriptor.mk ([Jvm.ClassFile.FieldType.int] : List Jvm.ClassFile.FieldType) (Option.some (Jvm.ClassFile.FieldType.object "com/example/chorale/chorale/core/ReliableMulticast$Origin"))) false (Jvm.ClassFile.MethodDescriptor.mk ([Jvm.ClassFile.FieldType.int] : List Jvm.ClassFile.FieldType) (Option.some (Jvm.ClassFile.FieldType.object "com/example/chorale/chorale/core/ReliableMulticast$Origin"))))
def own_fc : ByteArray := ⟨#[0x1b, 0xb8, 0x00, 0x12, 0xb0]⟩
theorem own_fwd : Jvm.LamKit.fwdOK own_sh "com/example/chorale/chorale/core/ReliableMulticast" own_fc 2 (some (.object "java/lang/Object")) 18 14 = true := by decide +kernel
theorem own_f0 : decode own_fc 0 = .ok (.iload_n 1, 1) := by decide +kernel
theorem own_f1 : decode own_fc 1 = .ok (.invokestatic 18, 3) := by decide +kernel
theorem own_f4 : decode own_fc 4 = .ok (.areturn, 1) := by decide +kernel
theorem own_fnExt {h h' : Heap} {a : Addr} {cK : ClassId} (E : Ext h h') (F : Jvm.LamKit.FnAt h a cK) : Jvm.LamKit.FnAt h' a cK := by
 obtain ⟨c, q1, q2, q3⟩ := F
 exact ⟨c, E.2 _ _ q1, q2, q3⟩
def own_f3 (a b c : Addr) : Nat → Addr | 0 => a | 1 => b | _ => c
def own_O0 (Z : State) (h : Heap) (o m : Addr) : Prop := Exa Z h o "com/example/chorale/chorale/core/ReliableMulticast$Origin" ∧ Fld Z h o "com/example/chorale/chorale/core/ReliableMulticast$Origin" "held" "J" (.long (0 : Int64)) ∧ Fld Z h o "com/example/chorale/chorale/core/ReliableMulticast$Origin" "known" "J" (.long (0 : Int64)) ∧ Fld Z h o "com/example/chorale/chorale/core/ReliableMulticast$Origin" "limit" "J" (.long (9223372036854775807 : Int64)) ∧ Fld Z h o "com/example/chorale/chorale/core/ReliableMulticast$Origin" "messages" "Ljava/util/TreeMap;" (.ref m) ∧ Exa Z h m "java/util/TreeMap" ∧ Fld Z h m "java/util/TreeMap" "root" "Ljava/util/TreeMap$Entry;" .null ∧ Fld Z h m "java/util/TreeMap" "size" "I" (.int 0) ∧ Fld Z h m "java/util/TreeMap" "modCount" "I" (.int 0) ∧ Fld Z h m "java/util/TreeMap" "comparator" "Ljava/util/Comparator;" .null
def own_RMS (Z : State) (h : Heap) (rm : Addr) (si z : Int32) (arr : Addr) (ka : ClassId) (out : Addr) (ko : ClassId) (o x : Nat → Addr) : Prop :=
 Exa Z h rm "com/example/chorale/chorale/core/ReliableMulticast" ∧ Fld Z h rm "com/example/chorale/chorale/core/ReliableMulticast" "self" "I" (.int si) ∧ Fld Z h rm "com/example/chorale/chorale/core/ReliableMulticast" "origins" "[Lcom/example/chorale/chorale/core/ReliableMulticast$Origin;" (.ref arr) ∧ Fld Z h rm "com/example/chorale/chorale/core/ReliableMulticast" "reported" "[[J" (.ref out) ∧
 Arv Z h arr ka (.object "com/example/chorale/chorale/core/ReliableMulticast$Origin") z ((List.range z.toNatClampNeg).map fun i => Value.ref (o i)) .null ∧ Arv Z h out ko (.array .long) z ((List.range z.toNatClampNeg).map fun i => Value.ref (x i)) .null ∧ ∀ i, i < z.toNatClampNeg → own_LA Z h (x i) z
def own_Dis (n0 : Nat) (z : Int32) (arr out : Addr) (o m x : Nat → Addr) : Prop :=
 (∀ i, i < z.toNatClampNeg → n0 ≤ o i ∧ n0 ≤ m i ∧ n0 ≤ x i ∧ arr ≠ x i ∧ out ≠ x i) ∧ ∀ i j, i < z.toNatClampNeg → j < z.toNatClampNeg → i ≠ j → o i ≠ o j ∧ m i ≠ m j
theorem own_all2 {P : Nat → Prop} (p0 : P 0) (p1 : P 1) : ∀ i, i < (2 : Int32).toNatClampNeg → P i := fun i hi => by
 have h : i < 2 := hi
 match i, h with
 | 0, _ => exact p0
 | 1, _ => exact p1
theorem own_all3 {P : Nat → Prop} (p0 : P 0) (p1 : P 1) (p2 : P 2) : ∀ i, i < (3 : Int32).toNatClampNeg → P i := fun i hi => by
 have h : i < 3 := hi
 match i, h with
 | 0, _ => exact p0
 | 1, _ => exact p1
 | 2, _ => exact p2
theorem own_pairs {P : Nat → Nat → Prop} {N : Nat} (hs : ∀ i j, P i j → P j i) (h : ∀ i j, i < j → j < N → P i j) : ∀ i j, i < N → j < N → i ≠ j → P i j := fun i j hi hj ne => by
 rcases Nat.lt_or_ge i j with q | q
 · exact h i j q hj
 · exact hs _ _ (h j i (by omega) hi)
theorem own_lit {i : Int32} {k : Int} (z : Int32) (hz : z.toInt = k) : i = z ↔ i.toInt = k := by rw [← hz]; exact Int32.toInt_inj.symm
theorem own_sz (p : Int32) : ((2 : Int32) + (p &&& (1 : Int32))) = 2 ∨ ((2 : Int32) + (p &&& (1 : Int32))) = 3 := by
 have h := c_mask p 1 1 (by decide) (by decide)
 have a := c_iadd 2 (p &&& (1 : Int32))
 have z2 : (2 : Int32).toInt = 2 := rfl
 have r1 := Int32.le_toInt ((2 : Int32) + (p &&& (1 : Int32)))
 have r2 := Int32.toInt_lt ((2 : Int32) + (p &&& (1 : Int32)))
 rw [own_lit (k := 2) 2 (by decide), own_lit (k := 3) 3 (by decide)]
 omega
theorem own_nz {z : Int32} (h : z = 2 ∨ z = 3) : ¬ z = 0 := by rcases h with rfl | rfl <;> decide
theorem own_md (p : Int32) {z : Int32} (h : z = 2 ∨ z = 3) : ¬ ((p &&& (2147483647 : Int32)) % z) < 0 ∧ ((p &&& (2147483647 : Int32)) % z) < z := by
 have a := c_mask p 2147483647 31 (by decide) (by decide)
 rw [Int32.lt_iff_toInt_lt, Int32.lt_iff_toInt_lt]
 have z0 : (0 : Int32).toInt = 0 := rfl
 rcases h with rfl | rfl
 · have b := (c_irem (p &&& (2147483647 : Int32)) 2 2 (by decide)).1 (by omega)
   have z2 : (2 : Int32).toInt = 2 := rfl
   omega
 · have b := (c_irem (p &&& (2147483647 : Int32)) 3 3 (by decide)).1 (by omega)
   have z3 : (3 : Int32).toInt = 3 := rfl
   omega
theorem own_k4 (p : Int32) : (p &&& (3 : Int32)) = 0 ∨ (p &&& (3 : Int32)) = 1 ∨ (p &&& (3 : Int32)) = 2 ∨ (p &&& (3 : Int32)) = 3 := by
 have h := c_mask p 3 2 (by decide) (by decide)
 rw [own_lit (k := 0) 0 (by decide), own_lit (k := 1) 1 (by decide), own_lit (k := 2) 2 (by decide), own_lit (k := 3) 3 (by decide)]
 omega
theorem own_ot {og z : Int32} (h : z = 2 ∨ z = 3) (b : ¬ og < 0 ∧ og < z) : (¬ ((og + (1 : Int32)) % z) < 0 ∧ ((og + (1 : Int32)) % z) < z) ∧ ¬ ((og + (1 : Int32)) % z) = og := by
 rw [Int32.lt_iff_toInt_lt, Int32.lt_iff_toInt_lt] at b
 have z0 : (0 : Int32).toInt = 0 := rfl
 rcases h with rfl | rfl
 · have z2 : (2 : Int32).toInt = 2 := rfl
   have q : og = 0 ∨ og = 1 := by rw [own_lit (k := 0) 0 (by decide), own_lit (k := 1) 1 (by decide)]; omega
   rcases q with rfl | rfl <;> decide
 · have z3 : (3 : Int32).toInt = 3 := rfl
   have q : og = 0 ∨ og = 1 ∨ og = 2 := by rw [own_lit (k := 0) 0 (by decide), own_lit (k := 1) 1 (by decide), own_lit (k := 2) 2 (by decide)]; omega
   rcases q with rfl | rfl | rfl <;> decide
theorem own_tnl {j z : Int32} (h : ¬ j < 0 ∧ j < z) : j.toNatClampNeg < z.toNatClampNeg := by
 obtain ⟨h1, h2⟩ := h
 rw [Int32.lt_iff_toInt_lt] at h1 h2
 have z0 : (0 : Int32).toInt = 0 := rfl
 simp only [Int32.toNatClampNeg]
 omega
theorem own_tni {j k : Int32} (h1 : ¬ j < 0) (h2 : ¬ k < 0) (e : j.toNatClampNeg = k.toNatClampNeg) : j = k := by
 rw [Int32.lt_iff_toInt_lt] at h1 h2
 have z0 : (0 : Int32).toInt = 0 := rfl
 simp only [Int32.toNatClampNeg] at e
 apply Int32.toInt_inj.mp
 omega
theorem own_vs (o : Nat → Addr) {N j : Nat} (h : j < N) : ((List.range N).map fun i => Value.ref (o i)).getD j .null = .ref (o j) := by
 simp [List.getD_eq_getElem?_getD, h]
theorem own_cf {args : Array Value} {s : State} {j : Int32} (nn : ¬ j < 0) : (Term.op1 .i2l (.sub (.index 0) (.int 128))).eval args s none [j.toNatClampNeg] s = some (own_val j) := by
 refine i2l_at ?_
 have q := idx_at (s := s) (args := args) (first := s) (o := none) nn
 simp only [Term.eval, Option.bind_eq_bind] at q ⊢
 rw [q]
 rfl
def Q_valueOf0 (Z : State) (ca : Addr) (cc : Cell) (h0 : Heap) (n0 : Nat) (v : Option Value) (h : Heap) (L : List Loc) : Prop := v = some (.ref (own_bx cc 128)) ∧ Fr n0 L ∧ h = h0
theorem rm_valueOf0 (l : Launch) (Z : State) (a0 : Array Value) (hw : oW a0 Z) (ws : List Jvm.Cond) (ca : Addr) (cc : Cell) (h0 : Heap) (n0 : Nat) (Z0 : n0 ≤ h0.size) (O0 : Old Z n0 h0) (Sca : Sta Z Z.heap q_22 "cache" q_23 (.ref ca)) (BX : Bxs Z ca cc q_17 "J" (256 : Int32) own_val) :
   oM l oY5 j35_24 3 (some (.object q_17)) ws (own_R 0 0 0 0) #[(.long (0 : Int64))] Z h0 (Q_valueOf0 Z ca cc h0 n0) := by
 refine own_open (n0 := n0) (cn := q_17) rfl (plainFor_of_name pn2) (L0 := #[(vJ (0 : Int64)), .second, .unset]) ?_
 intro p e s m below meth c s₁ P hx hby hml hown hnm X0 e0 N0 hlk hret hZ hP
 refine sC X0 hx hby dg_0 (v := 128) rfl ?_
 refine iS X0 hx hby dg_3 rfl ?_
 refine lA X0 hx hby dg_4 rfl ?_
 refine lD X0 hx hby hown hZ (tw_86 hw) dg_5 (v' := (-128 : Int64)) rfl ?_
 refine lK X0 hx hby dg_8 ?_
 refine fN X0 hx hby dg_9 (XT.ll_lt_f (by decide : ¬ (0 : Int64) < (-128 : Int64))) ?_
 refine lA X0 hx hby dg_12 rfl ?_
 refine lD X0 hx hby hown hZ (tw_87 hw) dg_13 (v' := (127 : Int64)) rfl ?_
 refine lK X0 hx hby dg_16 ?_
 refine fN X0 hx hby dg_17 (XT.ll_gt_f (by decide : ¬ (127 : Int64) < (0 : Int64))) ?_
 obtain ⟨T11, X11, e11, st11⟩ := getS2 X0 hx hZ hown (host := "") (Or.inl (tw_88 hw)) Via.refl e0 (Sca.ext O0.2) (g := (mkF m 20 #[(vJ (0 : Int64)), .second, (vI 128)] [])) rfl (hb hby dg_20)
 refine Go.by st11 ?_
 refine lA X11 hx hby dg_23 rfl ?_
 refine w_l2i X11 hx hby dg_24 (v := ((0 : Int64).toInt32)) rfl ?_
 refine sC X11 hx hby dg_25 (v := 128) rfl ?_
 refine iP X11 hx hby dg_28 (v := 128) rfl ?_
 obtain ⟨Ar12, Sz12, Nn12⟩ := Bxs.ext BX O0.2
 have hin12 : ¬ ((128 : Int32) < 0 ∨ cc.slots.size ≤ ((128 : Int32)).toNatClampNeg) := inb_of Sz12 ⟨by decide, by decide⟩
 have hat12 : cc.slots[((128 : Int32)).toNatClampNeg]? = some (.ref (own_bx cc 128)) := (own_box BX (128 : Int32) ⟨by decide, by decide⟩).1
 refine Go.by (X11.aaload hx (j := (128 : Int32)) (v := .ref (own_bx cc 128)) (by rw [e11]; exact Ar12.1) (State.isArrayOf_alike hZ.alike Ar12.2.1) rfl Ar12.2.2 hin12 hat12 (g := (mkF m 29 #[(vJ (0 : Int64)), .second, (vI 128)] [(.int 128), (.ref ca)])) rfl rfl (hb hby dg_29)) ?_
 show oG p e below P m T11 30 #[(vJ (0 : Int64)), .second, (vI 128)] [(.ref (own_bx cc 128))]
 refine r_val hP hlk hret X11 hx hby dg_30 rfl (Or.inr (Or.inr (Or.inr (Or.inr ⟨rfl, rfl, rfl⟩)))) (by decide) ?_
 rw [e11]
 exact ⟨rfl, N0, rfl⟩
def Q_valueOf1 (Z : State) (ca : Addr) (cc : Cell) (h0 : Heap) (n0 : Nat) (v : Option Value) (h : Heap) (L : List Loc) : Prop := v = some (.ref (own_bx cc 129)) ∧ Fr n0 L ∧ h = h0
theorem rm_valueOf1 (l : Launch) (Z : State) (a0 : Array Value) (hw : oW a0 Z) (ws : List Jvm.Cond) (ca : Addr) (cc : Cell) (h0 : Heap) (n0 : Nat) (Z0 : n0 ≤ h0.size) (O0 : Old Z n0 h0) (Sca : Sta Z Z.heap q_22 "cache" q_23 (.ref ca)) (BX : Bxs Z ca cc q_17 "J" (256 : Int32) own_val) :
   oM l oY5 j35_24 3 (some (.object q_17)) ws (own_R 0 0 0 0) #[(.long (1 : Int64))] Z h0 (Q_valueOf1 Z ca cc h0 n0) := by
 refine own_open (n0 := n0) (cn := q_17) rfl (plainFor_of_name pn2) (L0 := #[(vJ (1 : Int64)), .second, .unset]) ?_
 intro p e s m below meth c s₁ P hx hby hml hown hnm X0 e0 N0 hlk hret hZ hP
 refine sC X0 hx hby dg_0 (v := 128) rfl ?_
 refine iS X0 hx hby dg_3 rfl ?_
 refine lA X0 hx hby dg_4 rfl ?_
 refine lD X0 hx hby hown hZ (tw_86 hw) dg_5 (v' := (-128 : Int64)) rfl ?_
 refine lK X0 hx hby dg_8 ?_
 refine fN X0 hx hby dg_9 (XT.ll_lt_f (by decide : ¬ (1 : Int64) < (-128 : Int64))) ?_
 refine lA X0 hx hby dg_12 rfl ?_
 refine lD X0 hx hby hown hZ (tw_87 hw) dg_13 (v' := (127 : Int64)) rfl ?_
 refine lK X0 hx hby dg_16 ?_
 refine fN X0 hx hby dg_17 (XT.ll_gt_f (by decide : ¬ (127 : Int64) < (1 : Int64))) ?_
 obtain ⟨T11, X11, e11, st11⟩ := getS2 X0 hx hZ hown (host := "") (Or.inl (tw_88 hw)) Via.refl e0 (Sca.ext O0.2) (g := (mkF m 20 #[(vJ (1 : Int64)), .second, (vI 128)] [])) rfl (hb hby dg_20)
 refine Go.by st11 ?_
 refine lA X11 hx hby dg_23 rfl ?_
 refine w_l2i X11 hx hby dg_24 (v := ((1 : Int64).toInt32)) rfl ?_
 refine sC X11 hx hby dg_25 (v := 128) rfl ?_
 refine iP X11 hx hby dg_28 (v := 129) rfl ?_
 obtain ⟨Ar12, Sz12, Nn12⟩ := Bxs.ext BX O0.2
 have hin12 : ¬ ((129 : Int32) < 0 ∨ cc.slots.size ≤ ((129 : Int32)).toNatClampNeg) := inb_of Sz12 ⟨by decide, by decide⟩
 have hat12 : cc.slots[((129 : Int32)).toNatClampNeg]? = some (.ref (own_bx cc 129)) := (own_box BX (129 : Int32) ⟨by decide, by decide⟩).1
 refine Go.by (X11.aaload hx (j := (129 : Int32)) (v := .ref (own_bx cc 129)) (by rw [e11]; exact Ar12.1) (State.isArrayOf_alike hZ.alike Ar12.2.1) rfl Ar12.2.2 hin12 hat12 (g := (mkF m 29 #[(vJ (1 : Int64)), .second, (vI 128)] [(.int 129), (.ref ca)])) rfl rfl (hb hby dg_29)) ?_
 show oG p e below P m T11 30 #[(vJ (1 : Int64)), .second, (vI 128)] [(.ref (own_bx cc 129))]
 refine r_val hP hlk hret X11 hx hby dg_30 rfl (Or.inr (Or.inr (Or.inr (Or.inr ⟨rfl, rfl, rfl⟩)))) (by decide) ?_
 rw [e11]
 exact ⟨rfl, N0, rfl⟩
def Q_valueOf2 (Z : State) (ca : Addr) (cc : Cell) (h0 : Heap) (n0 : Nat) (v : Option Value) (h : Heap) (L : List Loc) : Prop := v = some (.ref (own_bx cc 130)) ∧ Fr n0 L ∧ h = h0
theorem rm_valueOf2 (l : Launch) (Z : State) (a0 : Array Value) (hw : oW a0 Z) (ws : List Jvm.Cond) (ca : Addr) (cc : Cell) (h0 : Heap) (n0 : Nat) (Z0 : n0 ≤ h0.size) (O0 : Old Z n0 h0) (Sca : Sta Z Z.heap q_22 "cache" q_23 (.ref ca)) (BX : Bxs Z ca cc q_17 "J" (256 : Int32) own_val) :
   oM l oY5 j35_24 3 (some (.object q_17)) ws (own_R 0 0 0 0) #[(.long (2 : Int64))] Z h0 (Q_valueOf2 Z ca cc h0 n0) := by
 refine own_open (n0 := n0) (cn := q_17) rfl (plainFor_of_name pn2) (L0 := #[(vJ (2 : Int64)), .second, .unset]) ?_
 intro p e s m below meth c s₁ P hx hby hml hown hnm X0 e0 N0 hlk hret hZ hP
 refine sC X0 hx hby dg_0 (v := 128) rfl ?_
 refine iS X0 hx hby dg_3 rfl ?_
 refine lA X0 hx hby dg_4 rfl ?_
 refine lD X0 hx hby hown hZ (tw_86 hw) dg_5 (v' := (-128 : Int64)) rfl ?_
 refine lK X0 hx hby dg_8 ?_
 refine fN X0 hx hby dg_9 (XT.ll_lt_f (by decide : ¬ (2 : Int64) < (-128 : Int64))) ?_
 refine lA X0 hx hby dg_12 rfl ?_
 refine lD X0 hx hby hown hZ (tw_87 hw) dg_13 (v' := (127 : Int64)) rfl ?_
 refine lK X0 hx hby dg_16 ?_
 refine fN X0 hx hby dg_17 (XT.ll_gt_f (by decide : ¬ (127 : Int64) < (2 : Int64))) ?_
 obtain ⟨T11, X11, e11, st11⟩ := getS2 X0 hx hZ hown (host := "") (Or.inl (tw_88 hw)) Via.refl e0 (Sca.ext O0.2) (g := (mkF m 20 #[(vJ (2 : Int64)), .second, (vI 128)] [])) rfl (hb hby dg_20)
 refine Go.by st11 ?_
 refine lA X11 hx hby dg_23 rfl ?_
 refine w_l2i X11 hx hby dg_24 (v := ((2 : Int64).toInt32)) rfl ?_
 refine sC X11 hx hby dg_25 (v := 128) rfl ?_
 refine iP X11 hx hby dg_28 (v := 130) rfl ?_
 obtain ⟨Ar12, Sz12, Nn12⟩ := Bxs.ext BX O0.2
 have hin12 : ¬ ((130 : Int32) < 0 ∨ cc.slots.size ≤ ((130 : Int32)).toNatClampNeg) := inb_of Sz12 ⟨by decide, by decide⟩
 have hat12 : cc.slots[((130 : Int32)).toNatClampNeg]? = some (.ref (own_bx cc 130)) := (own_box BX (130 : Int32) ⟨by decide, by decide⟩).1
 refine Go.by (X11.aaload hx (j := (130 : Int32)) (v := .ref (own_bx cc 130)) (by rw [e11]; exact Ar12.1) (State.isArrayOf_alike hZ.alike Ar12.2.1) rfl Ar12.2.2 hin12 hat12 (g := (mkF m 29 #[(vJ (2 : Int64)), .second, (vI 128)] [(.int 130), (.ref ca)])) rfl rfl (hb hby dg_29)) ?_
 show oG p e below P m T11 30 #[(vJ (2 : Int64)), .second, (vI 128)] [(.ref (own_bx cc 130))]
 refine r_val hP hlk hret X11 hx hby dg_30 rfl (Or.inr (Or.inr (Or.inr (Or.inr ⟨rfl, rfl, rfl⟩)))) (by decide) ?_
 rw [e11]
 exact ⟨rfl, N0, rfl⟩
def Q_valueOf3 (Z : State) (ca : Addr) (cc : Cell) (h0 : Heap) (n0 : Nat) (v : Option Value) (h : Heap) (L : List Loc) : Prop := v = some (.ref (own_bx cc 131)) ∧ Fr n0 L ∧ h = h0
theorem rm_valueOf3 (l : Launch) (Z : State) (a0 : Array Value) (hw : oW a0 Z) (ws : List Jvm.Cond) (ca : Addr) (cc : Cell) (h0 : Heap) (n0 : Nat) (Z0 : n0 ≤ h0.size) (O0 : Old Z n0 h0) (Sca : Sta Z Z.heap q_22 "cache" q_23 (.ref ca)) (BX : Bxs Z ca cc q_17 "J" (256 : Int32) own_val) :
   oM l oY5 j35_24 3 (some (.object q_17)) ws (own_R 0 0 0 0) #[(.long (3 : Int64))] Z h0 (Q_valueOf3 Z ca cc h0 n0) := by
 refine own_open (n0 := n0) (cn := q_17) rfl (plainFor_of_name pn2) (L0 := #[(vJ (3 : Int64)), .second, .unset]) ?_
 intro p e s m below meth c s₁ P hx hby hml hown hnm X0 e0 N0 hlk hret hZ hP
 refine sC X0 hx hby dg_0 (v := 128) rfl ?_
 refine iS X0 hx hby dg_3 rfl ?_
 refine lA X0 hx hby dg_4 rfl ?_
 refine lD X0 hx hby hown hZ (tw_86 hw) dg_5 (v' := (-128 : Int64)) rfl ?_
 refine lK X0 hx hby dg_8 ?_
 refine fN X0 hx hby dg_9 (XT.ll_lt_f (by decide : ¬ (3 : Int64) < (-128 : Int64))) ?_
 refine lA X0 hx hby dg_12 rfl ?_
 refine lD X0 hx hby hown hZ (tw_87 hw) dg_13 (v' := (127 : Int64)) rfl ?_
 refine lK X0 hx hby dg_16 ?_
 refine fN X0 hx hby dg_17 (XT.ll_gt_f (by decide : ¬ (127 : Int64) < (3 : Int64))) ?_
 obtain ⟨T11, X11, e11, st11⟩ := getS2 X0 hx hZ hown (host := "") (Or.inl (tw_88 hw)) Via.refl e0 (Sca.ext O0.2) (g := (mkF m 20 #[(vJ (3 : Int64)), .second, (vI 128)] [])) rfl (hb hby dg_20)
 refine Go.by st11 ?_
 refine lA X11 hx hby dg_23 rfl ?_
 refine w_l2i X11 hx hby dg_24 (v := ((3 : Int64).toInt32)) rfl ?_
 refine sC X11 hx hby dg_25 (v := 128) rfl ?_
 refine iP X11 hx hby dg_28 (v := 131) rfl ?_
 obtain ⟨Ar12, Sz12, Nn12⟩ := Bxs.ext BX O0.2
 have hin12 : ¬ ((131 : Int32) < 0 ∨ cc.slots.size ≤ ((131 : Int32)).toNatClampNeg) := inb_of Sz12 ⟨by decide, by decide⟩
 have hat12 : cc.slots[((131 : Int32)).toNatClampNeg]? = some (.ref (own_bx cc 131)) := (own_box BX (131 : Int32) ⟨by decide, by decide⟩).1
 refine Go.by (X11.aaload hx (j := (131 : Int32)) (v := .ref (own_bx cc 131)) (by rw [e11]; exact Ar12.1) (State.isArrayOf_alike hZ.alike Ar12.2.1) rfl Ar12.2.2 hin12 hat12 (g := (mkF m 29 #[(vJ (3 : Int64)), .second, (vI 128)] [(.int 131), (.ref ca)])) rfl rfl (hb hby dg_29)) ?_
 show oG p e below P m T11 30 #[(vJ (3 : Int64)), .second, (vI 128)] [(.ref (own_bx cc 131))]
 refine r_val hP hlk hret X11 hx hby dg_30 rfl (Or.inr (Or.inr (Or.inr (Or.inr ⟨rfl, rfl, rfl⟩)))) (by decide) ?_
 rw [e11]
 exact ⟨rfl, N0, rfl⟩
def Q_valueOf4 (Z : State) (ca : Addr) (cc : Cell) (h0 : Heap) (n0 : Nat) (v : Option Value) (h : Heap) (L : List Loc) : Prop := v = some (.ref (own_bx cc 132)) ∧ Fr n0 L ∧ h = h0
theorem rm_valueOf4 (l : Launch) (Z : State) (a0 : Array Value) (hw : oW a0 Z) (ws : List Jvm.Cond) (ca : Addr) (cc : Cell) (h0 : Heap) (n0 : Nat) (Z0 : n0 ≤ h0.size) (O0 : Old Z n0 h0) (Sca : Sta Z Z.heap q_22 "cache" q_23 (.ref ca)) (BX : Bxs Z ca cc q_17 "J" (256 : Int32) own_val) :
   oM l oY5 j35_24 3 (some (.object q_17)) ws (own_R 0 0 0 0) #[(.long (4 : Int64))] Z h0 (Q_valueOf4 Z ca cc h0 n0) := by
 refine own_open (n0 := n0) (cn := q_17) rfl (plainFor_of_name pn2) (L0 := #[(vJ (4 : Int64)), .second, .unset]) ?_
 intro p e s m below meth c s₁ P hx hby hml hown hnm X0 e0 N0 hlk hret hZ hP
 refine sC X0 hx hby dg_0 (v := 128) rfl ?_
 refine iS X0 hx hby dg_3 rfl ?_
 refine lA X0 hx hby dg_4 rfl ?_
 refine lD X0 hx hby hown hZ (tw_86 hw) dg_5 (v' := (-128 : Int64)) rfl ?_
 refine lK X0 hx hby dg_8 ?_
 refine fN X0 hx hby dg_9 (XT.ll_lt_f (by decide : ¬ (4 : Int64) < (-128 : Int64))) ?_
 refine lA X0 hx hby dg_12 rfl ?_
 refine lD X0 hx hby hown hZ (tw_87 hw) dg_13 (v' := (127 : Int64)) rfl ?_
 refine lK X0 hx hby dg_16 ?_
 refine fN X0 hx hby dg_17 (XT.ll_gt_f (by decide : ¬ (127 : Int64) < (4 : Int64))) ?_
 obtain ⟨T11, X11, e11, st11⟩ := getS2 X0 hx hZ hown (host := "") (Or.inl (tw_88 hw)) Via.refl e0 (Sca.ext O0.2) (g := (mkF m 20 #[(vJ (4 : Int64)), .second, (vI 128)] [])) rfl (hb hby dg_20)
 refine Go.by st11 ?_
 refine lA X11 hx hby dg_23 rfl ?_
 refine w_l2i X11 hx hby dg_24 (v := ((4 : Int64).toInt32)) rfl ?_
 refine sC X11 hx hby dg_25 (v := 128) rfl ?_
 refine iP X11 hx hby dg_28 (v := 132) rfl ?_
 obtain ⟨Ar12, Sz12, Nn12⟩ := Bxs.ext BX O0.2
 have hin12 : ¬ ((132 : Int32) < 0 ∨ cc.slots.size ≤ ((132 : Int32)).toNatClampNeg) := inb_of Sz12 ⟨by decide, by decide⟩
 have hat12 : cc.slots[((132 : Int32)).toNatClampNeg]? = some (.ref (own_bx cc 132)) := (own_box BX (132 : Int32) ⟨by decide, by decide⟩).1
 refine Go.by (X11.aaload hx (j := (132 : Int32)) (v := .ref (own_bx cc 132)) (by rw [e11]; exact Ar12.1) (State.isArrayOf_alike hZ.alike Ar12.2.1) rfl Ar12.2.2 hin12 hat12 (g := (mkF m 29 #[(vJ (4 : Int64)), .second, (vI 128)] [(.int 132), (.ref ca)])) rfl rfl (hb hby dg_29)) ?_
 show oG p e below P m T11 30 #[(vJ (4 : Int64)), .second, (vI 128)] [(.ref (own_bx cc 132))]
 refine r_val hP hlk hret X11 hx hby dg_30 rfl (Or.inr (Or.inr (Or.inr (Or.inr ⟨rfl, rfl, rfl⟩)))) (by decide) ?_
 rw [e11]
 exact ⟨rfl, N0, rfl⟩
def Q_lcmp_lt (Z : State) (x y : Int64) (h0 : Heap) (n0 : Nat) (v : Option Value) (h : Heap) (L : List Loc) : Prop := v = some (.int (-1)) ∧ Fr n0 L ∧ h = h0
theorem rm_lcmp_lt (l : Launch) (Z : State) (a0 : Array Value) (hw : oW a0 Z) (ws : List Jvm.Cond) (x y : Int64) (h0 : Heap) (n0 : Nat) (Z0 : n0 ≤ h0.size) (hr : x < y) :
   oM l oY14 j35_42 4 (some .int) ws (own_R 0 0 0 0) #[(.long x), (.long y)] Z h0 (Q_lcmp_lt Z x y h0 n0) := by
 refine own_open (n0 := n0) (cn := q_17) rfl (plainFor_of_name pn2) (L0 := #[(vJ x), .second, (vJ y), .second]) ?_
 intro p e s m below meth c s₁ P hx hby hml hown hnm X0 e0 N0 hlk hret hZ hP
 refine lA X0 hx hby dp_0 rfl ?_
 refine lA X0 hx hby dp_1 rfl ?_
 refine lK X0 hx hby dp_2 ?_
 refine fN X0 hx hby dp_3 (XT.ll_ge_f hr) ?_
 refine iC X0 hx hby dp_6 (v := (-1)) rfl ?_
 refine gO X0 hx hby dp_7 (pc' := 21) ?_
 refine r_val hP hlk hret X0 hx hby dp_21 rfl (Or.inl ⟨rfl, Or.inl rfl, _, rfl⟩) (by decide) ?_
 rw [e0]
 exact ⟨rfl, N0, rfl⟩
def Q_ct1_lt (Z : State) (a0_ a1_ : Addr) (x y : Int64) (h0 : Heap) (n0 : Nat) (v : Option Value) (h : Heap) (L : List Loc) : Prop := v = some (.int (-1)) ∧ Fr n0 L ∧ h = h0
theorem rm_ct1_lt (l : Launch) (Z : State) (a0 : Array Value) (hw : oW a0 Z) (ws : List Jvm.Cond) (a0_ a1_ : Addr) (x y : Int64) (h0 : Heap) (n0 : Nat) (Z0 : n0 ≤ h0.size) (O0 : Old Z n0 h0) (X1 : own_Box Z a0_ x) (X2 : own_Box Z a1_ y) (hr : x < y) :
   oM l oY12 j35_41 2 (some .int) ws (own_R 1 0 0 16) #[(.ref a0_), (.ref a1_)] Z h0 (Q_ct1_lt Z a0_ a1_ x y h0 n0) := by
 refine own_open (n0 := n0) (cn := q_17) rfl (plainFor_of_name pn2) (L0 := #[(vR a0_), (vR a1_)]) ?_
 intro p e s m below meth c s₁ P hx hby hml hown hnm X0 e0 N0 hlk hret hZ hP
 refine aA X0 hx hby dr_0 rfl rfl ?_
 refine gF X0 hx hby hZ hown (tw_129 hw) Via.refl e0 (Fld.ext O0.2 X1.2) dr_1 ?_
 intro T11 X11 e11
 refine aA X11 hx hby dr_4 rfl rfl ?_
 refine gF X11 hx hby hZ hown (tw_129 hw) Via.refl e11 (Fld.ext O0.2 X2.2) dr_5 ?_
 intro T12 X12 e12
 refine c_stat 0 X12 hx hby hml hZ hown (tw_131 hw) (tw_132 hw) (tw_84 hw) (tw_133 hw) (rm_lcmp_lt l Z a0 hw [] x y h0 n0 Z0 hr) e12 dr_8 [(.long x), (.long y)] [] (lenOf pd18 rfl) rfl rfl ?_
 rintro _ T13 Lc13 ⟨rfl, N13q, q13⟩ X13
 have N13 := Fr.app N0 N13q
 refine r_val hP hlk hret X13 hx hby dr_11 rfl (Or.inl ⟨rfl, Or.inl rfl, _, rfl⟩) (by decide) ?_
 rw [q13]
 exact ⟨rfl, N13, rfl⟩
def Q_ct2_lt (Z : State) (a0_ a1_ : Addr) (x y : Int64) (h0 : Heap) (n0 : Nat) (v : Option Value) (h : Heap) (L : List Loc) : Prop := v = some (.int (-1)) ∧ Fr n0 L ∧ h = h0
theorem rm_ct2_lt (l : Launch) (Z : State) (a0 : Array Value) (hw : oW a0 Z) (ws : List Jvm.Cond) (a0_ a1_ : Addr) (x y : Int64) (h0 : Heap) (n0 : Nat) (Z0 : n0 ≤ h0.size) (O0 : Old Z n0 h0) (X1 : own_Box Z a0_ x) (X2 : own_Box Z a1_ y) (hr : x < y) :
   oM l oY4 j35_64 2 (some .int) ws (own_R 2 0 0 30) #[(.ref a0_), (.ref a1_)] Z h0 (Q_ct2_lt Z a0_ a1_ x y h0 n0) := by
 refine own_open (n0 := n0) (cn := q_17) rfl (plainFor_of_name pn2) (L0 := #[(vR a0_), (vR a1_)]) ?_
 intro p e s m below meth c s₁ P hx hby hml hown hnm X0 e0 N0 hlk hret hZ hP
 refine aA X0 hx hby dt_0 rfl rfl ?_
 refine aA X0 hx hby dt_1 rfl rfl ?_
 obtain ⟨T11, X11, e11, st11⟩ := castY X0 hx hZ hown (tw_122 hw) e0 (Ins.self (Exa.ext O0.2 X2.1)) (g := (mkF m 2 #[(vR a0_), (vR a1_)] [(.ref a1_), (.ref a0_)])) rfl rfl (hb hby dt_2)
 refine Go.by st11 ?_
 refine c_virt 0 X11 hx hby hml hZ hown (tw_124 hw) (tw_125 hw) (tw_127 hw) (tw_126 hw) (tw_128 hw) (tw_84 hw) (rm_ct1_lt l Z a0 hw [] a0_ a1_ x y h0 n0 Z0 O0 X1 X2 hr) e11 (Exa.ext O0.2 X1.1) dt_5 [(.ref a1_)] [] (lenOf pd19 rfl) rfl rfl ?_
 rintro _ T12 Lc12 ⟨rfl, N12q, q12⟩ X12
 have N12 := Fr.app N0 N12q
 refine r_val hP hlk hret X12 hx hby dt_8 rfl (Or.inl ⟨rfl, Or.inl rfl, _, rfl⟩) (by decide) ?_
 rw [q12]
 exact ⟨rfl, N12, rfl⟩
def Q_lcmp_eq (Z : State) (x y : Int64) (h0 : Heap) (n0 : Nat) (v : Option Value) (h : Heap) (L : List Loc) : Prop := v = some (.int 0) ∧ Fr n0 L ∧ h = h0
theorem rm_lcmp_eq (l : Launch) (Z : State) (a0 : Array Value) (hw : oW a0 Z) (ws : List Jvm.Cond) (x y : Int64) (h0 : Heap) (n0 : Nat) (Z0 : n0 ≤ h0.size) (hr : x = y) (hn : ¬ x < y) :
   oM l oY14 j35_42 4 (some .int) ws (own_R 0 0 0 0) #[(.long x), (.long y)] Z h0 (Q_lcmp_eq Z x y h0 n0) := by
 refine own_open (n0 := n0) (cn := q_17) rfl (plainFor_of_name pn2) (L0 := #[(vJ x), .second, (vJ y), .second]) ?_
 intro p e s m below meth c s₁ P hx hby hml hown hnm X0 e0 N0 hlk hret hZ hP
 refine lA X0 hx hby dp_0 rfl ?_
 refine lA X0 hx hby dp_1 rfl ?_
 refine lK X0 hx hby dp_2 ?_
 refine fY X0 hx hby dp_3 (pc' := 10) (XT.ll_ge_t hn) ?_
 refine lA X0 hx hby dp_10 rfl ?_
 refine lA X0 hx hby dp_11 rfl ?_
 refine lK X0 hx hby dp_12 ?_
 refine fN X0 hx hby dp_13 (XT.ll_ne_f hr) ?_
 refine iC X0 hx hby dp_16 (v := 0) rfl ?_
 refine gO X0 hx hby dp_17 (pc' := 21) ?_
 refine r_val hP hlk hret X0 hx hby dp_21 rfl (Or.inl ⟨rfl, Or.inl rfl, _, rfl⟩) (by decide) ?_
 rw [e0]
 exact ⟨rfl, N0, rfl⟩
def Q_ct1_eq (Z : State) (a0_ a1_ : Addr) (x y : Int64) (h0 : Heap) (n0 : Nat) (v : Option Value) (h : Heap) (L : List Loc) : Prop := v = some (.int 0) ∧ Fr n0 L ∧ h = h0
theorem rm_ct1_eq (l : Launch) (Z : State) (a0 : Array Value) (hw : oW a0 Z) (ws : List Jvm.Cond) (a0_ a1_ : Addr) (x y : Int64) (h0 : Heap) (n0 : Nat) (Z0 : n0 ≤ h0.size) (O0 : Old Z n0 h0) (X1 : own_Box Z a0_ x) (X2 : own_Box Z a1_ y) (hr : x = y) (hn : ¬ x < y) :
   oM l oY12 j35_41 2 (some .int) ws (own_R 1 0 0 16) #[(.ref a0_), (.ref a1_)] Z h0 (Q_ct1_eq Z a0_ a1_ x y h0 n0) := by
 refine own_open (n0 := n0) (cn := q_17) rfl (plainFor_of_name pn2) (L0 := #[(vR a0_), (vR a1_)]) ?_
 intro p e s m below meth c s₁ P hx hby hml hown hnm X0 e0 N0 hlk hret hZ hP
 refine aA X0 hx hby dr_0 rfl rfl ?_
 refine gF X0 hx hby hZ hown (tw_129 hw) Via.refl e0 (Fld.ext O0.2 X1.2) dr_1 ?_
 intro T11 X11 e11
 refine aA X11 hx hby dr_4 rfl rfl ?_
 refine gF X11 hx hby hZ hown (tw_129 hw) Via.refl e11 (Fld.ext O0.2 X2.2) dr_5 ?_
 intro T12 X12 e12
 refine c_stat 0 X12 hx hby hml hZ hown (tw_131 hw) (tw_132 hw) (tw_84 hw) (tw_133 hw) (rm_lcmp_eq l Z a0 hw [] x y h0 n0 Z0 hr hn) e12 dr_8 [(.long x), (.long y)] [] (lenOf pd18 rfl) rfl rfl ?_
 rintro _ T13 Lc13 ⟨rfl, N13q, q13⟩ X13
 have N13 := Fr.app N0 N13q
 refine r_val hP hlk hret X13 hx hby dr_11 rfl (Or.inl ⟨rfl, Or.inl rfl, _, rfl⟩) (by decide) ?_
 rw [q13]
 exact ⟨rfl, N13, rfl⟩
def Q_ct2_eq (Z : State) (a0_ a1_ : Addr) (x y : Int64) (h0 : Heap) (n0 : Nat) (v : Option Value) (h : Heap) (L : List Loc) : Prop := v = some (.int 0) ∧ Fr n0 L ∧ h = h0
theorem rm_ct2_eq (l : Launch) (Z : State) (a0 : Array Value) (hw : oW a0 Z) (ws : List Jvm.Cond) (a0_ a1_ : Addr) (x y : Int64) (h0 : Heap) (n0 : Nat) (Z0 : n0 ≤ h0.size) (O0 : Old Z n0 h0) (X1 : own_Box Z a0_ x) (X2 : own_Box Z a1_ y) (hr : x = y) (hn : ¬ x < y) :
   oM l oY4 j35_64 2 (some .int) ws (own_R 2 0 0 30) #[(.ref a0_), (.ref a1_)] Z h0 (Q_ct2_eq Z a0_ a1_ x y h0 n0) := by
 refine own_open (n0 := n0) (cn := q_17) rfl (plainFor_of_name pn2) (L0 := #[(vR a0_), (vR a1_)]) ?_
 intro p e s m below meth c s₁ P hx hby hml hown hnm X0 e0 N0 hlk hret hZ hP
 refine aA X0 hx hby dt_0 rfl rfl ?_
 refine aA X0 hx hby dt_1 rfl rfl ?_
 obtain ⟨T11, X11, e11, st11⟩ := castY X0 hx hZ hown (tw_122 hw) e0 (Ins.self (Exa.ext O0.2 X2.1)) (g := (mkF m 2 #[(vR a0_), (vR a1_)] [(.ref a1_), (.ref a0_)])) rfl rfl (hb hby dt_2)
 refine Go.by st11 ?_
 refine c_virt 0 X11 hx hby hml hZ hown (tw_124 hw) (tw_125 hw) (tw_127 hw) (tw_126 hw) (tw_128 hw) (tw_84 hw) (rm_ct1_eq l Z a0 hw [] a0_ a1_ x y h0 n0 Z0 O0 X1 X2 hr hn) e11 (Exa.ext O0.2 X1.1) dt_5 [(.ref a1_)] [] (lenOf pd19 rfl) rfl rfl ?_
 rintro _ T12 Lc12 ⟨rfl, N12q, q12⟩ X12
 have N12 := Fr.app N0 N12q
 refine r_val hP hlk hret X12 hx hby dt_8 rfl (Or.inl ⟨rfl, Or.inl rfl, _, rfl⟩) (by decide) ?_
 rw [q12]
 exact ⟨rfl, N12, rfl⟩
def Q_lcmp_gt (Z : State) (x y : Int64) (h0 : Heap) (n0 : Nat) (v : Option Value) (h : Heap) (L : List Loc) : Prop := v = some (.int 1) ∧ Fr n0 L ∧ h = h0
theorem rm_lcmp_gt (l : Launch) (Z : State) (a0 : Array Value) (hw : oW a0 Z) (ws : List Jvm.Cond) (x y : Int64) (h0 : Heap) (n0 : Nat) (Z0 : n0 ≤ h0.size) (hr : y < x) (hn : ¬ x < y) (hq : ¬ x = y) :
   oM l oY14 j35_42 4 (some .int) ws (own_R 0 0 0 0) #[(.long x), (.long y)] Z h0 (Q_lcmp_gt Z x y h0 n0) := by
 refine own_open (n0 := n0) (cn := q_17) rfl (plainFor_of_name pn2) (L0 := #[(vJ x), .second, (vJ y), .second]) ?_
 intro p e s m below meth c s₁ P hx hby hml hown hnm X0 e0 N0 hlk hret hZ hP
 refine lA X0 hx hby dp_0 rfl ?_
 refine lA X0 hx hby dp_1 rfl ?_
 refine lK X0 hx hby dp_2 ?_
 refine fY X0 hx hby dp_3 (pc' := 10) (XT.ll_ge_t hn) ?_
 refine lA X0 hx hby dp_10 rfl ?_
 refine lA X0 hx hby dp_11 rfl ?_
 refine lK X0 hx hby dp_12 ?_
 refine fY X0 hx hby dp_13 (pc' := 20) (XT.ll_ne_t hq) ?_
 refine iC X0 hx hby dp_20 (v := 1) rfl ?_
 refine r_val hP hlk hret X0 hx hby dp_21 rfl (Or.inl ⟨rfl, Or.inl rfl, _, rfl⟩) (by decide) ?_
 rw [e0]
 exact ⟨rfl, N0, rfl⟩
def Q_ct1_gt (Z : State) (a0_ a1_ : Addr) (x y : Int64) (h0 : Heap) (n0 : Nat) (v : Option Value) (h : Heap) (L : List Loc) : Prop := v = some (.int 1) ∧ Fr n0 L ∧ h = h0
theorem rm_ct1_gt (l : Launch) (Z : State) (a0 : Array Value) (hw : oW a0 Z) (ws : List Jvm.Cond) (a0_ a1_ : Addr) (x y : Int64) (h0 : Heap) (n0 : Nat) (Z0 : n0 ≤ h0.size) (O0 : Old Z n0 h0) (X1 : own_Box Z a0_ x) (X2 : own_Box Z a1_ y) (hr : y < x) (hn : ¬ x < y) (hq : ¬ x = y) :
   oM l oY12 j35_41 2 (some .int) ws (own_R 1 0 0 16) #[(.ref a0_), (.ref a1_)] Z h0 (Q_ct1_gt Z a0_ a1_ x y h0 n0) := by
 refine own_open (n0 := n0) (cn := q_17) rfl (plainFor_of_name pn2) (L0 := #[(vR a0_), (vR a1_)]) ?_
 intro p e s m below meth c s₁ P hx hby hml hown hnm X0 e0 N0 hlk hret hZ hP
 refine aA X0 hx hby dr_0 rfl rfl ?_
 refine gF X0 hx hby hZ hown (tw_129 hw) Via.refl e0 (Fld.ext O0.2 X1.2) dr_1 ?_
 intro T11 X11 e11
 refine aA X11 hx hby dr_4 rfl rfl ?_
 refine gF X11 hx hby hZ hown (tw_129 hw) Via.refl e11 (Fld.ext O0.2 X2.2) dr_5 ?_
 intro T12 X12 e12
 refine c_stat 0 X12 hx hby hml hZ hown (tw_131 hw) (tw_132 hw) (tw_84 hw) (tw_133 hw) (rm_lcmp_gt l Z a0 hw [] x y h0 n0 Z0 hr hn hq) e12 dr_8 [(.long x), (.long y)] [] (lenOf pd18 rfl) rfl rfl ?_
 rintro _ T13 Lc13 ⟨rfl, N13q, q13⟩ X13
 have N13 := Fr.app N0 N13q
 refine r_val hP hlk hret X13 hx hby dr_11 rfl (Or.inl ⟨rfl, Or.inl rfl, _, rfl⟩) (by decide) ?_
 rw [q13]
 exact ⟨rfl, N13, rfl⟩
def Q_ct2_gt (Z : State) (a0_ a1_ : Addr) (x y : Int64) (h0 : Heap) (n0 : Nat) (v : Option Value) (h : Heap) (L : List Loc) : Prop := v = some (.int 1) ∧ Fr n0 L ∧ h = h0
theorem rm_ct2_gt (l : Launch) (Z : State) (a0 : Array Value) (hw : oW a0 Z) (ws : List Jvm.Cond) (a0_ a1_ : Addr) (x y : Int64) (h0 : Heap) (n0 : Nat) (Z0 : n0 ≤ h0.size) (O0 : Old Z n0 h0) (X1 : own_Box Z a0_ x) (X2 : own_Box Z a1_ y) (hr : y < x) (hn : ¬ x < y) (hq : ¬ x = y) :
   oM l oY4 j35_64 2 (some .int) ws (own_R 2 0 0 30) #[(.ref a0_), (.ref a1_)] Z h0 (Q_ct2_gt Z a0_ a1_ x y h0 n0) := by
 refine own_open (n0 := n0) (cn := q_17) rfl (plainFor_of_name pn2) (L0 := #[(vR a0_), (vR a1_)]) ?_
 intro p e s m below meth c s₁ P hx hby hml hown hnm X0 e0 N0 hlk hret hZ hP
 refine aA X0 hx hby dt_0 rfl rfl ?_
 refine aA X0 hx hby dt_1 rfl rfl ?_
 obtain ⟨T11, X11, e11, st11⟩ := castY X0 hx hZ hown (tw_122 hw) e0 (Ins.self (Exa.ext O0.2 X2.1)) (g := (mkF m 2 #[(vR a0_), (vR a1_)] [(.ref a1_), (.ref a0_)])) rfl rfl (hb hby dt_2)
 refine Go.by st11 ?_
 refine c_virt 0 X11 hx hby hml hZ hown (tw_124 hw) (tw_125 hw) (tw_127 hw) (tw_126 hw) (tw_128 hw) (tw_84 hw) (rm_ct1_gt l Z a0 hw [] a0_ a1_ x y h0 n0 Z0 O0 X1 X2 hr hn hq) e11 (Exa.ext O0.2 X1.1) dt_5 [(.ref a1_)] [] (lenOf pd19 rfl) rfl rfl ?_
 rintro _ T12 Lc12 ⟨rfl, N12q, q12⟩ X12
 have N12 := Fr.app N0 N12q
 refine r_val hP hlk hret X12 hx hby dt_8 rfl (Or.inl ⟨rfl, Or.inl rfl, _, rfl⟩) (by decide) ?_
 rw [q12]
 exact ⟨rfl, N12, rfl⟩
def Q_rnn (Z : State) (a0_ : Addr) (h0 : Heap) (n0 : Nat) (v : Option Value) (h : Heap) (L : List Loc) : Prop := v = some (.ref a0_) ∧ Fr n0 L ∧ h = h0
theorem rm_rnn (l : Launch) (Z : State) (a0 : Array Value) (hw : oW a0 Z) (ws : List Jvm.Cond) (a0_ : Addr) (h0 : Heap) (n0 : Nat) (Z0 : n0 ≤ h0.size) :
   oM l oY8 j31_10 1 (some (.object q_16)) ws (own_R 0 0 0 0) #[(.ref a0_)] Z h0 (Q_rnn Z a0_ h0 n0) := by
 refine own_open (n0 := n0) (cn := "java/util/Objects") rfl (plainFor_of_name pn6) (L0 := #[(vR a0_)]) ?_
 intro p e s m below meth c s₁ P hx hby hml hown hnm X0 e0 N0 hlk hret hZ hP
 refine aA X0 hx hby dC_0 rfl rfl ?_
 refine w_ifnonnullYes X0 hx hby dC_1 (pc' := 12) ?_
 refine aA X0 hx hby dC_12 rfl rfl ?_
 refine r_val hP hlk hret X0 hx hby dC_13 rfl (Or.inr (Or.inr (Or.inr (Or.inr ⟨rfl, rfl, rfl⟩)))) (by decide) ?_
 rw [e0]
 exact ⟨rfl, N0, rfl⟩
def Q_parentOf (Z : State) (a0_ : Addr) (x : Value) (h0 : Heap) (n0 : Nat) (v : Option Value) (h : Heap) (L : List Loc) : Prop := v = some x ∧ Fr n0 L ∧ h = h0
theorem rm_parentOf (l : Launch) (Z : State) (a0 : Array Value) (hw : oW a0 Z) (ws : List Jvm.Cond) (a0_ : Addr) (x : Value) (h0 : Heap) (n0 : Nat) (Z0 : n0 ≤ h0.size) (hx_ : x.isRef = true) (F0 : Fld Z h0 a0_ q_0 q_5 q_1 x) :
   oM l oY9 j2729_77 1 (some (.object q_0)) ws (own_R 0 0 0 0) #[(.ref a0_)] Z h0 (Q_parentOf Z a0_ x h0 n0) := by
 refine own_open (n0 := n0) (cn := q_2) rfl (plainFor_of_name pn0) (L0 := #[(vR a0_)]) ?_
 intro p e s m below meth c s₁ P hx hby hml hown hnm X0 e0 N0 hlk hret hZ hP
 refine aA X0 hx hby dA_0 rfl rfl ?_
 refine w_ifnonnullYes X0 hx hby dA_1 (pc' := 8) ?_
 refine aA X0 hx hby dA_8 rfl rfl ?_
 refine gF X0 hx hby hZ hown (tw_200 hw) Via.refl e0 F0 dA_9 ?_
 intro T11 X11 e11
 refine r_val hP hlk hret X11 hx hby dA_12 (own_narR hx_) (Or.inr (Or.inr (Or.inr (Or.inr ⟨rfl, rfl, hx_⟩)))) (by decide) ?_
 rw [e11]
 exact ⟨rfl, N0, rfl⟩
def Q_leftOf (Z : State) (a0_ : Addr) (x : Value) (h0 : Heap) (n0 : Nat) (v : Option Value) (h : Heap) (L : List Loc) : Prop := v = some x ∧ Fr n0 L ∧ h = h0
theorem rm_leftOf (l : Launch) (Z : State) (a0 : Array Value) (hw : oW a0 Z) (ws : List Jvm.Cond) (a0_ : Addr) (x : Value) (h0 : Heap) (n0 : Nat) (Z0 : n0 ≤ h0.size) (hx_ : x.isRef = true) (F0 : Fld Z h0 a0_ q_0 q_6 q_1 x) :
   oM l oY20 j2729_79 1 (some (.object q_0)) ws (own_R 0 0 0 0) #[(.ref a0_)] Z h0 (Q_leftOf Z a0_ x h0 n0) := by
 refine own_open (n0 := n0) (cn := q_2) rfl (plainFor_of_name pn0) (L0 := #[(vR a0_)]) ?_
 intro p e s m below meth c s₁ P hx hby hml hown hnm X0 e0 N0 hlk hret hZ hP
 refine aA X0 hx hby dB_0 rfl rfl ?_
 refine w_ifnonnullYes X0 hx hby dB_1 (pc' := 8) ?_
 refine aA X0 hx hby dB_8 rfl rfl ?_
 refine gF X0 hx hby hZ hown (tw_209 hw) Via.refl e0 F0 dB_9 ?_
 intro T11 X11 e11
 refine r_val hP hlk hret X11 hx hby dB_12 (own_narR hx_) (Or.inr (Or.inr (Or.inr (Or.inr ⟨rfl, rfl, hx_⟩)))) (by decide) ?_
 rw [e11]
 exact ⟨rfl, N0, rfl⟩
def Q_colorOfN (Z : State)  (h0 : Heap) (n0 : Nat) (v : Option Value) (h : Heap) (L : List Loc) : Prop := v = some (.int 1) ∧ Fr n0 L ∧ h = h0
theorem rm_colorOfN (l : Launch) (Z : State) (a0 : Array Value) (hw : oW a0 Z) (ws : List Jvm.Cond)  (h0 : Heap) (n0 : Nat) (Z0 : n0 ≤ h0.size) :
   oM l oY22 j2729_76 1 (some .boolean) ws (own_R 0 0 0 0) #[.null] Z h0 (Q_colorOfN Z  h0 n0) := by
 refine own_open (n0 := n0) (cn := q_2) rfl (plainFor_of_name pn0) (L0 := #[.val .null]) ?_
 intro p e s m below meth c s₁ P hx hby hml hown hnm X0 e0 N0 hlk hret hZ hP
 refine aA X0 hx hby dx_0 rfl rfl ?_
 refine w_ifnonnullNo X0 hx hby dx_1 ?_
 refine iC X0 hx hby dx_4 (v := 1) rfl ?_
 refine gO X0 hx hby dx_5 (pc' := 12) ?_
 refine r_val hP hlk hret X0 hx hby dx_12 rfl (Or.inl ⟨rfl, Or.inr (Or.inl rfl), _, rfl⟩) (by decide) ?_
 rw [e0]
 exact ⟨rfl, N0, rfl⟩
def Q_colorOf0 (Z : State) (a0_ : Addr) (h0 : Heap) (n0 : Nat) (v : Option Value) (h : Heap) (L : List Loc) : Prop := v = some (.int 0) ∧ Fr n0 L ∧ h = h0
theorem rm_colorOf0 (l : Launch) (Z : State) (a0 : Array Value) (hw : oW a0 Z) (ws : List Jvm.Cond) (a0_ : Addr) (h0 : Heap) (n0 : Nat) (Z0 : n0 ≤ h0.size) (F0 : Fld Z h0 a0_ q_0 q_7 "Z" (.int 0)) :
   oM l oY22 j2729_76 1 (some .boolean) ws (own_R 0 0 0 0) #[(.ref a0_)] Z h0 (Q_colorOf0 Z a0_ h0 n0) := by
 refine own_open (n0 := n0) (cn := q_2) rfl (plainFor_of_name pn0) (L0 := #[(vR a0_)]) ?_
 intro p e s m below meth c s₁ P hx hby hml hown hnm X0 e0 N0 hlk hret hZ hP
 refine aA X0 hx hby dx_0 rfl rfl ?_
 refine w_ifnonnullYes X0 hx hby dx_1 (pc' := 8) ?_
 refine aA X0 hx hby dx_8 rfl rfl ?_
 refine gF X0 hx hby hZ hown (tw_199 hw) Via.refl e0 F0 dx_9 ?_
 intro T11 X11 e11
 refine r_val hP hlk hret X11 hx hby dx_12 rfl (Or.inl ⟨rfl, Or.inr (Or.inl rfl), _, rfl⟩) (by decide) ?_
 rw [e11]
 exact ⟨rfl, N0, rfl⟩
def Q_setColor0 (Z : State) (a0_ : Addr) (x : Int32) (f0 f1 f2 f3 : Value) (h0 : Heap) (n0 : Nat) (v : Option Value) (h : Heap) (L : List Loc) : Prop := v = none ∧ Fr n0 L ∧ Keep h0 h [a0_] ∧ Fld Z h a0_ q_0 q_7 "Z" (.int 0) ∧ Fld Z h a0_ q_0 q_8 q_4 f0 ∧ Fld Z h a0_ q_0 q_6 q_1 f1 ∧ Fld Z h a0_ q_0 q_9 q_1 f2 ∧ Fld Z h a0_ q_0 q_5 q_1 f3
theorem rm_setColor0 (l : Launch) (Z : State) (a0 : Array Value) (hw : oW a0 Z) (ws : List Jvm.Cond) (a0_ : Addr) (x : Int32) (f0 f1 f2 f3 : Value) (h0 : Heap) (n0 : Nat) (Z0 : n0 ≤ h0.size) (E0 : Exa Z h0 a0_ q_0) (g_a0_ : n0 ≤ a0_) (F0 : Fld Z h0 a0_ q_0 q_7 "Z" (.int x)) (k0 : Fld Z h0 a0_ q_0 q_8 q_4 f0) (k1 : Fld Z h0 a0_ q_0 q_6 q_1 f1) (k2 : Fld Z h0 a0_ q_0 q_9 q_1 f2) (k3 : Fld Z h0 a0_ q_0 q_5 q_1 f3) :
   oM l oY15 j2729_78 2 none ws (own_R 0 0 0 0) #[(.ref a0_), (.int 0)] Z h0 (Q_setColor0 Z a0_ x f0 f1 f2 f3 h0 n0) := by
 refine own_open (n0 := n0) (cn := q_2) rfl (plainFor_of_name pn0) (L0 := #[(vR a0_), (vI 0)]) ?_
 intro p e s m below meth c s₁ P hx hby hml hown hnm X0 e0 N0 hlk hret hZ hP
 refine aA X0 hx hby dv_0 rfl rfl ?_
 refine w_ifnullNo X0 hx hby dv_1 ?_
 refine aA X0 hx hby dv_4 rfl rfl ?_
 refine iA X0 hx hby dv_5 rfl ?_
 obtain ⟨T11, h11, X11, e11, W11, st11⟩ := putFN X0 hx hZ hown (tw_199 hw) Via.refl e0 F0 E0 (Or.inl (tw_143 hw)) (tw_135 hw) (ty := .boolean) (v' := (.int 0)) (by decide) rfl rfl (g := (mkF m 6 #[(vR a0_), (vI 0)] [(.int 0), (.ref a0_)])) rfl rfl (hb hby dv_6)
 refine Go.by st11 ?_
 have N11 := Fr.snoc X11 N0 g_a0_
 have f11_1 := Keep.wr (Keep.refl h0 [a0_]) W11 (Or.inl (List.mem_of_getElem? (i := 0) rfl))
 have f11_3 := Fld.same W11 F0
 have f11_4 := Fld.other W11 k0 (Or.inr (slot_ne (Or.inl (tw_145 hw)) (Or.inl (tw_143 hw)) (by decide) (t := (.object q_16)) (t' := .boolean) (by decide) (by decide)))
 have f11_5 := Fld.other W11 k1 (Or.inr (slot_ne (Or.inl (tw_210 hw)) (Or.inl (tw_143 hw)) (by decide) (t := (.object q_0)) (t' := .boolean) (by decide) (by decide)))
 have f11_6 := Fld.other W11 k2 (Or.inr (slot_ne (Or.inl (tw_168 hw)) (Or.inl (tw_143 hw)) (by decide) (t := (.object q_0)) (t' := .boolean) (by decide) (by decide)))
 have f11_7 := Fld.other W11 k3 (Or.inr (slot_ne (Or.inl (tw_149 hw)) (Or.inl (tw_143 hw)) (by decide) (t := (.object q_0)) (t' := .boolean) (by decide) (by decide)))
 show oG p e below P m T11 9 #[(vR a0_), (vI 0)] []
 refine own_fin hP hlk X11 (v := none) (fun _ => rfl) (by decide) (by decide) ?_ (fun fs hr => X11.returnOut hx hret (hb hby dv_9) hr)
 rw [e11]
 exact ⟨rfl, N11, f11_1, f11_3, f11_4, f11_5, f11_6, f11_7⟩
def Q_setColor1 (Z : State) (a0_ : Addr) (x : Int32) (f0 f1 f2 f3 : Value) (h0 : Heap) (n0 : Nat) (v : Option Value) (h : Heap) (L : List Loc) : Prop := v = none ∧ Fr n0 L ∧ Keep h0 h [a0_] ∧ Fld Z h a0_ q_0 q_7 "Z" (.int 1) ∧ Fld Z h a0_ q_0 q_8 q_4 f0 ∧ Fld Z h a0_ q_0 q_6 q_1 f1 ∧ Fld Z h a0_ q_0 q_9 q_1 f2 ∧ Fld Z h a0_ q_0 q_5 q_1 f3
theorem rm_setColor1 (l : Launch) (Z : State) (a0 : Array Value) (hw : oW a0 Z) (ws : List Jvm.Cond) (a0_ : Addr) (x : Int32) (f0 f1 f2 f3 : Value) (h0 : Heap) (n0 : Nat) (Z0 : n0 ≤ h0.size) (E0 : Exa Z h0 a0_ q_0) (g_a0_ : n0 ≤ a0_) (F0 : Fld Z h0 a0_ q_0 q_7 "Z" (.int x)) (k0 : Fld Z h0 a0_ q_0 q_8 q_4 f0) (k1 : Fld Z h0 a0_ q_0 q_6 q_1 f1) (k2 : Fld Z h0 a0_ q_0 q_9 q_1 f2) (k3 : Fld Z h0 a0_ q_0 q_5 q_1 f3) :
   oM l oY15 j2729_78 2 none ws (own_R 0 0 0 0) #[(.ref a0_), (.int 1)] Z h0 (Q_setColor1 Z a0_ x f0 f1 f2 f3 h0 n0) := by
 refine own_open (n0 := n0) (cn := q_2) rfl (plainFor_of_name pn0) (L0 := #[(vR a0_), (vI 1)]) ?_
 intro p e s m below meth c s₁ P hx hby hml hown hnm X0 e0 N0 hlk hret hZ hP
 refine aA X0 hx hby dv_0 rfl rfl ?_
 refine w_ifnullNo X0 hx hby dv_1 ?_
 refine aA X0 hx hby dv_4 rfl rfl ?_
 refine iA X0 hx hby dv_5 rfl ?_
 obtain ⟨T11, h11, X11, e11, W11, st11⟩ := putFN X0 hx hZ hown (tw_199 hw) Via.refl e0 F0 E0 (Or.inl (tw_143 hw)) (tw_135 hw) (ty := .boolean) (v' := (.int 1)) (by decide) rfl rfl (g := (mkF m 6 #[(vR a0_), (vI 1)] [(.int 1), (.ref a0_)])) rfl rfl (hb hby dv_6)
 refine Go.by st11 ?_
 have N11 := Fr.snoc X11 N0 g_a0_
 have f11_1 := Keep.wr (Keep.refl h0 [a0_]) W11 (Or.inl (List.mem_of_getElem? (i := 0) rfl))
 have f11_3 := Fld.same W11 F0
 have f11_4 := Fld.other W11 k0 (Or.inr (slot_ne (Or.inl (tw_145 hw)) (Or.inl (tw_143 hw)) (by decide) (t := (.object q_16)) (t' := .boolean) (by decide) (by decide)))
 have f11_5 := Fld.other W11 k1 (Or.inr (slot_ne (Or.inl (tw_210 hw)) (Or.inl (tw_143 hw)) (by decide) (t := (.object q_0)) (t' := .boolean) (by decide) (by decide)))
 have f11_6 := Fld.other W11 k2 (Or.inr (slot_ne (Or.inl (tw_168 hw)) (Or.inl (tw_143 hw)) (by decide) (t := (.object q_0)) (t' := .boolean) (by decide) (by decide)))
 have f11_7 := Fld.other W11 k3 (Or.inr (slot_ne (Or.inl (tw_149 hw)) (Or.inl (tw_143 hw)) (by decide) (t := (.object q_0)) (t' := .boolean) (by decide) (by decide)))
 show oG p e below P m T11 9 #[(vR a0_), (vI 1)] []
 refine own_fin hP hlk X11 (v := none) (fun _ => rfl) (by decide) (by decide) ?_ (fun fs hr => X11.returnOut hx hret (hb hby dv_9) hr)
 rw [e11]
 exact ⟨rfl, N11, f11_1, f11_3, f11_4, f11_5, f11_6, f11_7⟩
def Q_entInitN (Z : State) (a0_ kx vx : Addr) (h0 : Heap) (n0 : Nat) (v : Option Value) (h : Heap) (L : List Loc) : Prop := v = none ∧ Fr n0 L ∧ Keep h0 h [a0_] ∧ Fld Z h a0_ q_0 q_7 "Z" (.int 1) ∧ Fld Z h a0_ q_0 q_8 q_4 (.ref kx) ∧ Fld Z h a0_ q_0 "value" q_4 (.ref vx) ∧ Fld Z h a0_ q_0 q_5 q_1 .null ∧ Fld Z h a0_ q_0 q_6 q_1 .null ∧ Fld Z h a0_ q_0 q_9 q_1 .null
theorem rm_entInitN (l : Launch) (Z : State) (a0 : Array Value) (hw : oW a0 Z) (ws : List Jvm.Cond) (a0_ kx vx : Addr) (h0 : Heap) (n0 : Nat) (Z0 : n0 ≤ h0.size) (E0 : Exa Z h0 a0_ q_0) (g_a0_ : n0 ≤ a0_) (F0_color : Fld Z h0 a0_ q_0 q_7 "Z" (.int 0)) (F0_key : Fld Z h0 a0_ q_0 q_8 q_4 .null) (F0_value : Fld Z h0 a0_ q_0 "value" q_4 .null) (F0_parent : Fld Z h0 a0_ q_0 q_5 q_1 .null) (F0_left : Fld Z h0 a0_ q_0 q_6 q_1 .null) (F0_right : Fld Z h0 a0_ q_0 q_9 q_1 .null) :
   oM l oY19 j2736_1 4 none ws (own_R 1 0 0 12) #[(.ref a0_), (.ref kx), (.ref vx), .null] Z h0 (Q_entInitN Z a0_ kx vx h0 n0) := by
 refine own_open (n0 := n0) (cn := q_0) rfl (plainFor_of_name pn3) (L0 := #[(vR a0_), (vR kx), (vR vx), .val .null]) ?_
 intro p e s m below meth c s₁ P hx hby hml hown hnm X0 e0 N0 hlk hret hZ hP
 refine aA X0 hx hby do_0 rfl rfl ?_
 obtain ⟨T11, X11, e11, st11⟩ := initO X0 hx hZ hown (tw_141 hw) (tw_9 hw) (tw_10 hw) e0 (g := (mkF m 1 #[(vR a0_), (vR kx), (vR vx), .val .null] [(.ref a0_)])) rfl (by rw [hml]; rfl) rfl (hb hby do_1) (by decide) (W := 0) (by show 2 * 0 + _ ≤ _; exact Nat.le_of_eq rfl) (by decide)
 refine Go.by st11 ?_
 refine aA X11 hx hby do_4 rfl rfl ?_
 refine iC X11 hx hby do_5 (v := 1) rfl ?_
 obtain ⟨T12, h12, X12, e12, W12, st12⟩ := putFN X11 hx hZ hown (tw_142 hw) Via.refl e11 F0_color E0 (Or.inl (tw_143 hw)) (tw_135 hw) (ty := .boolean) (v' := (.int 1)) (by decide) rfl rfl (g := (mkF m 6 #[(vR a0_), (vR kx), (vR vx), .val .null] [(.int 1), (.ref a0_)])) rfl rfl (hb hby do_6)
 refine Go.by st12 ?_
 have N12 := Fr.snoc X12 N0 g_a0_
 have f12_1 := Keep.wr (Keep.refl h0 [a0_]) W12 (Or.inl (List.mem_of_getElem? (i := 0) rfl))
 have f12_2 := Exa.wr W12 E0
 have f12_3 := Fld.same W12 F0_color
 have f12_4 := Fld.other W12 F0_key (Or.inr (slot_ne (Or.inl (tw_145 hw)) (Or.inl (tw_143 hw)) (by decide) (t := (.object q_16)) (t' := .boolean) (by decide) (by decide)))
 have f12_5 := Fld.other W12 F0_value (Or.inr (slot_ne (Or.inl (tw_147 hw)) (Or.inl (tw_143 hw)) (by decide) (t := (.object q_16)) (t' := .boolean) (by decide) (by decide)))
 have f12_6 := Fld.other W12 F0_parent (Or.inr (slot_ne (Or.inl (tw_149 hw)) (Or.inl (tw_143 hw)) (by decide) (t := (.object q_0)) (t' := .boolean) (by decide) (by decide)))
 have f12_7 := Fld.other W12 F0_left (Or.inr (slot_ne (Or.inl (tw_210 hw)) (Or.inl (tw_143 hw)) (by decide) (t := (.object q_0)) (t' := .boolean) (by decide) (by decide)))
 have f12_8 := Fld.other W12 F0_right (Or.inr (slot_ne (Or.inl (tw_168 hw)) (Or.inl (tw_143 hw)) (by decide) (t := (.object q_0)) (t' := .boolean) (by decide) (by decide)))
 refine aA X12 hx hby do_9 rfl rfl ?_
 refine aA X12 hx hby do_10 rfl rfl ?_
 obtain ⟨T13, h13, X13, e13, W13, st13⟩ := putF X12 hx hZ hown (host := "") (Or.inl (tw_144 hw)) Via.refl e12 f12_4 f12_2 (Or.inl (tw_145 hw)) (tw_135 hw) (ty := (.object q_16)) (by decide) rfl rfl (g := (mkF m 11 #[(vR a0_), (vR kx), (vR vx), .val .null] [(.ref kx), (.ref a0_)])) rfl rfl (hb hby do_11)
 refine Go.by st13 ?_
 have N13 := Fr.snoc X13 N12 g_a0_
 have f13_1 := Keep.wr f12_1 W13 (Or.inl (List.mem_of_getElem? (i := 0) rfl))
 have f13_2 := Exa.wr W13 f12_2
 have f13_3 := Fld.other W13 f12_3 (Or.inr (slot_ne (Or.inl (tw_143 hw)) (Or.inl (tw_145 hw)) (by decide) (t := .boolean) (t' := (.object q_16)) (by decide) (by decide)))
 have f13_4 := Fld.same W13 f12_4
 have f13_5 := Fld.other W13 f12_5 (Or.inr (slot_ne (Or.inl (tw_147 hw)) (Or.inl (tw_145 hw)) (by decide) (t := (.object q_16)) (t' := (.object q_16)) (by decide) (by decide)))
 have f13_6 := Fld.other W13 f12_6 (Or.inr (slot_ne (Or.inl (tw_149 hw)) (Or.inl (tw_145 hw)) (by decide) (t := (.object q_0)) (t' := (.object q_16)) (by decide) (by decide)))
 have f13_7 := Fld.other W13 f12_7 (Or.inr (slot_ne (Or.inl (tw_210 hw)) (Or.inl (tw_145 hw)) (by decide) (t := (.object q_0)) (t' := (.object q_16)) (by decide) (by decide)))
 have f13_8 := Fld.other W13 f12_8 (Or.inr (slot_ne (Or.inl (tw_168 hw)) (Or.inl (tw_145 hw)) (by decide) (t := (.object q_0)) (t' := (.object q_16)) (by decide) (by decide)))
 refine aA X13 hx hby do_14 rfl rfl ?_
 refine aA X13 hx hby do_15 rfl rfl ?_
 obtain ⟨T14, h14, X14, e14, W14, st14⟩ := putF X13 hx hZ hown (host := "") (Or.inl (tw_146 hw)) Via.refl e13 f13_5 f13_2 (Or.inl (tw_147 hw)) (tw_135 hw) (ty := (.object q_16)) (by decide) rfl rfl (g := (mkF m 16 #[(vR a0_), (vR kx), (vR vx), .val .null] [(.ref vx), (.ref a0_)])) rfl rfl (hb hby do_16)
 refine Go.by st14 ?_
 have N14 := Fr.snoc X14 N13 g_a0_
 have f14_1 := Keep.wr f13_1 W14 (Or.inl (List.mem_of_getElem? (i := 0) rfl))
 have f14_2 := Exa.wr W14 f13_2
 have f14_3 := Fld.other W14 f13_3 (Or.inr (slot_ne (Or.inl (tw_143 hw)) (Or.inl (tw_147 hw)) (by decide) (t := .boolean) (t' := (.object q_16)) (by decide) (by decide)))
 have f14_4 := Fld.other W14 f13_4 (Or.inr (slot_ne (Or.inl (tw_145 hw)) (Or.inl (tw_147 hw)) (by decide) (t := (.object q_16)) (t' := (.object q_16)) (by decide) (by decide)))
 have f14_5 := Fld.same W14 f13_5
 have f14_6 := Fld.other W14 f13_6 (Or.inr (slot_ne (Or.inl (tw_149 hw)) (Or.inl (tw_147 hw)) (by decide) (t := (.object q_0)) (t' := (.object q_16)) (by decide) (by decide)))
 have f14_7 := Fld.other W14 f13_7 (Or.inr (slot_ne (Or.inl (tw_210 hw)) (Or.inl (tw_147 hw)) (by decide) (t := (.object q_0)) (t' := (.object q_16)) (by decide) (by decide)))
 have f14_8 := Fld.other W14 f13_8 (Or.inr (slot_ne (Or.inl (tw_168 hw)) (Or.inl (tw_147 hw)) (by decide) (t := (.object q_0)) (t' := (.object q_16)) (by decide) (by decide)))
 refine aA X14 hx hby do_19 rfl rfl ?_
 refine aA X14 hx hby do_20 rfl rfl ?_
 obtain ⟨T15, h15, X15, e15, W15, st15⟩ := putF X14 hx hZ hown (host := "") (Or.inl (tw_148 hw)) Via.refl e14 f14_6 f14_2 (Or.inl (tw_149 hw)) (tw_135 hw) (ty := (.object q_0)) (by decide) rfl rfl (g := (mkF m 21 #[(vR a0_), (vR kx), (vR vx), .val .null] [.null, (.ref a0_)])) rfl rfl (hb hby do_21)
 refine Go.by st15 ?_
 have N15 := Fr.snoc X15 N14 g_a0_
 have f15_1 := Keep.wr f14_1 W15 (Or.inl (List.mem_of_getElem? (i := 0) rfl))
 have f15_3 := Fld.other W15 f14_3 (Or.inr (slot_ne (Or.inl (tw_143 hw)) (Or.inl (tw_149 hw)) (by decide) (t := .boolean) (t' := (.object q_0)) (by decide) (by decide)))
 have f15_4 := Fld.other W15 f14_4 (Or.inr (slot_ne (Or.inl (tw_145 hw)) (Or.inl (tw_149 hw)) (by decide) (t := (.object q_16)) (t' := (.object q_0)) (by decide) (by decide)))
 have f15_5 := Fld.other W15 f14_5 (Or.inr (slot_ne (Or.inl (tw_147 hw)) (Or.inl (tw_149 hw)) (by decide) (t := (.object q_16)) (t' := (.object q_0)) (by decide) (by decide)))
 have f15_6 := Fld.same W15 f14_6
 have f15_7 := Fld.other W15 f14_7 (Or.inr (slot_ne (Or.inl (tw_210 hw)) (Or.inl (tw_149 hw)) (by decide) (t := (.object q_0)) (t' := (.object q_0)) (by decide) (by decide)))
 have f15_8 := Fld.other W15 f14_8 (Or.inr (slot_ne (Or.inl (tw_168 hw)) (Or.inl (tw_149 hw)) (by decide) (t := (.object q_0)) (t' := (.object q_0)) (by decide) (by decide)))
 show oG p e below P m T15 24 #[(vR a0_), (vR kx), (vR vx), .val .null] []
 refine own_fin hP hlk X15 (v := none) (fun _ => rfl) (by decide) (by decide) ?_ (fun fs hr => X15.returnOut hx hret (hb hby do_24) hr)
 rw [e15]
 exact ⟨rfl, N15, f15_1, f15_3, f15_4, f15_5, f15_6, f15_7, f15_8⟩
def Q_entInitR (Z : State) (a0_ kx vx px : Addr) (h0 : Heap) (n0 : Nat) (v : Option Value) (h : Heap) (L : List Loc) : Prop := v = none ∧ Fr n0 L ∧ Keep h0 h [a0_] ∧ Fld Z h a0_ q_0 q_7 "Z" (.int 1) ∧ Fld Z h a0_ q_0 q_8 q_4 (.ref kx) ∧ Fld Z h a0_ q_0 "value" q_4 (.ref vx) ∧ Fld Z h a0_ q_0 q_5 q_1 (.ref px) ∧ Fld Z h a0_ q_0 q_6 q_1 .null ∧ Fld Z h a0_ q_0 q_9 q_1 .null
theorem rm_entInitR (l : Launch) (Z : State) (a0 : Array Value) (hw : oW a0 Z) (ws : List Jvm.Cond) (a0_ kx vx px : Addr) (h0 : Heap) (n0 : Nat) (Z0 : n0 ≤ h0.size) (E0 : Exa Z h0 a0_ q_0) (g_a0_ : n0 ≤ a0_) (F0_color : Fld Z h0 a0_ q_0 q_7 "Z" (.int 0)) (F0_key : Fld Z h0 a0_ q_0 q_8 q_4 .null) (F0_value : Fld Z h0 a0_ q_0 "value" q_4 .null) (F0_parent : Fld Z h0 a0_ q_0 q_5 q_1 .null) (F0_left : Fld Z h0 a0_ q_0 q_6 q_1 .null) (F0_right : Fld Z h0 a0_ q_0 q_9 q_1 .null) :
   oM l oY19 j2736_1 4 none ws (own_R 1 0 0 12) #[(.ref a0_), (.ref kx), (.ref vx), (.ref px)] Z h0 (Q_entInitR Z a0_ kx vx px h0 n0) := by
 refine own_open (n0 := n0) (cn := q_0) rfl (plainFor_of_name pn3) (L0 := #[(vR a0_), (vR kx), (vR vx), (vR px)]) ?_
 intro p e s m below meth c s₁ P hx hby hml hown hnm X0 e0 N0 hlk hret hZ hP
 refine aA X0 hx hby do_0 rfl rfl ?_
 obtain ⟨T11, X11, e11, st11⟩ := initO X0 hx hZ hown (tw_141 hw) (tw_9 hw) (tw_10 hw) e0 (g := (mkF m 1 #[(vR a0_), (vR kx), (vR vx), (vR px)] [(.ref a0_)])) rfl (by rw [hml]; rfl) rfl (hb hby do_1) (by decide) (W := 0) (by show 2 * 0 + _ ≤ _; exact Nat.le_of_eq rfl) (by decide)
 refine Go.by st11 ?_
 refine aA X11 hx hby do_4 rfl rfl ?_
 refine iC X11 hx hby do_5 (v := 1) rfl ?_
 obtain ⟨T12, h12, X12, e12, W12, st12⟩ := putFN X11 hx hZ hown (tw_142 hw) Via.refl e11 F0_color E0 (Or.inl (tw_143 hw)) (tw_135 hw) (ty := .boolean) (v' := (.int 1)) (by decide) rfl rfl (g := (mkF m 6 #[(vR a0_), (vR kx), (vR vx), (vR px)] [(.int 1), (.ref a0_)])) rfl rfl (hb hby do_6)
 refine Go.by st12 ?_
 have N12 := Fr.snoc X12 N0 g_a0_
 have f12_1 := Keep.wr (Keep.refl h0 [a0_]) W12 (Or.inl (List.mem_of_getElem? (i := 0) rfl))
 have f12_2 := Exa.wr W12 E0
 have f12_3 := Fld.same W12 F0_color
 have f12_4 := Fld.other W12 F0_key (Or.inr (slot_ne (Or.inl (tw_145 hw)) (Or.inl (tw_143 hw)) (by decide) (t := (.object q_16)) (t' := .boolean) (by decide) (by decide)))
 have f12_5 := Fld.other W12 F0_value (Or.inr (slot_ne (Or.inl (tw_147 hw)) (Or.inl (tw_143 hw)) (by decide) (t := (.object q_16)) (t' := .boolean) (by decide) (by decide)))
 have f12_6 := Fld.other W12 F0_parent (Or.inr (slot_ne (Or.inl (tw_149 hw)) (Or.inl (tw_143 hw)) (by decide) (t := (.object q_0)) (t' := .boolean) (by decide) (by decide)))
 have f12_7 := Fld.other W12 F0_left (Or.inr (slot_ne (Or.inl (tw_210 hw)) (Or.inl (tw_143 hw)) (by decide) (t := (.object q_0)) (t' := .boolean) (by decide) (by decide)))
 have f12_8 := Fld.other W12 F0_right (Or.inr (slot_ne (Or.inl (tw_168 hw)) (Or.inl (tw_143 hw)) (by decide) (t := (.object q_0)) (t' := .boolean) (by decide) (by decide)))
 refine aA X12 hx hby do_9 rfl rfl ?_
 refine aA X12 hx hby do_10 rfl rfl ?_
 obtain ⟨T13, h13, X13, e13, W13, st13⟩ := putF X12 hx hZ hown (host := "") (Or.inl (tw_144 hw)) Via.refl e12 f12_4 f12_2 (Or.inl (tw_145 hw)) (tw_135 hw) (ty := (.object q_16)) (by decide) rfl rfl (g := (mkF m 11 #[(vR a0_), (vR kx), (vR vx), (vR px)] [(.ref kx), (.ref a0_)])) rfl rfl (hb hby do_11)
 refine Go.by st13 ?_
 have N13 := Fr.snoc X13 N12 g_a0_
 have f13_1 := Keep.wr f12_1 W13 (Or.inl (List.mem_of_getElem? (i := 0) rfl))
 have f13_2 := Exa.wr W13 f12_2
 have f13_3 := Fld.other W13 f12_3 (Or.inr (slot_ne (Or.inl (tw_143 hw)) (Or.inl (tw_145 hw)) (by decide) (t := .boolean) (t' := (.object q_16)) (by decide) (by decide)))
 have f13_4 := Fld.same W13 f12_4
 have f13_5 := Fld.other W13 f12_5 (Or.inr (slot_ne (Or.inl (tw_147 hw)) (Or.inl (tw_145 hw)) (by decide) (t := (.object q_16)) (t' := (.object q_16)) (by decide) (by decide)))
 have f13_6 := Fld.other W13 f12_6 (Or.inr (slot_ne (Or.inl (tw_149 hw)) (Or.inl (tw_145 hw)) (by decide) (t := (.object q_0)) (t' := (.object q_16)) (by decide) (by decide)))
 have f13_7 := Fld.other W13 f12_7 (Or.inr (slot_ne (Or.inl (tw_210 hw)) (Or.inl (tw_145 hw)) (by decide) (t := (.object q_0)) (t' := (.object q_16)) (by decide) (by decide)))
 have f13_8 := Fld.other W13 f12_8 (Or.inr (slot_ne (Or.inl (tw_168 hw)) (Or.inl (tw_145 hw)) (by decide) (t := (.object q_0)) (t' := (.object q_16)) (by decide) (by decide)))
 refine aA X13 hx hby do_14 rfl rfl ?_
 refine aA X13 hx hby do_15 rfl rfl ?_
 obtain ⟨T14, h14, X14, e14, W14, st14⟩ := putF X13 hx hZ hown (host := "") (Or.inl (tw_146 hw)) Via.refl e13 f13_5 f13_2 (Or.inl (tw_147 hw)) (tw_135 hw) (ty := (.object q_16)) (by decide) rfl rfl (g := (mkF m 16 #[(vR a0_), (vR kx), (vR vx), (vR px)] [(.ref vx), (.ref a0_)])) rfl rfl (hb hby do_16)
 refine Go.by st14 ?_
 have N14 := Fr.snoc X14 N13 g_a0_
 have f14_1 := Keep.wr f13_1 W14 (Or.inl (List.mem_of_getElem? (i := 0) rfl))
 have f14_2 := Exa.wr W14 f13_2
 have f14_3 := Fld.other W14 f13_3 (Or.inr (slot_ne (Or.inl (tw_143 hw)) (Or.inl (tw_147 hw)) (by decide) (t := .boolean) (t' := (.object q_16)) (by decide) (by decide)))
 have f14_4 := Fld.other W14 f13_4 (Or.inr (slot_ne (Or.inl (tw_145 hw)) (Or.inl (tw_147 hw)) (by decide) (t := (.object q_16)) (t' := (.object q_16)) (by decide) (by decide)))
 have f14_5 := Fld.same W14 f13_5
 have f14_6 := Fld.other W14 f13_6 (Or.inr (slot_ne (Or.inl (tw_149 hw)) (Or.inl (tw_147 hw)) (by decide) (t := (.object q_0)) (t' := (.object q_16)) (by decide) (by decide)))
 have f14_7 := Fld.other W14 f13_7 (Or.inr (slot_ne (Or.inl (tw_210 hw)) (Or.inl (tw_147 hw)) (by decide) (t := (.object q_0)) (t' := (.object q_16)) (by decide) (by decide)))
 have f14_8 := Fld.other W14 f13_8 (Or.inr (slot_ne (Or.inl (tw_168 hw)) (Or.inl (tw_147 hw)) (by decide) (t := (.object q_0)) (t' := (.object q_16)) (by decide) (by decide)))
 refine aA X14 hx hby do_19 rfl rfl ?_
 refine aA X14 hx hby do_20 rfl rfl ?_
 obtain ⟨T15, h15, X15, e15, W15, st15⟩ := putF X14 hx hZ hown (host := "") (Or.inl (tw_148 hw)) Via.refl e14 f14_6 f14_2 (Or.inl (tw_149 hw)) (tw_135 hw) (ty := (.object q_0)) (by decide) rfl rfl (g := (mkF m 21 #[(vR a0_), (vR kx), (vR vx), (vR px)] [(.ref px), (.ref a0_)])) rfl rfl (hb hby do_21)
 refine Go.by st15 ?_
 have N15 := Fr.snoc X15 N14 g_a0_
 have f15_1 := Keep.wr f14_1 W15 (Or.inl (List.mem_of_getElem? (i := 0) rfl))
 have f15_3 := Fld.other W15 f14_3 (Or.inr (slot_ne (Or.inl (tw_143 hw)) (Or.inl (tw_149 hw)) (by decide) (t := .boolean) (t' := (.object q_0)) (by decide) (by decide)))
 have f15_4 := Fld.other W15 f14_4 (Or.inr (slot_ne (Or.inl (tw_145 hw)) (Or.inl (tw_149 hw)) (by decide) (t := (.object q_16)) (t' := (.object q_0)) (by decide) (by decide)))
 have f15_5 := Fld.other W15 f14_5 (Or.inr (slot_ne (Or.inl (tw_147 hw)) (Or.inl (tw_149 hw)) (by decide) (t := (.object q_16)) (t' := (.object q_0)) (by decide) (by decide)))
 have f15_6 := Fld.same W15 f14_6
 have f15_7 := Fld.other W15 f14_7 (Or.inr (slot_ne (Or.inl (tw_210 hw)) (Or.inl (tw_149 hw)) (by decide) (t := (.object q_0)) (t' := (.object q_0)) (by decide) (by decide)))
 have f15_8 := Fld.other W15 f14_8 (Or.inr (slot_ne (Or.inl (tw_168 hw)) (Or.inl (tw_149 hw)) (by decide) (t := (.object q_0)) (t' := (.object q_0)) (by decide) (by decide)))
 show oG p e below P m T15 24 #[(vR a0_), (vR kx), (vR vx), (vR px)] []
 refine own_fin hP hlk X15 (v := none) (fun _ => rfl) (by decide) (by decide) ?_ (fun fs hr => X15.returnOut hx hret (hb hby do_24) hr)
 rw [e15]
 exact ⟨rfl, N15, f15_1, f15_3, f15_4, f15_5, f15_6, f15_7, f15_8⟩
def Q_rotL (Z : State) (mp nd0 nd1 nd2 b0 b1 : Addr) (sz mc : Int32) (h0 : Heap) (n0 : Nat) (v : Option Value) (h : Heap) (L : List Loc) : Prop := v = none ∧ Fr n0 L ∧ Keep h0 h [mp, nd0, nd1] ∧ Exa Z h mp q_2 ∧ Fld Z h mp q_2 q_12 q_1 (.ref nd1) ∧ Fld Z h mp q_2 q_13 "I" (.int sz) ∧ Fld Z h mp q_2 q_14 "I" (.int mc) ∧ Fld Z h mp q_2 q_10 q_11 .null ∧ Exa Z h nd0 q_0 ∧ Fld Z h nd0 q_0 q_8 q_4 (.ref b0) ∧ Fld Z h nd0 q_0 q_6 q_1 .null ∧ Fld Z h nd0 q_0 q_9 q_1 .null ∧ Fld Z h nd0 q_0 q_5 q_1 (.ref nd1) ∧ Fld Z h nd0 q_0 q_7 "Z" (.int 0) ∧ Exa Z h nd1 q_0 ∧ Fld Z h nd1 q_0 q_8 q_4 (.ref b1) ∧ Fld Z h nd1 q_0 q_6 q_1 (.ref nd0) ∧ Fld Z h nd1 q_0 q_9 q_1 (.ref nd2) ∧ Fld Z h nd1 q_0 q_5 q_1 .null ∧ Fld Z h nd1 q_0 q_7 "Z" (.int 1)
theorem rm_rotL (l : Launch) (Z : State) (a0 : Array Value) (hw : oW a0 Z) (ws : List Jvm.Cond) (mp nd0 nd1 nd2 b0 b1 : Addr) (sz mc : Int32) (h0 : Heap) (n0 : Nat) (Z0 : n0 ≤ h0.size) (O0 : Old Z n0 h0) (s0 : Exa Z h0 mp q_2) (s1 : Fld Z h0 mp q_2 q_12 q_1 (.ref nd0)) (s2 : Fld Z h0 mp q_2 q_13 "I" (.int sz)) (s3 : Fld Z h0 mp q_2 q_14 "I" (.int mc)) (s4 : Fld Z h0 mp q_2 q_10 q_11 .null) (s5 : Exa Z h0 nd0 q_0) (s6 : Fld Z h0 nd0 q_0 q_8 q_4 (.ref b0)) (s7 : Fld Z h0 nd0 q_0 q_6 q_1 .null) (s8 : Fld Z h0 nd0 q_0 q_9 q_1 (.ref nd1)) (s9 : Fld Z h0 nd0 q_0 q_5 q_1 .null) (s10 : Fld Z h0 nd0 q_0 q_7 "Z" (.int 0)) (s11 : Exa Z h0 nd1 q_0) (s12 : Fld Z h0 nd1 q_0 q_8 q_4 (.ref b1)) (s13 : Fld Z h0 nd1 q_0 q_6 q_1 .null) (s14 : Fld Z h0 nd1 q_0 q_9 q_1 (.ref nd2)) (s15 : Fld Z h0 nd1 q_0 q_5 q_1 (.ref nd0)) (s16 : Fld Z h0 nd1 q_0 q_7 "Z" (.int 1)) (g_mp : n0 ≤ mp) (g_nd0 : n0 ≤ nd0) (g_nd1 : n0 ≤ nd1) (ne_nd0_nd1 : nd0 ≠ nd1) :
   oM l oY27 j2729_81 3 none ws (own_R 0 0 0 0) #[(.ref mp), (.ref nd0)] Z h0 (Q_rotL Z mp nd0 nd1 nd2 b0 b1 sz mc h0 n0) := by
 refine own_open (n0 := n0) (cn := q_2) rfl (plainFor_of_name pn0) (L0 := #[(vR mp), (vR nd0), .unset]) ?_
 intro p e s m below meth c s₁ P hx hby hml hown hnm X0 e0 N0 hlk hret hZ hP
 refine aA X0 hx hby dk_0 rfl rfl ?_
 refine w_ifnullNo X0 hx hby dk_1 ?_
 refine aA X0 hx hby dk_4 rfl rfl ?_
 refine gF X0 hx hby hZ hown (tw_167 hw) Via.refl e0 s8 dk_5 ?_
 intro T11 X11 e11
 refine aS X11 hx hby dk_8 rfl rfl ?_
 refine aA X11 hx hby dk_9 rfl rfl ?_
 refine aA X11 hx hby dk_10 rfl rfl ?_
 refine gF X11 hx hby hZ hown (tw_209 hw) Via.refl e11 s13 dk_11 ?_
 intro T12 X12 e12
 obtain ⟨T13, h13, X13, e13, W13, st13⟩ := putF X12 hx hZ hown (host := "") (Or.inl (tw_167 hw)) Via.refl e12 s8 s5 (Or.inl (tw_168 hw)) (tw_135 hw) (ty := (.object q_0)) (by decide) rfl rfl (g := (mkF m 14 #[(vR mp), (vR nd0), (vR nd1)] [.null, (.ref nd0)])) rfl rfl (hb hby dk_14)
 refine Go.by st13 ?_
 have N13 := Fr.snoc X13 N0 g_nd0
 have f13_1 := Keep.wr (Keep.refl h0 [mp, nd0, nd1]) W13 (Or.inl (List.mem_of_getElem? (i := 1) rfl))
 have f13_3 := Exa.wr W13 s0
 have f13_4 := Fld.other W13 s1 (Or.inl (ne_exa s0 s5 (by decide)))
 have f13_5 := Fld.other W13 s2 (Or.inl (ne_exa s0 s5 (by decide)))
 have f13_6 := Fld.other W13 s3 (Or.inl (ne_exa s0 s5 (by decide)))
 have f13_7 := Fld.other W13 s4 (Or.inl (ne_exa s0 s5 (by decide)))
 have f13_8 := Exa.wr W13 s5
 have f13_9 := Fld.other W13 s6 (Or.inr (slot_ne (Or.inl (tw_145 hw)) (Or.inl (tw_168 hw)) (by decide) (t := (.object q_16)) (t' := (.object q_0)) (by decide) (by decide)))
 have f13_10 := Fld.other W13 s7 (Or.inr (slot_ne (Or.inl (tw_210 hw)) (Or.inl (tw_168 hw)) (by decide) (t := (.object q_0)) (t' := (.object q_0)) (by decide) (by decide)))
 have f13_11 := Fld.same W13 s8
 have f13_12 := Fld.other W13 s9 (Or.inr (slot_ne (Or.inl (tw_149 hw)) (Or.inl (tw_168 hw)) (by decide) (t := (.object q_0)) (t' := (.object q_0)) (by decide) (by decide)))
 have f13_13 := Fld.other W13 s10 (Or.inr (slot_ne (Or.inl (tw_143 hw)) (Or.inl (tw_168 hw)) (by decide) (t := .boolean) (t' := (.object q_0)) (by decide) (by decide)))
 have f13_14 := Exa.wr W13 s11
 have f13_15 := Fld.other W13 s12 (Or.inl (Ne.symm ne_nd0_nd1))
 have f13_16 := Fld.other W13 s13 (Or.inl (Ne.symm ne_nd0_nd1))
 have f13_17 := Fld.other W13 s14 (Or.inl (Ne.symm ne_nd0_nd1))
 have f13_18 := Fld.other W13 s15 (Or.inl (Ne.symm ne_nd0_nd1))
 have f13_19 := Fld.other W13 s16 (Or.inl (Ne.symm ne_nd0_nd1))
 refine aA X13 hx hby dk_17 rfl rfl ?_
 refine gF X13 hx hby hZ hown (tw_209 hw) Via.refl e13 f13_16 dk_18 ?_
 intro T14 X14 e14
 refine w_ifnullYes X14 hx hby dk_21 (pc' := 32) ?_
 refine aA X14 hx hby dk_32 rfl rfl ?_
 refine aA X14 hx hby dk_33 rfl rfl ?_
 refine gF X14 hx hby hZ hown (tw_200 hw) Via.refl e14 f13_12 dk_34 ?_
 intro T15 X15 e15
 obtain ⟨T16, h16, X16, e16, W16, st16⟩ := putF X15 hx hZ hown (host := "") (Or.inl (tw_200 hw)) Via.refl e15 f13_18 f13_14 (Or.inl (tw_149 hw)) (tw_135 hw) (ty := (.object q_0)) (by decide) rfl rfl (g := (mkF m 37 #[(vR mp), (vR nd0), (vR nd1)] [.null, (.ref nd1)])) rfl rfl (hb hby dk_37)
 refine Go.by st16 ?_
 have N16 := Fr.snoc X16 N13 g_nd1
 have f16_1 := Keep.wr f13_1 W16 (Or.inl (List.mem_of_getElem? (i := 2) rfl))
 have f16_3 := Exa.wr W16 f13_3
 have f16_4 := Fld.other W16 f13_4 (Or.inl (ne_exa s0 s11 (by decide)))
 have f16_5 := Fld.other W16 f13_5 (Or.inl (ne_exa s0 s11 (by decide)))
 have f16_6 := Fld.other W16 f13_6 (Or.inl (ne_exa s0 s11 (by decide)))
 have f16_7 := Fld.other W16 f13_7 (Or.inl (ne_exa s0 s11 (by decide)))
 have f16_8 := Exa.wr W16 f13_8
 have f16_9 := Fld.other W16 f13_9 (Or.inl ne_nd0_nd1)
 have f16_10 := Fld.other W16 f13_10 (Or.inl ne_nd0_nd1)
 have f16_11 := Fld.other W16 f13_11 (Or.inl ne_nd0_nd1)
 have f16_12 := Fld.other W16 f13_12 (Or.inl ne_nd0_nd1)
 have f16_13 := Fld.other W16 f13_13 (Or.inl ne_nd0_nd1)
 have f16_14 := Exa.wr W16 f13_14
 have f16_15 := Fld.other W16 f13_15 (Or.inr (slot_ne (Or.inl (tw_145 hw)) (Or.inl (tw_149 hw)) (by decide) (t := (.object q_16)) (t' := (.object q_0)) (by decide) (by decide)))
 have f16_16 := Fld.other W16 f13_16 (Or.inr (slot_ne (Or.inl (tw_210 hw)) (Or.inl (tw_149 hw)) (by decide) (t := (.object q_0)) (t' := (.object q_0)) (by decide) (by decide)))
 have f16_17 := Fld.other W16 f13_17 (Or.inr (slot_ne (Or.inl (tw_168 hw)) (Or.inl (tw_149 hw)) (by decide) (t := (.object q_0)) (t' := (.object q_0)) (by decide) (by decide)))
 have f16_18 := Fld.same W16 f13_18
 have f16_19 := Fld.other W16 f13_19 (Or.inr (slot_ne (Or.inl (tw_143 hw)) (Or.inl (tw_149 hw)) (by decide) (t := .boolean) (t' := (.object q_0)) (by decide) (by decide)))
 refine aA X16 hx hby dk_40 rfl rfl ?_
 refine gF X16 hx hby hZ hown (tw_200 hw) Via.refl e16 f16_12 dk_41 ?_
 intro T17 X17 e17
 refine w_ifnonnullNo X17 hx hby dk_44 ?_
 refine aA X17 hx hby dk_47 rfl rfl ?_
 refine aA X17 hx hby dk_48 rfl rfl ?_
 obtain ⟨T18, h18, X18, e18, W18, st18⟩ := putF X17 hx hZ hown (host := "") (Or.inl (tw_100 hw)) Via.refl e17 f16_4 f16_3 (Or.inl (tw_101 hw)) (tw_43 hw) (ty := (.object q_0)) (by decide) rfl rfl (g := (mkF m 49 #[(vR mp), (vR nd0), (vR nd1)] [(.ref nd1), (.ref mp)])) rfl rfl (hb hby dk_49)
 refine Go.by st18 ?_
 have N18 := Fr.snoc X18 N16 g_mp
 have f18_1 := Keep.wr f16_1 W18 (Or.inl (List.mem_of_getElem? (i := 0) rfl))
 have f18_3 := Exa.wr W18 f16_3
 have f18_4 := Fld.same W18 f16_4
 have f18_5 := Fld.other W18 f16_5 (Or.inr (slot_ne (Or.inl (tw_56 hw)) (Or.inl (tw_101 hw)) (by decide) (t := .int) (t' := (.object q_0)) (by decide) (by decide)))
 have f18_6 := Fld.other W18 f16_6 (Or.inr (slot_ne (Or.inl (tw_58 hw)) (Or.inl (tw_101 hw)) (by decide) (t := .int) (t' := (.object q_0)) (by decide) (by decide)))
 have f18_7 := Fld.other W18 f16_7 (Or.inr (slot_ne (Or.inr (tw_60 hw)) (Or.inl (tw_101 hw)) (by decide) (t := (.object q_21)) (t' := (.object q_0)) (by decide) (by decide)))
 have f18_8 := Exa.wr W18 f16_8
 have f18_9 := Fld.other W18 f16_9 (Or.inl (Ne.symm (ne_exa s0 s5 (by decide))))
 have f18_10 := Fld.other W18 f16_10 (Or.inl (Ne.symm (ne_exa s0 s5 (by decide))))
 have f18_11 := Fld.other W18 f16_11 (Or.inl (Ne.symm (ne_exa s0 s5 (by decide))))
 have f18_12 := Fld.other W18 f16_12 (Or.inl (Ne.symm (ne_exa s0 s5 (by decide))))
 have f18_13 := Fld.other W18 f16_13 (Or.inl (Ne.symm (ne_exa s0 s5 (by decide))))
 have f18_14 := Exa.wr W18 f16_14
 have f18_15 := Fld.other W18 f16_15 (Or.inl (Ne.symm (ne_exa s0 s11 (by decide))))
 have f18_16 := Fld.other W18 f16_16 (Or.inl (Ne.symm (ne_exa s0 s11 (by decide))))
 have f18_17 := Fld.other W18 f16_17 (Or.inl (Ne.symm (ne_exa s0 s11 (by decide))))
 have f18_18 := Fld.other W18 f16_18 (Or.inl (Ne.symm (ne_exa s0 s11 (by decide))))
 have f18_19 := Fld.other W18 f16_19 (Or.inl (Ne.symm (ne_exa s0 s11 (by decide))))
 refine gO X18 hx hby dk_52 (pc' := 85) ?_
 refine aA X18 hx hby dk_85 rfl rfl ?_
 refine aA X18 hx hby dk_86 rfl rfl ?_
 obtain ⟨T19, h19, X19, e19, W19, st19⟩ := putF X18 hx hZ hown (host := "") (Or.inl (tw_209 hw)) Via.refl e18 f18_16 f18_14 (Or.inl (tw_210 hw)) (tw_135 hw) (ty := (.object q_0)) (by decide) rfl rfl (g := (mkF m 87 #[(vR mp), (vR nd0), (vR nd1)] [(.ref nd0), (.ref nd1)])) rfl rfl (hb hby dk_87)
 refine Go.by st19 ?_
 have N19 := Fr.snoc X19 N18 g_nd1
 have f19_1 := Keep.wr f18_1 W19 (Or.inl (List.mem_of_getElem? (i := 2) rfl))
 have f19_3 := Exa.wr W19 f18_3
 have f19_4 := Fld.other W19 f18_4 (Or.inl (ne_exa s0 s11 (by decide)))
 have f19_5 := Fld.other W19 f18_5 (Or.inl (ne_exa s0 s11 (by decide)))
 have f19_6 := Fld.other W19 f18_6 (Or.inl (ne_exa s0 s11 (by decide)))
 have f19_7 := Fld.other W19 f18_7 (Or.inl (ne_exa s0 s11 (by decide)))
 have f19_8 := Exa.wr W19 f18_8
 have f19_9 := Fld.other W19 f18_9 (Or.inl ne_nd0_nd1)
 have f19_10 := Fld.other W19 f18_10 (Or.inl ne_nd0_nd1)
 have f19_11 := Fld.other W19 f18_11 (Or.inl ne_nd0_nd1)
 have f19_12 := Fld.other W19 f18_12 (Or.inl ne_nd0_nd1)
 have f19_13 := Fld.other W19 f18_13 (Or.inl ne_nd0_nd1)
 have f19_14 := Exa.wr W19 f18_14
 have f19_15 := Fld.other W19 f18_15 (Or.inr (slot_ne (Or.inl (tw_145 hw)) (Or.inl (tw_210 hw)) (by decide) (t := (.object q_16)) (t' := (.object q_0)) (by decide) (by decide)))
 have f19_16 := Fld.same W19 f18_16
 have f19_17 := Fld.other W19 f18_17 (Or.inr (slot_ne (Or.inl (tw_168 hw)) (Or.inl (tw_210 hw)) (by decide) (t := (.object q_0)) (t' := (.object q_0)) (by decide) (by decide)))
 have f19_18 := Fld.other W19 f18_18 (Or.inr (slot_ne (Or.inl (tw_149 hw)) (Or.inl (tw_210 hw)) (by decide) (t := (.object q_0)) (t' := (.object q_0)) (by decide) (by decide)))
 have f19_19 := Fld.other W19 f18_19 (Or.inr (slot_ne (Or.inl (tw_143 hw)) (Or.inl (tw_210 hw)) (by decide) (t := .boolean) (t' := (.object q_0)) (by decide) (by decide)))
 refine aA X19 hx hby dk_90 rfl rfl ?_
 refine aA X19 hx hby dk_91 rfl rfl ?_
 obtain ⟨T20, h20, X20, e20, W20, st20⟩ := putF X19 hx hZ hown (host := "") (Or.inl (tw_200 hw)) Via.refl e19 f19_12 f19_8 (Or.inl (tw_149 hw)) (tw_135 hw) (ty := (.object q_0)) (by decide) rfl rfl (g := (mkF m 92 #[(vR mp), (vR nd0), (vR nd1)] [(.ref nd1), (.ref nd0)])) rfl rfl (hb hby dk_92)
 refine Go.by st20 ?_
 have N20 := Fr.snoc X20 N19 g_nd0
 have f20_1 := Keep.wr f19_1 W20 (Or.inl (List.mem_of_getElem? (i := 1) rfl))
 have f20_3 := Exa.wr W20 f19_3
 have f20_4 := Fld.other W20 f19_4 (Or.inl (ne_exa s0 s5 (by decide)))
 have f20_5 := Fld.other W20 f19_5 (Or.inl (ne_exa s0 s5 (by decide)))
 have f20_6 := Fld.other W20 f19_6 (Or.inl (ne_exa s0 s5 (by decide)))
 have f20_7 := Fld.other W20 f19_7 (Or.inl (ne_exa s0 s5 (by decide)))
 have f20_8 := Exa.wr W20 f19_8
 have f20_9 := Fld.other W20 f19_9 (Or.inr (slot_ne (Or.inl (tw_145 hw)) (Or.inl (tw_149 hw)) (by decide) (t := (.object q_16)) (t' := (.object q_0)) (by decide) (by decide)))
 have f20_10 := Fld.other W20 f19_10 (Or.inr (slot_ne (Or.inl (tw_210 hw)) (Or.inl (tw_149 hw)) (by decide) (t := (.object q_0)) (t' := (.object q_0)) (by decide) (by decide)))
 have f20_11 := Fld.other W20 f19_11 (Or.inr (slot_ne (Or.inl (tw_168 hw)) (Or.inl (tw_149 hw)) (by decide) (t := (.object q_0)) (t' := (.object q_0)) (by decide) (by decide)))
 have f20_12 := Fld.same W20 f19_12
 have f20_13 := Fld.other W20 f19_13 (Or.inr (slot_ne (Or.inl (tw_143 hw)) (Or.inl (tw_149 hw)) (by decide) (t := .boolean) (t' := (.object q_0)) (by decide) (by decide)))
 have f20_14 := Exa.wr W20 f19_14
 have f20_15 := Fld.other W20 f19_15 (Or.inl (Ne.symm ne_nd0_nd1))
 have f20_16 := Fld.other W20 f19_16 (Or.inl (Ne.symm ne_nd0_nd1))
 have f20_17 := Fld.other W20 f19_17 (Or.inl (Ne.symm ne_nd0_nd1))
 have f20_18 := Fld.other W20 f19_18 (Or.inl (Ne.symm ne_nd0_nd1))
 have f20_19 := Fld.other W20 f19_19 (Or.inl (Ne.symm ne_nd0_nd1))
 show oG p e below P m T20 95 #[(vR mp), (vR nd0), (vR nd1)] []
 refine own_fin hP hlk X20 (v := none) (fun _ => rfl) (by decide) (by decide) ?_ (fun fs hr => X20.returnOut hx hret (hb hby dk_95) hr)
 rw [e20]
 exact ⟨rfl, N20, f20_1, f20_3, f20_4, f20_5, f20_6, f20_7, f20_8, f20_9, f20_10, f20_11, f20_12, f20_13, f20_14, f20_15, f20_16, f20_17, f20_18, f20_19⟩
def Q_fix1 (Z : State) (mp nd0 nd1 b0 b1 : Addr) (sz mc : Int32) (h0 : Heap) (n0 : Nat) (v : Option Value) (h : Heap) (L : List Loc) : Prop := v = none ∧ Fr n0 L ∧ Keep h0 h [mp, nd0, nd1] ∧ Exa Z h mp q_2 ∧ Fld Z h mp q_2 q_12 q_1 (.ref nd0) ∧ Fld Z h mp q_2 q_13 "I" (.int sz) ∧ Fld Z h mp q_2 q_14 "I" (.int mc) ∧ Fld Z h mp q_2 q_10 q_11 .null ∧ Exa Z h nd0 q_0 ∧ Fld Z h nd0 q_0 q_8 q_4 (.ref b0) ∧ Fld Z h nd0 q_0 q_6 q_1 .null ∧ Fld Z h nd0 q_0 q_9 q_1 (.ref nd1) ∧ Fld Z h nd0 q_0 q_5 q_1 .null ∧ Fld Z h nd0 q_0 q_7 "Z" (.int 1) ∧ Exa Z h nd1 q_0 ∧ Fld Z h nd1 q_0 q_8 q_4 (.ref b1) ∧ Fld Z h nd1 q_0 q_6 q_1 .null ∧ Fld Z h nd1 q_0 q_9 q_1 .null ∧ Fld Z h nd1 q_0 q_5 q_1 (.ref nd0) ∧ Fld Z h nd1 q_0 q_7 "Z" (.int 0)
theorem rm_fix1 (l : Launch) (Z : State) (a0 : Array Value) (hw : oW a0 Z) (ws : List Jvm.Cond) (mp nd0 nd1 b0 b1 : Addr) (sz mc : Int32) (h0 : Heap) (n0 : Nat) (Z0 : n0 ≤ h0.size) (O0 : Old Z n0 h0) (s0 : Exa Z h0 mp q_2) (s1 : Fld Z h0 mp q_2 q_12 q_1 (.ref nd0)) (s2 : Fld Z h0 mp q_2 q_13 "I" (.int sz)) (s3 : Fld Z h0 mp q_2 q_14 "I" (.int mc)) (s4 : Fld Z h0 mp q_2 q_10 q_11 .null) (s5 : Exa Z h0 nd0 q_0) (s6 : Fld Z h0 nd0 q_0 q_8 q_4 (.ref b0)) (s7 : Fld Z h0 nd0 q_0 q_6 q_1 .null) (s8 : Fld Z h0 nd0 q_0 q_9 q_1 (.ref nd1)) (s9 : Fld Z h0 nd0 q_0 q_5 q_1 .null) (s10 : Fld Z h0 nd0 q_0 q_7 "Z" (.int 1)) (s11 : Exa Z h0 nd1 q_0) (s12 : Fld Z h0 nd1 q_0 q_8 q_4 (.ref b1)) (s13 : Fld Z h0 nd1 q_0 q_6 q_1 .null) (s14 : Fld Z h0 nd1 q_0 q_9 q_1 .null) (s15 : Fld Z h0 nd1 q_0 q_5 q_1 (.ref nd0)) (s16 : Fld Z h0 nd1 q_0 q_7 "Z" (.int 1)) (g_mp : n0 ≤ mp) (g_nd0 : n0 ≤ nd0) (g_nd1 : n0 ≤ nd1) (ne_nd0_nd1 : nd0 ≠ nd1) :
   oM l oY16 j2729_83 3 none ws (own_R 1 0 0 16) #[(.ref mp), (.ref nd1)] Z h0 (Q_fix1 Z mp nd0 nd1 b0 b1 sz mc h0 n0) := by
 refine own_open (n0 := n0) (cn := q_2) rfl (plainFor_of_name pn0) (L0 := #[(vR mp), (vR nd1), .unset]) ?_
 intro p e s m below meth c s₁ P hx hby hml hown hnm X0 e0 N0 hlk hret hZ hP
 refine aA X0 hx hby dd_0 rfl rfl ?_
 refine iC X0 hx hby dd_1 (v := 0) rfl ?_
 obtain ⟨T11, h11, X11, e11, W11, st11⟩ := putFN X0 hx hZ hown (tw_199 hw) Via.refl e0 s16 s11 (Or.inl (tw_143 hw)) (tw_135 hw) (ty := .boolean) (v' := (.int 0)) (by decide) rfl rfl (g := (mkF m 2 #[(vR mp), (vR nd1), .unset] [(.int 0), (.ref nd1)])) rfl rfl (hb hby dd_2)
 refine Go.by st11 ?_
 have N11 := Fr.snoc X11 N0 g_nd1
 have f11_1 := Keep.wr (Keep.refl h0 [mp, nd0, nd1]) W11 (Or.inl (List.mem_of_getElem? (i := 2) rfl))
 have f11_3 := Exa.wr W11 s0
 have f11_4 := Fld.other W11 s1 (Or.inl (ne_exa s0 s11 (by decide)))
 have f11_5 := Fld.other W11 s2 (Or.inl (ne_exa s0 s11 (by decide)))
 have f11_6 := Fld.other W11 s3 (Or.inl (ne_exa s0 s11 (by decide)))
 have f11_7 := Fld.other W11 s4 (Or.inl (ne_exa s0 s11 (by decide)))
 have f11_8 := Exa.wr W11 s5
 have f11_9 := Fld.other W11 s6 (Or.inl ne_nd0_nd1)
 have f11_10 := Fld.other W11 s7 (Or.inl ne_nd0_nd1)
 have f11_11 := Fld.other W11 s8 (Or.inl ne_nd0_nd1)
 have f11_12 := Fld.other W11 s9 (Or.inl ne_nd0_nd1)
 have f11_13 := Fld.other W11 s10 (Or.inl ne_nd0_nd1)
 have f11_14 := Exa.wr W11 s11
 have f11_15 := Fld.other W11 s12 (Or.inr (slot_ne (Or.inl (tw_145 hw)) (Or.inl (tw_143 hw)) (by decide) (t := (.object q_16)) (t' := .boolean) (by decide) (by decide)))
 have f11_16 := Fld.other W11 s13 (Or.inr (slot_ne (Or.inl (tw_210 hw)) (Or.inl (tw_143 hw)) (by decide) (t := (.object q_0)) (t' := .boolean) (by decide) (by decide)))
 have f11_17 := Fld.other W11 s14 (Or.inr (slot_ne (Or.inl (tw_168 hw)) (Or.inl (tw_143 hw)) (by decide) (t := (.object q_0)) (t' := .boolean) (by decide) (by decide)))
 have f11_18 := Fld.other W11 s15 (Or.inr (slot_ne (Or.inl (tw_149 hw)) (Or.inl (tw_143 hw)) (by decide) (t := (.object q_0)) (t' := .boolean) (by decide) (by decide)))
 have f11_19 := Fld.same W11 s16
 refine aA X11 hx hby dd_5 rfl rfl ?_
 refine w_ifnullNo X11 hx hby dd_6 ?_
 refine aA X11 hx hby dd_9 rfl rfl ?_
 refine aA X11 hx hby dd_10 rfl rfl ?_
 refine gF X11 hx hby hZ hown (tw_100 hw) Via.refl e11 f11_4 dd_11 ?_
 intro T12 X12 e12
 refine Go.by (fun _ => Jvm.RoadKit.acmp (g := (mkF m 14 #[(vR mp), (vR nd1), .unset] [(.ref nd0), (.ref nd1)])) X12 hx rfl rfl rfl (pc0 := 14) (pc' := 17) (same := false) rfl (hb hby dd_14) rfl (decide_eq_false fun q => (Ne.symm ne_nd0_nd1) (Value.ref.inj q)) (by decide) (by decide)) ?_
 show oG p e below P m T12 17 #[(vR mp), (vR nd1), .unset] []
 refine aA X12 hx hby dd_17 rfl rfl ?_
 refine gF X12 hx hby hZ hown (tw_200 hw) Via.refl e12 f11_18 dd_18 ?_
 intro T13 X13 e13
 refine gF X13 hx hby hZ hown (tw_199 hw) Via.refl e13 f11_13 dd_21 ?_
 intro T14 X14 e14
 refine fY X14 hx hby dd_24 (pc' := 258) (XT.i0_ne_t (by decide : ¬ (1 : Int32) = (0 : Int32))) ?_
 refine aA X14 hx hby dd_258 rfl rfl ?_
 refine gF X14 hx hby hZ hown (tw_100 hw) Via.refl e14 f11_4 dd_259 ?_
 intro T15 X15 e15
 refine iC X15 hx hby dd_262 (v := 1) rfl ?_
 obtain ⟨T16, h16, X16, e16, W16, st16⟩ := putFN X15 hx hZ hown (tw_199 hw) Via.refl e15 f11_13 f11_8 (Or.inl (tw_143 hw)) (tw_135 hw) (ty := .boolean) (v' := (.int 1)) (by decide) rfl rfl (g := (mkF m 263 #[(vR mp), (vR nd1), .unset] [(.int 1), (.ref nd0)])) rfl rfl (hb hby dd_263)
 refine Go.by st16 ?_
 have N16 := Fr.snoc X16 N11 g_nd0
 have f16_1 := Keep.wr f11_1 W16 (Or.inl (List.mem_of_getElem? (i := 1) rfl))
 have f16_3 := Exa.wr W16 f11_3
 have f16_4 := Fld.other W16 f11_4 (Or.inl (ne_exa s0 s5 (by decide)))
 have f16_5 := Fld.other W16 f11_5 (Or.inl (ne_exa s0 s5 (by decide)))
 have f16_6 := Fld.other W16 f11_6 (Or.inl (ne_exa s0 s5 (by decide)))
 have f16_7 := Fld.other W16 f11_7 (Or.inl (ne_exa s0 s5 (by decide)))
 have f16_8 := Exa.wr W16 f11_8
 have f16_9 := Fld.other W16 f11_9 (Or.inr (slot_ne (Or.inl (tw_145 hw)) (Or.inl (tw_143 hw)) (by decide) (t := (.object q_16)) (t' := .boolean) (by decide) (by decide)))
 have f16_10 := Fld.other W16 f11_10 (Or.inr (slot_ne (Or.inl (tw_210 hw)) (Or.inl (tw_143 hw)) (by decide) (t := (.object q_0)) (t' := .boolean) (by decide) (by decide)))
 have f16_11 := Fld.other W16 f11_11 (Or.inr (slot_ne (Or.inl (tw_168 hw)) (Or.inl (tw_143 hw)) (by decide) (t := (.object q_0)) (t' := .boolean) (by decide) (by decide)))
 have f16_12 := Fld.other W16 f11_12 (Or.inr (slot_ne (Or.inl (tw_149 hw)) (Or.inl (tw_143 hw)) (by decide) (t := (.object q_0)) (t' := .boolean) (by decide) (by decide)))
 have f16_13 := Fld.same W16 f11_13
 have f16_14 := Exa.wr W16 f11_14
 have f16_15 := Fld.other W16 f11_15 (Or.inl (Ne.symm ne_nd0_nd1))
 have f16_16 := Fld.other W16 f11_16 (Or.inl (Ne.symm ne_nd0_nd1))
 have f16_17 := Fld.other W16 f11_17 (Or.inl (Ne.symm ne_nd0_nd1))
 have f16_18 := Fld.other W16 f11_18 (Or.inl (Ne.symm ne_nd0_nd1))
 have f16_19 := Fld.other W16 f11_19 (Or.inl (Ne.symm ne_nd0_nd1))
 show oG p e below P m T16 266 #[(vR mp), (vR nd1), .unset] []
 refine own_fin hP hlk X16 (v := none) (fun _ => rfl) (by decide) (by decide) ?_ (fun fs hr => X16.returnOut hx hret (hb hby dd_266) hr)
 rw [e16]
 exact ⟨rfl, N16, f16_1, f16_3, f16_4, f16_5, f16_6, f16_7, f16_8, f16_9, f16_10, f16_11, f16_12, f16_13, f16_14, f16_15, f16_16, f16_17, f16_18, f16_19⟩
def Q_fix2 (Z : State) (mp nd0 nd1 nd2 b0 b1 b2 : Addr) (sz mc : Int32) (h0 : Heap) (n0 : Nat) (v : Option Value) (h : Heap) (L : List Loc) : Prop := v = none ∧ Fr n0 L ∧ Keep h0 h [mp, nd0, nd1, nd2] ∧ Exa Z h mp q_2 ∧ Fld Z h mp q_2 q_12 q_1 (.ref nd1) ∧ Fld Z h mp q_2 q_13 "I" (.int sz) ∧ Fld Z h mp q_2 q_14 "I" (.int mc) ∧ Fld Z h mp q_2 q_10 q_11 .null ∧ Exa Z h nd0 q_0 ∧ Fld Z h nd0 q_0 q_8 q_4 (.ref b0) ∧ Fld Z h nd0 q_0 q_6 q_1 .null ∧ Fld Z h nd0 q_0 q_9 q_1 .null ∧ Fld Z h nd0 q_0 q_5 q_1 (.ref nd1) ∧ Fld Z h nd0 q_0 q_7 "Z" (.int 0) ∧ Exa Z h nd1 q_0 ∧ Fld Z h nd1 q_0 q_8 q_4 (.ref b1) ∧ Fld Z h nd1 q_0 q_6 q_1 (.ref nd0) ∧ Fld Z h nd1 q_0 q_9 q_1 (.ref nd2) ∧ Fld Z h nd1 q_0 q_5 q_1 .null ∧ Fld Z h nd1 q_0 q_7 "Z" (.int 1) ∧ Exa Z h nd2 q_0 ∧ Fld Z h nd2 q_0 q_8 q_4 (.ref b2) ∧ Fld Z h nd2 q_0 q_6 q_1 .null ∧ Fld Z h nd2 q_0 q_9 q_1 .null ∧ Fld Z h nd2 q_0 q_5 q_1 (.ref nd1) ∧ Fld Z h nd2 q_0 q_7 "Z" (.int 0)
theorem rm_fix2 (l : Launch) (Z : State) (a0 : Array Value) (hw : oW a0 Z) (ws : List Jvm.Cond) (mp nd0 nd1 nd2 b0 b1 b2 : Addr) (sz mc : Int32) (h0 : Heap) (n0 : Nat) (Z0 : n0 ≤ h0.size) (O0 : Old Z n0 h0) (s0 : Exa Z h0 mp q_2) (s1 : Fld Z h0 mp q_2 q_12 q_1 (.ref nd0)) (s2 : Fld Z h0 mp q_2 q_13 "I" (.int sz)) (s3 : Fld Z h0 mp q_2 q_14 "I" (.int mc)) (s4 : Fld Z h0 mp q_2 q_10 q_11 .null) (s5 : Exa Z h0 nd0 q_0) (s6 : Fld Z h0 nd0 q_0 q_8 q_4 (.ref b0)) (s7 : Fld Z h0 nd0 q_0 q_6 q_1 .null) (s8 : Fld Z h0 nd0 q_0 q_9 q_1 (.ref nd1)) (s9 : Fld Z h0 nd0 q_0 q_5 q_1 .null) (s10 : Fld Z h0 nd0 q_0 q_7 "Z" (.int 1)) (s11 : Exa Z h0 nd1 q_0) (s12 : Fld Z h0 nd1 q_0 q_8 q_4 (.ref b1)) (s13 : Fld Z h0 nd1 q_0 q_6 q_1 .null) (s14 : Fld Z h0 nd1 q_0 q_9 q_1 (.ref nd2)) (s15 : Fld Z h0 nd1 q_0 q_5 q_1 (.ref nd0)) (s16 : Fld Z h0 nd1 q_0 q_7 "Z" (.int 0)) (s17 : Exa Z h0 nd2 q_0) (s18 : Fld Z h0 nd2 q_0 q_8 q_4 (.ref b2)) (s19 : Fld Z h0 nd2 q_0 q_6 q_1 .null) (s20 : Fld Z h0 nd2 q_0 q_9 q_1 .null) (s21 : Fld Z h0 nd2 q_0 q_5 q_1 (.ref nd1)) (s22 : Fld Z h0 nd2 q_0 q_7 "Z" (.int 1)) (g_mp : n0 ≤ mp) (g_nd0 : n0 ≤ nd0) (g_nd1 : n0 ≤ nd1) (g_nd2 : n0 ≤ nd2) (ne_nd0_nd1 : nd0 ≠ nd1) (ne_nd0_nd2 : nd0 ≠ nd2) (ne_nd1_nd2 : nd1 ≠ nd2) :
   oM l oY16 j2729_83 3 none ws (own_R 1 0 0 16) #[(.ref mp), (.ref nd2)] Z h0 (Q_fix2 Z mp nd0 nd1 nd2 b0 b1 b2 sz mc h0 n0) := by
 refine own_open (n0 := n0) (cn := q_2) rfl (plainFor_of_name pn0) (L0 := #[(vR mp), (vR nd2), .unset]) ?_
 intro p e s m below meth c s₁ P hx hby hml hown hnm X0 e0 N0 hlk hret hZ hP
 refine aA X0 hx hby dd_0 rfl rfl ?_
 refine iC X0 hx hby dd_1 (v := 0) rfl ?_
 obtain ⟨T11, h11, X11, e11, W11, st11⟩ := putFN X0 hx hZ hown (tw_199 hw) Via.refl e0 s22 s17 (Or.inl (tw_143 hw)) (tw_135 hw) (ty := .boolean) (v' := (.int 0)) (by decide) rfl rfl (g := (mkF m 2 #[(vR mp), (vR nd2), .unset] [(.int 0), (.ref nd2)])) rfl rfl (hb hby dd_2)
 refine Go.by st11 ?_
 have N11 := Fr.snoc X11 N0 g_nd2
 have f11_0 := Nat.le_trans Z0 (Keep.of_wr W11).1
 have f11_1 := Keep.wr (Keep.refl h0 [mp, nd0, nd1, nd2]) W11 (Or.inl (List.mem_of_getElem? (i := 3) rfl))
 have f11_2 := Old.wr O0 W11 g_nd2
 have f11_3 := Exa.wr W11 s0
 have f11_4 := Fld.other W11 s1 (Or.inl (ne_exa s0 s17 (by decide)))
 have f11_5 := Fld.other W11 s2 (Or.inl (ne_exa s0 s17 (by decide)))
 have f11_6 := Fld.other W11 s3 (Or.inl (ne_exa s0 s17 (by decide)))
 have f11_7 := Fld.other W11 s4 (Or.inl (ne_exa s0 s17 (by decide)))
 have f11_8 := Exa.wr W11 s5
 have f11_9 := Fld.other W11 s6 (Or.inl ne_nd0_nd2)
 have f11_10 := Fld.other W11 s7 (Or.inl ne_nd0_nd2)
 have f11_11 := Fld.other W11 s8 (Or.inl ne_nd0_nd2)
 have f11_12 := Fld.other W11 s9 (Or.inl ne_nd0_nd2)
 have f11_13 := Fld.other W11 s10 (Or.inl ne_nd0_nd2)
 have f11_14 := Exa.wr W11 s11
 have f11_15 := Fld.other W11 s12 (Or.inl ne_nd1_nd2)
 have f11_16 := Fld.other W11 s13 (Or.inl ne_nd1_nd2)
 have f11_17 := Fld.other W11 s14 (Or.inl ne_nd1_nd2)
 have f11_18 := Fld.other W11 s15 (Or.inl ne_nd1_nd2)
 have f11_19 := Fld.other W11 s16 (Or.inl ne_nd1_nd2)
 have f11_20 := Exa.wr W11 s17
 have f11_21 := Fld.other W11 s18 (Or.inr (slot_ne (Or.inl (tw_145 hw)) (Or.inl (tw_143 hw)) (by decide) (t := (.object q_16)) (t' := .boolean) (by decide) (by decide)))
 have f11_22 := Fld.other W11 s19 (Or.inr (slot_ne (Or.inl (tw_210 hw)) (Or.inl (tw_143 hw)) (by decide) (t := (.object q_0)) (t' := .boolean) (by decide) (by decide)))
 have f11_23 := Fld.other W11 s20 (Or.inr (slot_ne (Or.inl (tw_168 hw)) (Or.inl (tw_143 hw)) (by decide) (t := (.object q_0)) (t' := .boolean) (by decide) (by decide)))
 have f11_24 := Fld.other W11 s21 (Or.inr (slot_ne (Or.inl (tw_149 hw)) (Or.inl (tw_143 hw)) (by decide) (t := (.object q_0)) (t' := .boolean) (by decide) (by decide)))
 have f11_25 := Fld.same W11 s22
 refine aA X11 hx hby dd_5 rfl rfl ?_
 refine w_ifnullNo X11 hx hby dd_6 ?_
 refine aA X11 hx hby dd_9 rfl rfl ?_
 refine aA X11 hx hby dd_10 rfl rfl ?_
 refine gF X11 hx hby hZ hown (tw_100 hw) Via.refl e11 f11_4 dd_11 ?_
 intro T12 X12 e12
 refine Go.by (fun _ => Jvm.RoadKit.acmp (g := (mkF m 14 #[(vR mp), (vR nd2), .unset] [(.ref nd0), (.ref nd2)])) X12 hx rfl rfl rfl (pc0 := 14) (pc' := 17) (same := false) rfl (hb hby dd_14) rfl (decide_eq_false fun q => (Ne.symm ne_nd0_nd2) (Value.ref.inj q)) (by decide) (by decide)) ?_
 show oG p e below P m T12 17 #[(vR mp), (vR nd2), .unset] []
 refine aA X12 hx hby dd_17 rfl rfl ?_
 refine gF X12 hx hby hZ hown (tw_200 hw) Via.refl e12 f11_24 dd_18 ?_
 intro T13 X13 e13
 refine gF X13 hx hby hZ hown (tw_199 hw) Via.refl e13 f11_19 dd_21 ?_
 intro T14 X14 e14
 refine fN X14 hx hby dd_24 (XT.i0_ne_f (by decide : (0 : Int32) = (0 : Int32))) ?_
 refine aA X14 hx hby dd_27 rfl rfl ?_
 refine c_stat 0 X14 hx hby hml hZ hown (tw_203 hw) (tw_204 hw) (tw_44 hw) (tw_205 hw) (rm_parentOf l Z a0 hw [] nd2 (.ref nd1) h11 n0 f11_0 rfl f11_24) e14 dd_28 [(.ref nd2)] [] (lenOf pd2 rfl) rfl rfl ?_
 rintro _ T15 Lc15 ⟨rfl, N15q, q15⟩ X15
 have N15 := Fr.app N11 N15q
 refine aA X15 hx hby dd_31 rfl rfl ?_
 refine c_stat 1 X15 hx hby hml hZ hown (tw_203 hw) (tw_204 hw) (tw_44 hw) (tw_205 hw) (rm_parentOf l Z a0 hw [] nd2 (.ref nd1) h11 n0 f11_0 rfl f11_24) q15 dd_32 [(.ref nd2)] [(.ref nd1)] (lenOf pd2 rfl) rfl rfl ?_
 rintro _ T16 Lc16 ⟨rfl, N16q, q16⟩ X16
 have N16 := Fr.app N15 N16q
 refine c_stat 1 X16 hx hby hml hZ hown (tw_203 hw) (tw_204 hw) (tw_44 hw) (tw_205 hw) (rm_parentOf l Z a0 hw [] nd1 (.ref nd0) h11 n0 f11_0 rfl f11_18) q16 dd_35 [(.ref nd1)] [(.ref nd1)] (lenOf pd2 rfl) rfl rfl ?_
 rintro _ T17 Lc17 ⟨rfl, N17q, q17⟩ X17
 have N17 := Fr.app N16 N17q
 refine c_stat 1 X17 hx hby hml hZ hown (tw_206 hw) (tw_207 hw) (tw_44 hw) (tw_208 hw) (rm_leftOf l Z a0 hw [] nd0 .null h11 n0 f11_0 rfl f11_10) q17 dd_38 [(.ref nd0)] [(.ref nd1)] (lenOf pd2 rfl) rfl rfl ?_
 rintro _ T18 Lc18 ⟨rfl, N18q, q18⟩ X18
 have N18 := Fr.app N17 N18q
 refine Go.by (fun _ => Jvm.RoadKit.acmp (g := (mkF m 41 #[(vR mp), (vR nd2), .unset] [.null, (.ref nd1)])) X18 hx rfl rfl rfl (pc0 := 41) (pc' := 151) (same := false) rfl (hb hby dd_41) rfl (decide_eq_false nofun) (by decide) (by decide)) ?_
 show oG p e below P m T18 151 #[(vR mp), (vR nd2), .unset] []
 refine aA X18 hx hby dd_151 rfl rfl ?_
 refine c_stat 0 X18 hx hby hml hZ hown (tw_203 hw) (tw_204 hw) (tw_44 hw) (tw_205 hw) (rm_parentOf l Z a0 hw [] nd2 (.ref nd1) h11 n0 f11_0 rfl f11_24) q18 dd_152 [(.ref nd2)] [] (lenOf pd2 rfl) rfl rfl ?_
 rintro _ T19 Lc19 ⟨rfl, N19q, q19⟩ X19
 have N19 := Fr.app N18 N19q
 refine c_stat 0 X19 hx hby hml hZ hown (tw_203 hw) (tw_204 hw) (tw_44 hw) (tw_205 hw) (rm_parentOf l Z a0 hw [] nd1 (.ref nd0) h11 n0 f11_0 rfl f11_18) q19 dd_155 [(.ref nd1)] [] (lenOf pd2 rfl) rfl rfl ?_
 rintro _ T20 Lc20 ⟨rfl, N20q, q20⟩ X20
 have N20 := Fr.app N19 N20q
 refine c_stat 0 X20 hx hby hml hZ hown (tw_206 hw) (tw_207 hw) (tw_44 hw) (tw_208 hw) (rm_leftOf l Z a0 hw [] nd0 .null h11 n0 f11_0 rfl f11_10) q20 dd_158 [(.ref nd0)] [] (lenOf pd2 rfl) rfl rfl ?_
 rintro _ T21 Lc21 ⟨rfl, N21q, q21⟩ X21
 have N21 := Fr.app N20 N21q
 refine aS X21 hx hby dd_161 rfl rfl ?_
 refine aA X21 hx hby dd_162 rfl rfl ?_
 refine c_stat 0 X21 hx hby hml hZ hown (tw_211 hw) (tw_212 hw) (tw_44 hw) (tw_213 hw) (rm_colorOfN l Z a0 hw []  h11 n0 f11_0 ) q21 dd_163 [.null] [] (lenOf pd21 rfl) rfl rfl ?_
 rintro _ T22 Lc22 ⟨rfl, N22q, q22⟩ X22
 have N22 := Fr.app N21 N22q
 refine fY X22 hx hby dd_166 (pc' := 204) (XT.i0_ne_t (by decide : ¬ (1 : Int32) = (0 : Int32))) ?_
 refine aA X22 hx hby dd_204 rfl rfl ?_
 refine aA X22 hx hby dd_205 rfl rfl ?_
 refine c_stat 1 X22 hx hby hml hZ hown (tw_203 hw) (tw_204 hw) (tw_44 hw) (tw_205 hw) (rm_parentOf l Z a0 hw [] nd2 (.ref nd1) h11 n0 f11_0 rfl f11_24) q22 dd_206 [(.ref nd2)] [(.ref nd2)] (lenOf pd2 rfl) rfl rfl ?_
 rintro _ T23 Lc23 ⟨rfl, N23q, q23⟩ X23
 have N23 := Fr.app N22 N23q
 refine c_stat 1 X23 hx hby hml hZ hown (tw_206 hw) (tw_207 hw) (tw_44 hw) (tw_208 hw) (rm_leftOf l Z a0 hw [] nd1 .null h11 n0 f11_0 rfl f11_16) q23 dd_209 [(.ref nd1)] [(.ref nd2)] (lenOf pd2 rfl) rfl rfl ?_
 rintro _ T24 Lc24 ⟨rfl, N24q, q24⟩ X24
 have N24 := Fr.app N23 N24q
 refine Go.by (fun _ => Jvm.RoadKit.acmp (g := (mkF m 212 #[(vR mp), (vR nd2), .val .null] [.null, (.ref nd2)])) X24 hx rfl rfl rfl (pc0 := 212) (pc' := 225) (same := false) rfl (hb hby dd_212) rfl (decide_eq_false nofun) (by decide) (by decide)) ?_
 show oG p e below P m T24 225 #[(vR mp), (vR nd2), .val .null] []
 refine aA X24 hx hby dd_225 rfl rfl ?_
 refine c_stat 0 X24 hx hby hml hZ hown (tw_203 hw) (tw_204 hw) (tw_44 hw) (tw_205 hw) (rm_parentOf l Z a0 hw [] nd2 (.ref nd1) h11 n0 f11_0 rfl f11_24) q24 dd_226 [(.ref nd2)] [] (lenOf pd2 rfl) rfl rfl ?_
 rintro _ T25 Lc25 ⟨rfl, N25q, q25⟩ X25
 have N25 := Fr.app N24 N25q
 refine iC X25 hx hby dd_229 (v := 1) rfl ?_
 refine c_stat 0 X25 hx hby hml hZ hown (tw_214 hw) (tw_215 hw) (tw_44 hw) (tw_216 hw) (rm_setColor1 l Z a0 hw [] nd1 (0 : Int32) (.ref b1) .null (.ref nd2) (.ref nd0) h11 n0 f11_0 f11_14 g_nd1 f11_19 f11_15 f11_16 f11_17 f11_18) q25 dd_230 [(.ref nd1), (.int 1)] [] (lenOf pd12 rfl) rfl rfl ?_
 rintro _ T26 Lc26 ⟨rfl, N26q, K26, G26_c, G26_0, G26_1, G26_2, G26_3⟩ X26
 have N26 := Fr.app N25 N26q
 have u26_0 := ninS (ne_exa s0 s11 (by decide)) nin0
 have u26_1 := ninS (Ne.symm ne_nd1_nd2) nin0
 have u26_2 := ninS ne_nd0_nd1 nin0
 have f26_0 := Nat.le_trans f11_0 K26.1
 have f26_1 := Keep.trans f11_1 K26 (allS (Or.inl (List.mem_of_getElem? (i := 2) rfl)) all0)
 have f26_2 := Old.keep f11_2 K26 (allS g_nd1 all0)
 have f26_3 := Exa.keep f11_3 K26
 have f26_4 := Fld.keep f11_4 K26 u26_0
 have f26_5 := Fld.keep f11_5 K26 u26_0
 have f26_6 := Fld.keep f11_6 K26 u26_0
 have f26_7 := Fld.keep f11_7 K26 u26_0
 have f26_8 := Exa.keep f11_8 K26
 have f26_9 := Fld.keep f11_9 K26 u26_2
 have f26_10 := Fld.keep f11_10 K26 u26_2
 have f26_11 := Fld.keep f11_11 K26 u26_2
 have f26_12 := Fld.keep f11_12 K26 u26_2
 have f26_13 := Fld.keep f11_13 K26 u26_2
 have f26_14 := Exa.keep f11_14 K26
 have f26_15 := Exa.keep f11_20 K26
 have f26_16 := Fld.keep f11_21 K26 u26_1
 have f26_17 := Fld.keep f11_22 K26 u26_1
 have f26_18 := Fld.keep f11_23 K26 u26_1
 have f26_19 := Fld.keep f11_24 K26 u26_1
 have f26_20 := Fld.keep f11_25 K26 u26_1
 refine aA X26 hx hby dd_233 rfl rfl ?_
 refine c_stat 0 X26 hx hby hml hZ hown (tw_203 hw) (tw_204 hw) (tw_44 hw) (tw_205 hw) (rm_parentOf l Z a0 hw [] nd2 (.ref nd1) T26.heap n0 f26_0 rfl f26_19) rfl dd_234 [(.ref nd2)] [] (lenOf pd2 rfl) rfl rfl ?_
 rintro _ T27 Lc27 ⟨rfl, N27q, q27⟩ X27
 have N27 := Fr.app N26 N27q
 refine c_stat 0 X27 hx hby hml hZ hown (tw_203 hw) (tw_204 hw) (tw_44 hw) (tw_205 hw) (rm_parentOf l Z a0 hw [] nd1 (.ref nd0) T26.heap n0 f26_0 rfl G26_3) q27 dd_237 [(.ref nd1)] [] (lenOf pd2 rfl) rfl rfl ?_
 rintro _ T28 Lc28 ⟨rfl, N28q, q28⟩ X28
 have N28 := Fr.app N27 N28q
 refine iC X28 hx hby dd_240 (v := 0) rfl ?_
 refine c_stat 0 X28 hx hby hml hZ hown (tw_214 hw) (tw_215 hw) (tw_44 hw) (tw_216 hw) (rm_setColor0 l Z a0 hw [] nd0 (1 : Int32) (.ref b0) .null (.ref nd1) .null T26.heap n0 f26_0 f26_8 g_nd0 f26_13 f26_9 f26_10 f26_11 f26_12) q28 dd_241 [(.ref nd0), (.int 0)] [] (lenOf pd12 rfl) rfl rfl ?_
 rintro _ T29 Lc29 ⟨rfl, N29q, K29, G29_c, G29_0, G29_1, G29_2, G29_3⟩ X29
 have N29 := Fr.app N28 N29q
 have u29_0 := ninS (ne_exa s0 s5 (by decide)) nin0
 have u29_1 := ninS (Ne.symm ne_nd0_nd2) nin0
 have u29_2 := ninS (Ne.symm ne_nd0_nd1) nin0
 have f29_0 := Nat.le_trans f26_0 K29.1
 have f29_1 := Keep.trans f26_1 K29 (allS (Or.inl (List.mem_of_getElem? (i := 1) rfl)) all0)
 have f29_2 := Old.keep f26_2 K29 (allS g_nd0 all0)
 have f29_3 := Exa.keep f26_3 K29
 have f29_4 := Fld.keep f26_4 K29 u29_0
 have f29_5 := Fld.keep f26_5 K29 u29_0
 have f29_6 := Fld.keep f26_6 K29 u29_0
 have f29_7 := Fld.keep f26_7 K29 u29_0
 have f29_8 := Exa.keep f26_8 K29
 have f29_9 := Exa.keep f26_14 K29
 have f29_10 := Exa.keep f26_15 K29
 have f29_11 := Fld.keep f26_16 K29 u29_1
 have f29_12 := Fld.keep f26_17 K29 u29_1
 have f29_13 := Fld.keep f26_18 K29 u29_1
 have f29_14 := Fld.keep f26_19 K29 u29_1
 have f29_15 := Fld.keep f26_20 K29 u29_1
 have f29_16 := Fld.keep G26_c K29 u29_2
 have f29_17 := Fld.keep G26_0 K29 u29_2
 have f29_18 := Fld.keep G26_1 K29 u29_2
 have f29_19 := Fld.keep G26_2 K29 u29_2
 have f29_20 := Fld.keep G26_3 K29 u29_2
 refine aA X29 hx hby dd_244 rfl rfl ?_
 refine aA X29 hx hby dd_245 rfl rfl ?_
 refine c_stat 1 X29 hx hby hml hZ hown (tw_203 hw) (tw_204 hw) (tw_44 hw) (tw_205 hw) (rm_parentOf l Z a0 hw [] nd2 (.ref nd1) T29.heap n0 f29_0 rfl f29_14) rfl dd_246 [(.ref nd2)] [(.ref mp)] (lenOf pd2 rfl) rfl rfl ?_
 rintro _ T30 Lc30 ⟨rfl, N30q, q30⟩ X30
 have N30 := Fr.app N29 N30q
 refine c_stat 1 X30 hx hby hml hZ hown (tw_203 hw) (tw_204 hw) (tw_44 hw) (tw_205 hw) (rm_parentOf l Z a0 hw [] nd1 (.ref nd0) T29.heap n0 f29_0 rfl f29_20) q30 dd_249 [(.ref nd1)] [(.ref mp)] (lenOf pd2 rfl) rfl rfl ?_
 rintro _ T31 Lc31 ⟨rfl, N31q, q31⟩ X31
 have N31 := Fr.app N30 N31q
 obtain ⟨cq32, q32a, q32b⟩ := Exa.cell f29_3
 obtain ⟨_, _, ⟨T32, L32, k32, n32⟩, -, X32, ⟨Lc32, hQ32, l32, y32, z32⟩, st32⟩ := X31.privateBack hx (y := oY27) hown (mvT hZ (tw_217 hw)) (mvT hZ (tw_218 hw)) (own_selfP (args := #[(.ref mp), (.ref nd2)]) (mvT hZ (tw_220 hw)) (mvT hZ (tw_218 hw)) (mvP hZ (tw_219 hw)) (by decide)) (Cond.privateMethod_at (args := #[]) (mvP hZ (tw_219 hw))) (mvT hZ (tw_221 hw)) (by decide) (backOf (W := 0) (rm_rotL l Z a0 hw [] mp nd0 nd1 nd2 b0 b1 sz mc T29.heap n0 f29_0 f29_2 f29_3 f29_4 f29_5 f29_6 f29_7 f29_8 G29_0 G29_1 G29_2 G29_3 G29_c f29_9 f29_17 f29_18 f29_19 f29_20 f29_16 g_mp g_nd0 g_nd1 ne_nd0_nd1) hZ (tw_221 hw) (tw_44 hw) (by decide) (by decide)) (g := (mkF m 252 #[(vR mp), (vR nd2), .val .null] [(.ref nd0), (.ref mp)])) rfl (by rw [hml]; rfl) (Steps.refl _) (a := mp) (by rw [q31]; exact q32a) q32b (argsL := [(.ref nd0)]) (rest := []) (lenOf pd16 rfl) rfl (by show 2 * 0 + _ ≤ _; exact Nat.le_of_eq rfl) (hb hby dd_252) (fun _ _ => ⟨rfl, q31, (by decide : 0 + 0 ≤ _), (by decide : 0 + 0 ≤ _)⟩)
 dsimp only [Pt.U, Pt.locs, Pt.cells, Pt.slots] at X32 l32 y32 z32 st32 hQ32
 subst l32 y32 z32
 obtain ⟨rfl, N32q, K32, G32_0, G32_1, G32_2, G32_3, G32_4, G32_5, G32_6, G32_7, G32_8, G32_9, G32_10, G32_11, G32_12, G32_13, G32_14, G32_15, G32_16⟩ := hQ32
 have N32 := Fr.app N31 N32q
 refine Go.by (fun t k => st32.trans k) ?_
 have u32_0 := ninS (Ne.symm (ne_exa s0 s17 (by decide))) (ninS (Ne.symm ne_nd0_nd2) (ninS (Ne.symm ne_nd1_nd2) nin0))
 have f32_1 := Keep.trans f29_1 K32 (allS (Or.inl (List.mem_of_getElem? (i := 0) rfl)) (allS (Or.inl (List.mem_of_getElem? (i := 1) rfl)) (allS (Or.inl (List.mem_of_getElem? (i := 2) rfl)) all0)))
 have f32_3 := Exa.keep f29_3 K32
 have f32_4 := Exa.keep f29_8 K32
 have f32_5 := Exa.keep f29_9 K32
 have f32_6 := Exa.keep f29_10 K32
 have f32_7 := Fld.keep f29_11 K32 u32_0
 have f32_8 := Fld.keep f29_12 K32 u32_0
 have f32_9 := Fld.keep f29_13 K32 u32_0
 have f32_10 := Fld.keep f29_14 K32 u32_0
 have f32_11 := Fld.keep f29_15 K32 u32_0
 show oG p e below P m T32 255 #[(vR mp), (vR nd2), .val .null] []
 refine gO X32 hx hby dd_255 (pc' := 5) ?_
 refine aA X32 hx hby dd_5 rfl rfl ?_
 refine w_ifnullNo X32 hx hby dd_6 ?_
 refine aA X32 hx hby dd_9 rfl rfl ?_
 refine aA X32 hx hby dd_10 rfl rfl ?_
 refine gF X32 hx hby hZ hown (tw_100 hw) Via.refl rfl G32_1 dd_11 ?_
 intro T33 X33 e33
 refine Go.by (fun _ => Jvm.RoadKit.acmp (g := (mkF m 14 #[(vR mp), (vR nd2), .val .null] [(.ref nd1), (.ref nd2)])) X33 hx rfl rfl rfl (pc0 := 14) (pc' := 17) (same := false) rfl (hb hby dd_14) rfl (decide_eq_false fun q => (Ne.symm ne_nd1_nd2) (Value.ref.inj q)) (by decide) (by decide)) ?_
 show oG p e below P m T33 17 #[(vR mp), (vR nd2), .val .null] []
 refine aA X33 hx hby dd_17 rfl rfl ?_
 refine gF X33 hx hby hZ hown (tw_200 hw) Via.refl e33 f32_10 dd_18 ?_
 intro T34 X34 e34
 refine gF X34 hx hby hZ hown (tw_199 hw) Via.refl e34 G32_16 dd_21 ?_
 intro T35 X35 e35
 refine fY X35 hx hby dd_24 (pc' := 258) (XT.i0_ne_t (by decide : ¬ (1 : Int32) = (0 : Int32))) ?_
 refine aA X35 hx hby dd_258 rfl rfl ?_
 refine gF X35 hx hby hZ hown (tw_100 hw) Via.refl e35 G32_1 dd_259 ?_
 intro T36 X36 e36
 refine iC X36 hx hby dd_262 (v := 1) rfl ?_
 obtain ⟨T37, h37, X37, e37, W37, st37⟩ := putFN X36 hx hZ hown (tw_199 hw) Via.refl e36 G32_16 f32_5 (Or.inl (tw_143 hw)) (tw_135 hw) (ty := .boolean) (v' := (.int 1)) (by decide) rfl rfl (g := (mkF m 263 #[(vR mp), (vR nd2), .val .null] [(.int 1), (.ref nd1)])) rfl rfl (hb hby dd_263)
 refine Go.by st37 ?_
 have N37 := Fr.snoc X37 N32 g_nd1
 have f37_1 := Keep.wr f32_1 W37 (Or.inl (List.mem_of_getElem? (i := 2) rfl))
 have f37_3 := Exa.wr W37 f32_3
 have f37_4 := Exa.wr W37 f32_4
 have f37_5 := Exa.wr W37 f32_5
 have f37_6 := Exa.wr W37 f32_6
 have f37_7 := Fld.other W37 f32_7 (Or.inl (Ne.symm ne_nd1_nd2))
 have f37_8 := Fld.other W37 f32_8 (Or.inl (Ne.symm ne_nd1_nd2))
 have f37_9 := Fld.other W37 f32_9 (Or.inl (Ne.symm ne_nd1_nd2))
 have f37_10 := Fld.other W37 f32_10 (Or.inl (Ne.symm ne_nd1_nd2))
 have f37_11 := Fld.other W37 f32_11 (Or.inl (Ne.symm ne_nd1_nd2))
 have f37_12 := Fld.other W37 G32_1 (Or.inl (ne_exa s0 s11 (by decide)))
 have f37_13 := Fld.other W37 G32_2 (Or.inl (ne_exa s0 s11 (by decide)))
 have f37_14 := Fld.other W37 G32_3 (Or.inl (ne_exa s0 s11 (by decide)))
 have f37_15 := Fld.other W37 G32_4 (Or.inl (ne_exa s0 s11 (by decide)))
 have f37_16 := Fld.other W37 G32_6 (Or.inl ne_nd0_nd1)
 have f37_17 := Fld.other W37 G32_7 (Or.inl ne_nd0_nd1)
 have f37_18 := Fld.other W37 G32_8 (Or.inl ne_nd0_nd1)
 have f37_19 := Fld.other W37 G32_9 (Or.inl ne_nd0_nd1)
 have f37_20 := Fld.other W37 G32_10 (Or.inl ne_nd0_nd1)
 have f37_21 := Fld.other W37 G32_12 (Or.inr (slot_ne (Or.inl (tw_145 hw)) (Or.inl (tw_143 hw)) (by decide) (t := (.object q_16)) (t' := .boolean) (by decide) (by decide)))
 have f37_22 := Fld.other W37 G32_13 (Or.inr (slot_ne (Or.inl (tw_210 hw)) (Or.inl (tw_143 hw)) (by decide) (t := (.object q_0)) (t' := .boolean) (by decide) (by decide)))
 have f37_23 := Fld.other W37 G32_14 (Or.inr (slot_ne (Or.inl (tw_168 hw)) (Or.inl (tw_143 hw)) (by decide) (t := (.object q_0)) (t' := .boolean) (by decide) (by decide)))
 have f37_24 := Fld.other W37 G32_15 (Or.inr (slot_ne (Or.inl (tw_149 hw)) (Or.inl (tw_143 hw)) (by decide) (t := (.object q_0)) (t' := .boolean) (by decide) (by decide)))
 have f37_25 := Fld.same W37 G32_16
 show oG p e below P m T37 266 #[(vR mp), (vR nd2), .val .null] []
 refine own_fin hP hlk X37 (v := none) (fun _ => rfl) (by decide) (by decide) ?_ (fun fs hr => X37.returnOut hx hret (hb hby dd_266) hr)
 rw [e37]
 exact ⟨rfl, N37, f37_1, f37_3, f37_12, f37_13, f37_14, f37_15, f37_4, f37_16, f37_17, f37_18, f37_19, f37_20, f37_5, f37_21, f37_22, f37_23, f37_24, f37_25, f37_6, f37_7, f37_8, f37_9, f37_10, f37_11⟩
def Q_fix3 (Z : State) (mp nd0 nd1 nd2 nd3 b0 b1 b2 b3 : Addr) (sz mc : Int32) (h0 : Heap) (n0 : Nat) (v : Option Value) (h : Heap) (L : List Loc) : Prop := v = none ∧ Fr n0 L ∧ Keep h0 h [mp, nd0, nd1, nd2, nd3] ∧ Exa Z h mp q_2 ∧ Fld Z h mp q_2 q_12 q_1 (.ref nd1) ∧ Fld Z h mp q_2 q_13 "I" (.int sz) ∧ Fld Z h mp q_2 q_14 "I" (.int mc) ∧ Fld Z h mp q_2 q_10 q_11 .null ∧ Exa Z h nd0 q_0 ∧ Fld Z h nd0 q_0 q_8 q_4 (.ref b0) ∧ Fld Z h nd0 q_0 q_6 q_1 .null ∧ Fld Z h nd0 q_0 q_9 q_1 .null ∧ Fld Z h nd0 q_0 q_5 q_1 (.ref nd1) ∧ Fld Z h nd0 q_0 q_7 "Z" (.int 1) ∧ Exa Z h nd1 q_0 ∧ Fld Z h nd1 q_0 q_8 q_4 (.ref b1) ∧ Fld Z h nd1 q_0 q_6 q_1 (.ref nd0) ∧ Fld Z h nd1 q_0 q_9 q_1 (.ref nd2) ∧ Fld Z h nd1 q_0 q_5 q_1 .null ∧ Fld Z h nd1 q_0 q_7 "Z" (.int 1) ∧ Exa Z h nd2 q_0 ∧ Fld Z h nd2 q_0 q_8 q_4 (.ref b2) ∧ Fld Z h nd2 q_0 q_6 q_1 .null ∧ Fld Z h nd2 q_0 q_9 q_1 (.ref nd3) ∧ Fld Z h nd2 q_0 q_5 q_1 (.ref nd1) ∧ Fld Z h nd2 q_0 q_7 "Z" (.int 1) ∧ Exa Z h nd3 q_0 ∧ Fld Z h nd3 q_0 q_8 q_4 (.ref b3) ∧ Fld Z h nd3 q_0 q_6 q_1 .null ∧ Fld Z h nd3 q_0 q_9 q_1 .null ∧ Fld Z h nd3 q_0 q_5 q_1 (.ref nd2) ∧ Fld Z h nd3 q_0 q_7 "Z" (.int 0)
theorem rm_fix3 (l : Launch) (Z : State) (a0 : Array Value) (hw : oW a0 Z) (ws : List Jvm.Cond) (mp nd0 nd1 nd2 nd3 b0 b1 b2 b3 : Addr) (sz mc : Int32) (h0 : Heap) (n0 : Nat) (Z0 : n0 ≤ h0.size) (O0 : Old Z n0 h0) (s0 : Exa Z h0 mp q_2) (s1 : Fld Z h0 mp q_2 q_12 q_1 (.ref nd1)) (s2 : Fld Z h0 mp q_2 q_13 "I" (.int sz)) (s3 : Fld Z h0 mp q_2 q_14 "I" (.int mc)) (s4 : Fld Z h0 mp q_2 q_10 q_11 .null) (s5 : Exa Z h0 nd0 q_0) (s6 : Fld Z h0 nd0 q_0 q_8 q_4 (.ref b0)) (s7 : Fld Z h0 nd0 q_0 q_6 q_1 .null) (s8 : Fld Z h0 nd0 q_0 q_9 q_1 .null) (s9 : Fld Z h0 nd0 q_0 q_5 q_1 (.ref nd1)) (s10 : Fld Z h0 nd0 q_0 q_7 "Z" (.int 0)) (s11 : Exa Z h0 nd1 q_0) (s12 : Fld Z h0 nd1 q_0 q_8 q_4 (.ref b1)) (s13 : Fld Z h0 nd1 q_0 q_6 q_1 (.ref nd0)) (s14 : Fld Z h0 nd1 q_0 q_9 q_1 (.ref nd2)) (s15 : Fld Z h0 nd1 q_0 q_5 q_1 .null) (s16 : Fld Z h0 nd1 q_0 q_7 "Z" (.int 1)) (s17 : Exa Z h0 nd2 q_0) (s18 : Fld Z h0 nd2 q_0 q_8 q_4 (.ref b2)) (s19 : Fld Z h0 nd2 q_0 q_6 q_1 .null) (s20 : Fld Z h0 nd2 q_0 q_9 q_1 (.ref nd3)) (s21 : Fld Z h0 nd2 q_0 q_5 q_1 (.ref nd1)) (s22 : Fld Z h0 nd2 q_0 q_7 "Z" (.int 0)) (s23 : Exa Z h0 nd3 q_0) (s24 : Fld Z h0 nd3 q_0 q_8 q_4 (.ref b3)) (s25 : Fld Z h0 nd3 q_0 q_6 q_1 .null) (s26 : Fld Z h0 nd3 q_0 q_9 q_1 .null) (s27 : Fld Z h0 nd3 q_0 q_5 q_1 (.ref nd2)) (s28 : Fld Z h0 nd3 q_0 q_7 "Z" (.int 1)) (g_mp : n0 ≤ mp) (g_nd0 : n0 ≤ nd0) (g_nd1 : n0 ≤ nd1) (g_nd2 : n0 ≤ nd2) (g_nd3 : n0 ≤ nd3) (ne_nd0_nd1 : nd0 ≠ nd1) (ne_nd0_nd2 : nd0 ≠ nd2) (ne_nd0_nd3 : nd0 ≠ nd3) (ne_nd1_nd2 : nd1 ≠ nd2) (ne_nd1_nd3 : nd1 ≠ nd3) (ne_nd2_nd3 : nd2 ≠ nd3) :
   oM l oY16 j2729_83 3 none ws (own_R 1 0 0 16) #[(.ref mp), (.ref nd3)] Z h0 (Q_fix3 Z mp nd0 nd1 nd2 nd3 b0 b1 b2 b3 sz mc h0 n0) := by
 refine own_open (n0 := n0) (cn := q_2) rfl (plainFor_of_name pn0) (L0 := #[(vR mp), (vR nd3), .unset]) ?_
 intro p e s m below meth c s₁ P hx hby hml hown hnm X0 e0 N0 hlk hret hZ hP
 refine aA X0 hx hby dd_0 rfl rfl ?_
 refine iC X0 hx hby dd_1 (v := 0) rfl ?_
 obtain ⟨T11, h11, X11, e11, W11, st11⟩ := putFN X0 hx hZ hown (tw_199 hw) Via.refl e0 s28 s23 (Or.inl (tw_143 hw)) (tw_135 hw) (ty := .boolean) (v' := (.int 0)) (by decide) rfl rfl (g := (mkF m 2 #[(vR mp), (vR nd3), .unset] [(.int 0), (.ref nd3)])) rfl rfl (hb hby dd_2)
 refine Go.by st11 ?_
 have N11 := Fr.snoc X11 N0 g_nd3
 have f11_0 := Nat.le_trans Z0 (Keep.of_wr W11).1
 have f11_1 := Keep.wr (Keep.refl h0 [mp, nd0, nd1, nd2, nd3]) W11 (Or.inl (List.mem_of_getElem? (i := 4) rfl))
 have f11_3 := Exa.wr W11 s0
 have f11_4 := Fld.other W11 s1 (Or.inl (ne_exa s0 s23 (by decide)))
 have f11_5 := Fld.other W11 s2 (Or.inl (ne_exa s0 s23 (by decide)))
 have f11_6 := Fld.other W11 s3 (Or.inl (ne_exa s0 s23 (by decide)))
 have f11_7 := Fld.other W11 s4 (Or.inl (ne_exa s0 s23 (by decide)))
 have f11_8 := Exa.wr W11 s5
 have f11_9 := Fld.other W11 s6 (Or.inl ne_nd0_nd3)
 have f11_10 := Fld.other W11 s7 (Or.inl ne_nd0_nd3)
 have f11_11 := Fld.other W11 s8 (Or.inl ne_nd0_nd3)
 have f11_12 := Fld.other W11 s9 (Or.inl ne_nd0_nd3)
 have f11_13 := Fld.other W11 s10 (Or.inl ne_nd0_nd3)
 have f11_14 := Exa.wr W11 s11
 have f11_15 := Fld.other W11 s12 (Or.inl ne_nd1_nd3)
 have f11_16 := Fld.other W11 s13 (Or.inl ne_nd1_nd3)
 have f11_17 := Fld.other W11 s14 (Or.inl ne_nd1_nd3)
 have f11_18 := Fld.other W11 s15 (Or.inl ne_nd1_nd3)
 have f11_19 := Fld.other W11 s16 (Or.inl ne_nd1_nd3)
 have f11_20 := Exa.wr W11 s17
 have f11_21 := Fld.other W11 s18 (Or.inl ne_nd2_nd3)
 have f11_22 := Fld.other W11 s19 (Or.inl ne_nd2_nd3)
 have f11_23 := Fld.other W11 s20 (Or.inl ne_nd2_nd3)
 have f11_24 := Fld.other W11 s21 (Or.inl ne_nd2_nd3)
 have f11_25 := Fld.other W11 s22 (Or.inl ne_nd2_nd3)
 have f11_26 := Exa.wr W11 s23
 have f11_27 := Fld.other W11 s24 (Or.inr (slot_ne (Or.inl (tw_145 hw)) (Or.inl (tw_143 hw)) (by decide) (t := (.object q_16)) (t' := .boolean) (by decide) (by decide)))
 have f11_28 := Fld.other W11 s25 (Or.inr (slot_ne (Or.inl (tw_210 hw)) (Or.inl (tw_143 hw)) (by decide) (t := (.object q_0)) (t' := .boolean) (by decide) (by decide)))
 have f11_29 := Fld.other W11 s26 (Or.inr (slot_ne (Or.inl (tw_168 hw)) (Or.inl (tw_143 hw)) (by decide) (t := (.object q_0)) (t' := .boolean) (by decide) (by decide)))
 have f11_30 := Fld.other W11 s27 (Or.inr (slot_ne (Or.inl (tw_149 hw)) (Or.inl (tw_143 hw)) (by decide) (t := (.object q_0)) (t' := .boolean) (by decide) (by decide)))
 have f11_31 := Fld.same W11 s28
 refine aA X11 hx hby dd_5 rfl rfl ?_
 refine w_ifnullNo X11 hx hby dd_6 ?_
 refine aA X11 hx hby dd_9 rfl rfl ?_
 refine aA X11 hx hby dd_10 rfl rfl ?_
 refine gF X11 hx hby hZ hown (tw_100 hw) Via.refl e11 f11_4 dd_11 ?_
 intro T12 X12 e12
 refine Go.by (fun _ => Jvm.RoadKit.acmp (g := (mkF m 14 #[(vR mp), (vR nd3), .unset] [(.ref nd1), (.ref nd3)])) X12 hx rfl rfl rfl (pc0 := 14) (pc' := 17) (same := false) rfl (hb hby dd_14) rfl (decide_eq_false fun q => (Ne.symm ne_nd1_nd3) (Value.ref.inj q)) (by decide) (by decide)) ?_
 show oG p e below P m T12 17 #[(vR mp), (vR nd3), .unset] []
 refine aA X12 hx hby dd_17 rfl rfl ?_
 refine gF X12 hx hby hZ hown (tw_200 hw) Via.refl e12 f11_30 dd_18 ?_
 intro T13 X13 e13
 refine gF X13 hx hby hZ hown (tw_199 hw) Via.refl e13 f11_25 dd_21 ?_
 intro T14 X14 e14
 refine fN X14 hx hby dd_24 (XT.i0_ne_f (by decide : (0 : Int32) = (0 : Int32))) ?_
 refine aA X14 hx hby dd_27 rfl rfl ?_
 refine c_stat 0 X14 hx hby hml hZ hown (tw_203 hw) (tw_204 hw) (tw_44 hw) (tw_205 hw) (rm_parentOf l Z a0 hw [] nd3 (.ref nd2) h11 n0 f11_0 rfl f11_30) e14 dd_28 [(.ref nd3)] [] (lenOf pd2 rfl) rfl rfl ?_
 rintro _ T15 Lc15 ⟨rfl, N15q, q15⟩ X15
 have N15 := Fr.app N11 N15q
 refine aA X15 hx hby dd_31 rfl rfl ?_
 refine c_stat 1 X15 hx hby hml hZ hown (tw_203 hw) (tw_204 hw) (tw_44 hw) (tw_205 hw) (rm_parentOf l Z a0 hw [] nd3 (.ref nd2) h11 n0 f11_0 rfl f11_30) q15 dd_32 [(.ref nd3)] [(.ref nd2)] (lenOf pd2 rfl) rfl rfl ?_
 rintro _ T16 Lc16 ⟨rfl, N16q, q16⟩ X16
 have N16 := Fr.app N15 N16q
 refine c_stat 1 X16 hx hby hml hZ hown (tw_203 hw) (tw_204 hw) (tw_44 hw) (tw_205 hw) (rm_parentOf l Z a0 hw [] nd2 (.ref nd1) h11 n0 f11_0 rfl f11_24) q16 dd_35 [(.ref nd2)] [(.ref nd2)] (lenOf pd2 rfl) rfl rfl ?_
 rintro _ T17 Lc17 ⟨rfl, N17q, q17⟩ X17
 have N17 := Fr.app N16 N17q
 refine c_stat 1 X17 hx hby hml hZ hown (tw_206 hw) (tw_207 hw) (tw_44 hw) (tw_208 hw) (rm_leftOf l Z a0 hw [] nd1 (.ref nd0) h11 n0 f11_0 rfl f11_16) q17 dd_38 [(.ref nd1)] [(.ref nd2)] (lenOf pd2 rfl) rfl rfl ?_
 rintro _ T18 Lc18 ⟨rfl, N18q, q18⟩ X18
 have N18 := Fr.app N17 N18q
 refine Go.by (fun _ => Jvm.RoadKit.acmp (g := (mkF m 41 #[(vR mp), (vR nd3), .unset] [(.ref nd0), (.ref nd2)])) X18 hx rfl rfl rfl (pc0 := 41) (pc' := 151) (same := false) rfl (hb hby dd_41) rfl (decide_eq_false fun q => (Ne.symm ne_nd0_nd2) (Value.ref.inj q)) (by decide) (by decide)) ?_
 show oG p e below P m T18 151 #[(vR mp), (vR nd3), .unset] []
 refine aA X18 hx hby dd_151 rfl rfl ?_
 refine c_stat 0 X18 hx hby hml hZ hown (tw_203 hw) (tw_204 hw) (tw_44 hw) (tw_205 hw) (rm_parentOf l Z a0 hw [] nd3 (.ref nd2) h11 n0 f11_0 rfl f11_30) q18 dd_152 [(.ref nd3)] [] (lenOf pd2 rfl) rfl rfl ?_
 rintro _ T19 Lc19 ⟨rfl, N19q, q19⟩ X19
 have N19 := Fr.app N18 N19q
 refine c_stat 0 X19 hx hby hml hZ hown (tw_203 hw) (tw_204 hw) (tw_44 hw) (tw_205 hw) (rm_parentOf l Z a0 hw [] nd2 (.ref nd1) h11 n0 f11_0 rfl f11_24) q19 dd_155 [(.ref nd2)] [] (lenOf pd2 rfl) rfl rfl ?_
 rintro _ T20 Lc20 ⟨rfl, N20q, q20⟩ X20
 have N20 := Fr.app N19 N20q
 refine c_stat 0 X20 hx hby hml hZ hown (tw_206 hw) (tw_207 hw) (tw_44 hw) (tw_208 hw) (rm_leftOf l Z a0 hw [] nd1 (.ref nd0) h11 n0 f11_0 rfl f11_16) q20 dd_158 [(.ref nd1)] [] (lenOf pd2 rfl) rfl rfl ?_
 rintro _ T21 Lc21 ⟨rfl, N21q, q21⟩ X21
 have N21 := Fr.app N20 N21q
 refine aS X21 hx hby dd_161 rfl rfl ?_
 refine aA X21 hx hby dd_162 rfl rfl ?_
 refine c_stat 0 X21 hx hby hml hZ hown (tw_211 hw) (tw_212 hw) (tw_44 hw) (tw_213 hw) (rm_colorOf0 l Z a0 hw [] nd0 h11 n0 f11_0 f11_13) q21 dd_163 [(.ref nd0)] [] (lenOf pd21 rfl) rfl rfl ?_
 rintro _ T22 Lc22 ⟨rfl, N22q, q22⟩ X22
 have N22 := Fr.app N21 N22q
 refine fN X22 hx hby dd_166 (XT.i0_ne_f (by decide : (0 : Int32) = (0 : Int32))) ?_
 refine aA X22 hx hby dd_169 rfl rfl ?_
 refine c_stat 0 X22 hx hby hml hZ hown (tw_203 hw) (tw_204 hw) (tw_44 hw) (tw_205 hw) (rm_parentOf l Z a0 hw [] nd3 (.ref nd2) h11 n0 f11_0 rfl f11_30) q22 dd_170 [(.ref nd3)] [] (lenOf pd2 rfl) rfl rfl ?_
 rintro _ T23 Lc23 ⟨rfl, N23q, q23⟩ X23
 have N23 := Fr.app N22 N23q
 refine iC X23 hx hby dd_173 (v := 1) rfl ?_
 refine c_stat 0 X23 hx hby hml hZ hown (tw_214 hw) (tw_215 hw) (tw_44 hw) (tw_216 hw) (rm_setColor1 l Z a0 hw [] nd2 (0 : Int32) (.ref b2) .null (.ref nd3) (.ref nd1) h11 n0 f11_0 f11_20 g_nd2 f11_25 f11_21 f11_22 f11_23 f11_24) q23 dd_174 [(.ref nd2), (.int 1)] [] (lenOf pd12 rfl) rfl rfl ?_
 rintro _ T24 Lc24 ⟨rfl, N24q, K24, G24_c, G24_0, G24_1, G24_2, G24_3⟩ X24
 have N24 := Fr.app N23 N24q
 have u24_0 := ninS (ne_exa s0 s17 (by decide)) nin0
 have u24_1 := ninS (Ne.symm ne_nd2_nd3) nin0
 have u24_2 := ninS ne_nd0_nd2 nin0
 have u24_3 := ninS ne_nd1_nd2 nin0
 have f24_0 := Nat.le_trans f11_0 K24.1
 have f24_1 := Keep.trans f11_1 K24 (allS (Or.inl (List.mem_of_getElem? (i := 3) rfl)) all0)
 have f24_3 := Exa.keep f11_3 K24
 have f24_4 := Fld.keep f11_4 K24 u24_0
 have f24_5 := Fld.keep f11_5 K24 u24_0
 have f24_6 := Fld.keep f11_6 K24 u24_0
 have f24_7 := Fld.keep f11_7 K24 u24_0
 have f24_8 := Exa.keep f11_8 K24
 have f24_9 := Fld.keep f11_9 K24 u24_2
 have f24_10 := Fld.keep f11_10 K24 u24_2
 have f24_11 := Fld.keep f11_11 K24 u24_2
 have f24_12 := Fld.keep f11_12 K24 u24_2
 have f24_13 := Fld.keep f11_13 K24 u24_2
 have f24_14 := Exa.keep f11_14 K24
 have f24_15 := Fld.keep f11_15 K24 u24_3
 have f24_16 := Fld.keep f11_16 K24 u24_3
 have f24_17 := Fld.keep f11_17 K24 u24_3
 have f24_18 := Fld.keep f11_18 K24 u24_3
 have f24_19 := Fld.keep f11_19 K24 u24_3
 have f24_20 := Exa.keep f11_20 K24
 have f24_21 := Exa.keep f11_26 K24
 have f24_22 := Fld.keep f11_27 K24 u24_1
 have f24_23 := Fld.keep f11_28 K24 u24_1
 have f24_24 := Fld.keep f11_29 K24 u24_1
 have f24_25 := Fld.keep f11_30 K24 u24_1
 have f24_26 := Fld.keep f11_31 K24 u24_1
 refine aA X24 hx hby dd_177 rfl rfl ?_
 refine iC X24 hx hby dd_178 (v := 1) rfl ?_
 refine c_stat 0 X24 hx hby hml hZ hown (tw_214 hw) (tw_215 hw) (tw_44 hw) (tw_216 hw) (rm_setColor1 l Z a0 hw [] nd0 (0 : Int32) (.ref b0) .null .null (.ref nd1) T24.heap n0 f24_0 f24_8 g_nd0 f24_13 f24_9 f24_10 f24_11 f24_12) rfl dd_179 [(.ref nd0), (.int 1)] [] (lenOf pd12 rfl) rfl rfl ?_
 rintro _ T25 Lc25 ⟨rfl, N25q, K25, G25_c, G25_0, G25_1, G25_2, G25_3⟩ X25
 have N25 := Fr.app N24 N25q
 have u25_0 := ninS (ne_exa s0 s5 (by decide)) nin0
 have u25_1 := ninS (Ne.symm ne_nd0_nd1) nin0
 have u25_2 := ninS (Ne.symm ne_nd0_nd3) nin0
 have u25_3 := ninS (Ne.symm ne_nd0_nd2) nin0
 have f25_0 := Nat.le_trans f24_0 K25.1
 have f25_1 := Keep.trans f24_1 K25 (allS (Or.inl (List.mem_of_getElem? (i := 1) rfl)) all0)
 have f25_3 := Exa.keep f24_3 K25
 have f25_4 := Fld.keep f24_4 K25 u25_0
 have f25_5 := Fld.keep f24_5 K25 u25_0
 have f25_6 := Fld.keep f24_6 K25 u25_0
 have f25_7 := Fld.keep f24_7 K25 u25_0
 have f25_8 := Exa.keep f24_8 K25
 have f25_9 := Exa.keep f24_14 K25
 have f25_10 := Fld.keep f24_15 K25 u25_1
 have f25_11 := Fld.keep f24_16 K25 u25_1
 have f25_12 := Fld.keep f24_17 K25 u25_1
 have f25_13 := Fld.keep f24_18 K25 u25_1
 have f25_14 := Fld.keep f24_19 K25 u25_1
 have f25_15 := Exa.keep f24_20 K25
 have f25_16 := Exa.keep f24_21 K25
 have f25_17 := Fld.keep f24_22 K25 u25_2
 have f25_18 := Fld.keep f24_23 K25 u25_2
 have f25_19 := Fld.keep f24_24 K25 u25_2
 have f25_20 := Fld.keep f24_25 K25 u25_2
 have f25_21 := Fld.keep f24_26 K25 u25_2
 have f25_22 := Fld.keep G24_c K25 u25_3
 have f25_23 := Fld.keep G24_0 K25 u25_3
 have f25_24 := Fld.keep G24_1 K25 u25_3
 have f25_25 := Fld.keep G24_2 K25 u25_3
 have f25_26 := Fld.keep G24_3 K25 u25_3
 refine aA X25 hx hby dd_182 rfl rfl ?_
 refine c_stat 0 X25 hx hby hml hZ hown (tw_203 hw) (tw_204 hw) (tw_44 hw) (tw_205 hw) (rm_parentOf l Z a0 hw [] nd3 (.ref nd2) T25.heap n0 f25_0 rfl f25_20) rfl dd_183 [(.ref nd3)] [] (lenOf pd2 rfl) rfl rfl ?_
 rintro _ T26 Lc26 ⟨rfl, N26q, q26⟩ X26
 have N26 := Fr.app N25 N26q
 refine c_stat 0 X26 hx hby hml hZ hown (tw_203 hw) (tw_204 hw) (tw_44 hw) (tw_205 hw) (rm_parentOf l Z a0 hw [] nd2 (.ref nd1) T25.heap n0 f25_0 rfl f25_26) q26 dd_186 [(.ref nd2)] [] (lenOf pd2 rfl) rfl rfl ?_
 rintro _ T27 Lc27 ⟨rfl, N27q, q27⟩ X27
 have N27 := Fr.app N26 N27q
 refine iC X27 hx hby dd_189 (v := 0) rfl ?_
 refine c_stat 0 X27 hx hby hml hZ hown (tw_214 hw) (tw_215 hw) (tw_44 hw) (tw_216 hw) (rm_setColor0 l Z a0 hw [] nd1 (1 : Int32) (.ref b1) (.ref nd0) (.ref nd2) .null T25.heap n0 f25_0 f25_9 g_nd1 f25_14 f25_10 f25_11 f25_12 f25_13) q27 dd_190 [(.ref nd1), (.int 0)] [] (lenOf pd12 rfl) rfl rfl ?_
 rintro _ T28 Lc28 ⟨rfl, N28q, K28, G28_c, G28_0, G28_1, G28_2, G28_3⟩ X28
 have N28 := Fr.app N27 N28q
 have u28_0 := ninS (ne_exa s0 s11 (by decide)) nin0
 have u28_1 := ninS (Ne.symm ne_nd1_nd3) nin0
 have u28_2 := ninS (Ne.symm ne_nd1_nd2) nin0
 have u28_3 := ninS ne_nd0_nd1 nin0
 have f28_0 := Nat.le_trans f25_0 K28.1
 have f28_1 := Keep.trans f25_1 K28 (allS (Or.inl (List.mem_of_getElem? (i := 2) rfl)) all0)
 have f28_3 := Exa.keep f25_3 K28
 have f28_4 := Fld.keep f25_4 K28 u28_0
 have f28_5 := Fld.keep f25_5 K28 u28_0
 have f28_6 := Fld.keep f25_6 K28 u28_0
 have f28_7 := Fld.keep f25_7 K28 u28_0
 have f28_8 := Exa.keep f25_8 K28
 have f28_9 := Exa.keep f25_9 K28
 have f28_10 := Exa.keep f25_15 K28
 have f28_11 := Exa.keep f25_16 K28
 have f28_12 := Fld.keep f25_17 K28 u28_1
 have f28_13 := Fld.keep f25_18 K28 u28_1
 have f28_14 := Fld.keep f25_19 K28 u28_1
 have f28_15 := Fld.keep f25_20 K28 u28_1
 have f28_16 := Fld.keep f25_21 K28 u28_1
 have f28_17 := Fld.keep f25_22 K28 u28_2
 have f28_18 := Fld.keep f25_23 K28 u28_2
 have f28_19 := Fld.keep f25_24 K28 u28_2
 have f28_20 := Fld.keep f25_25 K28 u28_2
 have f28_21 := Fld.keep f25_26 K28 u28_2
 have f28_22 := Fld.keep G25_c K28 u28_3
 have f28_23 := Fld.keep G25_0 K28 u28_3
 have f28_24 := Fld.keep G25_1 K28 u28_3
 have f28_25 := Fld.keep G25_2 K28 u28_3
 have f28_26 := Fld.keep G25_3 K28 u28_3
 refine aA X28 hx hby dd_193 rfl rfl ?_
 refine c_stat 0 X28 hx hby hml hZ hown (tw_203 hw) (tw_204 hw) (tw_44 hw) (tw_205 hw) (rm_parentOf l Z a0 hw [] nd3 (.ref nd2) T28.heap n0 f28_0 rfl f28_15) rfl dd_194 [(.ref nd3)] [] (lenOf pd2 rfl) rfl rfl ?_
 rintro _ T29 Lc29 ⟨rfl, N29q, q29⟩ X29
 have N29 := Fr.app N28 N29q
 refine c_stat 0 X29 hx hby hml hZ hown (tw_203 hw) (tw_204 hw) (tw_44 hw) (tw_205 hw) (rm_parentOf l Z a0 hw [] nd2 (.ref nd1) T28.heap n0 f28_0 rfl f28_21) q29 dd_197 [(.ref nd2)] [] (lenOf pd2 rfl) rfl rfl ?_
 rintro _ T30 Lc30 ⟨rfl, N30q, q30⟩ X30
 have N30 := Fr.app N29 N30q
 refine aS X30 hx hby dd_200 rfl rfl ?_
 refine gO X30 hx hby dd_201 (pc' := 255) ?_
 refine gO X30 hx hby dd_255 (pc' := 5) ?_
 refine aA X30 hx hby dd_5 rfl rfl ?_
 refine w_ifnullNo X30 hx hby dd_6 ?_
 refine aA X30 hx hby dd_9 rfl rfl ?_
 refine aA X30 hx hby dd_10 rfl rfl ?_
 refine gF X30 hx hby hZ hown (tw_100 hw) Via.refl q30 f28_4 dd_11 ?_
 intro T31 X31 e31
 refine Go.by (fun _ => Jvm.RoadKit.acmp (g := (mkF m 14 #[(vR mp), (vR nd1), (vR nd0)] [(.ref nd1), (.ref nd1)])) X31 hx rfl rfl rfl (pc0 := 14) (pc' := 258) (same := true) rfl (hb hby dd_14) rfl (decide_eq_true rfl) (by decide) (by decide)) ?_
 show oG p e below P m T31 258 #[(vR mp), (vR nd1), (vR nd0)] []
 refine aA X31 hx hby dd_258 rfl rfl ?_
 refine gF X31 hx hby hZ hown (tw_100 hw) Via.refl e31 f28_4 dd_259 ?_
 intro T32 X32 e32
 refine iC X32 hx hby dd_262 (v := 1) rfl ?_
 obtain ⟨T33, h33, X33, e33, W33, st33⟩ := putFN X32 hx hZ hown (tw_199 hw) Via.refl e32 G28_c f28_9 (Or.inl (tw_143 hw)) (tw_135 hw) (ty := .boolean) (v' := (.int 1)) (by decide) rfl rfl (g := (mkF m 263 #[(vR mp), (vR nd1), (vR nd0)] [(.int 1), (.ref nd1)])) rfl rfl (hb hby dd_263)
 refine Go.by st33 ?_
 have N33 := Fr.snoc X33 N30 g_nd1
 have f33_1 := Keep.wr f28_1 W33 (Or.inl (List.mem_of_getElem? (i := 2) rfl))
 have f33_3 := Exa.wr W33 f28_3
 have f33_4 := Fld.other W33 f28_4 (Or.inl (ne_exa s0 s11 (by decide)))
 have f33_5 := Fld.other W33 f28_5 (Or.inl (ne_exa s0 s11 (by decide)))
 have f33_6 := Fld.other W33 f28_6 (Or.inl (ne_exa s0 s11 (by decide)))
 have f33_7 := Fld.other W33 f28_7 (Or.inl (ne_exa s0 s11 (by decide)))
 have f33_8 := Exa.wr W33 f28_8
 have f33_9 := Exa.wr W33 f28_9
 have f33_10 := Exa.wr W33 f28_10
 have f33_11 := Exa.wr W33 f28_11
 have f33_12 := Fld.other W33 f28_12 (Or.inl (Ne.symm ne_nd1_nd3))
 have f33_13 := Fld.other W33 f28_13 (Or.inl (Ne.symm ne_nd1_nd3))
 have f33_14 := Fld.other W33 f28_14 (Or.inl (Ne.symm ne_nd1_nd3))
 have f33_15 := Fld.other W33 f28_15 (Or.inl (Ne.symm ne_nd1_nd3))
 have f33_16 := Fld.other W33 f28_16 (Or.inl (Ne.symm ne_nd1_nd3))
 have f33_17 := Fld.other W33 f28_17 (Or.inl (Ne.symm ne_nd1_nd2))
 have f33_18 := Fld.other W33 f28_18 (Or.inl (Ne.symm ne_nd1_nd2))
 have f33_19 := Fld.other W33 f28_19 (Or.inl (Ne.symm ne_nd1_nd2))
 have f33_20 := Fld.other W33 f28_20 (Or.inl (Ne.symm ne_nd1_nd2))
 have f33_21 := Fld.other W33 f28_21 (Or.inl (Ne.symm ne_nd1_nd2))
 have f33_22 := Fld.other W33 f28_22 (Or.inl ne_nd0_nd1)
 have f33_23 := Fld.other W33 f28_23 (Or.inl ne_nd0_nd1)
 have f33_24 := Fld.other W33 f28_24 (Or.inl ne_nd0_nd1)
 have f33_25 := Fld.other W33 f28_25 (Or.inl ne_nd0_nd1)
 have f33_26 := Fld.other W33 f28_26 (Or.inl ne_nd0_nd1)
 have f33_27 := Fld.same W33 G28_c
 have f33_28 := Fld.other W33 G28_0 (Or.inr (slot_ne (Or.inl (tw_145 hw)) (Or.inl (tw_143 hw)) (by decide) (t := (.object q_16)) (t' := .boolean) (by decide) (by decide)))
 have f33_29 := Fld.other W33 G28_1 (Or.inr (slot_ne (Or.inl (tw_210 hw)) (Or.inl (tw_143 hw)) (by decide) (t := (.object q_0)) (t' := .boolean) (by decide) (by decide)))
 have f33_30 := Fld.other W33 G28_2 (Or.inr (slot_ne (Or.inl (tw_168 hw)) (Or.inl (tw_143 hw)) (by decide) (t := (.object q_0)) (t' := .boolean) (by decide) (by decide)))
 have f33_31 := Fld.other W33 G28_3 (Or.inr (slot_ne (Or.inl (tw_149 hw)) (Or.inl (tw_143 hw)) (by decide) (t := (.object q_0)) (t' := .boolean) (by decide) (by decide)))
 show oG p e below P m T33 266 #[(vR mp), (vR nd1), (vR nd0)] []
 refine own_fin hP hlk X33 (v := none) (fun _ => rfl) (by decide) (by decide) ?_ (fun fs hr => X33.returnOut hx hret (hb hby dd_266) hr)
 rw [e33]
 exact ⟨rfl, N33, f33_1, f33_3, f33_4, f33_5, f33_6, f33_7, f33_8, f33_23, f33_24, f33_25, f33_26, f33_22, f33_9, f33_28, f33_29, f33_30, f33_31, f33_27, f33_10, f33_18, f33_19, f33_20, f33_21, f33_17, f33_11, f33_12, f33_13, f33_14, f33_15, f33_16⟩
def Q_addE1 (Z : State) (mp nd0 b0 b1 vx : Addr) (sz mc : Int32) (h0 : Heap) (n0 : Nat) (v : Option Value) (h : Heap) (L : List Loc) : Prop := v = none ∧ Fr n0 L ∧ Keep h0 h [mp, nd0] ∧ ∃ en, h0.size ≤ en ∧ Exa Z h mp q_2 ∧ Fld Z h mp q_2 q_12 q_1 (.ref nd0) ∧ Fld Z h mp q_2 q_13 "I" (.int (sz + (1 : Int32))) ∧ Fld Z h mp q_2 q_14 "I" (.int (mc + (1 : Int32))) ∧ Fld Z h mp q_2 q_10 q_11 .null ∧ Exa Z h nd0 q_0 ∧ Fld Z h nd0 q_0 q_8 q_4 (.ref b0) ∧ Fld Z h nd0 q_0 q_6 q_1 .null ∧ Fld Z h nd0 q_0 q_9 q_1 (.ref en) ∧ Fld Z h nd0 q_0 q_5 q_1 .null ∧ Fld Z h nd0 q_0 q_7 "Z" (.int 1) ∧ Exa Z h en q_0 ∧ Fld Z h en q_0 q_8 q_4 (.ref b1) ∧ Fld Z h en q_0 q_6 q_1 .null ∧ Fld Z h en q_0 q_9 q_1 .null ∧ Fld Z h en q_0 q_5 q_1 (.ref nd0) ∧ Fld Z h en q_0 q_7 "Z" (.int 0)
theorem rm_addE1 (l : Launch) (Z : State) (a0 : Array Value) (hw : oW a0 Z) (ws : List Jvm.Cond) (mp nd0 b0 b1 vx : Addr) (sz mc : Int32) (h0 : Heap) (n0 : Nat) (Z0 : n0 ≤ h0.size) (O0 : Old Z n0 h0) (s0 : Exa Z h0 mp q_2) (s1 : Fld Z h0 mp q_2 q_12 q_1 (.ref nd0)) (s2 : Fld Z h0 mp q_2 q_13 "I" (.int sz)) (s3 : Fld Z h0 mp q_2 q_14 "I" (.int mc)) (s4 : Fld Z h0 mp q_2 q_10 q_11 .null) (s5 : Exa Z h0 nd0 q_0) (s6 : Fld Z h0 nd0 q_0 q_8 q_4 (.ref b0)) (s7 : Fld Z h0 nd0 q_0 q_6 q_1 .null) (s8 : Fld Z h0 nd0 q_0 q_9 q_1 .null) (s9 : Fld Z h0 nd0 q_0 q_5 q_1 .null) (s10 : Fld Z h0 nd0 q_0 q_7 "Z" (.int 1)) (g_mp : n0 ≤ mp) (g_nd0 : n0 ≤ nd0) :
   oM l oY13 j2729_29 6 none ws (own_R 2 1 6 40) #[(.ref mp), (.ref b1), (.ref vx), (.ref nd0), (.int 0)] Z h0 (Q_addE1 Z mp nd0 b0 b1 vx sz mc h0 n0) := by
 refine own_open (n0 := n0) (cn := q_2) rfl (plainFor_of_name pn0) (L0 := #[(vR mp), (vR b1), (vR vx), (vR nd0), (vI 0), .unset]) ?_
 intro p e s m below meth c s₁ P hx hby hml hown hnm X0 e0 N0 hlk hret hZ hP
 obtain ⟨T11, h11, X11, e11, E11, A11, D11, U11, st11⟩ := newO X0 hx hZ hown (tw_134 hw) (tw_135 hw) (tw_136 hw) e0 (g := (mkF m 0 #[(vR mp), (vR b1), (vR vx), (vR nd0), (vI 0), .unset] [])) rfl (hb hby df_0) (by decide) (by decide)
 obtain ⟨b11, g11⟩ : ∃ z, z = h0.size := ⟨_, rfl⟩
 rw [← g11] at A11 D11 U11 st11
 have g_b11 : n0 ≤ b11 := Nat.le_trans Z0 (Nat.le_of_eq g11.symm)
 have sz_b11 : h0.size ≤ b11 := Nat.le_trans (Keep.refl h0 [mp, nd0]).1 (Nat.le_of_eq g11.symm)
 have ne_mp_b11 : mp ≠ b11 := Nat.ne_of_lt (Nat.lt_of_lt_of_le (s0.lt) (Nat.le_of_eq g11.symm))
 have ne_nd0_b11 : nd0 ≠ b11 := Nat.ne_of_lt (Nat.lt_of_lt_of_le (s5.lt) (Nat.le_of_eq g11.symm))
 have f11_0 := Nat.le_trans Z0 E11.1
 have f11_1 := Keep.ext (Keep.refl h0 [mp, nd0]) E11
 have f11_2 := Old.ext O0 E11
 have f11_3 := Exa.ext E11 s0
 have f11_4 := Fld.ext E11 s1
 have f11_5 := Fld.ext E11 s2
 have f11_6 := Fld.ext E11 s3
 have f11_7 := Fld.ext E11 s4
 have f11_8 := Exa.ext E11 s5
 have f11_9 := Fld.ext E11 s6
 have f11_10 := Fld.ext E11 s7
 have f11_11 := Fld.ext E11 s8
 have f11_12 := Fld.ext E11 s9
 have f11_13 := Fld.ext E11 s10
 refine Go.by st11 ?_
 have F11_color : Fld Z h11 b11 q_0 q_7 "Z" (.int 0) := D11 (Or.inl (tw_143 hw)) (ty := .boolean) (by decide)
 have F11_key : Fld Z h11 b11 q_0 q_8 q_4 .null := D11 (Or.inl (tw_145 hw)) (ty := (.object q_16)) (by decide)
 have F11_value : Fld Z h11 b11 q_0 "value" q_4 .null := D11 (Or.inl (tw_147 hw)) (ty := (.object q_16)) (by decide)
 have F11_parent : Fld Z h11 b11 q_0 q_5 q_1 .null := D11 (Or.inl (tw_149 hw)) (ty := (.object q_0)) (by decide)
 have F11_right : Fld Z h11 b11 q_0 q_9 q_1 .null := D11 (Or.inl (tw_168 hw)) (ty := (.object q_0)) (by decide)
 have F11_left : Fld Z h11 b11 q_0 q_6 q_1 .null := D11 (Or.inl (tw_210 hw)) (ty := (.object q_0)) (by decide)
 refine dU X11 hx hby df_3 rfl ?_
 refine aA X11 hx hby df_4 rfl rfl ?_
 refine aA X11 hx hby df_5 rfl rfl ?_
 refine aA X11 hx hby df_6 rfl rfl ?_
 obtain ⟨_, _, ⟨T12, L12, k12, n12⟩, -, X12, ⟨Lc12, hQ12, l12, y12, z12⟩, st12⟩ := X11.specialBack hx (y := oY19) rfl hown (mvT hZ (tw_137 hw)) (mvT hZ (tw_138 hw)) (mvT hZ (tw_140 hw)) (by decide) (backOf (W := 1) (rm_entInitR l Z a0 hw [] b11 b1 vx nd0 h11 n0 f11_0 A11 g_b11 F11_color F11_key F11_value F11_parent F11_left F11_right) hZ (tw_140 hw) (tw_136 hw) (by decide) (by decide)) (g := (mkF m 7 #[(vR mp), (vR b1), (vR vx), (vR nd0), (vI 0), .unset] [(.ref nd0), (.ref vx), (.ref b1), (.ref b11), (.ref b11)])) rfl (by rw [hml]; rfl) (Steps.refl _) (a := b11) (argsL := [(.ref b1), (.ref vx), (.ref nd0)]) (rest := [(.ref b11)]) (lenOf pd17 rfl) rfl (by show 2 * 0 + _ ≤ _; exact Nat.le_of_eq rfl) (hb hby df_7) (fun _ _ => ⟨rfl, e11, (by decide : 1 + 0 ≤ _), (by decide : 6 + 0 ≤ _)⟩)
 dsimp only [Pt.U, Pt.locs, Pt.cells, Pt.slots] at X12 l12 y12 z12 st12 hQ12
 subst l12 y12 z12
 obtain ⟨rfl, N12q, K12, G12_0, G12_1, G12_2, G12_3, G12_4, G12_5⟩ := hQ12
 have N12 := Fr.app N0 N12q
 refine Go.by (fun t k => st12.trans k) ?_
 have u12_0 := ninS ne_nd0_b11 nin0
 have u12_1 := ninS ne_mp_b11 nin0
 have f12_0 := Nat.le_trans f11_0 K12.1
 have f12_1 := Keep.trans f11_1 K12 (allS (Or.inr sz_b11) all0)
 have f12_2 := Old.keep f11_2 K12 (allS g_b11 all0)
 have f12_3 := Exa.keep f11_3 K12
 have f12_4 := Fld.keep f11_4 K12 u12_1
 have f12_5 := Fld.keep f11_5 K12 u12_1
 have f12_6 := Fld.keep f11_6 K12 u12_1
 have f12_7 := Fld.keep f11_7 K12 u12_1
 have f12_8 := Exa.keep f11_8 K12
 have f12_9 := Fld.keep f11_9 K12 u12_0
 have f12_10 := Fld.keep f11_10 K12 u12_0
 have f12_11 := Fld.keep f11_11 K12 u12_0
 have f12_12 := Fld.keep f11_12 K12 u12_0
 have f12_13 := Fld.keep f11_13 K12 u12_0
 have f12_14 := Exa.keep A11 K12
 show oG p e below P m T12 10 #[(vR mp), (vR b1), (vR vx), (vR nd0), (vI 0), .unset] [(.ref b11)]
 refine aT X12 hx hby df_10 rfl rfl ?_
 refine iB X12 hx hby df_12 rfl ?_
 refine fY X12 hx hby df_14 (pc' := 26) (XT.i0_eq_t (by decide : (0 : Int32) = (0 : Int32))) ?_
 refine aA X12 hx hby df_26 rfl rfl ?_
 refine aB X12 hx hby df_27 rfl rfl ?_
 obtain ⟨T13, h13, X13, e13, W13, st13⟩ := putF X12 hx hZ hown (host := "") (Or.inl (tw_167 hw)) Via.refl rfl f12_11 f12_8 (Or.inl (tw_168 hw)) (tw_135 hw) (ty := (.object q_0)) (by decide) rfl rfl (g := (mkF m 29 #[(vR mp), (vR b1), (vR vx), (vR nd0), (vI 0), (vR b11)] [(.ref b11), (.ref nd0)])) rfl rfl (hb hby df_29)
 refine Go.by st13 ?_
 have N13 := Fr.snoc X13 N12 g_nd0
 have f13_0 := Nat.le_trans f12_0 (Keep.of_wr W13).1
 have f13_1 := Keep.wr f12_1 W13 (Or.inl (List.mem_of_getElem? (i := 1) rfl))
 have f13_2 := Old.wr f12_2 W13 g_nd0
 have f13_3 := Exa.wr W13 f12_3
 have f13_4 := Fld.other W13 f12_4 (Or.inl (ne_exa s0 s5 (by decide)))
 have f13_5 := Fld.other W13 f12_5 (Or.inl (ne_exa s0 s5 (by decide)))
 have f13_6 := Fld.other W13 f12_6 (Or.inl (ne_exa s0 s5 (by decide)))
 have f13_7 := Fld.other W13 f12_7 (Or.inl (ne_exa s0 s5 (by decide)))
 have f13_8 := Exa.wr W13 f12_8
 have f13_9 := Fld.other W13 f12_9 (Or.inr (slot_ne (Or.inl (tw_145 hw)) (Or.inl (tw_168 hw)) (by decide) (t := (.object q_16)) (t' := (.object q_0)) (by decide) (by decide)))
 have f13_10 := Fld.other W13 f12_10 (Or.inr (slot_ne (Or.inl (tw_210 hw)) (Or.inl (tw_168 hw)) (by decide) (t := (.object q_0)) (t' := (.object q_0)) (by decide) (by decide)))
 have f13_11 := Fld.same W13 f12_11
 have f13_12 := Fld.other W13 f12_12 (Or.inr (slot_ne (Or.inl (tw_149 hw)) (Or.inl (tw_168 hw)) (by decide) (t := (.object q_0)) (t' := (.object q_0)) (by decide) (by decide)))
 have f13_13 := Fld.other W13 f12_13 (Or.inr (slot_ne (Or.inl (tw_143 hw)) (Or.inl (tw_168 hw)) (by decide) (t := .boolean) (t' := (.object q_0)) (by decide) (by decide)))
 have f13_14 := Exa.wr W13 f12_14
 have f13_15 := Fld.other W13 G12_0 (Or.inl (Ne.symm ne_nd0_b11))
 have f13_16 := Fld.other W13 G12_1 (Or.inl (Ne.symm ne_nd0_b11))
 have f13_18 := Fld.other W13 G12_3 (Or.inl (Ne.symm ne_nd0_b11))
 have f13_19 := Fld.other W13 G12_4 (Or.inl (Ne.symm ne_nd0_b11))
 have f13_20 := Fld.other W13 G12_5 (Or.inl (Ne.symm ne_nd0_b11))
 refine aA X13 hx hby df_32 rfl rfl ?_
 refine aB X13 hx hby df_33 rfl rfl ?_
 obtain ⟨cq14, q14a, q14b⟩ := Exa.cell f13_3
 obtain ⟨_, _, ⟨T14, L14, k14, n14⟩, -, X14, ⟨Lc14, hQ14, l14, y14, z14⟩, st14⟩ := X13.privateBack hx (y := oY16) hown (mvT hZ (tw_194 hw)) (mvT hZ (tw_195 hw)) (own_selfP (args := #[(.ref mp), (.ref b1), (.ref vx), (.ref nd0), (.int 0)]) (mvT hZ (tw_197 hw)) (mvT hZ (tw_195 hw)) (mvP hZ (tw_196 hw)) (by decide)) (Cond.privateMethod_at (args := #[]) (mvP hZ (tw_196 hw))) (mvT hZ (tw_198 hw)) (by decide) (backOf (W := 0) (rm_fix1 l Z a0 hw [] mp nd0 b11 b0 b1 sz mc h13 n0 f13_0 f13_2 f13_3 f13_4 f13_5 f13_6 f13_7 f13_8 f13_9 f13_10 f13_11 f13_12 f13_13 f13_14 f13_16 f13_19 f13_20 f13_18 f13_15 g_mp g_nd0 g_b11 ne_nd0_b11) hZ (tw_198 hw) (tw_44 hw) (by decide) (by decide)) (g := (mkF m 35 #[(vR mp), (vR b1), (vR vx), (vR nd0), (vI 0), (vR b11)] [(.ref b11), (.ref mp)])) rfl (by rw [hml]; rfl) (Steps.refl _) (a := mp) (by rw [e13]; exact q14a) q14b (argsL := [(.ref b11)]) (rest := []) (lenOf pd16 rfl) rfl (by show 2 * 0 + _ ≤ _; exact Nat.le_of_eq rfl) (hb hby df_35) (fun _ _ => ⟨rfl, e13, (by decide : 1 + 0 ≤ _), (by decide : 6 + 0 ≤ _)⟩)
 dsimp only [Pt.U, Pt.locs, Pt.cells, Pt.slots] at X14 l14 y14 z14 st14 hQ14
 subst l14 y14 z14
 obtain ⟨rfl, N14q, K14, G14_0, G14_1, G14_2, G14_3, G14_4, G14_5, G14_6, G14_7, G14_8, G14_9, G14_10, G14_11, G14_12, G14_13, G14_14, G14_15, G14_16⟩ := hQ14
 have N14 := Fr.app N13 N14q
 refine Go.by (fun t k => st14.trans k) ?_
 have f14_1 := Keep.trans f13_1 K14 (allS (Or.inl (List.mem_of_getElem? (i := 0) rfl)) (allS (Or.inl (List.mem_of_getElem? (i := 1) rfl)) (allS (Or.inr sz_b11) all0)))
 have f14_3 := Exa.keep f13_3 K14
 have f14_4 := Exa.keep f13_8 K14
 have f14_5 := Exa.keep f13_14 K14
 show oG p e below P m T14 38 #[(vR mp), (vR b1), (vR vx), (vR nd0), (vI 0), (vR b11)] []
 refine aA X14 hx hby df_38 rfl rfl ?_
 refine dU X14 hx hby df_39 rfl ?_
 refine gF X14 hx hby hZ hown (tw_55 hw) Via.refl rfl G14_2 df_40 ?_
 intro T15 X15 e15
 refine iC X15 hx hby df_43 (v := 1) rfl ?_
 refine iP X15 hx hby df_44 (v := (sz + (1 : Int32))) rfl ?_
 obtain ⟨T16, h16, X16, e16, W16, st16⟩ := putF X15 hx hZ hown (host := "") (Or.inl (tw_55 hw)) Via.refl e15 G14_2 f14_3 (Or.inl (tw_56 hw)) (tw_43 hw) (ty := .int) (by decide) rfl rfl (g := (mkF m 45 #[(vR mp), (vR b1), (vR vx), (vR nd0), (vI 0), (vR b11)] [(.int (sz + (1 : Int32))), (.ref mp)])) rfl rfl (hb hby df_45)
 refine Go.by st16 ?_
 have N16 := Fr.snoc X16 N14 g_mp
 have f16_1 := Keep.wr f14_1 W16 (Or.inl (List.mem_of_getElem? (i := 0) rfl))
 have f16_3 := Exa.wr W16 f14_3
 have f16_4 := Exa.wr W16 f14_4
 have f16_5 := Exa.wr W16 f14_5
 have f16_6 := Fld.other W16 G14_1 (Or.inr (slot_ne (Or.inl (tw_101 hw)) (Or.inl (tw_56 hw)) (by decide) (t := (.object q_0)) (t' := .int) (by decide) (by decide)))
 have f16_7 := Fld.same W16 G14_2
 have f16_8 := Fld.other W16 G14_3 (Or.inr (slot_ne (Or.inl (tw_58 hw)) (Or.inl (tw_56 hw)) (by decide) (t := .int) (t' := .int) (by decide) (by decide)))
 have f16_9 := Fld.other W16 G14_4 (Or.inr (slot_ne (Or.inr (tw_60 hw)) (Or.inl (tw_56 hw)) (by decide) (t := (.object q_21)) (t' := .int) (by decide) (by decide)))
 have f16_10 := Fld.other W16 G14_6 (Or.inl (Ne.symm (ne_exa s0 s5 (by decide))))
 have f16_11 := Fld.other W16 G14_7 (Or.inl (Ne.symm (ne_exa s0 s5 (by decide))))
 have f16_12 := Fld.other W16 G14_8 (Or.inl (Ne.symm (ne_exa s0 s5 (by decide))))
 have f16_13 := Fld.other W16 G14_9 (Or.inl (Ne.symm (ne_exa s0 s5 (by decide))))
 have f16_14 := Fld.other W16 G14_10 (Or.inl (Ne.symm (ne_exa s0 s5 (by decide))))
 have f16_15 := Fld.other W16 G14_12 (Or.inl (Ne.symm ne_mp_b11))
 have f16_16 := Fld.other W16 G14_13 (Or.inl (Ne.symm ne_mp_b11))
 have f16_17 := Fld.other W16 G14_14 (Or.inl (Ne.symm ne_mp_b11))
 have f16_18 := Fld.other W16 G14_15 (Or.inl (Ne.symm ne_mp_b11))
 have f16_19 := Fld.other W16 G14_16 (Or.inl (Ne.symm ne_mp_b11))
 refine aA X16 hx hby df_48 rfl rfl ?_
 refine dU X16 hx hby df_49 rfl ?_
 refine gF X16 hx hby hZ hown (tw_57 hw) Via.refl e16 f16_8 df_50 ?_
 intro T17 X17 e17
 refine iC X17 hx hby df_53 (v := 1) rfl ?_
 refine iP X17 hx hby df_54 (v := (mc + (1 : Int32))) rfl ?_
 obtain ⟨T18, h18, X18, e18, W18, st18⟩ := putF X17 hx hZ hown (host := "") (Or.inl (tw_57 hw)) Via.refl e17 f16_8 f16_3 (Or.inl (tw_58 hw)) (tw_43 hw) (ty := .int) (by decide) rfl rfl (g := (mkF m 55 #[(vR mp), (vR b1), (vR vx), (vR nd0), (vI 0), (vR b11)] [(.int (mc + (1 : Int32))), (.ref mp)])) rfl rfl (hb hby df_55)
 refine Go.by st18 ?_
 have N18 := Fr.snoc X18 N16 g_mp
 have f18_1 := Keep.wr f16_1 W18 (Or.inl (List.mem_of_getElem? (i := 0) rfl))
 have f18_3 := Exa.wr W18 f16_3
 have f18_4 := Exa.wr W18 f16_4
 have f18_5 := Exa.wr W18 f16_5
 have f18_6 := Fld.other W18 f16_6 (Or.inr (slot_ne (Or.inl (tw_101 hw)) (Or.inl (tw_58 hw)) (by decide) (t := (.object q_0)) (t' := .int) (by decide) (by decide)))
 have f18_7 := Fld.other W18 f16_7 (Or.inr (slot_ne (Or.inl (tw_56 hw)) (Or.inl (tw_58 hw)) (by decide) (t := .int) (t' := .int) (by decide) (by decide)))
 have f18_8 := Fld.same W18 f16_8
 have f18_9 := Fld.other W18 f16_9 (Or.inr (slot_ne (Or.inr (tw_60 hw)) (Or.inl (tw_58 hw)) (by decide) (t := (.object q_21)) (t' := .int) (by decide) (by decide)))
 have f18_10 := Fld.other W18 f16_10 (Or.inl (Ne.symm (ne_exa s0 s5 (by decide))))
 have f18_11 := Fld.other W18 f16_11 (Or.inl (Ne.symm (ne_exa s0 s5 (by decide))))
 have f18_12 := Fld.other W18 f16_12 (Or.inl (Ne.symm (ne_exa s0 s5 (by decide))))
 have f18_13 := Fld.other W18 f16_13 (Or.inl (Ne.symm (ne_exa s0 s5 (by decide))))
 have f18_14 := Fld.other W18 f16_14 (Or.inl (Ne.symm (ne_exa s0 s5 (by decide))))
 have f18_15 := Fld.other W18 f16_15 (Or.inl (Ne.symm ne_mp_b11))
 have f18_16 := Fld.other W18 f16_16 (Or.inl (Ne.symm ne_mp_b11))
 have f18_17 := Fld.other W18 f16_17 (Or.inl (Ne.symm ne_mp_b11))
 have f18_18 := Fld.other W18 f16_18 (Or.inl (Ne.symm ne_mp_b11))
 have f18_19 := Fld.other W18 f16_19 (Or.inl (Ne.symm ne_mp_b11))
 show oG p e below P m T18 58 #[(vR mp), (vR b1), (vR vx), (vR nd0), (vI 0), (vR b11)] []
 refine own_fin hP hlk X18 (v := none) (fun _ => rfl) (by decide) (by decide) ?_ (fun fs hr => X18.returnOut hx hret (hb hby df_58) hr)
 rw [e18]
 exact ⟨rfl, N18, f18_1, b11, sz_b11, f18_3, f18_6, f18_7, f18_8, f18_9, f18_4, f18_10, f18_11, f18_12, f18_13, f18_14, f18_5, f18_15, f18_16, f18_17, f18_18, f18_19⟩
def Q_addE2 (Z : State) (mp nd0 nd1 b0 b1 b2 vx : Addr) (sz mc : Int32) (h0 : Heap) (n0 : Nat) (v : Option Value) (h : Heap) (L : List Loc) : Prop := v = none ∧ Fr n0 L ∧ Keep h0 h [mp, nd0, nd1] ∧ ∃ en, h0.size ≤ en ∧ Exa Z h mp q_2 ∧ Fld Z h mp q_2 q_12 q_1 (.ref nd1) ∧ Fld Z h mp q_2 q_13 "I" (.int (sz + (1 : Int32))) ∧ Fld Z h mp q_2 q_14 "I" (.int (mc + (1 : Int32))) ∧ Fld Z h mp q_2 q_10 q_11 .null ∧ Exa Z h nd0 q_0 ∧ Fld Z h nd0 q_0 q_8 q_4 (.ref b0) ∧ Fld Z h nd0 q_0 q_6 q_1 .null ∧ Fld Z h nd0 q_0 q_9 q_1 .null ∧ Fld Z h nd0 q_0 q_5 q_1 (.ref nd1) ∧ Fld Z h nd0 q_0 q_7 "Z" (.int 0) ∧ Exa Z h nd1 q_0 ∧ Fld Z h nd1 q_0 q_8 q_4 (.ref b1) ∧ Fld Z h nd1 q_0 q_6 q_1 (.ref nd0) ∧ Fld Z h nd1 q_0 q_9 q_1 (.ref en) ∧ Fld Z h nd1 q_0 q_5 q_1 .null ∧ Fld Z h nd1 q_0 q_7 "Z" (.int 1) ∧ Exa Z h en q_0 ∧ Fld Z h en q_0 q_8 q_4 (.ref b2) ∧ Fld Z h en q_0 q_6 q_1 .null ∧ Fld Z h en q_0 q_9 q_1 .null ∧ Fld Z h en q_0 q_5 q_1 (.ref nd1) ∧ Fld Z h en q_0 q_7 "Z" (.int 0)
theorem rm_addE2 (l : Launch) (Z : State) (a0 : Array Value) (hw : oW a0 Z) (ws : List Jvm.Cond) (mp nd0 nd1 b0 b1 b2 vx : Addr) (sz mc : Int32) (h0 : Heap) (n0 : Nat) (Z0 : n0 ≤ h0.size) (O0 : Old Z n0 h0) (s0 : Exa Z h0 mp q_2) (s1 : Fld Z h0 mp q_2 q_12 q_1 (.ref nd0)) (s2 : Fld Z h0 mp q_2 q_13 "I" (.int sz)) (s3 : Fld Z h0 mp q_2 q_14 "I" (.int mc)) (s4 : Fld Z h0 mp q_2 q_10 q_11 .null) (s5 : Exa Z h0 nd0 q_0) (s6 : Fld Z h0 nd0 q_0 q_8 q_4 (.ref b0)) (s7 : Fld Z h0 nd0 q_0 q_6 q_1 .null) (s8 : Fld Z h0 nd0 q_0 q_9 q_1 (.ref nd1)) (s9 : Fld Z h0 nd0 q_0 q_5 q_1 .null) (s10 : Fld Z h0 nd0 q_0 q_7 "Z" (.int 1)) (s11 : Exa Z h0 nd1 q_0) (s12 : Fld Z h0 nd1 q_0 q_8 q_4 (.ref b1)) (s13 : Fld Z h0 nd1 q_0 q_6 q_1 .null) (s14 : Fld Z h0 nd1 q_0 q_9 q_1 .null) (s15 : Fld Z h0 nd1 q_0 q_5 q_1 (.ref nd0)) (s16 : Fld Z h0 nd1 q_0 q_7 "Z" (.int 0)) (g_mp : n0 ≤ mp) (g_nd0 : n0 ≤ nd0) (g_nd1 : n0 ≤ nd1) (ne_nd0_nd1 : nd0 ≠ nd1) :
   oM l oY13 j2729_29 6 none ws (own_R 2 1 6 40) #[(.ref mp), (.ref b2), (.ref vx), (.ref nd1), (.int 0)] Z h0 (Q_addE2 Z mp nd0 nd1 b0 b1 b2 vx sz mc h0 n0) := by
 refine own_open (n0 := n0) (cn := q_2) rfl (plainFor_of_name pn0) (L0 := #[(vR mp), (vR b2), (vR vx), (vR nd1), (vI 0), .unset]) ?_
 intro p e s m below meth c s₁ P hx hby hml hown hnm X0 e0 N0 hlk hret hZ hP
 obtain ⟨T11, h11, X11, e11, E11, A11, D11, U11, st11⟩ := newO X0 hx hZ hown (tw_134 hw) (tw_135 hw) (tw_136 hw) e0 (g := (mkF m 0 #[(vR mp), (vR b2), (vR vx), (vR nd1), (vI 0), .unset] [])) rfl (hb hby df_0) (by decide) (by decide)
 obtain ⟨b11, g11⟩ : ∃ z, z = h0.size := ⟨_, rfl⟩
 rw [← g11] at A11 D11 U11 st11
 have g_b11 : n0 ≤ b11 := Nat.le_trans Z0 (Nat.le_of_eq g11.symm)
 have sz_b11 : h0.size ≤ b11 := Nat.le_trans (Keep.refl h0 [mp, nd0, nd1]).1 (Nat.le_of_eq g11.symm)
 have ne_mp_b11 : mp ≠ b11 := Nat.ne_of_lt (Nat.lt_of_lt_of_le (s0.lt) (Nat.le_of_eq g11.symm))
 have ne_nd0_b11 : nd0 ≠ b11 := Nat.ne_of_lt (Nat.lt_of_lt_of_le (s5.lt) (Nat.le_of_eq g11.symm))
 have ne_nd1_b11 : nd1 ≠ b11 := Nat.ne_of_lt (Nat.lt_of_lt_of_le (s11.lt) (Nat.le_of_eq g11.symm))
 have f11_0 := Nat.le_trans Z0 E11.1
 have f11_1 := Keep.ext (Keep.refl h0 [mp, nd0, nd1]) E11
 have f11_2 := Old.ext O0 E11
 have f11_3 := Exa.ext E11 s0
 have f11_4 := Fld.ext E11 s1
 have f11_5 := Fld.ext E11 s2
 have f11_6 := Fld.ext E11 s3
 have f11_7 := Fld.ext E11 s4
 have f11_8 := Exa.ext E11 s5
 have f11_9 := Fld.ext E11 s6
 have f11_10 := Fld.ext E11 s7
 have f11_11 := Fld.ext E11 s8
 have f11_12 := Fld.ext E11 s9
 have f11_13 := Fld.ext E11 s10
 have f11_14 := Exa.ext E11 s11
 have f11_15 := Fld.ext E11 s12
 have f11_16 := Fld.ext E11 s13
 have f11_17 := Fld.ext E11 s14
 have f11_18 := Fld.ext E11 s15
 have f11_19 := Fld.ext E11 s16
 refine Go.by st11 ?_
 have F11_color : Fld Z h11 b11 q_0 q_7 "Z" (.int 0) := D11 (Or.inl (tw_143 hw)) (ty := .boolean) (by decide)
 have F11_key : Fld Z h11 b11 q_0 q_8 q_4 .null := D11 (Or.inl (tw_145 hw)) (ty := (.object q_16)) (by decide)
 have F11_value : Fld Z h11 b11 q_0 "value" q_4 .null := D11 (Or.inl (tw_147 hw)) (ty := (.object q_16)) (by decide)
 have F11_parent : Fld Z h11 b11 q_0 q_5 q_1 .null := D11 (Or.inl (tw_149 hw)) (ty := (.object q_0)) (by decide)
 have F11_right : Fld Z h11 b11 q_0 q_9 q_1 .null := D11 (Or.inl (tw_168 hw)) (ty := (.object q_0)) (by decide)
 have F11_left : Fld Z h11 b11 q_0 q_6 q_1 .null := D11 (Or.inl (tw_210 hw)) (ty := (.object q_0)) (by decide)
 refine dU X11 hx hby df_3 rfl ?_
 refine aA X11 hx hby df_4 rfl rfl ?_
 refine aA X11 hx hby df_5 rfl rfl ?_
 refine aA X11 hx hby df_6 rfl rfl ?_
 obtain ⟨_, _, ⟨T12, L12, k12, n12⟩, -, X12, ⟨Lc12, hQ12, l12, y12, z12⟩, st12⟩ := X11.specialBack hx (y := oY19) rfl hown (mvT hZ (tw_137 hw)) (mvT hZ (tw_138 hw)) (mvT hZ (tw_140 hw)) (by decide) (backOf (W := 1) (rm_entInitR l Z a0 hw [] b11 b2 vx nd1 h11 n0 f11_0 A11 g_b11 F11_color F11_key F11_value F11_parent F11_left F11_right) hZ (tw_140 hw) (tw_136 hw) (by decide) (by decide)) (g := (mkF m 7 #[(vR mp), (vR b2), (vR vx), (vR nd1), (vI 0), .unset] [(.ref nd1), (.ref vx), (.ref b2), (.ref b11), (.ref b11)])) rfl (by rw [hml]; rfl) (Steps.refl _) (a := b11) (argsL := [(.ref b2), (.ref vx), (.ref nd1)]) (rest := [(.ref b11)]) (lenOf pd17 rfl) rfl (by show 2 * 0 + _ ≤ _; exact Nat.le_of_eq rfl) (hb hby df_7) (fun _ _ => ⟨rfl, e11, (by decide : 1 + 0 ≤ _), (by decide : 6 + 0 ≤ _)⟩)
 dsimp only [Pt.U, Pt.locs, Pt.cells, Pt.slots] at X12 l12 y12 z12 st12 hQ12
 subst l12 y12 z12
 obtain ⟨rfl, N12q, K12, G12_0, G12_1, G12_2, G12_3, G12_4, G12_5⟩ := hQ12
 have N12 := Fr.app N0 N12q
 refine Go.by (fun t k => st12.trans k) ?_
 have u12_0 := ninS ne_nd0_b11 nin0
 have u12_1 := ninS ne_nd1_b11 nin0
 have u12_2 := ninS ne_mp_b11 nin0
 have f12_0 := Nat.le_trans f11_0 K12.1
 have f12_1 := Keep.trans f11_1 K12 (allS (Or.inr sz_b11) all0)
 have f12_2 := Old.keep f11_2 K12 (allS g_b11 all0)
 have f12_3 := Exa.keep f11_3 K12
 have f12_4 := Fld.keep f11_4 K12 u12_2
 have f12_5 := Fld.keep f11_5 K12 u12_2
 have f12_6 := Fld.keep f11_6 K12 u12_2
 have f12_7 := Fld.keep f11_7 K12 u12_2
 have f12_8 := Exa.keep f11_8 K12
 have f12_9 := Fld.keep f11_9 K12 u12_0
 have f12_10 := Fld.keep f11_10 K12 u12_0
 have f12_11 := Fld.keep f11_11 K12 u12_0
 have f12_12 := Fld.keep f11_12 K12 u12_0
 have f12_13 := Fld.keep f11_13 K12 u12_0
 have f12_14 := Exa.keep f11_14 K12
 have f12_15 := Fld.keep f11_15 K12 u12_1
 have f12_16 := Fld.keep f11_16 K12 u12_1
 have f12_17 := Fld.keep f11_17 K12 u12_1
 have f12_18 := Fld.keep f11_18 K12 u12_1
 have f12_19 := Fld.keep f11_19 K12 u12_1
 have f12_20 := Exa.keep A11 K12
 show oG p e below P m T12 10 #[(vR mp), (vR b2), (vR vx), (vR nd1), (vI 0), .unset] [(.ref b11)]
 refine aT X12 hx hby df_10 rfl rfl ?_
 refine iB X12 hx hby df_12 rfl ?_
 refine fY X12 hx hby df_14 (pc' := 26) (XT.i0_eq_t (by decide : (0 : Int32) = (0 : Int32))) ?_
 refine aA X12 hx hby df_26 rfl rfl ?_
 refine aB X12 hx hby df_27 rfl rfl ?_
 obtain ⟨T13, h13, X13, e13, W13, st13⟩ := putF X12 hx hZ hown (host := "") (Or.inl (tw_167 hw)) Via.refl rfl f12_17 f12_14 (Or.inl (tw_168 hw)) (tw_135 hw) (ty := (.object q_0)) (by decide) rfl rfl (g := (mkF m 29 #[(vR mp), (vR b2), (vR vx), (vR nd1), (vI 0), (vR b11)] [(.ref b11), (.ref nd1)])) rfl rfl (hb hby df_29)
 refine Go.by st13 ?_
 have N13 := Fr.snoc X13 N12 g_nd1
 have f13_0 := Nat.le_trans f12_0 (Keep.of_wr W13).1
 have f13_1 := Keep.wr f12_1 W13 (Or.inl (List.mem_of_getElem? (i := 2) rfl))
 have f13_2 := Old.wr f12_2 W13 g_nd1
 have f13_3 := Exa.wr W13 f12_3
 have f13_4 := Fld.other W13 f12_4 (Or.inl (ne_exa s0 s11 (by decide)))
 have f13_5 := Fld.other W13 f12_5 (Or.inl (ne_exa s0 s11 (by decide)))
 have f13_6 := Fld.other W13 f12_6 (Or.inl (ne_exa s0 s11 (by decide)))
 have f13_7 := Fld.other W13 f12_7 (Or.inl (ne_exa s0 s11 (by decide)))
 have f13_8 := Exa.wr W13 f12_8
 have f13_9 := Fld.other W13 f12_9 (Or.inl ne_nd0_nd1)
 have f13_10 := Fld.other W13 f12_10 (Or.inl ne_nd0_nd1)
 have f13_11 := Fld.other W13 f12_11 (Or.inl ne_nd0_nd1)
 have f13_12 := Fld.other W13 f12_12 (Or.inl ne_nd0_nd1)
 have f13_13 := Fld.other W13 f12_13 (Or.inl ne_nd0_nd1)
 have f13_14 := Exa.wr W13 f12_14
 have f13_15 := Fld.other W13 f12_15 (Or.inr (slot_ne (Or.inl (tw_145 hw)) (Or.inl (tw_168 hw)) (by decide) (t := (.object q_16)) (t' := (.object q_0)) (by decide) (by decide)))
 have f13_16 := Fld.other W13 f12_16 (Or.inr (slot_ne (Or.inl (tw_210 hw)) (Or.inl (tw_168 hw)) (by decide) (t := (.object q_0)) (t' := (.object q_0)) (by decide) (by decide)))
 have f13_17 := Fld.same W13 f12_17
 have f13_18 := Fld.other W13 f12_18 (Or.inr (slot_ne (Or.inl (tw_149 hw)) (Or.inl (tw_168 hw)) (by decide) (t := (.object q_0)) (t' := (.object q_0)) (by decide) (by decide)))
 have f13_19 := Fld.other W13 f12_19 (Or.inr (slot_ne (Or.inl (tw_143 hw)) (Or.inl (tw_168 hw)) (by decide) (t := .boolean) (t' := (.object q_0)) (by decide) (by decide)))
 have f13_20 := Exa.wr W13 f12_20
 have f13_21 := Fld.other W13 G12_0 (Or.inl (Ne.symm ne_nd1_b11))
 have f13_22 := Fld.other W13 G12_1 (Or.inl (Ne.symm ne_nd1_b11))
 have f13_24 := Fld.other W13 G12_3 (Or.inl (Ne.symm ne_nd1_b11))
 have f13_25 := Fld.other W13 G12_4 (Or.inl (Ne.symm ne_nd1_b11))
 have f13_26 := Fld.other W13 G12_5 (Or.inl (Ne.symm ne_nd1_b11))
 refine aA X13 hx hby df_32 rfl rfl ?_
 refine aB X13 hx hby df_33 rfl rfl ?_
 obtain ⟨cq14, q14a, q14b⟩ := Exa.cell f13_3
 obtain ⟨_, _, ⟨T14, L14, k14, n14⟩, -, X14, ⟨Lc14, hQ14, l14, y14, z14⟩, st14⟩ := X13.privateBack hx (y := oY16) hown (mvT hZ (tw_194 hw)) (mvT hZ (tw_195 hw)) (own_selfP (args := #[(.ref mp), (.ref b2), (.ref vx), (.ref nd1), (.int 0)]) (mvT hZ (tw_197 hw)) (mvT hZ (tw_195 hw)) (mvP hZ (tw_196 hw)) (by decide)) (Cond.privateMethod_at (args := #[]) (mvP hZ (tw_196 hw))) (mvT hZ (tw_198 hw)) (by decide) (backOf (W := 0) (rm_fix2 l Z a0 hw [] mp nd0 nd1 b11 b0 b1 b2 sz mc h13 n0 f13_0 f13_2 f13_3 f13_4 f13_5 f13_6 f13_7 f13_8 f13_9 f13_10 f13_11 f13_12 f13_13 f13_14 f13_15 f13_16 f13_17 f13_18 f13_19 f13_20 f13_22 f13_25 f13_26 f13_24 f13_21 g_mp g_nd0 g_nd1 g_b11 ne_nd0_nd1 ne_nd0_b11 ne_nd1_b11) hZ (tw_198 hw) (tw_44 hw) (by decide) (by decide)) (g := (mkF m 35 #[(vR mp), (vR b2), (vR vx), (vR nd1), (vI 0), (vR b11)] [(.ref b11), (.ref mp)])) rfl (by rw [hml]; rfl) (Steps.refl _) (a := mp) (by rw [e13]; exact q14a) q14b (argsL := [(.ref b11)]) (rest := []) (lenOf pd16 rfl) rfl (by show 2 * 0 + _ ≤ _; exact Nat.le_of_eq rfl) (hb hby df_35) (fun _ _ => ⟨rfl, e13, (by decide : 1 + 0 ≤ _), (by decide : 6 + 0 ≤ _)⟩)
 dsimp only [Pt.U, Pt.locs, Pt.cells, Pt.slots] at X14 l14 y14 z14 st14 hQ14
 subst l14 y14 z14
 obtain ⟨rfl, N14q, K14, G14_0, G14_1, G14_2, G14_3, G14_4, G14_5, G14_6, G14_7, G14_8, G14_9, G14_10, G14_11, G14_12, G14_13, G14_14, G14_15, G14_16, G14_17, G14_18, G14_19, G14_20, G14_21, G14_22⟩ := hQ14
 have N14 := Fr.app N13 N14q
 refine Go.by (fun t k => st14.trans k) ?_
 have f14_1 := Keep.trans f13_1 K14 (allS (Or.inl (List.mem_of_getElem? (i := 0) rfl)) (allS (Or.inl (List.mem_of_getElem? (i := 1) rfl)) (allS (Or.inl (List.mem_of_getElem? (i := 2) rfl)) (allS (Or.inr sz_b11) all0))))
 have f14_3 := Exa.keep f13_3 K14
 have f14_4 := Exa.keep f13_8 K14
 have f14_5 := Exa.keep f13_14 K14
 have f14_6 := Exa.keep f13_20 K14
 show oG p e below P m T14 38 #[(vR mp), (vR b2), (vR vx), (vR nd1), (vI 0), (vR b11)] []
 refine aA X14 hx hby df_38 rfl rfl ?_
 refine dU X14 hx hby df_39 rfl ?_
 refine gF X14 hx hby hZ hown (tw_55 hw) Via.refl rfl G14_2 df_40 ?_
 intro T15 X15 e15
 refine iC X15 hx hby df_43 (v := 1) rfl ?_
 refine iP X15 hx hby df_44 (v := (sz + (1 : Int32))) rfl ?_
 obtain ⟨T16, h16, X16, e16, W16, st16⟩ := putF X15 hx hZ hown (host := "") (Or.inl (tw_55 hw)) Via.refl e15 G14_2 f14_3 (Or.inl (tw_56 hw)) (tw_43 hw) (ty := .int) (by decide) rfl rfl (g := (mkF m 45 #[(vR mp), (vR b2), (vR vx), (vR nd1), (vI 0), (vR b11)] [(.int (sz + (1 : Int32))), (.ref mp)])) rfl rfl (hb hby df_45)
 refine Go.by st16 ?_
 have N16 := Fr.snoc X16 N14 g_mp
 have f16_1 := Keep.wr f14_1 W16 (Or.inl (List.mem_of_getElem? (i := 0) rfl))
 have f16_3 := Exa.wr W16 f14_3
 have f16_4 := Exa.wr W16 f14_4
 have f16_5 := Exa.wr W16 f14_5
 have f16_6 := Exa.wr W16 f14_6
 have f16_7 := Fld.other W16 G14_1 (Or.inr (slot_ne (Or.inl (tw_101 hw)) (Or.inl (tw_56 hw)) (by decide) (t := (.object q_0)) (t' := .int) (by decide) (by decide)))
 have f16_8 := Fld.same W16 G14_2
 have f16_9 := Fld.other W16 G14_3 (Or.inr (slot_ne (Or.inl (tw_58 hw)) (Or.inl (tw_56 hw)) (by decide) (t := .int) (t' := .int) (by decide) (by decide)))
 have f16_10 := Fld.other W16 G14_4 (Or.inr (slot_ne (Or.inr (tw_60 hw)) (Or.inl (tw_56 hw)) (by decide) (t := (.object q_21)) (t' := .int) (by decide) (by decide)))
 have f16_11 := Fld.other W16 G14_6 (Or.inl (Ne.symm (ne_exa s0 s5 (by decide))))
 have f16_12 := Fld.other W16 G14_7 (Or.inl (Ne.symm (ne_exa s0 s5 (by decide))))
 have f16_13 := Fld.other W16 G14_8 (Or.inl (Ne.symm (ne_exa s0 s5 (by decide))))
 have f16_14 := Fld.other W16 G14_9 (Or.inl (Ne.symm (ne_exa s0 s5 (by decide))))
 have f16_15 := Fld.other W16 G14_10 (Or.inl (Ne.symm (ne_exa s0 s5 (by decide))))
 have f16_16 := Fld.other W16 G14_12 (Or.inl (Ne.symm (ne_exa s0 s11 (by decide))))
 have f16_17 := Fld.other W16 G14_13 (Or.inl (Ne.symm (ne_exa s0 s11 (by decide))))
 have f16_18 := Fld.other W16 G14_14 (Or.inl (Ne.symm (ne_exa s0 s11 (by decide))))
 have f16_19 := Fld.other W16 G14_15 (Or.inl (Ne.symm (ne_exa s0 s11 (by decide))))
 have f16_20 := Fld.other W16 G14_16 (Or.inl (Ne.symm (ne_exa s0 s11 (by decide))))
 have f16_21 := Fld.other W16 G14_18 (Or.inl (Ne.symm ne_mp_b11))
 have f16_22 := Fld.other W16 G14_19 (Or.inl (Ne.symm ne_mp_b11))
 have f16_23 := Fld.other W16 G14_20 (Or.inl (Ne.symm ne_mp_b11))
 have f16_24 := Fld.other W16 G14_21 (Or.inl (Ne.symm ne_mp_b11))
 have f16_25 := Fld.other W16 G14_22 (Or.inl (Ne.symm ne_mp_b11))
 refine aA X16 hx hby df_48 rfl rfl ?_
 refine dU X16 hx hby df_49 rfl ?_
 refine gF X16 hx hby hZ hown (tw_57 hw) Via.refl e16 f16_9 df_50 ?_
 intro T17 X17 e17
 refine iC X17 hx hby df_53 (v := 1) rfl ?_
 refine iP X17 hx hby df_54 (v := (mc + (1 : Int32))) rfl ?_
 obtain ⟨T18, h18, X18, e18, W18, st18⟩ := putF X17 hx hZ hown (host := "") (Or.inl (tw_57 hw)) Via.refl e17 f16_9 f16_3 (Or.inl (tw_58 hw)) (tw_43 hw) (ty := .int) (by decide) rfl rfl (g := (mkF m 55 #[(vR mp), (vR b2), (vR vx), (vR nd1), (vI 0), (vR b11)] [(.int (mc + (1 : Int32))), (.ref mp)])) rfl rfl (hb hby df_55)
 refine Go.by st18 ?_
 have N18 := Fr.snoc X18 N16 g_mp
 have f18_1 := Keep.wr f16_1 W18 (Or.inl (List.mem_of_getElem? (i := 0) rfl))
 have f18_3 := Exa.wr W18 f16_3
 have f18_4 := Exa.wr W18 f16_4
 have f18_5 := Exa.wr W18 f16_5
 have f18_6 := Exa.wr W18 f16_6
 have f18_7 := Fld.other W18 f16_7 (Or.inr (slot_ne (Or.inl (tw_101 hw)) (Or.inl (tw_58 hw)) (by decide) (t := (.object q_0)) (t' := .int) (by decide) (by decide)))
 have f18_8 := Fld.other W18 f16_8 (Or.inr (slot_ne (Or.inl (tw_56 hw)) (Or.inl (tw_58 hw)) (by decide) (t := .int) (t' := .int) (by decide) (by decide)))
 have f18_9 := Fld.same W18 f16_9
 have f18_10 := Fld.other W18 f16_10 (Or.inr (slot_ne (Or.inr (tw_60 hw)) (Or.inl (tw_58 hw)) (by decide) (t := (.object q_21)) (t' := .int) (by decide) (by decide)))
 have f18_11 := Fld.other W18 f16_11 (Or.inl (Ne.symm (ne_exa s0 s5 (by decide))))
 have f18_12 := Fld.other W18 f16_12 (Or.inl (Ne.symm (ne_exa s0 s5 (by decide))))
 have f18_13 := Fld.other W18 f16_13 (Or.inl (Ne.symm (ne_exa s0 s5 (by decide))))
 have f18_14 := Fld.other W18 f16_14 (Or.inl (Ne.symm (ne_exa s0 s5 (by decide))))
 have f18_15 := Fld.other W18 f16_15 (Or.inl (Ne.symm (ne_exa s0 s5 (by decide))))
 have f18_16 := Fld.other W18 f16_16 (Or.inl (Ne.symm (ne_exa s0 s11 (by decide))))
 have f18_17 := Fld.other W18 f16_17 (Or.inl (Ne.symm (ne_exa s0 s11 (by decide))))
 have f18_18 := Fld.other W18 f16_18 (Or.inl (Ne.symm (ne_exa s0 s11 (by decide))))
 have f18_19 := Fld.other W18 f16_19 (Or.inl (Ne.symm (ne_exa s0 s11 (by decide))))
 have f18_20 := Fld.other W18 f16_20 (Or.inl (Ne.symm (ne_exa s0 s11 (by decide))))
 have f18_21 := Fld.other W18 f16_21 (Or.inl (Ne.symm ne_mp_b11))
 have f18_22 := Fld.other W18 f16_22 (Or.inl (Ne.symm ne_mp_b11))
 have f18_23 := Fld.other W18 f16_23 (Or.inl (Ne.symm ne_mp_b11))
 have f18_24 := Fld.other W18 f16_24 (Or.inl (Ne.symm ne_mp_b11))
 have f18_25 := Fld.other W18 f16_25 (Or.inl (Ne.symm ne_mp_b11))
 show oG p e below P m T18 58 #[(vR mp), (vR b2), (vR vx), (vR nd1), (vI 0), (vR b11)] []
 refine own_fin hP hlk X18 (v := none) (fun _ => rfl) (by decide) (by decide) ?_ (fun fs hr => X18.returnOut hx hret (hb hby df_58) hr)
 rw [e18]
 exact ⟨rfl, N18, f18_1, b11, sz_b11, f18_3, f18_7, f18_8, f18_9, f18_10, f18_4, f18_11, f18_12, f18_13, f18_14, f18_15, f18_5, f18_16, f18_17, f18_18, f18_19, f18_20, f18_6, f18_21, f18_22, f18_23, f18_24, f18_25⟩
def Q_addE3 (Z : State) (mp nd0 nd1 nd2 b0 b1 b2 b3 vx : Addr) (sz mc : Int32) (h0 : Heap) (n0 : Nat) (v : Option Value) (h : Heap) (L : List Loc) : Prop := v = none ∧ Fr n0 L ∧ Keep h0 h [mp, nd0, nd1, nd2] ∧ ∃ en, h0.size ≤ en ∧ Exa Z h mp q_2 ∧ Fld Z h mp q_2 q_12 q_1 (.ref nd1) ∧ Fld Z h mp q_2 q_13 "I" (.int (sz + (1 : Int32))) ∧ Fld Z h mp q_2 q_14 "I" (.int (mc + (1 : Int32))) ∧ Fld Z h mp q_2 q_10 q_11 .null ∧ Exa Z h nd0 q_0 ∧ Fld Z h nd0 q_0 q_8 q_4 (.ref b0) ∧ Fld Z h nd0 q_0 q_6 q_1 .null ∧ Fld Z h nd0 q_0 q_9 q_1 .null ∧ Fld Z h nd0 q_0 q_5 q_1 (.ref nd1) ∧ Fld Z h nd0 q_0 q_7 "Z" (.int 1) ∧ Exa Z h nd1 q_0 ∧ Fld Z h nd1 q_0 q_8 q_4 (.ref b1) ∧ Fld Z h nd1 q_0 q_6 q_1 (.ref nd0) ∧ Fld Z h nd1 q_0 q_9 q_1 (.ref nd2) ∧ Fld Z h nd1 q_0 q_5 q_1 .null ∧ Fld Z h nd1 q_0 q_7 "Z" (.int 1) ∧ Exa Z h nd2 q_0 ∧ Fld Z h nd2 q_0 q_8 q_4 (.ref b2) ∧ Fld Z h nd2 q_0 q_6 q_1 .null ∧ Fld Z h nd2 q_0 q_9 q_1 (.ref en) ∧ Fld Z h nd2 q_0 q_5 q_1 (.ref nd1) ∧ Fld Z h nd2 q_0 q_7 "Z" (.int 1) ∧ Exa Z h en q_0 ∧ Fld Z h en q_0 q_8 q_4 (.ref b3) ∧ Fld Z h en q_0 q_6 q_1 .null ∧ Fld Z h en q_0 q_9 q_1 .null ∧ Fld Z h en q_0 q_5 q_1 (.ref nd2) ∧ Fld Z h en q_0 q_7 "Z" (.int 0)
theorem rm_addE3 (l : Launch) (Z : State) (a0 : Array Value) (hw : oW a0 Z) (ws : List Jvm.Cond) (mp nd0 nd1 nd2 b0 b1 b2 b3 vx : Addr) (sz mc : Int32) (h0 : Heap) (n0 : Nat) (Z0 : n0 ≤ h0.size) (O0 : Old Z n0 h0) (s0 : Exa Z h0 mp q_2) (s1 : Fld Z h0 mp q_2 q_12 q_1 (.ref nd1)) (s2 : Fld Z h0 mp q_2 q_13 "I" (.int sz)) (s3 : Fld Z h0 mp q_2 q_14 "I" (.int mc)) (s4 : Fld Z h0 mp q_2 q_10 q_11 .null) (s5 : Exa Z h0 nd0 q_0) (s6 : Fld Z h0 nd0 q_0 q_8 q_4 (.ref b0)) (s7 : Fld Z h0 nd0 q_0 q_6 q_1 .null) (s8 : Fld Z h0 nd0 q_0 q_9 q_1 .null) (s9 : Fld Z h0 nd0 q_0 q_5 q_1 (.ref nd1)) (s10 : Fld Z h0 nd0 q_0 q_7 "Z" (.int 0)) (s11 : Exa Z h0 nd1 q_0) (s12 : Fld Z h0 nd1 q_0 q_8 q_4 (.ref b1)) (s13 : Fld Z h0 nd1 q_0 q_6 q_1 (.ref nd0)) (s14 : Fld Z h0 nd1 q_0 q_9 q_1 (.ref nd2)) (s15 : Fld Z h0 nd1 q_0 q_5 q_1 .null) (s16 : Fld Z h0 nd1 q_0 q_7 "Z" (.int 1)) (s17 : Exa Z h0 nd2 q_0) (s18 : Fld Z h0 nd2 q_0 q_8 q_4 (.ref b2)) (s19 : Fld Z h0 nd2 q_0 q_6 q_1 .null) (s20 : Fld Z h0 nd2 q_0 q_9 q_1 .null) (s21 : Fld Z h0 nd2 q_0 q_5 q_1 (.ref nd1)) (s22 : Fld Z h0 nd2 q_0 q_7 "Z" (.int 0)) (g_mp : n0 ≤ mp) (g_nd0 : n0 ≤ nd0) (g_nd1 : n0 ≤ nd1) (g_nd2 : n0 ≤ nd2) (ne_nd0_nd1 : nd0 ≠ nd1) (ne_nd0_nd2 : nd0 ≠ nd2) (ne_nd1_nd2 : nd1 ≠ nd2) :
   oM l oY13 j2729_29 6 none ws (own_R 2 1 6 40) #[(.ref mp), (.ref b3), (.ref vx), (.ref nd2), (.int 0)] Z h0 (Q_addE3 Z mp nd0 nd1 nd2 b0 b1 b2 b3 vx sz mc h0 n0) := by
 refine own_open (n0 := n0) (cn := q_2) rfl (plainFor_of_name pn0) (L0 := #[(vR mp), (vR b3), (vR vx), (vR nd2), (vI 0), .unset]) ?_
 intro p e s m below meth c s₁ P hx hby hml hown hnm X0 e0 N0 hlk hret hZ hP
 obtain ⟨T11, h11, X11, e11, E11, A11, D11, U11, st11⟩ := newO X0 hx hZ hown (tw_134 hw) (tw_135 hw) (tw_136 hw) e0 (g := (mkF m 0 #[(vR mp), (vR b3), (vR vx), (vR nd2), (vI 0), .unset] [])) rfl (hb hby df_0) (by decide) (by decide)
 obtain ⟨b11, g11⟩ : ∃ z, z = h0.size := ⟨_, rfl⟩
 rw [← g11] at A11 D11 U11 st11
 have g_b11 : n0 ≤ b11 := Nat.le_trans Z0 (Nat.le_of_eq g11.symm)
 have sz_b11 : h0.size ≤ b11 := Nat.le_trans (Keep.refl h0 [mp, nd0, nd1, nd2]).1 (Nat.le_of_eq g11.symm)
 have ne_mp_b11 : mp ≠ b11 := Nat.ne_of_lt (Nat.lt_of_lt_of_le (s0.lt) (Nat.le_of_eq g11.symm))
 have ne_nd0_b11 : nd0 ≠ b11 := Nat.ne_of_lt (Nat.lt_of_lt_of_le (s5.lt) (Nat.le_of_eq g11.symm))
 have ne_nd1_b11 : nd1 ≠ b11 := Nat.ne_of_lt (Nat.lt_of_lt_of_le (s11.lt) (Nat.le_of_eq g11.symm))
 have ne_nd2_b11 : nd2 ≠ b11 := Nat.ne_of_lt (Nat.lt_of_lt_of_le (s17.lt) (Nat.le_of_eq g11.symm))
 have f11_0 := Nat.le_trans Z0 E11.1
 have f11_1 := Keep.ext (Keep.refl h0 [mp, nd0, nd1, nd2]) E11
 have f11_2 := Old.ext O0 E11
 have f11_3 := Exa.ext E11 s0
 have f11_4 := Fld.ext E11 s1
 have f11_5 := Fld.ext E11 s2
 have f11_6 := Fld.ext E11 s3
 have f11_7 := Fld.ext E11 s4
 have f11_8 := Exa.ext E11 s5
 have f11_9 := Fld.ext E11 s6
 have f11_10 := Fld.ext E11 s7
 have f11_11 := Fld.ext E11 s8
 have f11_12 := Fld.ext E11 s9
 have f11_13 := Fld.ext E11 s10
 have f11_14 := Exa.ext E11 s11
 have f11_15 := Fld.ext E11 s12
 have f11_16 := Fld.ext E11 s13
 have f11_17 := Fld.ext E11 s14
 have f11_18 := Fld.ext E11 s15
 have f11_19 := Fld.ext E11 s16
 have f11_20 := Exa.ext E11 s17
 have f11_21 := Fld.ext E11 s18
 have f11_22 := Fld.ext E11 s19
 have f11_23 := Fld.ext E11 s20
 have f11_24 := Fld.ext E11 s21
 have f11_25 := Fld.ext E11 s22
 refine Go.by st11 ?_
 have F11_color : Fld Z h11 b11 q_0 q_7 "Z" (.int 0) := D11 (Or.inl (tw_143 hw)) (ty := .boolean) (by decide)
 have F11_key : Fld Z h11 b11 q_0 q_8 q_4 .null := D11 (Or.inl (tw_145 hw)) (ty := (.object q_16)) (by decide)
 have F11_value : Fld Z h11 b11 q_0 "value" q_4 .null := D11 (Or.inl (tw_147 hw)) (ty := (.object q_16)) (by decide)
 have F11_parent : Fld Z h11 b11 q_0 q_5 q_1 .null := D11 (Or.inl (tw_149 hw)) (ty := (.object q_0)) (by decide)
 have F11_right : Fld Z h11 b11 q_0 q_9 q_1 .null := D11 (Or.inl (tw_168 hw)) (ty := (.object q_0)) (by decide)
 have F11_left : Fld Z h11 b11 q_0 q_6 q_1 .null := D11 (Or.inl (tw_210 hw)) (ty := (.object q_0)) (by decide)
 refine dU X11 hx hby df_3 rfl ?_
 refine aA X11 hx hby df_4 rfl rfl ?_
 refine aA X11 hx hby df_5 rfl rfl ?_
 refine aA X11 hx hby df_6 rfl rfl ?_
 obtain ⟨_, _, ⟨T12, L12, k12, n12⟩, -, X12, ⟨Lc12, hQ12, l12, y12, z12⟩, st12⟩ := X11.specialBack hx (y := oY19) rfl hown (mvT hZ (tw_137 hw)) (mvT hZ (tw_138 hw)) (mvT hZ (tw_140 hw)) (by decide) (backOf (W := 1) (rm_entInitR l Z a0 hw [] b11 b3 vx nd2 h11 n0 f11_0 A11 g_b11 F11_color F11_key F11_value F11_parent F11_left F11_right) hZ (tw_140 hw) (tw_136 hw) (by decide) (by decide)) (g := (mkF m 7 #[(vR mp), (vR b3), (vR vx), (vR nd2), (vI 0), .unset] [(.ref nd2), (.ref vx), (.ref b3), (.ref b11), (.ref b11)])) rfl (by rw [hml]; rfl) (Steps.refl _) (a := b11) (argsL := [(.ref b3), (.ref vx), (.ref nd2)]) (rest := [(.ref b11)]) (lenOf pd17 rfl) rfl (by show 2 * 0 + _ ≤ _; exact Nat.le_of_eq rfl) (hb hby df_7) (fun _ _ => ⟨rfl, e11, (by decide : 1 + 0 ≤ _), (by decide : 6 + 0 ≤ _)⟩)
 dsimp only [Pt.U, Pt.locs, Pt.cells, Pt.slots] at X12 l12 y12 z12 st12 hQ12
 subst l12 y12 z12
 obtain ⟨rfl, N12q, K12, G12_0, G12_1, G12_2, G12_3, G12_4, G12_5⟩ := hQ12
 have N12 := Fr.app N0 N12q
 refine Go.by (fun t k => st12.trans k) ?_
 have u12_0 := ninS ne_nd0_b11 nin0
 have u12_1 := ninS ne_nd1_b11 nin0
 have u12_2 := ninS ne_nd2_b11 nin0
 have u12_3 := ninS ne_mp_b11 nin0
 have f12_0 := Nat.le_trans f11_0 K12.1
 have f12_1 := Keep.trans f11_1 K12 (allS (Or.inr sz_b11) all0)
 have f12_2 := Old.keep f11_2 K12 (allS g_b11 all0)
 have f12_3 := Exa.keep f11_3 K12
 have f12_4 := Fld.keep f11_4 K12 u12_3
 have f12_5 := Fld.keep f11_5 K12 u12_3
 have f12_6 := Fld.keep f11_6 K12 u12_3
 have f12_7 := Fld.keep f11_7 K12 u12_3
 have f12_8 := Exa.keep f11_8 K12
 have f12_9 := Fld.keep f11_9 K12 u12_0
 have f12_10 := Fld.keep f11_10 K12 u12_0
 have f12_11 := Fld.keep f11_11 K12 u12_0
 have f12_12 := Fld.keep f11_12 K12 u12_0
 have f12_13 := Fld.keep f11_13 K12 u12_0
 have f12_14 := Exa.keep f11_14 K12
 have f12_15 := Fld.keep f11_15 K12 u12_1
 have f12_16 := Fld.keep f11_16 K12 u12_1
 have f12_17 := Fld.keep f11_17 K12 u12_1
 have f12_18 := Fld.keep f11_18 K12 u12_1
 have f12_19 := Fld.keep f11_19 K12 u12_1
 have f12_20 := Exa.keep f11_20 K12
 have f12_21 := Fld.keep f11_21 K12 u12_2
 have f12_22 := Fld.keep f11_22 K12 u12_2
 have f12_23 := Fld.keep f11_23 K12 u12_2
 have f12_24 := Fld.keep f11_24 K12 u12_2
 have f12_25 := Fld.keep f11_25 K12 u12_2
 have f12_26 := Exa.keep A11 K12
 show oG p e below P m T12 10 #[(vR mp), (vR b3), (vR vx), (vR nd2), (vI 0), .unset] [(.ref b11)]
 refine aT X12 hx hby df_10 rfl rfl ?_
 refine iB X12 hx hby df_12 rfl ?_
 refine fY X12 hx hby df_14 (pc' := 26) (XT.i0_eq_t (by decide : (0 : Int32) = (0 : Int32))) ?_
 refine aA X12 hx hby df_26 rfl rfl ?_
 refine aB X12 hx hby df_27 rfl rfl ?_
 obtain ⟨T13, h13, X13, e13, W13, st13⟩ := putF X12 hx hZ hown (host := "") (Or.inl (tw_167 hw)) Via.refl rfl f12_23 f12_20 (Or.inl (tw_168 hw)) (tw_135 hw) (ty := (.object q_0)) (by decide) rfl rfl (g := (mkF m 29 #[(vR mp), (vR b3), (vR vx), (vR nd2), (vI 0), (vR b11)] [(.ref b11), (.ref nd2)])) rfl rfl (hb hby df_29)
 refine Go.by st13 ?_
 have N13 := Fr.snoc X13 N12 g_nd2
 have f13_0 := Nat.le_trans f12_0 (Keep.of_wr W13).1
 have f13_1 := Keep.wr f12_1 W13 (Or.inl (List.mem_of_getElem? (i := 3) rfl))
 have f13_2 := Old.wr f12_2 W13 g_nd2
 have f13_3 := Exa.wr W13 f12_3
 have f13_4 := Fld.other W13 f12_4 (Or.inl (ne_exa s0 s17 (by decide)))
 have f13_5 := Fld.other W13 f12_5 (Or.inl (ne_exa s0 s17 (by decide)))
 have f13_6 := Fld.other W13 f12_6 (Or.inl (ne_exa s0 s17 (by decide)))
 have f13_7 := Fld.other W13 f12_7 (Or.inl (ne_exa s0 s17 (by decide)))
 have f13_8 := Exa.wr W13 f12_8
 have f13_9 := Fld.other W13 f12_9 (Or.inl ne_nd0_nd2)
 have f13_10 := Fld.other W13 f12_10 (Or.inl ne_nd0_nd2)
 have f13_11 := Fld.other W13 f12_11 (Or.inl ne_nd0_nd2)
 have f13_12 := Fld.other W13 f12_12 (Or.inl ne_nd0_nd2)
 have f13_13 := Fld.other W13 f12_13 (Or.inl ne_nd0_nd2)
 have f13_14 := Exa.wr W13 f12_14
 have f13_15 := Fld.other W13 f12_15 (Or.inl ne_nd1_nd2)
 have f13_16 := Fld.other W13 f12_16 (Or.inl ne_nd1_nd2)
 have f13_17 := Fld.other W13 f12_17 (Or.inl ne_nd1_nd2)
 have f13_18 := Fld.other W13 f12_18 (Or.inl ne_nd1_nd2)
 have f13_19 := Fld.other W13 f12_19 (Or.inl ne_nd1_nd2)
 have f13_20 := Exa.wr W13 f12_20
 have f13_21 := Fld.other W13 f12_21 (Or.inr (slot_ne (Or.inl (tw_145 hw)) (Or.inl (tw_168 hw)) (by decide) (t := (.object q_16)) (t' := (.object q_0)) (by decide) (by decide)))
 have f13_22 := Fld.other W13 f12_22 (Or.inr (slot_ne (Or.inl (tw_210 hw)) (Or.inl (tw_168 hw)) (by decide) (t := (.object q_0)) (t' := (.object q_0)) (by decide) (by decide)))
 have f13_23 := Fld.same W13 f12_23
 have f13_24 := Fld.other W13 f12_24 (Or.inr (slot_ne (Or.inl (tw_149 hw)) (Or.inl (tw_168 hw)) (by decide) (t := (.object q_0)) (t' := (.object q_0)) (by decide) (by decide)))
 have f13_25 := Fld.other W13 f12_25 (Or.inr (slot_ne (Or.inl (tw_143 hw)) (Or.inl (tw_168 hw)) (by decide) (t := .boolean) (t' := (.object q_0)) (by decide) (by decide)))
 have f13_26 := Exa.wr W13 f12_26
 have f13_27 := Fld.other W13 G12_0 (Or.inl (Ne.symm ne_nd2_b11))
 have f13_28 := Fld.other W13 G12_1 (Or.inl (Ne.symm ne_nd2_b11))
 have f13_30 := Fld.other W13 G12_3 (Or.inl (Ne.symm ne_nd2_b11))
 have f13_31 := Fld.other W13 G12_4 (Or.inl (Ne.symm ne_nd2_b11))
 have f13_32 := Fld.other W13 G12_5 (Or.inl (Ne.symm ne_nd2_b11))
 refine aA X13 hx hby df_32 rfl rfl ?_
 refine aB X13 hx hby df_33 rfl rfl ?_
 obtain ⟨cq14, q14a, q14b⟩ := Exa.cell f13_3
 obtain ⟨_, _, ⟨T14, L14, k14, n14⟩, -, X14, ⟨Lc14, hQ14, l14, y14, z14⟩, st14⟩ := X13.privateBack hx (y := oY16) hown (mvT hZ (tw_194 hw)) (mvT hZ (tw_195 hw)) (own_selfP (args := #[(.ref mp), (.ref b3), (.ref vx), (.ref nd2), (.int 0)]) (mvT hZ (tw_197 hw)) (mvT hZ (tw_195 hw)) (mvP hZ (tw_196 hw)) (by decide)) (Cond.privateMethod_at (args := #[]) (mvP hZ (tw_196 hw))) (mvT hZ (tw_198 hw)) (by decide) (backOf (W := 0) (rm_fix3 l Z a0 hw [] mp nd0 nd1 nd2 b11 b0 b1 b2 b3 sz mc h13 n0 f13_0 f13_2 f13_3 f13_4 f13_5 f13_6 f13_7 f13_8 f13_9 f13_10 f13_11 f13_12 f13_13 f13_14 f13_15 f13_16 f13_17 f13_18 f13_19 f13_20 f13_21 f13_22 f13_23 f13_24 f13_25 f13_26 f13_28 f13_31 f13_32 f13_30 f13_27 g_mp g_nd0 g_nd1 g_nd2 g_b11 ne_nd0_nd1 ne_nd0_nd2 ne_nd0_b11 ne_nd1_nd2 ne_nd1_b11 ne_nd2_b11) hZ (tw_198 hw) (tw_44 hw) (by decide) (by decide)) (g := (mkF m 35 #[(vR mp), (vR b3), (vR vx), (vR nd2), (vI 0), (vR b11)] [(.ref b11), (.ref mp)])) rfl (by rw [hml]; rfl) (Steps.refl _) (a := mp) (by rw [e13]; exact q14a) q14b (argsL := [(.ref b11)]) (rest := []) (lenOf pd16 rfl) rfl (by show 2 * 0 + _ ≤ _; exact Nat.le_of_eq rfl) (hb hby df_35) (fun _ _ => ⟨rfl, e13, (by decide : 1 + 0 ≤ _), (by decide : 6 + 0 ≤ _)⟩)
 dsimp only [Pt.U, Pt.locs, Pt.cells, Pt.slots] at X14 l14 y14 z14 st14 hQ14
 subst l14 y14 z14
 obtain ⟨rfl, N14q, K14, G14_0, G14_1, G14_2, G14_3, G14_4, G14_5, G14_6, G14_7, G14_8, G14_9, G14_10, G14_11, G14_12, G14_13, G14_14, G14_15, G14_16, G14_17, G14_18, G14_19, G14_20, G14_21, G14_22, G14_23, G14_24, G14_25, G14_26, G14_27, G14_28⟩ := hQ14
 have N14 := Fr.app N13 N14q
 refine Go.by (fun t k => st14.trans k) ?_
 have f14_1 := Keep.trans f13_1 K14 (allS (Or.inl (List.mem_of_getElem? (i := 0) rfl)) (allS (Or.inl (List.mem_of_getElem? (i := 1) rfl)) (allS (Or.inl (List.mem_of_getElem? (i := 2) rfl)) (allS (Or.inl (List.mem_of_getElem? (i := 3) rfl)) (allS (Or.inr sz_b11) all0)))))
 have f14_3 := Exa.keep f13_3 K14
 have f14_4 := Exa.keep f13_8 K14
 have f14_5 := Exa.keep f13_14 K14
 have f14_6 := Exa.keep f13_20 K14
 have f14_7 := Exa.keep f13_26 K14
 show oG p e below P m T14 38 #[(vR mp), (vR b3), (vR vx), (vR nd2), (vI 0), (vR b11)] []
 refine aA X14 hx hby df_38 rfl rfl ?_
 refine dU X14 hx hby df_39 rfl ?_
 refine gF X14 hx hby hZ hown (tw_55 hw) Via.refl rfl G14_2 df_40 ?_
 intro T15 X15 e15
 refine iC X15 hx hby df_43 (v := 1) rfl ?_
 refine iP X15 hx hby df_44 (v := (sz + (1 : Int32))) rfl ?_
 obtain ⟨T16, h16, X16, e16, W16, st16⟩ := putF X15 hx hZ hown (host := "") (Or.inl (tw_55 hw)) Via.refl e15 G14_2 f14_3 (Or.inl (tw_56 hw)) (tw_43 hw) (ty := .int) (by decide) rfl rfl (g := (mkF m 45 #[(vR mp), (vR b3), (vR vx), (vR nd2), (vI 0), (vR b11)] [(.int (sz + (1 : Int32))), (.ref mp)])) rfl rfl (hb hby df_45)
 refine Go.by st16 ?_
 have N16 := Fr.snoc X16 N14 g_mp
 have f16_1 := Keep.wr f14_1 W16 (Or.inl (List.mem_of_getElem? (i := 0) rfl))
 have f16_3 := Exa.wr W16 f14_3
 have f16_4 := Exa.wr W16 f14_4
 have f16_5 := Exa.wr W16 f14_5
 have f16_6 := Exa.wr W16 f14_6
 have f16_7 := Exa.wr W16 f14_7
 have f16_8 := Fld.other W16 G14_1 (Or.inr (slot_ne (Or.inl (tw_101 hw)) (Or.inl (tw_56 hw)) (by decide) (t := (.object q_0)) (t' := .int) (by decide) (by decide)))
 have f16_9 := Fld.same W16 G14_2
 have f16_10 := Fld.other W16 G14_3 (Or.inr (slot_ne (Or.inl (tw_58 hw)) (Or.inl (tw_56 hw)) (by decide) (t := .int) (t' := .int) (by decide) (by decide)))
 have f16_11 := Fld.other W16 G14_4 (Or.inr (slot_ne (Or.inr (tw_60 hw)) (Or.inl (tw_56 hw)) (by decide) (t := (.object q_21)) (t' := .int) (by decide) (by decide)))
 have f16_12 := Fld.other W16 G14_6 (Or.inl (Ne.symm (ne_exa s0 s5 (by decide))))
 have f16_13 := Fld.other W16 G14_7 (Or.inl (Ne.symm (ne_exa s0 s5 (by decide))))
 have f16_14 := Fld.other W16 G14_8 (Or.inl (Ne.symm (ne_exa s0 s5 (by decide))))
 have f16_15 := Fld.other W16 G14_9 (Or.inl (Ne.symm (ne_exa s0 s5 (by decide))))
 have f16_16 := Fld.other W16 G14_10 (Or.inl (Ne.symm (ne_exa s0 s5 (by decide))))
 have f16_17 := Fld.other W16 G14_12 (Or.inl (Ne.symm (ne_exa s0 s11 (by decide))))
 have f16_18 := Fld.other W16 G14_13 (Or.inl (Ne.symm (ne_exa s0 s11 (by decide))))
 have f16_19 := Fld.other W16 G14_14 (Or.inl (Ne.symm (ne_exa s0 s11 (by decide))))
 have f16_20 := Fld.other W16 G14_15 (Or.inl (Ne.symm (ne_exa s0 s11 (by decide))))
 have f16_21 := Fld.other W16 G14_16 (Or.inl (Ne.symm (ne_exa s0 s11 (by decide))))
 have f16_22 := Fld.other W16 G14_18 (Or.inl (Ne.symm (ne_exa s0 s17 (by decide))))
 have f16_23 := Fld.other W16 G14_19 (Or.inl (Ne.symm (ne_exa s0 s17 (by decide))))
 have f16_24 := Fld.other W16 G14_20 (Or.inl (Ne.symm (ne_exa s0 s17 (by decide))))
 have f16_25 := Fld.other W16 G14_21 (Or.inl (Ne.symm (ne_exa s0 s17 (by decide))))
 have f16_26 := Fld.other W16 G14_22 (Or.inl (Ne.symm (ne_exa s0 s17 (by decide))))
 have f16_27 := Fld.other W16 G14_24 (Or.inl (Ne.symm ne_mp_b11))
 have f16_28 := Fld.other W16 G14_25 (Or.inl (Ne.symm ne_mp_b11))
 have f16_29 := Fld.other W16 G14_26 (Or.inl (Ne.symm ne_mp_b11))
 have f16_30 := Fld.other W16 G14_27 (Or.inl (Ne.symm ne_mp_b11))
 have f16_31 := Fld.other W16 G14_28 (Or.inl (Ne.symm ne_mp_b11))
 refine aA X16 hx hby df_48 rfl rfl ?_
 refine dU X16 hx hby df_49 rfl ?_
 refine gF X16 hx hby hZ hown (tw_57 hw) Via.refl e16 f16_10 df_50 ?_
 intro T17 X17 e17
 refine iC X17 hx hby df_53 (v := 1) rfl ?_
 refine iP X17 hx hby df_54 (v := (mc + (1 : Int32))) rfl ?_
 obtain ⟨T18, h18, X18, e18, W18, st18⟩ := putF X17 hx hZ hown (host := "") (Or.inl (tw_57 hw)) Via.refl e17 f16_10 f16_3 (Or.inl (tw_58 hw)) (tw_43 hw) (ty := .int) (by decide) rfl rfl (g := (mkF m 55 #[(vR mp), (vR b3), (vR vx), (vR nd2), (vI 0), (vR b11)] [(.int (mc + (1 : Int32))), (.ref mp)])) rfl rfl (hb hby df_55)
 refine Go.by st18 ?_
 have N18 := Fr.snoc X18 N16 g_mp
 have f18_1 := Keep.wr f16_1 W18 (Or.inl (List.mem_of_getElem? (i := 0) rfl))
 have f18_3 := Exa.wr W18 f16_3
 have f18_4 := Exa.wr W18 f16_4
 have f18_5 := Exa.wr W18 f16_5
 have f18_6 := Exa.wr W18 f16_6
 have f18_7 := Exa.wr W18 f16_7
 have f18_8 := Fld.other W18 f16_8 (Or.inr (slot_ne (Or.inl (tw_101 hw)) (Or.inl (tw_58 hw)) (by decide) (t := (.object q_0)) (t' := .int) (by decide) (by decide)))
 have f18_9 := Fld.other W18 f16_9 (Or.inr (slot_ne (Or.inl (tw_56 hw)) (Or.inl (tw_58 hw)) (by decide) (t := .int) (t' := .int) (by decide) (by decide)))
 have f18_10 := Fld.same W18 f16_10
 have f18_11 := Fld.other W18 f16_11 (Or.inr (slot_ne (Or.inr (tw_60 hw)) (Or.inl (tw_58 hw)) (by decide) (t := (.object q_21)) (t' := .int) (by decide) (by decide)))
 have f18_12 := Fld.other W18 f16_12 (Or.inl (Ne.symm (ne_exa s0 s5 (by decide))))
 have f18_13 := Fld.other W18 f16_13 (Or.inl (Ne.symm (ne_exa s0 s5 (by decide))))
 have f18_14 := Fld.other W18 f16_14 (Or.inl (Ne.symm (ne_exa s0 s5 (by decide))))
 have f18_15 := Fld.other W18 f16_15 (Or.inl (Ne.symm (ne_exa s0 s5 (by decide))))
 have f18_16 := Fld.other W18 f16_16 (Or.inl (Ne.symm (ne_exa s0 s5 (by decide))))
 have f18_17 := Fld.other W18 f16_17 (Or.inl (Ne.symm (ne_exa s0 s11 (by decide))))
 have f18_18 := Fld.other W18 f16_18 (Or.inl (Ne.symm (ne_exa s0 s11 (by decide))))
 have f18_19 := Fld.other W18 f16_19 (Or.inl (Ne.symm (ne_exa s0 s11 (by decide))))
 have f18_20 := Fld.other W18 f16_20 (Or.inl (Ne.symm (ne_exa s0 s11 (by decide))))
 have f18_21 := Fld.other W18 f16_21 (Or.inl (Ne.symm (ne_exa s0 s11 (by decide))))
 have f18_22 := Fld.other W18 f16_22 (Or.inl (Ne.symm (ne_exa s0 s17 (by decide))))
 have f18_23 := Fld.other W18 f16_23 (Or.inl (Ne.symm (ne_exa s0 s17 (by decide))))
 have f18_24 := Fld.other W18 f16_24 (Or.inl (Ne.symm (ne_exa s0 s17 (by decide))))
 have f18_25 := Fld.other W18 f16_25 (Or.inl (Ne.symm (ne_exa s0 s17 (by decide))))
 have f18_26 := Fld.other W18 f16_26 (Or.inl (Ne.symm (ne_exa s0 s17 (by decide))))
 have f18_27 := Fld.other W18 f16_27 (Or.inl (Ne.symm ne_mp_b11))
 have f18_28 := Fld.other W18 f16_28 (Or.inl (Ne.symm ne_mp_b11))
 have f18_29 := Fld.other W18 f16_29 (Or.inl (Ne.symm ne_mp_b11))
 have f18_30 := Fld.other W18 f16_30 (Or.inl (Ne.symm ne_mp_b11))
 have f18_31 := Fld.other W18 f16_31 (Or.inl (Ne.symm ne_mp_b11))
 show oG p e below P m T18 58 #[(vR mp), (vR b3), (vR vx), (vR nd2), (vI 0), (vR b11)] []
 refine own_fin hP hlk X18 (v := none) (fun _ => rfl) (by decide) (by decide) ?_ (fun fs hr => X18.returnOut hx hret (hb hby df_58) hr)
 rw [e18]
 exact ⟨rfl, N18, f18_1, b11, sz_b11, f18_3, f18_8, f18_9, f18_10, f18_11, f18_4, f18_12, f18_13, f18_14, f18_15, f18_16, f18_5, f18_17, f18_18, f18_19, f18_20, f18_21, f18_6, f18_22, f18_23, f18_24, f18_25, f18_26, f18_7, f18_27, f18_28, f18_29, f18_30, f18_31⟩
def Q_tmcmp (Z : State) (mp b0 : Addr) (x : Int64) (h0 : Heap) (n0 : Nat) (v : Option Value) (h : Heap) (L : List Loc) : Prop := v = some (.int 0) ∧ Fr n0 L ∧ h = h0
theorem rm_tmcmp (l : Launch) (Z : State) (a0 : Array Value) (hw : oW a0 Z) (ws : List Jvm.Cond) (mp b0 : Addr) (x : Int64) (h0 : Heap) (n0 : Nat) (Z0 : n0 ≤ h0.size) (O0 : Old Z n0 h0) (FC : Fld Z h0 mp q_2 q_10 q_11 .null) (B_b0 : own_Box Z b0 x) :
   oM l oY25 j2729_67 3 (some .int) ws (own_R 3 0 0 50) #[(.ref mp), (.ref b0), (.ref b0)] Z h0 (Q_tmcmp Z mp b0 x h0 n0) := by
 refine own_open (n0 := n0) (cn := q_2) rfl (plainFor_of_name pn0) (L0 := #[(vR mp), (vR b0), (vR b0)]) ?_
 intro p e s m below meth c s₁ P hx hby hml hown hnm X0 e0 N0 hlk hret hZ hP
 refine aA X0 hx hby dw_0 rfl rfl ?_
 refine gF X0 hx hby hZ hown (tw_59 hw) Via.refl e0 FC dw_1 ?_
 intro T11 X11 e11
 refine w_ifnonnullNo X11 hx hby dw_4 ?_
 refine aA X11 hx hby dw_7 rfl rfl ?_
 obtain ⟨T12, X12, e12, st12⟩ := castY X11 hx hZ hown (tw_112 hw) e11 (Ins.of_exa (Exa.ext O0.2 B_b0.1) (tw_113 hw)) (g := (mkF m 8 #[(vR mp), (vR b0), (vR b0)] [(.ref b0)])) rfl rfl (hb hby dw_8)
 refine Go.by st12 ?_
 refine aA X12 hx hby dw_11 rfl rfl ?_
 obtain ⟨cq13, kq13, q13a, q13b, q13c⟩ := isOf hZ e12 (Exa.ext O0.2 B_b0.1)
 obtain ⟨_, _, ⟨T13, L13, k13, n13⟩, -, X13, ⟨Lc13, hQ13, l13, y13, z13⟩, st13⟩ := X12.interfaceBack hx (xi := oY7) (y := oY4) hown (mvT hZ (tw_114 hw)) (mvT hZ (tw_115 hw)) (mvT hZ (tw_116 hw)) (mvT hZ (tw_117 hw)) (mvT hZ (tw_118 hw)) (mvT hZ (tw_119 hw)) (mvT hZ (tw_120 hw)) (mvT hZ (tw_113 hw)) (by decide) (backOf (W := 0) (rm_ct2_eq l Z a0 hw [] b0 b0 x x h0 n0 Z0 O0 B_b0 B_b0 rfl Int64.lt_irrefl) hZ (tw_121 hw) (tw_84 hw) (by decide) (by decide)) q13a q13b q13c (g := (mkF m 12 #[(vR mp), (vR b0), (vR b0)] [(.ref b0), (.ref b0)])) rfl (by rw [hml]; rfl) (Steps.refl _) (argsL := [(.ref b0)]) (rest := []) (lenOf pd0 rfl) rfl (by show 2 * 0 + _ ≤ _; exact Nat.le_of_eq rfl) (hb hby dw_12) (fun _ _ => ⟨rfl, e12, (by decide : 0 + 0 ≤ _), (by decide : 0 + 0 ≤ _)⟩)
 dsimp only [Pt.U, Pt.locs, Pt.cells, Pt.slots] at X13 l13 y13 z13 st13 hQ13
 subst l13 y13 z13
 obtain ⟨rfl, N13q, q13⟩ := hQ13
 have N13 := Fr.app N0 N13q
 refine Go.by (fun t k => st13.trans k) ?_
 show oG p e below P m T13 17 #[(vR mp), (vR b0), (vR b0)] [(.int 0)]
 refine gO X13 hx hby dw_17 (pc' := 31) ?_
 refine r_val hP hlk hret X13 hx hby dw_31 rfl (Or.inl ⟨rfl, Or.inl rfl, _, rfl⟩) (by decide) ?_
 rw [q13]
 exact ⟨rfl, N13, rfl⟩
def Q_addE0 (Z : State) (mp b0 vx : Addr) (sz mc : Int32) (x : Int64) (h0 : Heap) (n0 : Nat) (v : Option Value) (h : Heap) (L : List Loc) : Prop := v = none ∧ Fr n0 L ∧ Keep h0 h [mp] ∧ ∃ en, h0.size ≤ en ∧ Exa Z h mp q_2 ∧ Fld Z h mp q_2 q_12 q_1 (.ref en) ∧ Fld Z h mp q_2 q_13 "I" (.int 1) ∧ Fld Z h mp q_2 q_14 "I" (.int (mc + (1 : Int32))) ∧ Fld Z h mp q_2 q_10 q_11 .null ∧ Exa Z h en q_0 ∧ Fld Z h en q_0 q_8 q_4 (.ref b0) ∧ Fld Z h en q_0 q_6 q_1 .null ∧ Fld Z h en q_0 q_9 q_1 .null ∧ Fld Z h en q_0 q_5 q_1 .null ∧ Fld Z h en q_0 q_7 "Z" (.int 1)
theorem rm_addE0 (l : Launch) (Z : State) (a0 : Array Value) (hw : oW a0 Z) (ws : List Jvm.Cond) (mp b0 vx : Addr) (sz mc : Int32) (x : Int64) (h0 : Heap) (n0 : Nat) (Z0 : n0 ≤ h0.size) (O0 : Old Z n0 h0) (s0 : Exa Z h0 mp q_2) (s1 : Fld Z h0 mp q_2 q_12 q_1 .null) (s2 : Fld Z h0 mp q_2 q_13 "I" (.int sz)) (s3 : Fld Z h0 mp q_2 q_14 "I" (.int mc)) (s4 : Fld Z h0 mp q_2 q_10 q_11 .null) (g_mp : n0 ≤ mp) (B_b0 : own_Box Z b0 x) :
   oM l oY26 j2729_30 3 none ws (own_R 4 1 6 80) #[(.ref mp), (.ref b0), (.ref vx)] Z h0 (Q_addE0 Z mp b0 vx sz mc x h0 n0) := by
 refine own_open (n0 := n0) (cn := q_2) rfl (plainFor_of_name pn0) (L0 := #[(vR mp), (vR b0), (vR vx)]) ?_
 intro p e s m below meth c s₁ P hx hby hml hown hnm X0 e0 N0 hlk hret hZ hP
 refine aA X0 hx hby dn_0 rfl rfl ?_
 refine aA X0 hx hby dn_1 rfl rfl ?_
 refine aA X0 hx hby dn_2 rfl rfl ?_
 refine c_virt 0 X0 hx hby hml hZ hown (tw_107 hw) (tw_108 hw) (tw_110 hw) (tw_109 hw) (tw_111 hw) (tw_44 hw) (rm_tmcmp l Z a0 hw [] mp b0 x h0 n0 Z0 O0 s4 B_b0) e0 s0 dn_3 [(.ref b0), (.ref b0)] [] (lenOf pd25 rfl) rfl rfl ?_
 rintro _ T11 Lc11 ⟨rfl, N11q, q11⟩ X11
 have N11 := Fr.app N0 N11q
 refine pO X11 hx hby dn_6 rfl ?_
 refine aA X11 hx hby dn_7 rfl rfl ?_
 obtain ⟨T12, h12, X12, e12, E12, A12, D12, U12, st12⟩ := newO X11 hx hZ hown (tw_134 hw) (tw_135 hw) (tw_136 hw) q11 (g := (mkF m 8 #[(vR mp), (vR b0), (vR vx)] [(.ref mp)])) rfl (hb hby dn_8) (by decide) (by decide)
 obtain ⟨b12, g12⟩ : ∃ z, z = h0.size := ⟨_, rfl⟩
 rw [← g12] at A12 D12 U12 st12
 have g_b12 : n0 ≤ b12 := Nat.le_trans Z0 (Nat.le_of_eq g12.symm)
 have sz_b12 : h0.size ≤ b12 := Nat.le_trans (Keep.refl h0 [mp]).1 (Nat.le_of_eq g12.symm)
 have ne_mp_b12 : mp ≠ b12 := Nat.ne_of_lt (Nat.lt_of_lt_of_le (s0.lt) (Nat.le_of_eq g12.symm))
 have f12_0 := Nat.le_trans Z0 E12.1
 have f12_1 := Keep.ext (Keep.refl h0 [mp]) E12
 have f12_3 := Exa.ext E12 s0
 have f12_4 := Fld.ext E12 s1
 have f12_5 := Fld.ext E12 s2
 have f12_6 := Fld.ext E12 s3
 have f12_7 := Fld.ext E12 s4
 refine Go.by st12 ?_
 have F12_color : Fld Z h12 b12 q_0 q_7 "Z" (.int 0) := D12 (Or.inl (tw_143 hw)) (ty := .boolean) (by decide)
 have F12_key : Fld Z h12 b12 q_0 q_8 q_4 .null := D12 (Or.inl (tw_145 hw)) (ty := (.object q_16)) (by decide)
 have F12_value : Fld Z h12 b12 q_0 "value" q_4 .null := D12 (Or.inl (tw_147 hw)) (ty := (.object q_16)) (by decide)
 have F12_parent : Fld Z h12 b12 q_0 q_5 q_1 .null := D12 (Or.inl (tw_149 hw)) (ty := (.object q_0)) (by decide)
 have F12_right : Fld Z h12 b12 q_0 q_9 q_1 .null := D12 (Or.inl (tw_168 hw)) (ty := (.object q_0)) (by decide)
 have F12_left : Fld Z h12 b12 q_0 q_6 q_1 .null := D12 (Or.inl (tw_210 hw)) (ty := (.object q_0)) (by decide)
 refine dU X12 hx hby dn_11 rfl ?_
 refine aA X12 hx hby dn_12 rfl rfl ?_
 refine aA X12 hx hby dn_13 rfl rfl ?_
 refine w_aconstNull X12 hx hby dn_14 ?_
 obtain ⟨_, _, ⟨T13, L13, k13, n13⟩, -, X13, ⟨Lc13, hQ13, l13, y13, z13⟩, st13⟩ := X12.specialBack hx (y := oY19) rfl hown (mvT hZ (tw_137 hw)) (mvT hZ (tw_138 hw)) (mvT hZ (tw_140 hw)) (by decide) (backOf (W := 2) (rm_entInitN l Z a0 hw [] b12 b0 vx h12 n0 f12_0 A12 g_b12 F12_color F12_key F12_value F12_parent F12_left F12_right) hZ (tw_140 hw) (tw_136 hw) (by decide) (by decide)) (g := (mkF m 15 #[(vR mp), (vR b0), (vR vx)] [.null, (.ref vx), (.ref b0), (.ref b12), (.ref b12), (.ref mp)])) rfl (by rw [hml]; rfl) (Steps.refl _) (a := b12) (argsL := [(.ref b0), (.ref vx), .null]) (rest := [(.ref b12), (.ref mp)]) (lenOf pd17 rfl) rfl (by show 2 * 0 + _ ≤ _; exact Nat.le_of_eq rfl) (hb hby dn_15) (fun _ _ => ⟨rfl, e12, (by decide : 1 + 0 ≤ _), (by decide : 6 + 0 ≤ _)⟩)
 dsimp only [Pt.U, Pt.locs, Pt.cells, Pt.slots] at X13 l13 y13 z13 st13 hQ13
 subst l13 y13 z13
 obtain ⟨rfl, N13q, K13, G13_0, G13_1, G13_2, G13_3, G13_4, G13_5⟩ := hQ13
 have N13 := Fr.app N11 N13q
 refine Go.by (fun t k => st13.trans k) ?_
 have u13_0 := ninS ne_mp_b12 nin0
 have f13_1 := Keep.trans f12_1 K13 (allS (Or.inr sz_b12) all0)
 have f13_3 := Exa.keep f12_3 K13
 have f13_4 := Fld.keep f12_4 K13 u13_0
 have f13_5 := Fld.keep f12_5 K13 u13_0
 have f13_6 := Fld.keep f12_6 K13 u13_0
 have f13_7 := Fld.keep f12_7 K13 u13_0
 have f13_8 := Exa.keep A12 K13
 show oG p e below P m T13 18 #[(vR mp), (vR b0), (vR vx)] [(.ref b12), (.ref mp)]
 obtain ⟨T14, h14, X14, e14, W14, st14⟩ := putF X13 hx hZ hown (host := "") (Or.inl (tw_100 hw)) Via.refl rfl f13_4 f13_3 (Or.inl (tw_101 hw)) (tw_43 hw) (ty := (.object q_0)) (by decide) rfl rfl (g := (mkF m 18 #[(vR mp), (vR b0), (vR vx)] [(.ref b12), (.ref mp)])) rfl rfl (hb hby dn_18)
 refine Go.by st14 ?_
 have N14 := Fr.snoc X14 N13 g_mp
 have f14_1 := Keep.wr f13_1 W14 (Or.inl (List.mem_of_getElem? (i := 0) rfl))
 have f14_3 := Exa.wr W14 f13_3
 have f14_4 := Fld.same W14 f13_4
 have f14_5 := Fld.other W14 f13_5 (Or.inr (slot_ne (Or.inl (tw_56 hw)) (Or.inl (tw_101 hw)) (by decide) (t := .int) (t' := (.object q_0)) (by decide) (by decide)))
 have f14_6 := Fld.other W14 f13_6 (Or.inr (slot_ne (Or.inl (tw_58 hw)) (Or.inl (tw_101 hw)) (by decide) (t := .int) (t' := (.object q_0)) (by decide) (by decide)))
 have f14_7 := Fld.other W14 f13_7 (Or.inr (slot_ne (Or.inr (tw_60 hw)) (Or.inl (tw_101 hw)) (by decide) (t := (.object q_21)) (t' := (.object q_0)) (by decide) (by decide)))
 have f14_8 := Exa.wr W14 f13_8
 have f14_9 := Fld.other W14 G13_0 (Or.inl (Ne.symm ne_mp_b12))
 have f14_10 := Fld.other W14 G13_1 (Or.inl (Ne.symm ne_mp_b12))
 have f14_12 := Fld.other W14 G13_3 (Or.inl (Ne.symm ne_mp_b12))
 have f14_13 := Fld.other W14 G13_4 (Or.inl (Ne.symm ne_mp_b12))
 have f14_14 := Fld.other W14 G13_5 (Or.inl (Ne.symm ne_mp_b12))
 refine aA X14 hx hby dn_21 rfl rfl ?_
 refine iC X14 hx hby dn_22 (v := 1) rfl ?_
 obtain ⟨T15, h15, X15, e15, W15, st15⟩ := putF X14 hx hZ hown (host := "") (Or.inl (tw_55 hw)) Via.refl e14 f14_5 f14_3 (Or.inl (tw_56 hw)) (tw_43 hw) (ty := .int) (by decide) rfl rfl (g := (mkF m 23 #[(vR mp), (vR b0), (vR vx)] [(.int 1), (.ref mp)])) rfl rfl (hb hby dn_23)
 refine Go.by st15 ?_
 have N15 := Fr.snoc X15 N14 g_mp
 have f15_1 := Keep.wr f14_1 W15 (Or.inl (List.mem_of_getElem? (i := 0) rfl))
 have f15_3 := Exa.wr W15 f14_3
 have f15_4 := Fld.other W15 f14_4 (Or.inr (slot_ne (Or.inl (tw_101 hw)) (Or.inl (tw_56 hw)) (by decide) (t := (.object q_0)) (t' := .int) (by decide) (by decide)))
 have f15_5 := Fld.same W15 f14_5
 have f15_6 := Fld.other W15 f14_6 (Or.inr (slot_ne (Or.inl (tw_58 hw)) (Or.inl (tw_56 hw)) (by decide) (t := .int) (t' := .int) (by decide) (by decide)))
 have f15_7 := Fld.other W15 f14_7 (Or.inr (slot_ne (Or.inr (tw_60 hw)) (Or.inl (tw_56 hw)) (by decide) (t := (.object q_21)) (t' := .int) (by decide) (by decide)))
 have f15_8 := Exa.wr W15 f14_8
 have f15_9 := Fld.other W15 f14_9 (Or.inl (Ne.symm ne_mp_b12))
 have f15_10 := Fld.other W15 f14_10 (Or.inl (Ne.symm ne_mp_b12))
 have f15_12 := Fld.other W15 f14_12 (Or.inl (Ne.symm ne_mp_b12))
 have f15_13 := Fld.other W15 f14_13 (Or.inl (Ne.symm ne_mp_b12))
 have f15_14 := Fld.other W15 f14_14 (Or.inl (Ne.symm ne_mp_b12))
 refine aA X15 hx hby dn_26 rfl rfl ?_
 refine dU X15 hx hby dn_27 rfl ?_
 refine gF X15 hx hby hZ hown (tw_57 hw) Via.refl e15 f15_6 dn_28 ?_
 intro T16 X16 e16
 refine iC X16 hx hby dn_31 (v := 1) rfl ?_
 refine iP X16 hx hby dn_32 (v := (mc + (1 : Int32))) rfl ?_
 obtain ⟨T17, h17, X17, e17, W17, st17⟩ := putF X16 hx hZ hown (host := "") (Or.inl (tw_57 hw)) Via.refl e16 f15_6 f15_3 (Or.inl (tw_58 hw)) (tw_43 hw) (ty := .int) (by decide) rfl rfl (g := (mkF m 33 #[(vR mp), (vR b0), (vR vx)] [(.int (mc + (1 : Int32))), (.ref mp)])) rfl rfl (hb hby dn_33)
 refine Go.by st17 ?_
 have N17 := Fr.snoc X17 N15 g_mp
 have f17_1 := Keep.wr f15_1 W17 (Or.inl (List.mem_of_getElem? (i := 0) rfl))
 have f17_3 := Exa.wr W17 f15_3
 have f17_4 := Fld.other W17 f15_4 (Or.inr (slot_ne (Or.inl (tw_101 hw)) (Or.inl (tw_58 hw)) (by decide) (t := (.object q_0)) (t' := .int) (by decide) (by decide)))
 have f17_5 := Fld.other W17 f15_5 (Or.inr (slot_ne (Or.inl (tw_56 hw)) (Or.inl (tw_58 hw)) (by decide) (t := .int) (t' := .int) (by decide) (by decide)))
 have f17_6 := Fld.same W17 f15_6
 have f17_7 := Fld.other W17 f15_7 (Or.inr (slot_ne (Or.inr (tw_60 hw)) (Or.inl (tw_58 hw)) (by decide) (t := (.object q_21)) (t' := .int) (by decide) (by decide)))
 have f17_8 := Exa.wr W17 f15_8
 have f17_9 := Fld.other W17 f15_9 (Or.inl (Ne.symm ne_mp_b12))
 have f17_10 := Fld.other W17 f15_10 (Or.inl (Ne.symm ne_mp_b12))
 have f17_12 := Fld.other W17 f15_12 (Or.inl (Ne.symm ne_mp_b12))
 have f17_13 := Fld.other W17 f15_13 (Or.inl (Ne.symm ne_mp_b12))
 have f17_14 := Fld.other W17 f15_14 (Or.inl (Ne.symm ne_mp_b12))
 show oG p e below P m T17 36 #[(vR mp), (vR b0), (vR vx)] []
 refine own_fin hP hlk X17 (v := none) (fun _ => rfl) (by decide) (by decide) ?_ (fun fs hr => X17.returnOut hx hret (hb hby dn_36) hr)
 rw [e17]
 exact ⟨rfl, N17, f17_1, b12, sz_b12, f17_3, f17_4, f17_5, f17_6, f17_7, f17_8, f17_10, f17_13, f17_14, f17_12, f17_9⟩
def Q_put3_0 (Z : State) (mp b0 vx : Addr) (sz mc : Int32) (h0 : Heap) (n0 : Nat) (v : Option Value) (h : Heap) (L : List Loc) : Prop := v = some .null ∧ Fr n0 L ∧ Keep h0 h [mp] ∧ ∃ en, h0.size ≤ en ∧ Exa Z h mp q_2 ∧ Fld Z h mp q_2 q_12 q_1 (.ref en) ∧ Fld Z h mp q_2 q_13 "I" (.int 1) ∧ Fld Z h mp q_2 q_14 "I" (.int (mc + (1 : Int32))) ∧ Fld Z h mp q_2 q_10 q_11 .null ∧ Exa Z h en q_0 ∧ Fld Z h en q_0 q_8 q_4 (.ref b0) ∧ Fld Z h en q_0 q_6 q_1 .null ∧ Fld Z h en q_0 q_9 q_1 .null ∧ Fld Z h en q_0 q_5 q_1 .null ∧ Fld Z h en q_0 q_7 "Z" (.int 1)
theorem rm_put3_0 (l : Launch) (Z : State) (a0 : Array Value) (hw : oW a0 Z) (ws : List Jvm.Cond) (mp b0 vx : Addr) (sz mc : Int32) (h0 : Heap) (n0 : Nat) (Z0 : n0 ≤ h0.size) (O0 : Old Z n0 h0) (s0 : Exa Z h0 mp q_2) (s1 : Fld Z h0 mp q_2 q_12 q_1 .null) (s2 : Fld Z h0 mp q_2 q_13 "I" (.int sz)) (s3 : Fld Z h0 mp q_2 q_14 "I" (.int mc)) (s4 : Fld Z h0 mp q_2 q_10 q_11 .null) (g_mp : n0 ≤ mp) (B_b0 : own_Box Z b0 (0 : Int64)) :
   oM l oY10 j2729_31 10 (some (.object q_16)) ws (own_R 5 1 6 110) #[(.ref mp), (.ref b0), (.ref vx), (.int 1)] Z h0 (Q_put3_0 Z mp b0 vx sz mc h0 n0) := by
 refine own_open (n0 := n0) (cn := q_2) rfl (plainFor_of_name pn0) (L0 := #[(vR mp), (vR b0), (vR vx), (vI 1), .unset, .unset, .unset, .unset, .unset, .unset]) ?_
 intro p e s m below meth c s₁ P hx hby hml hown hnm X0 e0 N0 hlk hret hZ hP
 refine aA X0 hx hby dc_0 rfl rfl ?_
 refine gF X0 hx hby hZ hown (tw_100 hw) Via.refl e0 s1 dc_1 ?_
 intro T11 X11 e11
 refine aT X11 hx hby dc_4 rfl rfl ?_
 refine aB X11 hx hby dc_6 rfl rfl ?_
 refine w_ifnonnullNo X11 hx hby dc_8 ?_
 refine aA X11 hx hby dc_11 rfl rfl ?_
 refine aA X11 hx hby dc_12 rfl rfl ?_
 refine aA X11 hx hby dc_13 rfl rfl ?_
 obtain ⟨cq12, q12a, q12b⟩ := Exa.cell s0
 obtain ⟨_, _, ⟨T12, L12, k12, n12⟩, -, X12, ⟨Lc12, hQ12, l12, y12, z12⟩, st12⟩ := X11.privateBack hx (y := oY26) hown (mvT hZ (tw_102 hw)) (mvT hZ (tw_103 hw)) (own_selfP (args := #[(.ref mp), (.ref b0), (.ref vx), (.int 1)]) (mvT hZ (tw_105 hw)) (mvT hZ (tw_103 hw)) (mvP hZ (tw_104 hw)) (by decide)) (Cond.privateMethod_at (args := #[]) (mvP hZ (tw_104 hw))) (mvT hZ (tw_106 hw)) (by decide) (backOf (W := 0) (rm_addE0 l Z a0 hw [] mp b0 vx sz mc (0 : Int64) h0 n0 Z0 O0 s0 s1 s2 s3 s4 g_mp B_b0) hZ (tw_106 hw) (tw_44 hw) (by decide) (by decide)) (g := (mkF m 14 #[(vR mp), (vR b0), (vR vx), (vI 1), .val .null, .unset, .unset, .unset, .unset, .unset] [(.ref vx), (.ref b0), (.ref mp)])) rfl (by rw [hml]; rfl) (Steps.refl _) (a := mp) (by rw [e11]; exact q12a) q12b (argsL := [(.ref b0), (.ref vx)]) (rest := []) (lenOf pd22 rfl) rfl (by show 2 * 0 + _ ≤ _; exact Nat.le_of_eq rfl) (hb hby dc_14) (fun _ _ => ⟨rfl, e11, (by decide : 0 + 1 ≤ _), (by decide : 0 + 6 ≤ _)⟩)
 dsimp only [Pt.U, Pt.locs, Pt.cells, Pt.slots] at X12 l12 y12 z12 st12 hQ12
 subst l12 y12 z12
 obtain ⟨rfl, N12q, K12, en12, zn12, G12_0, G12_1, G12_2, G12_3, G12_4, G12_5, G12_6, G12_7, G12_8, G12_9, G12_10⟩ := hQ12
 have N12 := Fr.app N0 N12q
 refine Go.by (fun t k => st12.trans k) ?_
 have f12_1 := Keep.trans (Keep.refl h0 [mp]) K12 (allS (Or.inl (List.mem_of_getElem? (i := 0) rfl)) all0)
 have f12_3 := Exa.keep s0 K12
 have g_en12 : n0 ≤ en12 := Nat.le_trans Z0 zn12
 have sz_en12 : h0.size ≤ en12 := Nat.le_trans (Keep.refl h0 [mp]).1 zn12
 show oG p e below P m T12 17 #[(vR mp), (vR b0), (vR vx), (vI 1), .val .null, .unset, .unset, .unset, .unset, .unset] []
 refine w_aconstNull X12 hx hby dc_17 ?_
 refine r_val hP hlk hret X12 hx hby dc_18 rfl (Or.inr (Or.inr (Or.inr (Or.inr ⟨rfl, rfl, rfl⟩)))) (by decide) ?_
 exact ⟨rfl, N12, f12_1, en12, sz_en12, f12_3, G12_1, G12_2, G12_3, G12_4, G12_5, G12_6, G12_7, G12_8, G12_9, G12_10⟩
def Q_put2_0 (Z : State) (mp b0 vx : Addr) (sz mc : Int32) (h0 : Heap) (n0 : Nat) (v : Option Value) (h : Heap) (L : List Loc) : Prop := v = some .null ∧ Fr n0 L ∧ Keep h0 h [mp] ∧ ∃ en, h0.size ≤ en ∧ Exa Z h mp q_2 ∧ Fld Z h mp q_2 q_12 q_1 (.ref en) ∧ Fld Z h mp q_2 q_13 "I" (.int 1) ∧ Fld Z h mp q_2 q_14 "I" (.int (mc + (1 : Int32))) ∧ Fld Z h mp q_2 q_10 q_11 .null ∧ Exa Z h en q_0 ∧ Fld Z h en q_0 q_8 q_4 (.ref b0) ∧ Fld Z h en q_0 q_6 q_1 .null ∧ Fld Z h en q_0 q_9 q_1 .null ∧ Fld Z h en q_0 q_5 q_1 .null ∧ Fld Z h en q_0 q_7 "Z" (.int 1)
theorem rm_put2_0 (l : Launch) (Z : State) (a0 : Array Value) (hw : oW a0 Z) (ws : List Jvm.Cond) (mp b0 vx : Addr) (sz mc : Int32) (h0 : Heap) (n0 : Nat) (Z0 : n0 ≤ h0.size) (O0 : Old Z n0 h0) (s0 : Exa Z h0 mp q_2) (s1 : Fld Z h0 mp q_2 q_12 q_1 .null) (s2 : Fld Z h0 mp q_2 q_13 "I" (.int sz)) (s3 : Fld Z h0 mp q_2 q_14 "I" (.int mc)) (s4 : Fld Z h0 mp q_2 q_10 q_11 .null) (g_mp : n0 ≤ mp) (B_b0 : own_Box Z b0 (0 : Int64)) :
   oM l oY6 j2729_21 3 (some (.object q_16)) ws (own_R 6 1 6 140) #[(.ref mp), (.ref b0), (.ref vx)] Z h0 (Q_put2_0 Z mp b0 vx sz mc h0 n0) := by
 refine own_open (n0 := n0) (cn := q_2) rfl (plainFor_of_name pn0) (L0 := #[(vR mp), (vR b0), (vR vx)]) ?_
 intro p e s m below meth c s₁ P hx hby hml hown hnm X0 e0 N0 hlk hret hZ hP
 refine aA X0 hx hby dm_0 rfl rfl ?_
 refine aA X0 hx hby dm_1 rfl rfl ?_
 refine aA X0 hx hby dm_2 rfl rfl ?_
 refine iC X0 hx hby dm_3 (v := 1) rfl ?_
 obtain ⟨cq11, q11a, q11b⟩ := Exa.cell s0
 obtain ⟨_, _, ⟨T11, L11, k11, n11⟩, -, X11, ⟨Lc11, hQ11, l11, y11, z11⟩, st11⟩ := X0.privateBack hx (y := oY10) hown (mvT hZ (tw_95 hw)) (mvT hZ (tw_96 hw)) (own_selfP (args := #[(.ref mp), (.ref b0), (.ref vx)]) (mvT hZ (tw_98 hw)) (mvT hZ (tw_96 hw)) (mvP hZ (tw_97 hw)) (by decide)) (Cond.privateMethod_at (args := #[]) (mvP hZ (tw_97 hw))) (mvT hZ (tw_99 hw)) (by decide) (backOf (W := 0) (rm_put3_0 l Z a0 hw [] mp b0 vx sz mc h0 n0 Z0 O0 s0 s1 s2 s3 s4 g_mp B_b0) hZ (tw_99 hw) (tw_44 hw) (by decide) (by decide)) (g := (mkF m 4 #[(vR mp), (vR b0), (vR vx)] [(.int 1), (.ref vx), (.ref b0), (.ref mp)])) rfl (by rw [hml]; rfl) (Steps.refl _) (a := mp) (by rw [e0]; exact q11a) q11b (argsL := [(.ref b0), (.ref vx), (.int 1)]) (rest := []) (lenOf pd9 rfl) rfl (by show 2 * 0 + _ ≤ _; exact Nat.le_of_eq rfl) (hb hby dm_4) (fun _ _ => ⟨rfl, e0, (by decide : 0 + 1 ≤ _), (by decide : 0 + 6 ≤ _)⟩)
 dsimp only [Pt.U, Pt.locs, Pt.cells, Pt.slots] at X11 l11 y11 z11 st11 hQ11
 subst l11 y11 z11
 obtain ⟨rfl, N11q, K11, en11, zn11, G11_0, G11_1, G11_2, G11_3, G11_4, G11_5, G11_6, G11_7, G11_8, G11_9, G11_10⟩ := hQ11
 have N11 := Fr.app N0 N11q
 refine Go.by (fun t k => st11.trans k) ?_
 have f11_1 := Keep.trans (Keep.refl h0 [mp]) K11 (allS (Or.inl (List.mem_of_getElem? (i := 0) rfl)) all0)
 have f11_3 := Exa.keep s0 K11
 have g_en11 : n0 ≤ en11 := Nat.le_trans Z0 zn11
 have sz_en11 : h0.size ≤ en11 := Nat.le_trans (Keep.refl h0 [mp]).1 zn11
 show oG p e below P m T11 7 #[(vR mp), (vR b0), (vR vx)] [.null]
 refine r_val hP hlk hret X11 hx hby dm_7 rfl (Or.inr (Or.inr (Or.inr (Or.inr ⟨rfl, rfl, rfl⟩)))) (by decide) ?_
 exact ⟨rfl, N11, f11_1, en11, sz_en11, f11_3, G11_1, G11_2, G11_3, G11_4, G11_5, G11_6, G11_7, G11_8, G11_9, G11_10⟩
def Q_put3_1 (Z : State) (mp b0 vx : Addr) (sz mc : Int32) (h0 : Heap) (n0 : Nat) (v : Option Value) (h : Heap) (L : List Loc) : Prop := v = some .null ∧ Fr n0 L ∧ Keep h0 h [mp] ∧ ∃ en, h0.size ≤ en ∧ Exa Z h mp q_2 ∧ Fld Z h mp q_2 q_12 q_1 (.ref en) ∧ Fld Z h mp q_2 q_13 "I" (.int 1) ∧ Fld Z h mp q_2 q_14 "I" (.int (mc + (1 : Int32))) ∧ Fld Z h mp q_2 q_10 q_11 .null ∧ Exa Z h en q_0 ∧ Fld Z h en q_0 q_8 q_4 (.ref b0) ∧ Fld Z h en q_0 q_6 q_1 .null ∧ Fld Z h en q_0 q_9 q_1 .null ∧ Fld Z h en q_0 q_5 q_1 .null ∧ Fld Z h en q_0 q_7 "Z" (.int 1)
theorem rm_put3_1 (l : Launch) (Z : State) (a0 : Array Value) (hw : oW a0 Z) (ws : List Jvm.Cond) (mp b0 vx : Addr) (sz mc : Int32) (h0 : Heap) (n0 : Nat) (Z0 : n0 ≤ h0.size) (O0 : Old Z n0 h0) (s0 : Exa Z h0 mp q_2) (s1 : Fld Z h0 mp q_2 q_12 q_1 .null) (s2 : Fld Z h0 mp q_2 q_13 "I" (.int sz)) (s3 : Fld Z h0 mp q_2 q_14 "I" (.int mc)) (s4 : Fld Z h0 mp q_2 q_10 q_11 .null) (g_mp : n0 ≤ mp) (B_b0 : own_Box Z b0 (1 : Int64)) :
   oM l oY10 j2729_31 10 (some (.object q_16)) ws (own_R 5 1 6 110) #[(.ref mp), (.ref b0), (.ref vx), (.int 1)] Z h0 (Q_put3_1 Z mp b0 vx sz mc h0 n0) := by
 refine own_open (n0 := n0) (cn := q_2) rfl (plainFor_of_name pn0) (L0 := #[(vR mp), (vR b0), (vR vx), (vI 1), .unset, .unset, .unset, .unset, .unset, .unset]) ?_
 intro p e s m below meth c s₁ P hx hby hml hown hnm X0 e0 N0 hlk hret hZ hP
 refine aA X0 hx hby dc_0 rfl rfl ?_
 refine gF X0 hx hby hZ hown (tw_100 hw) Via.refl e0 s1 dc_1 ?_
 intro T11 X11 e11
 refine aT X11 hx hby dc_4 rfl rfl ?_
 refine aB X11 hx hby dc_6 rfl rfl ?_
 refine w_ifnonnullNo X11 hx hby dc_8 ?_
 refine aA X11 hx hby dc_11 rfl rfl ?_
 refine aA X11 hx hby dc_12 rfl rfl ?_
 refine aA X11 hx hby dc_13 rfl rfl ?_
 obtain ⟨cq12, q12a, q12b⟩ := Exa.cell s0
 obtain ⟨_, _, ⟨T12, L12, k12, n12⟩, -, X12, ⟨Lc12, hQ12, l12, y12, z12⟩, st12⟩ := X11.privateBack hx (y := oY26) hown (mvT hZ (tw_102 hw)) (mvT hZ (tw_103 hw)) (own_selfP (args := #[(.ref mp), (.ref b0), (.ref vx), (.int 1)]) (mvT hZ (tw_105 hw)) (mvT hZ (tw_103 hw)) (mvP hZ (tw_104 hw)) (by decide)) (Cond.privateMethod_at (args := #[]) (mvP hZ (tw_104 hw))) (mvT hZ (tw_106 hw)) (by decide) (backOf (W := 0) (rm_addE0 l Z a0 hw [] mp b0 vx sz mc (1 : Int64) h0 n0 Z0 O0 s0 s1 s2 s3 s4 g_mp B_b0) hZ (tw_106 hw) (tw_44 hw) (by decide) (by decide)) (g := (mkF m 14 #[(vR mp), (vR b0), (vR vx), (vI 1), .val .null, .unset, .unset, .unset, .unset, .unset] [(.ref vx), (.ref b0), (.ref mp)])) rfl (by rw [hml]; rfl) (Steps.refl _) (a := mp) (by rw [e11]; exact q12a) q12b (argsL := [(.ref b0), (.ref vx)]) (rest := []) (lenOf pd22 rfl) rfl (by show 2 * 0 + _ ≤ _; exact Nat.le_of_eq rfl) (hb hby dc_14) (fun _ _ => ⟨rfl, e11, (by decide : 0 + 1 ≤ _), (by decide : 0 + 6 ≤ _)⟩)
 dsimp only [Pt.U, Pt.locs, Pt.cells, Pt.slots] at X12 l12 y12 z12 st12 hQ12
 subst l12 y12 z12
 obtain ⟨rfl, N12q, K12, en12, zn12, G12_0, G12_1, G12_2, G12_3, G12_4, G12_5, G12_6, G12_7, G12_8, G12_9, G12_10⟩ := hQ12
 have N12 := Fr.app N0 N12q
 refine Go.by (fun t k => st12.trans k) ?_
 have f12_1 := Keep.trans (Keep.refl h0 [mp]) K12 (allS (Or.inl (List.mem_of_getElem? (i := 0) rfl)) all0)
 have f12_3 := Exa.keep s0 K12
 have g_en12 : n0 ≤ en12 := Nat.le_trans Z0 zn12
 have sz_en12 : h0.size ≤ en12 := Nat.le_trans (Keep.refl h0 [mp]).1 zn12
 show oG p e below P m T12 17 #[(vR mp), (vR b0), (vR vx), (vI 1), .val .null, .unset, .unset, .unset, .unset, .unset] []
 refine w_aconstNull X12 hx hby dc_17 ?_
 refine r_val hP hlk hret X12 hx hby dc_18 rfl (Or.inr (Or.inr (Or.inr (Or.inr ⟨rfl, rfl, rfl⟩)))) (by decide) ?_
 exact ⟨rfl, N12, f12_1, en12, sz_en12, f12_3, G12_1, G12_2, G12_3, G12_4, G12_5, G12_6, G12_7, G12_8, G12_9, G12_10⟩
def Q_put2_1 (Z : State) (mp b0 vx : Addr) (sz mc : Int32) (h0 : Heap) (n0 : Nat) (v : Option Value) (h : Heap) (L : List Loc) : Prop := v = some .null ∧ Fr n0 L ∧ Keep h0 h [mp] ∧ ∃ en, h0.size ≤ en ∧ Exa Z h mp q_2 ∧ Fld Z h mp q_2 q_12 q_1 (.ref en) ∧ Fld Z h mp q_2 q_13 "I" (.int 1) ∧ Fld Z h mp q_2 q_14 "I" (.int (mc + (1 : Int32))) ∧ Fld Z h mp q_2 q_10 q_11 .null ∧ Exa Z h en q_0 ∧ Fld Z h en q_0 q_8 q_4 (.ref b0) ∧ Fld Z h en q_0 q_6 q_1 .null ∧ Fld Z h en q_0 q_9 q_1 .null ∧ Fld Z h en q_0 q_5 q_1 .null ∧ Fld Z h en q_0 q_7 "Z" (.int 1)
theorem rm_put2_1 (l : Launch) (Z : State) (a0 : Array Value) (hw : oW a0 Z) (ws : List Jvm.Cond) (mp b0 vx : Addr) (sz mc : Int32) (h0 : Heap) (n0 : Nat) (Z0 : n0 ≤ h0.size) (O0 : Old Z n0 h0) (s0 : Exa Z h0 mp q_2) (s1 : Fld Z h0 mp q_2 q_12 q_1 .null) (s2 : Fld Z h0 mp q_2 q_13 "I" (.int sz)) (s3 : Fld Z h0 mp q_2 q_14 "I" (.int mc)) (s4 : Fld Z h0 mp q_2 q_10 q_11 .null) (g_mp : n0 ≤ mp) (B_b0 : own_Box Z b0 (1 : Int64)) :
   oM l oY6 j2729_21 3 (some (.object q_16)) ws (own_R 6 1 6 140) #[(.ref mp), (.ref b0), (.ref vx)] Z h0 (Q_put2_1 Z mp b0 vx sz mc h0 n0) := by
 refine own_open (n0 := n0) (cn := q_2) rfl (plainFor_of_name pn0) (L0 := #[(vR mp), (vR b0), (vR vx)]) ?_
 intro p e s m below meth c s₁ P hx hby hml hown hnm X0 e0 N0 hlk hret hZ hP
 refine aA X0 hx hby dm_0 rfl rfl ?_
 refine aA X0 hx hby dm_1 rfl rfl ?_
 refine aA X0 hx hby dm_2 rfl rfl ?_
 refine iC X0 hx hby dm_3 (v := 1) rfl ?_
 obtain ⟨cq11, q11a, q11b⟩ := Exa.cell s0
 obtain ⟨_, _, ⟨T11, L11, k11, n11⟩, -, X11, ⟨Lc11, hQ11, l11, y11, z11⟩, st11⟩ := X0.privateBack hx (y := oY10) hown (mvT hZ (tw_95 hw)) (mvT hZ (tw_96 hw)) (own_selfP (args := #[(.ref mp), (.ref b0), (.ref vx)]) (mvT hZ (tw_98 hw)) (mvT hZ (tw_96 hw)) (mvP hZ (tw_97 hw)) (by decide)) (Cond.privateMethod_at (args := #[]) (mvP hZ (tw_97 hw))) (mvT hZ (tw_99 hw)) (by decide) (backOf (W := 0) (rm_put3_1 l Z a0 hw [] mp b0 vx sz mc h0 n0 Z0 O0 s0 s1 s2 s3 s4 g_mp B_b0) hZ (tw_99 hw) (tw_44 hw) (by decide) (by decide)) (g := (mkF m 4 #[(vR mp), (vR b0), (vR vx)] [(.int 1), (.ref vx), (.ref b0), (.ref mp)])) rfl (by rw [hml]; rfl) (Steps.refl _) (a := mp) (by rw [e0]; exact q11a) q11b (argsL := [(.ref b0), (.ref vx), (.int 1)]) (rest := []) (lenOf pd9 rfl) rfl (by show 2 * 0 + _ ≤ _; exact Nat.le_of_eq rfl) (hb hby dm_4) (fun _ _ => ⟨rfl, e0, (by decide : 0 + 1 ≤ _), (by decide : 0 + 6 ≤ _)⟩)
 dsimp only [Pt.U, Pt.locs, Pt.cells, Pt.slots] at X11 l11 y11 z11 st11 hQ11
 subst l11 y11 z11
 obtain ⟨rfl, N11q, K11, en11, zn11, G11_0, G11_1, G11_2, G11_3, G11_4, G11_5, G11_6, G11_7, G11_8, G11_9, G11_10⟩ := hQ11
 have N11 := Fr.app N0 N11q
 refine Go.by (fun t k => st11.trans k) ?_
 have f11_1 := Keep.trans (Keep.refl h0 [mp]) K11 (allS (Or.inl (List.mem_of_getElem? (i := 0) rfl)) all0)
 have f11_3 := Exa.keep s0 K11
 have g_en11 : n0 ≤ en11 := Nat.le_trans Z0 zn11
 have sz_en11 : h0.size ≤ en11 := Nat.le_trans (Keep.refl h0 [mp]).1 zn11
 show oG p e below P m T11 7 #[(vR mp), (vR b0), (vR vx)] [.null]
 refine r_val hP hlk hret X11 hx hby dm_7 rfl (Or.inr (Or.inr (Or.inr (Or.inr ⟨rfl, rfl, rfl⟩)))) (by decide) ?_
 exact ⟨rfl, N11, f11_1, en11, sz_en11, f11_3, G11_1, G11_2, G11_3, G11_4, G11_5, G11_6, G11_7, G11_8, G11_9, G11_10⟩
def Q_put3_01 (Z : State) (mp nd0 b0 b1 vx : Addr) (sz mc : Int32) (h0 : Heap) (n0 : Nat) (v : Option Value) (h : Heap) (L : List Loc) : Prop := v = some .null ∧ Fr n0 L ∧ Keep h0 h [mp, nd0] ∧ ∃ en, h0.size ≤ en ∧ Exa Z h mp q_2 ∧ Fld Z h mp q_2 q_12 q_1 (.ref nd0) ∧ Fld Z h mp q_2 q_13 "I" (.int (sz + (1 : Int32))) ∧ Fld Z h mp q_2 q_14 "I" (.int (mc + (1 : Int32))) ∧ Fld Z h mp q_2 q_10 q_11 .null ∧ Exa Z h nd0 q_0 ∧ Fld Z h nd0 q_0 q_8 q_4 (.ref b0) ∧ Fld Z h nd0 q_0 q_6 q_1 .null ∧ Fld Z h nd0 q_0 q_9 q_1 (.ref en) ∧ Fld Z h nd0 q_0 q_5 q_1 .null ∧ Fld Z h nd0 q_0 q_7 "Z" (.int 1) ∧ Exa Z h en q_0 ∧ Fld Z h en q_0 q_8 q_4 (.ref b1) ∧ Fld Z h en q_0 q_6 q_1 .null ∧ Fld Z h en q_0 q_9 q_1 .null ∧ Fld Z h en q_0 q_5 q_1 (.ref nd0) ∧ Fld Z h en q_0 q_7 "Z" (.int 0)
theorem rm_put3_01 (l : Launch) (Z : State) (a0 : Array Value) (hw : oW a0 Z) (ws : List Jvm.Cond) (mp nd0 b0 b1 vx : Addr) (sz mc : Int32) (h0 : Heap) (n0 : Nat) (Z0 : n0 ≤ h0.size) (O0 : Old Z n0 h0) (s0 : Exa Z h0 mp q_2) (s1 : Fld Z h0 mp q_2 q_12 q_1 (.ref nd0)) (s2 : Fld Z h0 mp q_2 q_13 "I" (.int sz)) (s3 : Fld Z h0 mp q_2 q_14 "I" (.int mc)) (s4 : Fld Z h0 mp q_2 q_10 q_11 .null) (s5 : Exa Z h0 nd0 q_0) (s6 : Fld Z h0 nd0 q_0 q_8 q_4 (.ref b0)) (s7 : Fld Z h0 nd0 q_0 q_6 q_1 .null) (s8 : Fld Z h0 nd0 q_0 q_9 q_1 .null) (s9 : Fld Z h0 nd0 q_0 q_5 q_1 .null) (s10 : Fld Z h0 nd0 q_0 q_7 "Z" (.int 1)) (g_mp : n0 ≤ mp) (g_nd0 : n0 ≤ nd0) (B_b0 : own_Box Z b0 (0 : Int64)) (B_b1 : own_Box Z b1 (1 : Int64)) :
   oM l oY10 j2729_31 10 (some (.object q_16)) ws (own_R 5 1 6 110) #[(.ref mp), (.ref b1), (.ref vx), (.int 1)] Z h0 (Q_put3_01 Z mp nd0 b0 b1 vx sz mc h0 n0) := by
 refine own_open (n0 := n0) (cn := q_2) rfl (plainFor_of_name pn0) (L0 := #[(vR mp), (vR b1), (vR vx), (vI 1), .unset, .unset, .unset, .unset, .unset, .unset]) ?_
 intro p e s m below meth c s₁ P hx hby hml hown hnm X0 e0 N0 hlk hret hZ hP
 refine aA X0 hx hby dc_0 rfl rfl ?_
 refine gF X0 hx hby hZ hown (tw_100 hw) Via.refl e0 s1 dc_1 ?_
 intro T11 X11 e11
 refine aT X11 hx hby dc_4 rfl rfl ?_
 refine aB X11 hx hby dc_6 rfl rfl ?_
 refine w_ifnonnullYes X11 hx hby dc_8 (pc' := 19) ?_
 refine aA X11 hx hby dc_19 rfl rfl ?_
 refine gF X11 hx hby hZ hown (tw_59 hw) Via.refl e11 s4 dc_20 ?_
 intro T12 X12 e12
 refine aT X12 hx hby dc_23 rfl rfl ?_
 refine aB X12 hx hby dc_25 rfl rfl ?_
 refine w_ifnullYes X12 hx hby dc_27 (pc' := 112) ?_
 refine aA X12 hx hby dc_112 rfl rfl ?_
 refine c_stat 0 X12 hx hby hml hZ hown (tw_165 hw) (tw_25 hw) (tw_26 hw) (tw_27 hw) (rm_rnn l Z a0 hw [] b1 h0 n0 Z0 ) e12 dc_113 [(.ref b1)] [] (lenOf pd3 rfl) rfl rfl ?_
 rintro _ T13 Lc13 ⟨rfl, N13q, q13⟩ X13
 have N13 := Fr.app N0 N13q
 refine pO X13 hx hby dc_116 rfl ?_
 refine aA X13 hx hby dc_117 rfl rfl ?_
 obtain ⟨T14, X14, e14, st14⟩ := castY X13 hx hZ hown (tw_112 hw) q13 (Ins.of_exa (Exa.ext O0.2 B_b1.1) (tw_113 hw)) (g := (mkF m 118 #[(vR mp), (vR b1), (vR vx), (vI 1), (vR nd0), .unset, .unset, .val .null, .unset, .unset] [(.ref b1)])) rfl rfl (hb hby dc_118)
 refine Go.by st14 ?_
 refine aT X14 hx hby dc_121 rfl rfl ?_
 refine aB X14 hx hby dc_123 rfl rfl ?_
 refine aT X14 hx hby dc_125 rfl rfl ?_
 refine aB X14 hx hby dc_127 rfl rfl ?_
 refine aB X14 hx hby dc_129 rfl rfl ?_
 refine gF X14 hx hby hZ hown (tw_166 hw) Via.refl e14 s6 dc_131 ?_
 intro T15 X15 e15
 obtain ⟨cq16, kq16, q16a, q16b, q16c⟩ := isOf hZ e15 (Exa.ext O0.2 B_b1.1)
 obtain ⟨_, _, ⟨T16, L16, k16, n16⟩, -, X16, ⟨Lc16, hQ16, l16, y16, z16⟩, st16⟩ := X15.interfaceBack hx (xi := oY7) (y := oY4) hown (mvT hZ (tw_114 hw)) (mvT hZ (tw_115 hw)) (mvT hZ (tw_116 hw)) (mvT hZ (tw_117 hw)) (mvT hZ (tw_118 hw)) (mvT hZ (tw_119 hw)) (mvT hZ (tw_120 hw)) (mvT hZ (tw_113 hw)) (by decide) (backOf (W := 0) (rm_ct2_gt l Z a0 hw [] b1 b0 (1 : Int64) (0 : Int64) h0 n0 Z0 O0 B_b1 B_b0 (by decide : (0 : Int64) < (1 : Int64)) (by decide : ¬ (1 : Int64) < (0 : Int64)) (by decide : ¬ (1 : Int64) = (0 : Int64))) hZ (tw_121 hw) (tw_84 hw) (by decide) (by decide)) q16a q16b q16c (g := (mkF m 134 #[(vR mp), (vR b1), (vR vx), (vI 1), (vR nd0), .unset, (vR nd0), .val .null, (vR b1), .unset] [(.ref b0), (.ref b1)])) rfl (by rw [hml]; rfl) (Steps.refl _) (argsL := [(.ref b0)]) (rest := []) (lenOf pd0 rfl) rfl (by show 2 * 0 + _ ≤ _; exact Nat.le_of_eq rfl) (hb hby dc_134) (fun _ _ => ⟨rfl, e15, (by decide : 0 + 0 ≤ _), (by decide : 0 + 0 ≤ _)⟩)
 dsimp only [Pt.U, Pt.locs, Pt.cells, Pt.slots] at X16 l16 y16 z16 st16 hQ16
 subst l16 y16 z16
 obtain ⟨rfl, N16q, q16⟩ := hQ16
 have N16 := Fr.app N13 N16q
 refine Go.by (fun t k => st16.trans k) ?_
 show oG p e below P m T16 139 #[(vR mp), (vR b1), (vR vx), (vI 1), (vR nd0), .unset, (vR nd0), .val .null, (vR b1), .unset] [(.int 1)]
 refine iT X16 hx hby dc_139 rfl ?_
 refine iB X16 hx hby dc_141 rfl ?_
 refine fY X16 hx hby dc_143 (pc' := 156) (XT.i0_ge_t (by decide : ¬ (1 : Int32) < (0 : Int32))) ?_
 refine iB X16 hx hby dc_156 rfl ?_
 refine fN X16 hx hby dc_158 (XT.i0_le_f (by decide : (0 : Int32) < (1 : Int32))) ?_
 refine aB X16 hx hby dc_161 rfl rfl ?_
 refine gF X16 hx hby hZ hown (tw_167 hw) Via.refl q16 s8 dc_163 ?_
 intro T17 X17 e17
 refine aT X17 hx hby dc_166 rfl rfl ?_
 refine gO X17 hx hby dc_168 (pc' := 196) ?_
 refine aB X17 hx hby dc_196 rfl rfl ?_
 refine w_ifnonnullNo X17 hx hby dc_198 ?_
 refine aA X17 hx hby dc_201 rfl rfl ?_
 refine aA X17 hx hby dc_202 rfl rfl ?_
 refine aA X17 hx hby dc_203 rfl rfl ?_
 refine aB X17 hx hby dc_204 rfl rfl ?_
 refine iB X17 hx hby dc_206 rfl ?_
 refine fY X17 hx hby dc_208 (pc' := 215) (XT.i0_ge_t (by decide : ¬ (1 : Int32) < (0 : Int32))) ?_
 refine iC X17 hx hby dc_215 (v := 0) rfl ?_
 obtain ⟨cq18, q18a, q18b⟩ := Exa.cell s0
 obtain ⟨_, _, ⟨T18, L18, k18, n18⟩, -, X18, ⟨Lc18, hQ18, l18, y18, z18⟩, st18⟩ := X17.privateBack hx (y := oY13) hown (mvT hZ (tw_189 hw)) (mvT hZ (tw_190 hw)) (own_selfP (args := #[(.ref mp), (.ref b1), (.ref vx), (.int 1)]) (mvT hZ (tw_192 hw)) (mvT hZ (tw_190 hw)) (mvP hZ (tw_191 hw)) (by decide)) (Cond.privateMethod_at (args := #[]) (mvP hZ (tw_191 hw))) (mvT hZ (tw_193 hw)) (by decide) (backOf (W := 0) (rm_addE1 l Z a0 hw [] mp nd0 b0 b1 vx sz mc h0 n0 Z0 O0 s0 s1 s2 s3 s4 s5 s6 s7 s8 s9 s10 g_mp g_nd0) hZ (tw_193 hw) (tw_44 hw) (by decide) (by decide)) (g := (mkF m 216 #[(vR mp), (vR b1), (vR vx), (vI 1), .val .null, (vI 1), (vR nd0), .val .null, (vR b1), .unset] [(.int 0), (.ref nd0), (.ref vx), (.ref b1), (.ref mp)])) rfl (by rw [hml]; rfl) (Steps.refl _) (a := mp) (by rw [e17]; exact q18a) q18b (argsL := [(.ref b1), (.ref vx), (.ref nd0), (.int 0)]) (rest := []) (lenOf pd13 rfl) rfl (by show 2 * 0 + _ ≤ _; exact Nat.le_of_eq rfl) (hb hby dc_216) (fun _ _ => ⟨rfl, e17, (by decide : 0 + 1 ≤ _), (by decide : 0 + 6 ≤ _)⟩)
 dsimp only [Pt.U, Pt.locs, Pt.cells, Pt.slots] at X18 l18 y18 z18 st18 hQ18
 subst l18 y18 z18
 obtain ⟨rfl, N18q, K18, en18, zn18, G18_0, G18_1, G18_2, G18_3, G18_4, G18_5, G18_6, G18_7, G18_8, G18_9, G18_10, G18_11, G18_12, G18_13, G18_14, G18_15, G18_16⟩ := hQ18
 have N18 := Fr.app N16 N18q
 refine Go.by (fun t k => st18.trans k) ?_
 have f18_1 := Keep.trans (Keep.refl h0 [mp, nd0]) K18 (allS (Or.inl (List.mem_of_getElem? (i := 0) rfl)) (allS (Or.inl (List.mem_of_getElem? (i := 1) rfl)) all0))
 have f18_3 := Exa.keep s0 K18
 have f18_4 := Exa.keep s5 K18
 have g_en18 : n0 ≤ en18 := Nat.le_trans Z0 zn18
 have sz_en18 : h0.size ≤ en18 := Nat.le_trans (Keep.refl h0 [mp, nd0]).1 zn18
 show oG p e below P m T18 219 #[(vR mp), (vR b1), (vR vx), (vI 1), .val .null, (vI 1), (vR nd0), .val .null, (vR b1), .unset] []
 refine w_aconstNull X18 hx hby dc_219 ?_
 refine r_val hP hlk hret X18 hx hby dc_220 rfl (Or.inr (Or.inr (Or.inr (Or.inr ⟨rfl, rfl, rfl⟩)))) (by decide) ?_
 exact ⟨rfl, N18, f18_1, en18, sz_en18, f18_3, G18_1, G18_2, G18_3, G18_4, f18_4, G18_6, G18_7, G18_8, G18_9, G18_10, G18_11, G18_12, G18_13, G18_14, G18_15, G18_16⟩
def Q_put2_01 (Z : State) (mp nd0 b0 b1 vx : Addr) (sz mc : Int32) (h0 : Heap) (n0 : Nat) (v : Option Value) (h : Heap) (L : List Loc) : Prop := v = some .null ∧ Fr n0 L ∧ Keep h0 h [mp, nd0] ∧ ∃ en, h0.size ≤ en ∧ Exa Z h mp q_2 ∧ Fld Z h mp q_2 q_12 q_1 (.ref nd0) ∧ Fld Z h mp q_2 q_13 "I" (.int (sz + (1 : Int32))) ∧ Fld Z h mp q_2 q_14 "I" (.int (mc + (1 : Int32))) ∧ Fld Z h mp q_2 q_10 q_11 .null ∧ Exa Z h nd0 q_0 ∧ Fld Z h nd0 q_0 q_8 q_4 (.ref b0) ∧ Fld Z h nd0 q_0 q_6 q_1 .null ∧ Fld Z h nd0 q_0 q_9 q_1 (.ref en) ∧ Fld Z h nd0 q_0 q_5 q_1 .null ∧ Fld Z h nd0 q_0 q_7 "Z" (.int 1) ∧ Exa Z h en q_0 ∧ Fld Z h en q_0 q_8 q_4 (.ref b1) ∧ Fld Z h en q_0 q_6 q_1 .null ∧ Fld Z h en q_0 q_9 q_1 .null ∧ Fld Z h en q_0 q_5 q_1 (.ref nd0) ∧ Fld Z h en q_0 q_7 "Z" (.int 0)
theorem rm_put2_01 (l : Launch) (Z : State) (a0 : Array Value) (hw : oW a0 Z) (ws : List Jvm.Cond) (mp nd0 b0 b1 vx : Addr) (sz mc : Int32) (h0 : Heap) (n0 : Nat) (Z0 : n0 ≤ h0.size) (O0 : Old Z n0 h0) (s0 : Exa Z h0 mp q_2) (s1 : Fld Z h0 mp q_2 q_12 q_1 (.ref nd0)) (s2 : Fld Z h0 mp q_2 q_13 "I" (.int sz)) (s3 : Fld Z h0 mp q_2 q_14 "I" (.int mc)) (s4 : Fld Z h0 mp q_2 q_10 q_11 .null) (s5 : Exa Z h0 nd0 q_0) (s6 : Fld Z h0 nd0 q_0 q_8 q_4 (.ref b0)) (s7 : Fld Z h0 nd0 q_0 q_6 q_1 .null) (s8 : Fld Z h0 nd0 q_0 q_9 q_1 .null) (s9 : Fld Z h0 nd0 q_0 q_5 q_1 .null) (s10 : Fld Z h0 nd0 q_0 q_7 "Z" (.int 1)) (g_mp : n0 ≤ mp) (g_nd0 : n0 ≤ nd0) (B_b0 : own_Box Z b0 (0 : Int64)) (B_b1 : own_Box Z b1 (1 : Int64)) :
   oM l oY6 j2729_21 3 (some (.object q_16)) ws (own_R 6 1 6 140) #[(.ref mp), (.ref b1), (.ref vx)] Z h0 (Q_put2_01 Z mp nd0 b0 b1 vx sz mc h0 n0) := by
 refine own_open (n0 := n0) (cn := q_2) rfl (plainFor_of_name pn0) (L0 := #[(vR mp), (vR b1), (vR vx)]) ?_
 intro p e s m below meth c s₁ P hx hby hml hown hnm X0 e0 N0 hlk hret hZ hP
 refine aA X0 hx hby dm_0 rfl rfl ?_
 refine aA X0 hx hby dm_1 rfl rfl ?_
 refine aA X0 hx hby dm_2 rfl rfl ?_
 refine iC X0 hx hby dm_3 (v := 1) rfl ?_
 obtain ⟨cq11, q11a, q11b⟩ := Exa.cell s0
 obtain ⟨_, _, ⟨T11, L11, k11, n11⟩, -, X11, ⟨Lc11, hQ11, l11, y11, z11⟩, st11⟩ := X0.privateBack hx (y := oY10) hown (mvT hZ (tw_95 hw)) (mvT hZ (tw_96 hw)) (own_selfP (args := #[(.ref mp), (.ref b1), (.ref vx)]) (mvT hZ (tw_98 hw)) (mvT hZ (tw_96 hw)) (mvP hZ (tw_97 hw)) (by decide)) (Cond.privateMethod_at (args := #[]) (mvP hZ (tw_97 hw))) (mvT hZ (tw_99 hw)) (by decide) (backOf (W := 0) (rm_put3_01 l Z a0 hw [] mp nd0 b0 b1 vx sz mc h0 n0 Z0 O0 s0 s1 s2 s3 s4 s5 s6 s7 s8 s9 s10 g_mp g_nd0 B_b0 B_b1) hZ (tw_99 hw) (tw_44 hw) (by decide) (by decide)) (g := (mkF m 4 #[(vR mp), (vR b1), (vR vx)] [(.int 1), (.ref vx), (.ref b1), (.ref mp)])) rfl (by rw [hml]; rfl) (Steps.refl _) (a := mp) (by rw [e0]; exact q11a) q11b (argsL := [(.ref b1), (.ref vx), (.int 1)]) (rest := []) (lenOf pd9 rfl) rfl (by show 2 * 0 + _ ≤ _; exact Nat.le_of_eq rfl) (hb hby dm_4) (fun _ _ => ⟨rfl, e0, (by decide : 0 + 1 ≤ _), (by decide : 0 + 6 ≤ _)⟩)
 dsimp only [Pt.U, Pt.locs, Pt.cells, Pt.slots] at X11 l11 y11 z11 st11 hQ11
 subst l11 y11 z11
 obtain ⟨rfl, N11q, K11, en11, zn11, G11_0, G11_1, G11_2, G11_3, G11_4, G11_5, G11_6, G11_7, G11_8, G11_9, G11_10, G11_11, G11_12, G11_13, G11_14, G11_15, G11_16⟩ := hQ11
 have N11 := Fr.app N0 N11q
 refine Go.by (fun t k => st11.trans k) ?_
 have f11_1 := Keep.trans (Keep.refl h0 [mp, nd0]) K11 (allS (Or.inl (List.mem_of_getElem? (i := 0) rfl)) (allS (Or.inl (List.mem_of_getElem? (i := 1) rfl)) all0))
 have f11_3 := Exa.keep s0 K11
 have f11_4 := Exa.keep s5 K11
 have g_en11 : n0 ≤ en11 := Nat.le_trans Z0 zn11
 have sz_en11 : h0.size ≤ en11 := Nat.le_trans (Keep.refl h0 [mp, nd0]).1 zn11
 show oG p e below P m T11 7 #[(vR mp), (vR b1), (vR vx)] [.null]
 refine r_val hP hlk hret X11 hx hby dm_7 rfl (Or.inr (Or.inr (Or.inr (Or.inr ⟨rfl, rfl, rfl⟩)))) (by decide) ?_
 exact ⟨rfl, N11, f11_1, en11, sz_en11, f11_3, G11_1, G11_2, G11_3, G11_4, f11_4, G11_6, G11_7, G11_8, G11_9, G11_10, G11_11, G11_12, G11_13, G11_14, G11_15, G11_16⟩
def Q_put3_02 (Z : State) (mp nd0 b0 b1 vx : Addr) (sz mc : Int32) (h0 : Heap) (n0 : Nat) (v : Option Value) (h : Heap) (L : List Loc) : Prop := v = some .null ∧ Fr n0 L ∧ Keep h0 h [mp, nd0] ∧ ∃ en, h0.size ≤ en ∧ Exa Z h mp q_2 ∧ Fld Z h mp q_2 q_12 q_1 (.ref nd0) ∧ Fld Z h mp q_2 q_13 "I" (.int (sz + (1 : Int32))) ∧ Fld Z h mp q_2 q_14 "I" (.int (mc + (1 : Int32))) ∧ Fld Z h mp q_2 q_10 q_11 .null ∧ Exa Z h nd0 q_0 ∧ Fld Z h nd0 q_0 q_8 q_4 (.ref b0) ∧ Fld Z h nd0 q_0 q_6 q_1 .null ∧ Fld Z h nd0 q_0 q_9 q_1 (.ref en) ∧ Fld Z h nd0 q_0 q_5 q_1 .null ∧ Fld Z h nd0 q_0 q_7 "Z" (.int 1) ∧ Exa Z h en q_0 ∧ Fld Z h en q_0 q_8 q_4 (.ref b1) ∧ Fld Z h en q_0 q_6 q_1 .null ∧ Fld Z h en q_0 q_9 q_1 .null ∧ Fld Z h en q_0 q_5 q_1 (.ref nd0) ∧ Fld Z h en q_0 q_7 "Z" (.int 0)
theorem rm_put3_02 (l : Launch) (Z : State) (a0 : Array Value) (hw : oW a0 Z) (ws : List Jvm.Cond) (mp nd0 b0 b1 vx : Addr) (sz mc : Int32) (h0 : Heap) (n0 : Nat) (Z0 : n0 ≤ h0.size) (O0 : Old Z n0 h0) (s0 : Exa Z h0 mp q_2) (s1 : Fld Z h0 mp q_2 q_12 q_1 (.ref nd0)) (s2 : Fld Z h0 mp q_2 q_13 "I" (.int sz)) (s3 : Fld Z h0 mp q_2 q_14 "I" (.int mc)) (s4 : Fld Z h0 mp q_2 q_10 q_11 .null) (s5 : Exa Z h0 nd0 q_0) (s6 : Fld Z h0 nd0 q_0 q_8 q_4 (.ref b0)) (s7 : Fld Z h0 nd0 q_0 q_6 q_1 .null) (s8 : Fld Z h0 nd0 q_0 q_9 q_1 .null) (s9 : Fld Z h0 nd0 q_0 q_5 q_1 .null) (s10 : Fld Z h0 nd0 q_0 q_7 "Z" (.int 1)) (g_mp : n0 ≤ mp) (g_nd0 : n0 ≤ nd0) (B_b0 : own_Box Z b0 (0 : Int64)) (B_b1 : own_Box Z b1 (2 : Int64)) :
   oM l oY10 j2729_31 10 (some (.object q_16)) ws (own_R 5 1 6 110) #[(.ref mp), (.ref b1), (.ref vx), (.int 1)] Z h0 (Q_put3_02 Z mp nd0 b0 b1 vx sz mc h0 n0) := by
 refine own_open (n0 := n0) (cn := q_2) rfl (plainFor_of_name pn0) (L0 := #[(vR mp), (vR b1), (vR vx), (vI 1), .unset, .unset, .unset, .unset, .unset, .unset]) ?_
 intro p e s m below meth c s₁ P hx hby hml hown hnm X0 e0 N0 hlk hret hZ hP
 refine aA X0 hx hby dc_0 rfl rfl ?_
 refine gF X0 hx hby hZ hown (tw_100 hw) Via.refl e0 s1 dc_1 ?_
 intro T11 X11 e11
 refine aT X11 hx hby dc_4 rfl rfl ?_
 refine aB X11 hx hby dc_6 rfl rfl ?_
 refine w_ifnonnullYes X11 hx hby dc_8 (pc' := 19) ?_
 refine aA X11 hx hby dc_19 rfl rfl ?_
 refine gF X11 hx hby hZ hown (tw_59 hw) Via.refl e11 s4 dc_20 ?_
 intro T12 X12 e12
 refine aT X12 hx hby dc_23 rfl rfl ?_
 refine aB X12 hx hby dc_25 rfl rfl ?_
 refine w_ifnullYes X12 hx hby dc_27 (pc' := 112) ?_
 refine aA X12 hx hby dc_112 rfl rfl ?_
 refine c_stat 0 X12 hx hby hml hZ hown (tw_165 hw) (tw_25 hw) (tw_26 hw) (tw_27 hw) (rm_rnn l Z a0 hw [] b1 h0 n0 Z0 ) e12 dc_113 [(.ref b1)] [] (lenOf pd3 rfl) rfl rfl ?_
 rintro _ T13 Lc13 ⟨rfl, N13q, q13⟩ X13
 have N13 := Fr.app N0 N13q
 refine pO X13 hx hby dc_116 rfl ?_
 refine aA X13 hx hby dc_117 rfl rfl ?_
 obtain ⟨T14, X14, e14, st14⟩ := castY X13 hx hZ hown (tw_112 hw) q13 (Ins.of_exa (Exa.ext O0.2 B_b1.1) (tw_113 hw)) (g := (mkF m 118 #[(vR mp), (vR b1), (vR vx), (vI 1), (vR nd0), .unset, .unset, .val .null, .unset, .unset] [(.ref b1)])) rfl rfl (hb hby dc_118)
 refine Go.by st14 ?_
 refine aT X14 hx hby dc_121 rfl rfl ?_
 refine aB X14 hx hby dc_123 rfl rfl ?_
 refine aT X14 hx hby dc_125 rfl rfl ?_
 refine aB X14 hx hby dc_127 rfl rfl ?_
 refine aB X14 hx hby dc_129 rfl rfl ?_
 refine gF X14 hx hby hZ hown (tw_166 hw) Via.refl e14 s6 dc_131 ?_
 intro T15 X15 e15
 obtain ⟨cq16, kq16, q16a, q16b, q16c⟩ := isOf hZ e15 (Exa.ext O0.2 B_b1.1)
 obtain ⟨_, _, ⟨T16, L16, k16, n16⟩, -, X16, ⟨Lc16, hQ16, l16, y16, z16⟩, st16⟩ := X15.interfaceBack hx (xi := oY7) (y := oY4) hown (mvT hZ (tw_114 hw)) (mvT hZ (tw_115 hw)) (mvT hZ (tw_116 hw)) (mvT hZ (tw_117 hw)) (mvT hZ (tw_118 hw)) (mvT hZ (tw_119 hw)) (mvT hZ (tw_120 hw)) (mvT hZ (tw_113 hw)) (by decide) (backOf (W := 0) (rm_ct2_gt l Z a0 hw [] b1 b0 (2 : Int64) (0 : Int64) h0 n0 Z0 O0 B_b1 B_b0 (by decide : (0 : Int64) < (2 : Int64)) (by decide : ¬ (2 : Int64) < (0 : Int64)) (by decide : ¬ (2 : Int64) = (0 : Int64))) hZ (tw_121 hw) (tw_84 hw) (by decide) (by decide)) q16a q16b q16c (g := (mkF m 134 #[(vR mp), (vR b1), (vR vx), (vI 1), (vR nd0), .unset, (vR nd0), .val .null, (vR b1), .unset] [(.ref b0), (.ref b1)])) rfl (by rw [hml]; rfl) (Steps.refl _) (argsL := [(.ref b0)]) (rest := []) (lenOf pd0 rfl) rfl (by show 2 * 0 + _ ≤ _; exact Nat.le_of_eq rfl) (hb hby dc_134) (fun _ _ => ⟨rfl, e15, (by decide : 0 + 0 ≤ _), (by decide : 0 + 0 ≤ _)⟩)
 dsimp only [Pt.U, Pt.locs, Pt.cells, Pt.slots] at X16 l16 y16 z16 st16 hQ16
 subst l16 y16 z16
 obtain ⟨rfl, N16q, q16⟩ := hQ16
 have N16 := Fr.app N13 N16q
 refine Go.by (fun t k => st16.trans k) ?_
 show oG p e below P m T16 139 #[(vR mp), (vR b1), (vR vx), (vI 1), (vR nd0), .unset, (vR nd0), .val .null, (vR b1), .unset] [(.int 1)]
 refine iT X16 hx hby dc_139 rfl ?_
 refine iB X16 hx hby dc_141 rfl ?_
 refine fY X16 hx hby dc_143 (pc' := 156) (XT.i0_ge_t (by decide : ¬ (1 : Int32) < (0 : Int32))) ?_
 refine iB X16 hx hby dc_156 rfl ?_
 refine fN X16 hx hby dc_158 (XT.i0_le_f (by decide : (0 : Int32) < (1 : Int32))) ?_
 refine aB X16 hx hby dc_161 rfl rfl ?_
 refine gF X16 hx hby hZ hown (tw_167 hw) Via.refl q16 s8 dc_163 ?_
 intro T17 X17 e17
 refine aT X17 hx hby dc_166 rfl rfl ?_
 refine gO X17 hx hby dc_168 (pc' := 196) ?_
 refine aB X17 hx hby dc_196 rfl rfl ?_
 refine w_ifnonnullNo X17 hx hby dc_198 ?_
 refine aA X17 hx hby dc_201 rfl rfl ?_
 refine aA X17 hx hby dc_202 rfl rfl ?_
 refine aA X17 hx hby dc_203 rfl rfl ?_
 refine aB X17 hx hby dc_204 rfl rfl ?_
 refine iB X17 hx hby dc_206 rfl ?_
 refine fY X17 hx hby dc_208 (pc' := 215) (XT.i0_ge_t (by decide : ¬ (1 : Int32) < (0 : Int32))) ?_
 refine iC X17 hx hby dc_215 (v := 0) rfl ?_
 obtain ⟨cq18, q18a, q18b⟩ := Exa.cell s0
 obtain ⟨_, _, ⟨T18, L18, k18, n18⟩, -, X18, ⟨Lc18, hQ18, l18, y18, z18⟩, st18⟩ := X17.privateBack hx (y := oY13) hown (mvT hZ (tw_189 hw)) (mvT hZ (tw_190 hw)) (own_selfP (args := #[(.ref mp), (.ref b1), (.ref vx), (.int 1)]) (mvT hZ (tw_192 hw)) (mvT hZ (tw_190 hw)) (mvP hZ (tw_191 hw)) (by decide)) (Cond.privateMethod_at (args := #[]) (mvP hZ (tw_191 hw))) (mvT hZ (tw_193 hw)) (by decide) (backOf (W := 0) (rm_addE1 l Z a0 hw [] mp nd0 b0 b1 vx sz mc h0 n0 Z0 O0 s0 s1 s2 s3 s4 s5 s6 s7 s8 s9 s10 g_mp g_nd0) hZ (tw_193 hw) (tw_44 hw) (by decide) (by decide)) (g := (mkF m 216 #[(vR mp), (vR b1), (vR vx), (vI 1), .val .null, (vI 1), (vR nd0), .val .null, (vR b1), .unset] [(.int 0), (.ref nd0), (.ref vx), (.ref b1), (.ref mp)])) rfl (by rw [hml]; rfl) (Steps.refl _) (a := mp) (by rw [e17]; exact q18a) q18b (argsL := [(.ref b1), (.ref vx), (.ref nd0), (.int 0)]) (rest := []) (lenOf pd13 rfl) rfl (by show 2 * 0 + _ ≤ _; exact Nat.le_of_eq rfl) (hb hby dc_216) (fun _ _ => ⟨rfl, e17, (by decide : 0 + 1 ≤ _), (by decide : 0 + 6 ≤ _)⟩)
 dsimp only [Pt.U, Pt.locs, Pt.cells, Pt.slots] at X18 l18 y18 z18 st18 hQ18
 subst l18 y18 z18
 obtain ⟨rfl, N18q, K18, en18, zn18, G18_0, G18_1, G18_2, G18_3, G18_4, G18_5, G18_6, G18_7, G18_8, G18_9, G18_10, G18_11, G18_12, G18_13, G18_14, G18_15, G18_16⟩ := hQ18
 have N18 := Fr.app N16 N18q
 refine Go.by (fun t k => st18.trans k) ?_
 have f18_1 := Keep.trans (Keep.refl h0 [mp, nd0]) K18 (allS (Or.inl (List.mem_of_getElem? (i := 0) rfl)) (allS (Or.inl (List.mem_of_getElem? (i := 1) rfl)) all0))
 have f18_3 := Exa.keep s0 K18
 have f18_4 := Exa.keep s5 K18
 have g_en18 : n0 ≤ en18 := Nat.le_trans Z0 zn18
 have sz_en18 : h0.size ≤ en18 := Nat.le_trans (Keep.refl h0 [mp, nd0]).1 zn18
 show oG p e below P m T18 219 #[(vR mp), (vR b1), (vR vx), (vI 1), .val .null, (vI 1), (vR nd0), .val .null, (vR b1), .unset] []
 refine w_aconstNull X18 hx hby dc_219 ?_
 refine r_val hP hlk hret X18 hx hby dc_220 rfl (Or.inr (Or.inr (Or.inr (Or.inr ⟨rfl, rfl, rfl⟩)))) (by decide) ?_
 exact ⟨rfl, N18, f18_1, en18, sz_en18, f18_3, G18_1, G18_2, G18_3, G18_4, f18_4, G18_6, G18_7, G18_8, G18_9, G18_10, G18_11, G18_12, G18_13, G18_14, G18_15, G18_16⟩
def Q_put2_02 (Z : State) (mp nd0 b0 b1 vx : Addr) (sz mc : Int32) (h0 : Heap) (n0 : Nat) (v : Option Value) (h : Heap) (L : List Loc) : Prop := v = some .null ∧ Fr n0 L ∧ Keep h0 h [mp, nd0] ∧ ∃ en, h0.size ≤ en ∧ Exa Z h mp q_2 ∧ Fld Z h mp q_2 q_12 q_1 (.ref nd0) ∧ Fld Z h mp q_2 q_13 "I" (.int (sz + (1 : Int32))) ∧ Fld Z h mp q_2 q_14 "I" (.int (mc + (1 : Int32))) ∧ Fld Z h mp q_2 q_10 q_11 .null ∧ Exa Z h nd0 q_0 ∧ Fld Z h nd0 q_0 q_8 q_4 (.ref b0) ∧ Fld Z h nd0 q_0 q_6 q_1 .null ∧ Fld Z h nd0 q_0 q_9 q_1 (.ref en) ∧ Fld Z h nd0 q_0 q_5 q_1 .null ∧ Fld Z h nd0 q_0 q_7 "Z" (.int 1) ∧ Exa Z h en q_0 ∧ Fld Z h en q_0 q_8 q_4 (.ref b1) ∧ Fld Z h en q_0 q_6 q_1 .null ∧ Fld Z h en q_0 q_9 q_1 .null ∧ Fld Z h en q_0 q_5 q_1 (.ref nd0) ∧ Fld Z h en q_0 q_7 "Z" (.int 0)
theorem rm_put2_02 (l : Launch) (Z : State) (a0 : Array Value) (hw : oW a0 Z) (ws : List Jvm.Cond) (mp nd0 b0 b1 vx : Addr) (sz mc : Int32) (h0 : Heap) (n0 : Nat) (Z0 : n0 ≤ h0.size) (O0 : Old Z n0 h0) (s0 : Exa Z h0 mp q_2) (s1 : Fld Z h0 mp q_2 q_12 q_1 (.ref nd0)) (s2 : Fld Z h0 mp q_2 q_13 "I" (.int sz)) (s3 : Fld Z h0 mp q_2 q_14 "I" (.int mc)) (s4 : Fld Z h0 mp q_2 q_10 q_11 .null) (s5 : Exa Z h0 nd0 q_0) (s6 : Fld Z h0 nd0 q_0 q_8 q_4 (.ref b0)) (s7 : Fld Z h0 nd0 q_0 q_6 q_1 .null) (s8 : Fld Z h0 nd0 q_0 q_9 q_1 .null) (s9 : Fld Z h0 nd0 q_0 q_5 q_1 .null) (s10 : Fld Z h0 nd0 q_0 q_7 "Z" (.int 1)) (g_mp : n0 ≤ mp) (g_nd0 : n0 ≤ nd0) (B_b0 : own_Box Z b0 (0 : Int64)) (B_b1 : own_Box Z b1 (2 : Int64)) :
   oM l oY6 j2729_21 3 (some (.object q_16)) ws (own_R 6 1 6 140) #[(.ref mp), (.ref b1), (.ref vx)] Z h0 (Q_put2_02 Z mp nd0 b0 b1 vx sz mc h0 n0) := by
 refine own_open (n0 := n0) (cn := q_2) rfl (plainFor_of_name pn0) (L0 := #[(vR mp), (vR b1), (vR vx)]) ?_
 intro p e s m below meth c s₁ P hx hby hml hown hnm X0 e0 N0 hlk hret hZ hP
 refine aA X0 hx hby dm_0 rfl rfl ?_
 refine aA X0 hx hby dm_1 rfl rfl ?_
 refine aA X0 hx hby dm_2 rfl rfl ?_
 refine iC X0 hx hby dm_3 (v := 1) rfl ?_
 obtain ⟨cq11, q11a, q11b⟩ := Exa.cell s0
 obtain ⟨_, _, ⟨T11, L11, k11, n11⟩, -, X11, ⟨Lc11, hQ11, l11, y11, z11⟩, st11⟩ := X0.privateBack hx (y := oY10) hown (mvT hZ (tw_95 hw)) (mvT hZ (tw_96 hw)) (own_selfP (args := #[(.ref mp), (.ref b1), (.ref vx)]) (mvT hZ (tw_98 hw)) (mvT hZ (tw_96 hw)) (mvP hZ (tw_97 hw)) (by decide)) (Cond.privateMethod_at (args := #[]) (mvP hZ (tw_97 hw))) (mvT hZ (tw_99 hw)) (by decide) (backOf (W := 0) (rm_put3_02 l Z a0 hw [] mp nd0 b0 b1 vx sz mc h0 n0 Z0 O0 s0 s1 s2 s3 s4 s5 s6 s7 s8 s9 s10 g_mp g_nd0 B_b0 B_b1) hZ (tw_99 hw) (tw_44 hw) (by decide) (by decide)) (g := (mkF m 4 #[(vR mp), (vR b1), (vR vx)] [(.int 1), (.ref vx), (.ref b1), (.ref mp)])) rfl (by rw [hml]; rfl) (Steps.refl _) (a := mp) (by rw [e0]; exact q11a) q11b (argsL := [(.ref b1), (.ref vx), (.int 1)]) (rest := []) (lenOf pd9 rfl) rfl (by show 2 * 0 + _ ≤ _; exact Nat.le_of_eq rfl) (hb hby dm_4) (fun _ _ => ⟨rfl, e0, (by decide : 0 + 1 ≤ _), (by decide : 0 + 6 ≤ _)⟩)
 dsimp only [Pt.U, Pt.locs, Pt.cells, Pt.slots] at X11 l11 y11 z11 st11 hQ11
 subst l11 y11 z11
 obtain ⟨rfl, N11q, K11, en11, zn11, G11_0, G11_1, G11_2, G11_3, G11_4, G11_5, G11_6, G11_7, G11_8, G11_9, G11_10, G11_11, G11_12, G11_13, G11_14, G11_15, G11_16⟩ := hQ11
 have N11 := Fr.app N0 N11q
 refine Go.by (fun t k => st11.trans k) ?_
 have f11_1 := Keep.trans (Keep.refl h0 [mp, nd0]) K11 (allS (Or.inl (List.mem_of_getElem? (i := 0) rfl)) (allS (Or.inl (List.mem_of_getElem? (i := 1) rfl)) all0))
 have f11_3 := Exa.keep s0 K11
 have f11_4 := Exa.keep s5 K11
 have g_en11 : n0 ≤ en11 := Nat.le_trans Z0 zn11
 have sz_en11 : h0.size ≤ en11 := Nat.le_trans (Keep.refl h0 [mp, nd0]).1 zn11
 show oG p e below P m T11 7 #[(vR mp), (vR b1), (vR vx)] [.null]
 refine r_val hP hlk hret X11 hx hby dm_7 rfl (Or.inr (Or.inr (Or.inr (Or.inr ⟨rfl, rfl, rfl⟩)))) (by decide) ?_
 exact ⟨rfl, N11, f11_1, en11, sz_en11, f11_3, G11_1, G11_2, G11_3, G11_4, f11_4, G11_6, G11_7, G11_8, G11_9, G11_10, G11_11, G11_12, G11_13, G11_14, G11_15, G11_16⟩
def Q_put3_012 (Z : State) (mp nd0 nd1 b0 b1 b2 vx : Addr) (sz mc : Int32) (h0 : Heap) (n0 : Nat) (v : Option Value) (h : Heap) (L : List Loc) : Prop := v = some .null ∧ Fr n0 L ∧ Keep h0 h [mp, nd0, nd1] ∧ ∃ en, h0.size ≤ en ∧ Exa Z h mp q_2 ∧ Fld Z h mp q_2 q_12 q_1 (.ref nd1) ∧ Fld Z h mp q_2 q_13 "I" (.int (sz + (1 : Int32))) ∧ Fld Z h mp q_2 q_14 "I" (.int (mc + (1 : Int32))) ∧ Fld Z h mp q_2 q_10 q_11 .null ∧ Exa Z h nd0 q_0 ∧ Fld Z h nd0 q_0 q_8 q_4 (.ref b0) ∧ Fld Z h nd0 q_0 q_6 q_1 .null ∧ Fld Z h nd0 q_0 q_9 q_1 .null ∧ Fld Z h nd0 q_0 q_5 q_1 (.ref nd1) ∧ Fld Z h nd0 q_0 q_7 "Z" (.int 0) ∧ Exa Z h nd1 q_0 ∧ Fld Z h nd1 q_0 q_8 q_4 (.ref b1) ∧ Fld Z h nd1 q_0 q_6 q_1 (.ref nd0) ∧ Fld Z h nd1 q_0 q_9 q_1 (.ref en) ∧ Fld Z h nd1 q_0 q_5 q_1 .null ∧ Fld Z h nd1 q_0 q_7 "Z" (.int 1) ∧ Exa Z h en q_0 ∧ Fld Z h en q_0 q_8 q_4 (.ref b2) ∧ Fld Z h en q_0 q_6 q_1 .null ∧ Fld Z h en q_0 q_9 q_1 .null ∧ Fld Z h en q_0 q_5 q_1 (.ref nd1) ∧ Fld Z h en q_0 q_7 "Z" (.int 0)
theorem rm_put3_012 (l : Launch) (Z : State) (a0 : Array Value) (hw : oW a0 Z) (ws : List Jvm.Cond) (mp nd0 nd1 b0 b1 b2 vx : Addr) (sz mc : Int32) (h0 : Heap) (n0 : Nat) (Z0 : n0 ≤ h0.size) (O0 : Old Z n0 h0) (s0 : Exa Z h0 mp q_2) (s1 : Fld Z h0 mp q_2 q_12 q_1 (.ref nd0)) (s2 : Fld Z h0 mp q_2 q_13 "I" (.int sz)) (s3 : Fld Z h0 mp q_2 q_14 "I" (.int mc)) (s4 : Fld Z h0 mp q_2 q_10 q_11 .null) (s5 : Exa Z h0 nd0 q_0) (s6 : Fld Z h0 nd0 q_0 q_8 q_4 (.ref b0)) (s7 : Fld Z h0 nd0 q_0 q_6 q_1 .null) (s8 : Fld Z h0 nd0 q_0 q_9 q_1 (.ref nd1)) (s9 : Fld Z h0 nd0 q_0 q_5 q_1 .null) (s10 : Fld Z h0 nd0 q_0 q_7 "Z" (.int 1)) (s11 : Exa Z h0 nd1 q_0) (s12 : Fld Z h0 nd1 q_0 q_8 q_4 (.ref b1)) (s13 : Fld Z h0 nd1 q_0 q_6 q_1 .null) (s14 : Fld Z h0 nd1 q_0 q_9 q_1 .null) (s15 : Fld Z h0 nd1 q_0 q_5 q_1 (.ref nd0)) (s16 : Fld Z h0 nd1 q_0 q_7 "Z" (.int 0)) (g_mp : n0 ≤ mp) (g_nd0 : n0 ≤ nd0) (g_nd1 : n0 ≤ nd1) (ne_nd0_nd1 : nd0 ≠ nd1) (B_b0 : own_Box Z b0 (0 : Int64)) (B_b1 : own_Box Z b1 (1 : Int64)) (B_b2 : own_Box Z b2 (2 : Int64)) :
   oM l oY10 j2729_31 10 (some (.object q_16)) ws (own_R 5 1 6 110) #[(.ref mp), (.ref b2), (.ref vx), (.int 1)] Z h0 (Q_put3_012 Z mp nd0 nd1 b0 b1 b2 vx sz mc h0 n0) := by
 refine own_open (n0 := n0) (cn := q_2) rfl (plainFor_of_name pn0) (L0 := #[(vR mp), (vR b2), (vR vx), (vI 1), .unset, .unset, .unset, .unset, .unset, .unset]) ?_
 intro p e s m below meth c s₁ P hx hby hml hown hnm X0 e0 N0 hlk hret hZ hP
 refine aA X0 hx hby dc_0 rfl rfl ?_
 refine gF X0 hx hby hZ hown (tw_100 hw) Via.refl e0 s1 dc_1 ?_
 intro T11 X11 e11
 refine aT X11 hx hby dc_4 rfl rfl ?_
 refine aB X11 hx hby dc_6 rfl rfl ?_
 refine w_ifnonnullYes X11 hx hby dc_8 (pc' := 19) ?_
 refine aA X11 hx hby dc_19 rfl rfl ?_
 refine gF X11 hx hby hZ hown (tw_59 hw) Via.refl e11 s4 dc_20 ?_
 intro T12 X12 e12
 refine aT X12 hx hby dc_23 rfl rfl ?_
 refine aB X12 hx hby dc_25 rfl rfl ?_
 refine w_ifnullYes X12 hx hby dc_27 (pc' := 112) ?_
 refine aA X12 hx hby dc_112 rfl rfl ?_
 refine c_stat 0 X12 hx hby hml hZ hown (tw_165 hw) (tw_25 hw) (tw_26 hw) (tw_27 hw) (rm_rnn l Z a0 hw [] b2 h0 n0 Z0 ) e12 dc_113 [(.ref b2)] [] (lenOf pd3 rfl) rfl rfl ?_
 rintro _ T13 Lc13 ⟨rfl, N13q, q13⟩ X13
 have N13 := Fr.app N0 N13q
 refine pO X13 hx hby dc_116 rfl ?_
 refine aA X13 hx hby dc_117 rfl rfl ?_
 obtain ⟨T14, X14, e14, st14⟩ := castY X13 hx hZ hown (tw_112 hw) q13 (Ins.of_exa (Exa.ext O0.2 B_b2.1) (tw_113 hw)) (g := (mkF m 118 #[(vR mp), (vR b2), (vR vx), (vI 1), (vR nd0), .unset, .unset, .val .null, .unset, .unset] [(.ref b2)])) rfl rfl (hb hby dc_118)
 refine Go.by st14 ?_
 refine aT X14 hx hby dc_121 rfl rfl ?_
 refine aB X14 hx hby dc_123 rfl rfl ?_
 refine aT X14 hx hby dc_125 rfl rfl ?_
 refine aB X14 hx hby dc_127 rfl rfl ?_
 refine aB X14 hx hby dc_129 rfl rfl ?_
 refine gF X14 hx hby hZ hown (tw_166 hw) Via.refl e14 s6 dc_131 ?_
 intro T15 X15 e15
 obtain ⟨cq16, kq16, q16a, q16b, q16c⟩ := isOf hZ e15 (Exa.ext O0.2 B_b2.1)
 obtain ⟨_, _, ⟨T16, L16, k16, n16⟩, -, X16, ⟨Lc16, hQ16, l16, y16, z16⟩, st16⟩ := X15.interfaceBack hx (xi := oY7) (y := oY4) hown (mvT hZ (tw_114 hw)) (mvT hZ (tw_115 hw)) (mvT hZ (tw_116 hw)) (mvT hZ (tw_117 hw)) (mvT hZ (tw_118 hw)) (mvT hZ (tw_119 hw)) (mvT hZ (tw_120 hw)) (mvT hZ (tw_113 hw)) (by decide) (backOf (W := 0) (rm_ct2_gt l Z a0 hw [] b2 b0 (2 : Int64) (0 : Int64) h0 n0 Z0 O0 B_b2 B_b0 (by decide : (0 : Int64) < (2 : Int64)) (by decide : ¬ (2 : Int64) < (0 : Int64)) (by decide : ¬ (2 : Int64) = (0 : Int64))) hZ (tw_121 hw) (tw_84 hw) (by decide) (by decide)) q16a q16b q16c (g := (mkF m 134 #[(vR mp), (vR b2), (vR vx), (vI 1), (vR nd0), .unset, (vR nd0), .val .null, (vR b2), .unset] [(.ref b0), (.ref b2)])) rfl (by rw [hml]; rfl) (Steps.refl _) (argsL := [(.ref b0)]) (rest := []) (lenOf pd0 rfl) rfl (by show 2 * 0 + _ ≤ _; exact Nat.le_of_eq rfl) (hb hby dc_134) (fun _ _ => ⟨rfl, e15, (by decide : 0 + 0 ≤ _), (by decide : 0 + 0 ≤ _)⟩)
 dsimp only [Pt.U, Pt.locs, Pt.cells, Pt.slots] at X16 l16 y16 z16 st16 hQ16
 subst l16 y16 z16
 obtain ⟨rfl, N16q, q16⟩ := hQ16
 have N16 := Fr.app N13 N16q
 refine Go.by (fun t k => st16.trans k) ?_
 show oG p e below P m T16 139 #[(vR mp), (vR b2), (vR vx), (vI 1), (vR nd0), .unset, (vR nd0), .val .null, (vR b2), .unset] [(.int 1)]
 refine iT X16 hx hby dc_139 rfl ?_
 refine iB X16 hx hby dc_141 rfl ?_
 refine fY X16 hx hby dc_143 (pc' := 156) (XT.i0_ge_t (by decide : ¬ (1 : Int32) < (0 : Int32))) ?_
 refine iB X16 hx hby dc_156 rfl ?_
 refine fN X16 hx hby dc_158 (XT.i0_le_f (by decide : (0 : Int32) < (1 : Int32))) ?_
 refine aB X16 hx hby dc_161 rfl rfl ?_
 refine gF X16 hx hby hZ hown (tw_167 hw) Via.refl q16 s8 dc_163 ?_
 intro T17 X17 e17
 refine aT X17 hx hby dc_166 rfl rfl ?_
 refine gO X17 hx hby dc_168 (pc' := 196) ?_
 refine aB X17 hx hby dc_196 rfl rfl ?_
 refine w_ifnonnullYes X17 hx hby dc_198 (pc' := 123) ?_
 refine aB X17 hx hby dc_123 rfl rfl ?_
 refine aT X17 hx hby dc_125 rfl rfl ?_
 refine aB X17 hx hby dc_127 rfl rfl ?_
 refine aB X17 hx hby dc_129 rfl rfl ?_
 refine gF X17 hx hby hZ hown (tw_166 hw) Via.refl e17 s12 dc_131 ?_
 intro T18 X18 e18
 obtain ⟨cq19, kq19, q19a, q19b, q19c⟩ := isOf hZ e18 (Exa.ext O0.2 B_b2.1)
 obtain ⟨_, _, ⟨T19, L19, k19, n19⟩, -, X19, ⟨Lc19, hQ19, l19, y19, z19⟩, st19⟩ := X18.interfaceBack hx (xi := oY7) (y := oY4) hown (mvT hZ (tw_114 hw)) (mvT hZ (tw_115 hw)) (mvT hZ (tw_116 hw)) (mvT hZ (tw_117 hw)) (mvT hZ (tw_118 hw)) (mvT hZ (tw_119 hw)) (mvT hZ (tw_120 hw)) (mvT hZ (tw_113 hw)) (by decide) (backOf (W := 0) (rm_ct2_gt l Z a0 hw [] b2 b1 (2 : Int64) (1 : Int64) h0 n0 Z0 O0 B_b2 B_b1 (by decide : (1 : Int64) < (2 : Int64)) (by decide : ¬ (2 : Int64) < (1 : Int64)) (by decide : ¬ (2 : Int64) = (1 : Int64))) hZ (tw_121 hw) (tw_84 hw) (by decide) (by decide)) q19a q19b q19c (g := (mkF m 134 #[(vR mp), (vR b2), (vR vx), (vI 1), (vR nd1), (vI 1), (vR nd1), .val .null, (vR b2), .unset] [(.ref b1), (.ref b2)])) rfl (by rw [hml]; rfl) (Steps.refl _) (argsL := [(.ref b1)]) (rest := []) (lenOf pd0 rfl) rfl (by show 2 * 0 + _ ≤ _; exact Nat.le_of_eq rfl) (hb hby dc_134) (fun _ _ => ⟨rfl, e18, (by decide : 0 + 0 ≤ _), (by decide : 0 + 0 ≤ _)⟩)
 dsimp only [Pt.U, Pt.locs, Pt.cells, Pt.slots] at X19 l19 y19 z19 st19 hQ19
 subst l19 y19 z19
 obtain ⟨rfl, N19q, q19⟩ := hQ19
 have N19 := Fr.app N16 N19q
 refine Go.by (fun t k => st19.trans k) ?_
 show oG p e below P m T19 139 #[(vR mp), (vR b2), (vR vx), (vI 1), (vR nd1), (vI 1), (vR nd1), .val .null, (vR b2), .unset] [(.int 1)]
 refine iT X19 hx hby dc_139 rfl ?_
 refine iB X19 hx hby dc_141 rfl ?_
 refine fY X19 hx hby dc_143 (pc' := 156) (XT.i0_ge_t (by decide : ¬ (1 : Int32) < (0 : Int32))) ?_
 refine iB X19 hx hby dc_156 rfl ?_
 refine fN X19 hx hby dc_158 (XT.i0_le_f (by decide : (0 : Int32) < (1 : Int32))) ?_
 refine aB X19 hx hby dc_161 rfl rfl ?_
 refine gF X19 hx hby hZ hown (tw_167 hw) Via.refl q19 s14 dc_163 ?_
 intro T20 X20 e20
 refine aT X20 hx hby dc_166 rfl rfl ?_
 refine gO X20 hx hby dc_168 (pc' := 196) ?_
 refine aB X20 hx hby dc_196 rfl rfl ?_
 refine w_ifnonnullNo X20 hx hby dc_198 ?_
 refine aA X20 hx hby dc_201 rfl rfl ?_
 refine aA X20 hx hby dc_202 rfl rfl ?_
 refine aA X20 hx hby dc_203 rfl rfl ?_
 refine aB X20 hx hby dc_204 rfl rfl ?_
 refine iB X20 hx hby dc_206 rfl ?_
 refine fY X20 hx hby dc_208 (pc' := 215) (XT.i0_ge_t (by decide : ¬ (1 : Int32) < (0 : Int32))) ?_
 refine iC X20 hx hby dc_215 (v := 0) rfl ?_
 obtain ⟨cq21, q21a, q21b⟩ := Exa.cell s0
 obtain ⟨_, _, ⟨T21, L21, k21, n21⟩, -, X21, ⟨Lc21, hQ21, l21, y21, z21⟩, st21⟩ := X20.privateBack hx (y := oY13) hown (mvT hZ (tw_189 hw)) (mvT hZ (tw_190 hw)) (own_selfP (args := #[(.ref mp), (.ref b2), (.ref vx), (.int 1)]) (mvT hZ (tw_192 hw)) (mvT hZ (tw_190 hw)) (mvP hZ (tw_191 hw)) (by decide)) (Cond.privateMethod_at (args := #[]) (mvP hZ (tw_191 hw))) (mvT hZ (tw_193 hw)) (by decide) (backOf (W := 0) (rm_addE2 l Z a0 hw [] mp nd0 nd1 b0 b1 b2 vx sz mc h0 n0 Z0 O0 s0 s1 s2 s3 s4 s5 s6 s7 s8 s9 s10 s11 s12 s13 s14 s15 s16 g_mp g_nd0 g_nd1 ne_nd0_nd1) hZ (tw_193 hw) (tw_44 hw) (by decide) (by decide)) (g := (mkF m 216 #[(vR mp), (vR b2), (vR vx), (vI 1), .val .null, (vI 1), (vR nd1), .val .null, (vR b2), .unset] [(.int 0), (.ref nd1), (.ref vx), (.ref b2), (.ref mp)])) rfl (by rw [hml]; rfl) (Steps.refl _) (a := mp) (by rw [e20]; exact q21a) q21b (argsL := [(.ref b2), (.ref vx), (.ref nd1), (.int 0)]) (rest := []) (lenOf pd13 rfl) rfl (by show 2 * 0 + _ ≤ _; exact Nat.le_of_eq rfl) (hb hby dc_216) (fun _ _ => ⟨rfl, e20, (by decide : 0 + 1 ≤ _), (by decide : 0 + 6 ≤ _)⟩)
 dsimp only [Pt.U, Pt.locs, Pt.cells, Pt.slots] at X21 l21 y21 z21 st21 hQ21
 subst l21 y21 z21
 obtain ⟨rfl, N21q, K21, en21, zn21, G21_0, G21_1, G21_2, G21_3, G21_4, G21_5, G21_6, G21_7, G21_8, G21_9, G21_10, G21_11, G21_12, G21_13, G21_14, G21_15, G21_16, G21_17, G21_18, G21_19, G21_20, G21_21, G21_22⟩ := hQ21
 have N21 := Fr.app N19 N21q
 refine Go.by (fun t k => st21.trans k) ?_
 have f21_1 := Keep.trans (Keep.refl h0 [mp, nd0, nd1]) K21 (allS (Or.inl (List.mem_of_getElem? (i := 0) rfl)) (allS (Or.inl (List.mem_of_getElem? (i := 1) rfl)) (allS (Or.inl (List.mem_of_getElem? (i := 2) rfl)) all0)))
 have f21_3 := Exa.keep s0 K21
 have f21_4 := Exa.keep s5 K21
 have f21_5 := Exa.keep s11 K21
 have g_en21 : n0 ≤ en21 := Nat.le_trans Z0 zn21
 have sz_en21 : h0.size ≤ en21 := Nat.le_trans (Keep.refl h0 [mp, nd0, nd1]).1 zn21
 show oG p e below P m T21 219 #[(vR mp), (vR b2), (vR vx), (vI 1), .val .null, (vI 1), (vR nd1), .val .null, (vR b2), .unset] []
 refine w_aconstNull X21 hx hby dc_219 ?_
 refine r_val hP hlk hret X21 hx hby dc_220 rfl (Or.inr (Or.inr (Or.inr (Or.inr ⟨rfl, rfl, rfl⟩)))) (by decide) ?_
 exact ⟨rfl, N21, f21_1, en21, sz_en21, f21_3, G21_1, G21_2, G21_3, G21_4, f21_4, G21_6, G21_7, G21_8, G21_9, G21_10, f21_5, G21_12, G21_13, G21_14, G21_15, G21_16, G21_17, G21_18, G21_19, G21_20, G21_21, G21_22⟩
def Q_put2_012 (Z : State) (mp nd0 nd1 b0 b1 b2 vx : Addr) (sz mc : Int32) (h0 : Heap) (n0 : Nat) (v : Option Value) (h : Heap) (L : List Loc) : Prop := v = some .null ∧ Fr n0 L ∧ Keep h0 h [mp, nd0, nd1] ∧ ∃ en, h0.size ≤ en ∧ Exa Z h mp q_2 ∧ Fld Z h mp q_2 q_12 q_1 (.ref nd1) ∧ Fld Z h mp q_2 q_13 "I" (.int (sz + (1 : Int32))) ∧ Fld Z h mp q_2 q_14 "I" (.int (mc + (1 : Int32))) ∧ Fld Z h mp q_2 q_10 q_11 .null ∧ Exa Z h nd0 q_0 ∧ Fld Z h nd0 q_0 q_8 q_4 (.ref b0) ∧ Fld Z h nd0 q_0 q_6 q_1 .null ∧ Fld Z h nd0 q_0 q_9 q_1 .null ∧ Fld Z h nd0 q_0 q_5 q_1 (.ref nd1) ∧ Fld Z h nd0 q_0 q_7 "Z" (.int 0) ∧ Exa Z h nd1 q_0 ∧ Fld Z h nd1 q_0 q_8 q_4 (.ref b1) ∧ Fld Z h nd1 q_0 q_6 q_1 (.ref nd0) ∧ Fld Z h nd1 q_0 q_9 q_1 (.ref en) ∧ Fld Z h nd1 q_0 q_5 q_1 .null ∧ Fld Z h nd1 q_0 q_7 "Z" (.int 1) ∧ Exa Z h en q_0 ∧ Fld Z h en q_0 q_8 q_4 (.ref b2) ∧ Fld Z h en q_0 q_6 q_1 .null ∧ Fld Z h en q_0 q_9 q_1 .null ∧ Fld Z h en q_0 q_5 q_1 (.ref nd1) ∧ Fld Z h en q_0 q_7 "Z" (.int 0)
theorem rm_put2_012 (l : Launch) (Z : State) (a0 : Array Value) (hw : oW a0 Z) (ws : List Jvm.Cond) (mp nd0 nd1 b0 b1 b2 vx : Addr) (sz mc : Int32) (h0 : Heap) (n0 : Nat) (Z0 : n0 ≤ h0.size) (O0 : Old Z n0 h0) (s0 : Exa Z h0 mp q_2) (s1 : Fld Z h0 mp q_2 q_12 q_1 (.ref nd0)) (s2 : Fld Z h0 mp q_2 q_13 "I" (.int sz)) (s3 : Fld Z h0 mp q_2 q_14 "I" (.int mc)) (s4 : Fld Z h0 mp q_2 q_10 q_11 .null) (s5 : Exa Z h0 nd0 q_0) (s6 : Fld Z h0 nd0 q_0 q_8 q_4 (.ref b0)) (s7 : Fld Z h0 nd0 q_0 q_6 q_1 .null) (s8 : Fld Z h0 nd0 q_0 q_9 q_1 (.ref nd1)) (s9 : Fld Z h0 nd0 q_0 q_5 q_1 .null) (s10 : Fld Z h0 nd0 q_0 q_7 "Z" (.int 1)) (s11 : Exa Z h0 nd1 q_0) (s12 : Fld Z h0 nd1 q_0 q_8 q_4 (.ref b1)) (s13 : Fld Z h0 nd1 q_0 q_6 q_1 .null) (s14 : Fld Z h0 nd1 q_0 q_9 q_1 .null) (s15 : Fld Z h0 nd1 q_0 q_5 q_1 (.ref nd0)) (s16 : Fld Z h0 nd1 q_0 q_7 "Z" (.int 0)) (g_mp : n0 ≤ mp) (g_nd0 : n0 ≤ nd0) (g_nd1 : n0 ≤ nd1) (ne_nd0_nd1 : nd0 ≠ nd1) (B_b0 : own_Box Z b0 (0 : Int64)) (B_b1 : own_Box Z b1 (1 : Int64)) (B_b2 : own_Box Z b2 (2 : Int64)) :
   oM l oY6 j2729_21 3 (some (.object q_16)) ws (own_R 6 1 6 140) #[(.ref mp), (.ref b2), (.ref vx)] Z h0 (Q_put2_012 Z mp nd0 nd1 b0 b1 b2 vx sz mc h0 n0) := by
 refine own_open (n0 := n0) (cn := q_2) rfl (plainFor_of_name pn0) (L0 := #[(vR mp), (vR b2), (vR vx)]) ?_
 intro p e s m below meth c s₁ P hx hby hml hown hnm X0 e0 N0 hlk hret hZ hP
 refine aA X0 hx hby dm_0 rfl rfl ?_
 refine aA X0 hx hby dm_1 rfl rfl ?_
 refine aA X0 hx hby dm_2 rfl rfl ?_
 refine iC X0 hx hby dm_3 (v := 1) rfl ?_
 obtain ⟨cq11, q11a, q11b⟩ := Exa.cell s0
 obtain ⟨_, _, ⟨T11, L11, k11, n11⟩, -, X11, ⟨Lc11, hQ11, l11, y11, z11⟩, st11⟩ := X0.privateBack hx (y := oY10) hown (mvT hZ (tw_95 hw)) (mvT hZ (tw_96 hw)) (own_selfP (args := #[(.ref mp), (.ref b2), (.ref vx)]) (mvT hZ (tw_98 hw)) (mvT hZ (tw_96 hw)) (mvP hZ (tw_97 hw)) (by decide)) (Cond.privateMethod_at (args := #[]) (mvP hZ (tw_97 hw))) (mvT hZ (tw_99 hw)) (by decide) (backOf (W := 0) (rm_put3_012 l Z a0 hw [] mp nd0 nd1 b0 b1 b2 vx sz mc h0 n0 Z0 O0 s0 s1 s2 s3 s4 s5 s6 s7 s8 s9 s10 s11 s12 s13 s14 s15 s16 g_mp g_nd0 g_nd1 ne_nd0_nd1 B_b0 B_b1 B_b2) hZ (tw_99 hw) (tw_44 hw) (by decide) (by decide)) (g := (mkF m 4 #[(vR mp), (vR b2), (vR vx)] [(.int 1), (.ref vx), (.ref b2), (.ref mp)])) rfl (by rw [hml]; rfl) (Steps.refl _) (a := mp) (by rw [e0]; exact q11a) q11b (argsL := [(.ref b2), (.ref vx), (.int 1)]) (rest := []) (lenOf pd9 rfl) rfl (by show 2 * 0 + _ ≤ _; exact Nat.le_of_eq rfl) (hb hby dm_4) (fun _ _ => ⟨rfl, e0, (by decide : 0 + 1 ≤ _), (by decide : 0 + 6 ≤ _)⟩)
 dsimp only [Pt.U, Pt.locs, Pt.cells, Pt.slots] at X11 l11 y11 z11 st11 hQ11
 subst l11 y11 z11
 obtain ⟨rfl, N11q, K11, en11, zn11, G11_0, G11_1, G11_2, G11_3, G11_4, G11_5, G11_6, G11_7, G11_8, G11_9, G11_10, G11_11, G11_12, G11_13, G11_14, G11_15, G11_16, G11_17, G11_18, G11_19, G11_20, G11_21, G11_22⟩ := hQ11
 have N11 := Fr.app N0 N11q
 refine Go.by (fun t k => st11.trans k) ?_
 have f11_1 := Keep.trans (Keep.refl h0 [mp, nd0, nd1]) K11 (allS (Or.inl (List.mem_of_getElem? (i := 0) rfl)) (allS (Or.inl (List.mem_of_getElem? (i := 1) rfl)) (allS (Or.inl (List.mem_of_getElem? (i := 2) rfl)) all0)))
 have f11_3 := Exa.keep s0 K11
 have f11_4 := Exa.keep s5 K11
 have f11_5 := Exa.keep s11 K11
 have g_en11 : n0 ≤ en11 := Nat.le_trans Z0 zn11
 have sz_en11 : h0.size ≤ en11 := Nat.le_trans (Keep.refl h0 [mp, nd0, nd1]).1 zn11
 show oG p e below P m T11 7 #[(vR mp), (vR b2), (vR vx)] [.null]
 refine r_val hP hlk hret X11 hx hby dm_7 rfl (Or.inr (Or.inr (Or.inr (Or.inr ⟨rfl, rfl, rfl⟩)))) (by decide) ?_
 exact ⟨rfl, N11, f11_1, en11, sz_en11, f11_3, G11_1, G11_2, G11_3, G11_4, f11_4, G11_6, G11_7, G11_8, G11_9, G11_10, f11_5, G11_12, G11_13, G11_14, G11_15, G11_16, G11_17, G11_18, G11_19, G11_20, G11_21, G11_22⟩
def Q_put3_013 (Z : State) (mp nd0 nd1 b0 b1 b2 vx : Addr) (sz mc : Int32) (h0 : Heap) (n0 : Nat) (v : Option Value) (h : Heap) (L : List Loc) : Prop := v = some .null ∧ Fr n0 L ∧ Keep h0 h [mp, nd0, nd1] ∧ ∃ en, h0.size ≤ en ∧ Exa Z h mp q_2 ∧ Fld Z h mp q_2 q_12 q_1 (.ref nd1) ∧ Fld Z h mp q_2 q_13 "I" (.int (sz + (1 : Int32))) ∧ Fld Z h mp q_2 q_14 "I" (.int (mc + (1 : Int32))) ∧ Fld Z h mp q_2 q_10 q_11 .null ∧ Exa Z h nd0 q_0 ∧ Fld Z h nd0 q_0 q_8 q_4 (.ref b0) ∧ Fld Z h nd0 q_0 q_6 q_1 .null ∧ Fld Z h nd0 q_0 q_9 q_1 .null ∧ Fld Z h nd0 q_0 q_5 q_1 (.ref nd1) ∧ Fld Z h nd0 q_0 q_7 "Z" (.int 0) ∧ Exa Z h nd1 q_0 ∧ Fld Z h nd1 q_0 q_8 q_4 (.ref b1) ∧ Fld Z h nd1 q_0 q_6 q_1 (.ref nd0) ∧ Fld Z h nd1 q_0 q_9 q_1 (.ref en) ∧ Fld Z h nd1 q_0 q_5 q_1 .null ∧ Fld Z h nd1 q_0 q_7 "Z" (.int 1) ∧ Exa Z h en q_0 ∧ Fld Z h en q_0 q_8 q_4 (.ref b2) ∧ Fld Z h en q_0 q_6 q_1 .null ∧ Fld Z h en q_0 q_9 q_1 .null ∧ Fld Z h en q_0 q_5 q_1 (.ref nd1) ∧ Fld Z h en q_0 q_7 "Z" (.int 0)
theorem rm_put3_013 (l : Launch) (Z : State) (a0 : Array Value) (hw : oW a0 Z) (ws : List Jvm.Cond) (mp nd0 nd1 b0 b1 b2 vx : Addr) (sz mc : Int32) (h0 : Heap) (n0 : Nat) (Z0 : n0 ≤ h0.size) (O0 : Old Z n0 h0) (s0 : Exa Z h0 mp q_2) (s1 : Fld Z h0 mp q_2 q_12 q_1 (.ref nd0)) (s2 : Fld Z h0 mp q_2 q_13 "I" (.int sz)) (s3 : Fld Z h0 mp q_2 q_14 "I" (.int mc)) (s4 : Fld Z h0 mp q_2 q_10 q_11 .null) (s5 : Exa Z h0 nd0 q_0) (s6 : Fld Z h0 nd0 q_0 q_8 q_4 (.ref b0)) (s7 : Fld Z h0 nd0 q_0 q_6 q_1 .null) (s8 : Fld Z h0 nd0 q_0 q_9 q_1 (.ref nd1)) (s9 : Fld Z h0 nd0 q_0 q_5 q_1 .null) (s10 : Fld Z h0 nd0 q_0 q_7 "Z" (.int 1)) (s11 : Exa Z h0 nd1 q_0) (s12 : Fld Z h0 nd1 q_0 q_8 q_4 (.ref b1)) (s13 : Fld Z h0 nd1 q_0 q_6 q_1 .null) (s14 : Fld Z h0 nd1 q_0 q_9 q_1 .null) (s15 : Fld Z h0 nd1 q_0 q_5 q_1 (.ref nd0)) (s16 : Fld Z h0 nd1 q_0 q_7 "Z" (.int 0)) (g_mp : n0 ≤ mp) (g_nd0 : n0 ≤ nd0) (g_nd1 : n0 ≤ nd1) (ne_nd0_nd1 : nd0 ≠ nd1) (B_b0 : own_Box Z b0 (0 : Int64)) (B_b1 : own_Box Z b1 (1 : Int64)) (B_b2 : own_Box Z b2 (3 : Int64)) :
   oM l oY10 j2729_31 10 (some (.object q_16)) ws (own_R 5 1 6 110) #[(.ref mp), (.ref b2), (.ref vx), (.int 1)] Z h0 (Q_put3_013 Z mp nd0 nd1 b0 b1 b2 vx sz mc h0 n0) := by
 refine own_open (n0 := n0) (cn := q_2) rfl (plainFor_of_name pn0) (L0 := #[(vR mp), (vR b2), (vR vx), (vI 1), .unset, .unset, .unset, .unset, .unset, .unset]) ?_
 intro p e s m below meth c s₁ P hx hby hml hown hnm X0 e0 N0 hlk hret hZ hP
 refine aA X0 hx hby dc_0 rfl rfl ?_
 refine gF X0 hx hby hZ hown (tw_100 hw) Via.refl e0 s1 dc_1 ?_
 intro T11 X11 e11
 refine aT X11 hx hby dc_4 rfl rfl ?_
 refine aB X11 hx hby dc_6 rfl rfl ?_
 refine w_ifnonnullYes X11 hx hby dc_8 (pc' := 19) ?_
 refine aA X11 hx hby dc_19 rfl rfl ?_
 refine gF X11 hx hby hZ hown (tw_59 hw) Via.refl e11 s4 dc_20 ?_
 intro T12 X12 e12
 refine aT X12 hx hby dc_23 rfl rfl ?_
 refine aB X12 hx hby dc_25 rfl rfl ?_
 refine w_ifnullYes X12 hx hby dc_27 (pc' := 112) ?_
 refine aA X12 hx hby dc_112 rfl rfl ?_
 refine c_stat 0 X12 hx hby hml hZ hown (tw_165 hw) (tw_25 hw) (tw_26 hw) (tw_27 hw) (rm_rnn l Z a0 hw [] b2 h0 n0 Z0 ) e12 dc_113 [(.ref b2)] [] (lenOf pd3 rfl) rfl rfl ?_
 rintro _ T13 Lc13 ⟨rfl, N13q, q13⟩ X13
 have N13 := Fr.app N0 N13q
 refine pO X13 hx hby dc_116 rfl ?_
 refine aA X13 hx hby dc_117 rfl rfl ?_
 obtain ⟨T14, X14, e14, st14⟩ := castY X13 hx hZ hown (tw_112 hw) q13 (Ins.of_exa (Exa.ext O0.2 B_b2.1) (tw_113 hw)) (g := (mkF m 118 #[(vR mp), (vR b2), (vR vx), (vI 1), (vR nd0), .unset, .unset, .val .null, .unset, .unset] [(.ref b2)])) rfl rfl (hb hby dc_118)
 refine Go.by st14 ?_
 refine aT X14 hx hby dc_121 rfl rfl ?_
 refine aB X14 hx hby dc_123 rfl rfl ?_
 refine aT X14 hx hby dc_125 rfl rfl ?_
 refine aB X14 hx hby dc_127 rfl rfl ?_
 refine aB X14 hx hby dc_129 rfl rfl ?_
 refine gF X14 hx hby hZ hown (tw_166 hw) Via.refl e14 s6 dc_131 ?_
 intro T15 X15 e15
 obtain ⟨cq16, kq16, q16a, q16b, q16c⟩ := isOf hZ e15 (Exa.ext O0.2 B_b2.1)
 obtain ⟨_, _, ⟨T16, L16, k16, n16⟩, -, X16, ⟨Lc16, hQ16, l16, y16, z16⟩, st16⟩ := X15.interfaceBack hx (xi := oY7) (y := oY4) hown (mvT hZ (tw_114 hw)) (mvT hZ (tw_115 hw)) (mvT hZ (tw_116 hw)) (mvT hZ (tw_117 hw)) (mvT hZ (tw_118 hw)) (mvT hZ (tw_119 hw)) (mvT hZ (tw_120 hw)) (mvT hZ (tw_113 hw)) (by decide) (backOf (W := 0) (rm_ct2_gt l Z a0 hw [] b2 b0 (3 : Int64) (0 : Int64) h0 n0 Z0 O0 B_b2 B_b0 (by decide : (0 : Int64) < (3 : Int64)) (by decide : ¬ (3 : Int64) < (0 : Int64)) (by decide : ¬ (3 : Int64) = (0 : Int64))) hZ (tw_121 hw) (tw_84 hw) (by decide) (by decide)) q16a q16b q16c (g := (mkF m 134 #[(vR mp), (vR b2), (vR vx), (vI 1), (vR nd0), .unset, (vR nd0), .val .null, (vR b2), .unset] [(.ref b0), (.ref b2)])) rfl (by rw [hml]; rfl) (Steps.refl _) (argsL := [(.ref b0)]) (rest := []) (lenOf pd0 rfl) rfl (by show 2 * 0 + _ ≤ _; exact Nat.le_of_eq rfl) (hb hby dc_134) (fun _ _ => ⟨rfl, e15, (by decide : 0 + 0 ≤ _), (by decide : 0 + 0 ≤ _)⟩)
 dsimp only [Pt.U, Pt.locs, Pt.cells, Pt.slots] at X16 l16 y16 z16 st16 hQ16
 subst l16 y16 z16
 obtain ⟨rfl, N16q, q16⟩ := hQ16
 have N16 := Fr.app N13 N16q
 refine Go.by (fun t k => st16.trans k) ?_
 show oG p e below P m T16 139 #[(vR mp), (vR b2), (vR vx), (vI 1), (vR nd0), .unset, (vR nd0), .val .null, (vR b2), .unset] [(.int 1)]
 refine iT X16 hx hby dc_139 rfl ?_
 refine iB X16 hx hby dc_141 rfl ?_
 refine fY X16 hx hby dc_143 (pc' := 156) (XT.i0_ge_t (by decide : ¬ (1 : Int32) < (0 : Int32))) ?_
 refine iB X16 hx hby dc_156 rfl ?_
 refine fN X16 hx hby dc_158 (XT.i0_le_f (by decide : (0 : Int32) < (1 : Int32))) ?_
 refine aB X16 hx hby dc_161 rfl rfl ?_
 refine gF X16 hx hby hZ hown (tw_167 hw) Via.refl q16 s8 dc_163 ?_
 intro T17 X17 e17
 refine aT X17 hx hby dc_166 rfl rfl ?_
 refine gO X17 hx hby dc_168 (pc' := 196) ?_
 refine aB X17 hx hby dc_196 rfl rfl ?_
 refine w_ifnonnullYes X17 hx hby dc_198 (pc' := 123) ?_
 refine aB X17 hx hby dc_123 rfl rfl ?_
 refine aT X17 hx hby dc_125 rfl rfl ?_
 refine aB X17 hx hby dc_127 rfl rfl ?_
 refine aB X17 hx hby dc_129 rfl rfl ?_
 refine gF X17 hx hby hZ hown (tw_166 hw) Via.refl e17 s12 dc_131 ?_
 intro T18 X18 e18
 obtain ⟨cq19, kq19, q19a, q19b, q19c⟩ := isOf hZ e18 (Exa.ext O0.2 B_b2.1)
 obtain ⟨_, _, ⟨T19, L19, k19, n19⟩, -, X19, ⟨Lc19, hQ19, l19, y19, z19⟩, st19⟩ := X18.interfaceBack hx (xi := oY7) (y := oY4) hown (mvT hZ (tw_114 hw)) (mvT hZ (tw_115 hw)) (mvT hZ (tw_116 hw)) (mvT hZ (tw_117 hw)) (mvT hZ (tw_118 hw)) (mvT hZ (tw_119 hw)) (mvT hZ (tw_120 hw)) (mvT hZ (tw_113 hw)) (by decide) (backOf (W := 0) (rm_ct2_gt l Z a0 hw [] b2 b1 (3 : Int64) (1 : Int64) h0 n0 Z0 O0 B_b2 B_b1 (by decide : (1 : Int64) < (3 : Int64)) (by decide : ¬ (3 : Int64) < (1 : Int64)) (by decide : ¬ (3 : Int64) = (1 : Int64))) hZ (tw_121 hw) (tw_84 hw) (by decide) (by decide)) q19a q19b q19c (g := (mkF m 134 #[(vR mp), (vR b2), (vR vx), (vI 1), (vR nd1), (vI 1), (vR nd1), .val .null, (vR b2), .unset] [(.ref b1), (.ref b2)])) rfl (by rw [hml]; rfl) (Steps.refl _) (argsL := [(.ref b1)]) (rest := []) (lenOf pd0 rfl) rfl (by show 2 * 0 + _ ≤ _; exact Nat.le_of_eq rfl) (hb hby dc_134) (fun _ _ => ⟨rfl, e18, (by decide : 0 + 0 ≤ _), (by decide : 0 + 0 ≤ _)⟩)
 dsimp only [Pt.U, Pt.locs, Pt.cells, Pt.slots] at X19 l19 y19 z19 st19 hQ19
 subst l19 y19 z19
 obtain ⟨rfl, N19q, q19⟩ := hQ19
 have N19 := Fr.app N16 N19q
 refine Go.by (fun t k => st19.trans k) ?_
 show oG p e below P m T19 139 #[(vR mp), (vR b2), (vR vx), (vI 1), (vR nd1), (vI 1), (vR nd1), .val .null, (vR b2), .unset] [(.int 1)]
 refine iT X19 hx hby dc_139 rfl ?_
 refine iB X19 hx hby dc_141 rfl ?_
 refine fY X19 hx hby dc_143 (pc' := 156) (XT.i0_ge_t (by decide : ¬ (1 : Int32) < (0 : Int32))) ?_
 refine iB X19 hx hby dc_156 rfl ?_
 refine fN X19 hx hby dc_158 (XT.i0_le_f (by decide : (0 : Int32) < (1 : Int32))) ?_
 refine aB X19 hx hby dc_161 rfl rfl ?_
 refine gF X19 hx hby hZ hown (tw_167 hw) Via.refl q19 s14 dc_163 ?_
 intro T20 X20 e20
 refine aT X20 hx hby dc_166 rfl rfl ?_
 refine gO X20 hx hby dc_168 (pc' := 196) ?_
 refine aB X20 hx hby dc_196 rfl rfl ?_
 refine w_ifnonnullNo X20 hx hby dc_198 ?_
 refine aA X20 hx hby dc_201 rfl rfl ?_
 refine aA X20 hx hby dc_202 rfl rfl ?_
 refine aA X20 hx hby dc_203 rfl rfl ?_
 refine aB X20 hx hby dc_204 rfl rfl ?_
 refine iB X20 hx hby dc_206 rfl ?_
 refine fY X20 hx hby dc_208 (pc' := 215) (XT.i0_ge_t (by decide : ¬ (1 : Int32) < (0 : Int32))) ?_
 refine iC X20 hx hby dc_215 (v := 0) rfl ?_
 obtain ⟨cq21, q21a, q21b⟩ := Exa.cell s0
 obtain ⟨_, _, ⟨T21, L21, k21, n21⟩, -, X21, ⟨Lc21, hQ21, l21, y21, z21⟩, st21⟩ := X20.privateBack hx (y := oY13) hown (mvT hZ (tw_189 hw)) (mvT hZ (tw_190 hw)) (own_selfP (args := #[(.ref mp), (.ref b2), (.ref vx), (.int 1)]) (mvT hZ (tw_192 hw)) (mvT hZ (tw_190 hw)) (mvP hZ (tw_191 hw)) (by decide)) (Cond.privateMethod_at (args := #[]) (mvP hZ (tw_191 hw))) (mvT hZ (tw_193 hw)) (by decide) (backOf (W := 0) (rm_addE2 l Z a0 hw [] mp nd0 nd1 b0 b1 b2 vx sz mc h0 n0 Z0 O0 s0 s1 s2 s3 s4 s5 s6 s7 s8 s9 s10 s11 s12 s13 s14 s15 s16 g_mp g_nd0 g_nd1 ne_nd0_nd1) hZ (tw_193 hw) (tw_44 hw) (by decide) (by decide)) (g := (mkF m 216 #[(vR mp), (vR b2), (vR vx), (vI 1), .val .null, (vI 1), (vR nd1), .val .null, (vR b2), .unset] [(.int 0), (.ref nd1), (.ref vx), (.ref b2), (.ref mp)])) rfl (by rw [hml]; rfl) (Steps.refl _) (a := mp) (by rw [e20]; exact q21a) q21b (argsL := [(.ref b2), (.ref vx), (.ref nd1), (.int 0)]) (rest := []) (lenOf pd13 rfl) rfl (by show 2 * 0 + _ ≤ _; exact Nat.le_of_eq rfl) (hb hby dc_216) (fun _ _ => ⟨rfl, e20, (by decide : 0 + 1 ≤ _), (by decide : 0 + 6 ≤ _)⟩)
 dsimp only [Pt.U, Pt.locs, Pt.cells, Pt.slots] at X21 l21 y21 z21 st21 hQ21
 subst l21 y21 z21
 obtain ⟨rfl, N21q, K21, en21, zn21, G21_0, G21_1, G21_2, G21_3, G21_4, G21_5, G21_6, G21_7, G21_8, G21_9, G21_10, G21_11, G21_12, G21_13, G21_14, G21_15, G21_16, G21_17, G21_18, G21_19, G21_20, G21_21, G21_22⟩ := hQ21
 have N21 := Fr.app N19 N21q
 refine Go.by (fun t k => st21.trans k) ?_
 have f21_1 := Keep.trans (Keep.refl h0 [mp, nd0, nd1]) K21 (allS (Or.inl (List.mem_of_getElem? (i := 0) rfl)) (allS (Or.inl (List.mem_of_getElem? (i := 1) rfl)) (allS (Or.inl (List.mem_of_getElem? (i := 2) rfl)) all0)))
 have f21_3 := Exa.keep s0 K21
 have f21_4 := Exa.keep s5 K21
 have f21_5 := Exa.keep s11 K21
 have g_en21 : n0 ≤ en21 := Nat.le_trans Z0 zn21
 have sz_en21 : h0.size ≤ en21 := Nat.le_trans (Keep.refl h0 [mp, nd0, nd1]).1 zn21
 show oG p e below P m T21 219 #[(vR mp), (vR b2), (vR vx), (vI 1), .val .null, (vI 1), (vR nd1), .val .null, (vR b2), .unset] []
 refine w_aconstNull X21 hx hby dc_219 ?_
 refine r_val hP hlk hret X21 hx hby dc_220 rfl (Or.inr (Or.inr (Or.inr (Or.inr ⟨rfl, rfl, rfl⟩)))) (by decide) ?_
 exact ⟨rfl, N21, f21_1, en21, sz_en21, f21_3, G21_1, G21_2, G21_3, G21_4, f21_4, G21_6, G21_7, G21_8, G21_9, G21_10, f21_5, G21_12, G21_13, G21_14, G21_15, G21_16, G21_17, G21_18, G21_19, G21_20, G21_21, G21_22⟩
def Q_put2_013 (Z : State) (mp nd0 nd1 b0 b1 b2 vx : Addr) (sz mc : Int32) (h0 : Heap) (n0 : Nat) (v : Option Value) (h : Heap) (L : List Loc) : Prop := v = some .null ∧ Fr n0 L ∧ Keep h0 h [mp, nd0, nd1] ∧ ∃ en, h0.size ≤ en ∧ Exa Z h mp q_2 ∧ Fld Z h mp q_2 q_12 q_1 (.ref nd1) ∧ Fld Z h mp q_2 q_13 "I" (.int (sz + (1 : Int32))) ∧ Fld Z h mp q_2 q_14 "I" (.int (mc + (1 : Int32))) ∧ Fld Z h mp q_2 q_10 q_11 .null ∧ Exa Z h nd0 q_0 ∧ Fld Z h nd0 q_0 q_8 q_4 (.ref b0) ∧ Fld Z h nd0 q_0 q_6 q_1 .null ∧ Fld Z h nd0 q_0 q_9 q_1 .null ∧ Fld Z h nd0 q_0 q_5 q_1 (.ref nd1) ∧ Fld Z h nd0 q_0 q_7 "Z" (.int 0) ∧ Exa Z h nd1 q_0 ∧ Fld Z h nd1 q_0 q_8 q_4 (.ref b1) ∧ Fld Z h nd1 q_0 q_6 q_1 (.ref nd0) ∧ Fld Z h nd1 q_0 q_9 q_1 (.ref en) ∧ Fld Z h nd1 q_0 q_5 q_1 .null ∧ Fld Z h nd1 q_0 q_7 "Z" (.int 1) ∧ Exa Z h en q_0 ∧ Fld Z h en q_0 q_8 q_4 (.ref b2) ∧ Fld Z h en q_0 q_6 q_1 .null ∧ Fld Z h en q_0 q_9 q_1 .null ∧ Fld Z h en q_0 q_5 q_1 (.ref nd1) ∧ Fld Z h en q_0 q_7 "Z" (.int 0)
theorem rm_put2_013 (l : Launch) (Z : State) (a0 : Array Value) (hw : oW a0 Z) (ws : List Jvm.Cond) (mp nd0 nd1 b0 b1 b2 vx : Addr) (sz mc : Int32) (h0 : Heap) (n0 : Nat) (Z0 : n0 ≤ h0.size) (O0 : Old Z n0 h0) (s0 : Exa Z h0 mp q_2) (s1 : Fld Z h0 mp q_2 q_12 q_1 (.ref nd0)) (s2 : Fld Z h0 mp q_2 q_13 "I" (.int sz)) (s3 : Fld Z h0 mp q_2 q_14 "I" (.int mc)) (s4 : Fld Z h0 mp q_2 q_10 q_11 .null) (s5 : Exa Z h0 nd0 q_0) (s6 : Fld Z h0 nd0 q_0 q_8 q_4 (.ref b0)) (s7 : Fld Z h0 nd0 q_0 q_6 q_1 .null) (s8 : Fld Z h0 nd0 q_0 q_9 q_1 (.ref nd1)) (s9 : Fld Z h0 nd0 q_0 q_5 q_1 .null) (s10 : Fld Z h0 nd0 q_0 q_7 "Z" (.int 1)) (s11 : Exa Z h0 nd1 q_0) (s12 : Fld Z h0 nd1 q_0 q_8 q_4 (.ref b1)) (s13 : Fld Z h0 nd1 q_0 q_6 q_1 .null) (s14 : Fld Z h0 nd1 q_0 q_9 q_1 .null) (s15 : Fld Z h0 nd1 q_0 q_5 q_1 (.ref nd0)) (s16 : Fld Z h0 nd1 q_0 q_7 "Z" (.int 0)) (g_mp : n0 ≤ mp) (g_nd0 : n0 ≤ nd0) (g_nd1 : n0 ≤ nd1) (ne_nd0_nd1 : nd0 ≠ nd1) (B_b0 : own_Box Z b0 (0 : Int64)) (B_b1 : own_Box Z b1 (1 : Int64)) (B_b2 : own_Box Z b2 (3 : Int64)) :
   oM l oY6 j2729_21 3 (some (.object q_16)) ws (own_R 6 1 6 140) #[(.ref mp), (.ref b2), (.ref vx)] Z h0 (Q_put2_013 Z mp nd0 nd1 b0 b1 b2 vx sz mc h0 n0) := by
 refine own_open (n0 := n0) (cn := q_2) rfl (plainFor_of_name pn0) (L0 := #[(vR mp), (vR b2), (vR vx)]) ?_
 intro p e s m below meth c s₁ P hx hby hml hown hnm X0 e0 N0 hlk hret hZ hP
 refine aA X0 hx hby dm_0 rfl rfl ?_
 refine aA X0 hx hby dm_1 rfl rfl ?_
 refine aA X0 hx hby dm_2 rfl rfl ?_
 refine iC X0 hx hby dm_3 (v := 1) rfl ?_
 obtain ⟨cq11, q11a, q11b⟩ := Exa.cell s0
 obtain ⟨_, _, ⟨T11, L11, k11, n11⟩, -, X11, ⟨Lc11, hQ11, l11, y11, z11⟩, st11⟩ := X0.privateBack hx (y := oY10) hown (mvT hZ (tw_95 hw)) (mvT hZ (tw_96 hw)) (own_selfP (args := #[(.ref mp), (.ref b2), (.ref vx)]) (mvT hZ (tw_98 hw)) (mvT hZ (tw_96 hw)) (mvP hZ (tw_97 hw)) (by decide)) (Cond.privateMethod_at (args := #[]) (mvP hZ (tw_97 hw))) (mvT hZ (tw_99 hw)) (by decide) (backOf (W := 0) (rm_put3_013 l Z a0 hw [] mp nd0 nd1 b0 b1 b2 vx sz mc h0 n0 Z0 O0 s0 s1 s2 s3 s4 s5 s6 s7 s8 s9 s10 s11 s12 s13 s14 s15 s16 g_mp g_nd0 g_nd1 ne_nd0_nd1 B_b0 B_b1 B_b2) hZ (tw_99 hw) (tw_44 hw) (by decide) (by decide)) (g := (mkF m 4 #[(vR mp), (vR b2), (vR vx)] [(.int 1), (.ref vx), (.ref b2), (.ref mp)])) rfl (by rw [hml]; rfl) (Steps.refl _) (a := mp) (by rw [e0]; exact q11a) q11b (argsL := [(.ref b2), (.ref vx), (.int 1)]) (rest := []) (lenOf pd9 rfl) rfl (by show 2 * 0 + _ ≤ _; exact Nat.le_of_eq rfl) (hb hby dm_4) (fun _ _ => ⟨rfl, e0, (by decide : 0 + 1 ≤ _), (by decide : 0 + 6 ≤ _)⟩)
 dsimp only [Pt.U, Pt.locs, Pt.cells, Pt.slots] at X11 l11 y11 z11 st11 hQ11
 subst l11 y11 z11
 obtain ⟨rfl, N11q, K11, en11, zn11, G11_0, G11_1, G11_2, G11_3, G11_4, G11_5, G11_6, G11_7, G11_8, G11_9, G11_10, G11_11, G11_12, G11_13, G11_14, G11_15, G11_16, G11_17, G11_18, G11_19, G11_20, G11_21, G11_22⟩ := hQ11
 have N11 := Fr.app N0 N11q
 refine Go.by (fun t k => st11.trans k) ?_
 have f11_1 := Keep.trans (Keep.refl h0 [mp, nd0, nd1]) K11 (allS (Or.inl (List.mem_of_getElem? (i := 0) rfl)) (allS (Or.inl (List.mem_of_getElem? (i := 1) rfl)) (allS (Or.inl (List.mem_of_getElem? (i := 2) rfl)) all0)))
 have f11_3 := Exa.keep s0 K11
 have f11_4 := Exa.keep s5 K11
 have f11_5 := Exa.keep s11 K11
 have g_en11 : n0 ≤ en11 := Nat.le_trans Z0 zn11
 have sz_en11 : h0.size ≤ en11 := Nat.le_trans (Keep.refl h0 [mp, nd0, nd1]).1 zn11
 show oG p e below P m T11 7 #[(vR mp), (vR b2), (vR vx)] [.null]
 refine r_val hP hlk hret X11 hx hby dm_7 rfl (Or.inr (Or.inr (Or.inr (Or.inr ⟨rfl, rfl, rfl⟩)))) (by decide) ?_
 exact ⟨rfl, N11, f11_1, en11, sz_en11, f11_3, G11_1, G11_2, G11_3, G11_4, f11_4, G11_6, G11_7, G11_8, G11_9, G11_10, f11_5, G11_12, G11_13, G11_14, G11_15, G11_16, G11_17, G11_18, G11_19, G11_20, G11_21, G11_22⟩
def Q_put3_0124 (Z : State) (mp nd0 nd1 nd2 b0 b1 b2 b3 vx : Addr) (sz mc : Int32) (h0 : Heap) (n0 : Nat) (v : Option Value) (h : Heap) (L : List Loc) : Prop := v = some .null ∧ Fr n0 L ∧ Keep h0 h [mp, nd0, nd1, nd2] ∧ ∃ en, h0.size ≤ en ∧ Exa Z h mp q_2 ∧ Fld Z h mp q_2 q_12 q_1 (.ref nd1) ∧ Fld Z h mp q_2 q_13 "I" (.int (sz + (1 : Int32))) ∧ Fld Z h mp q_2 q_14 "I" (.int (mc + (1 : Int32))) ∧ Fld Z h mp q_2 q_10 q_11 .null ∧ Exa Z h nd0 q_0 ∧ Fld Z h nd0 q_0 q_8 q_4 (.ref b0) ∧ Fld Z h nd0 q_0 q_6 q_1 .null ∧ Fld Z h nd0 q_0 q_9 q_1 .null ∧ Fld Z h nd0 q_0 q_5 q_1 (.ref nd1) ∧ Fld Z h nd0 q_0 q_7 "Z" (.int 1) ∧ Exa Z h nd1 q_0 ∧ Fld Z h nd1 q_0 q_8 q_4 (.ref b1) ∧ Fld Z h nd1 q_0 q_6 q_1 (.ref nd0) ∧ Fld Z h nd1 q_0 q_9 q_1 (.ref nd2) ∧ Fld Z h nd1 q_0 q_5 q_1 .null ∧ Fld Z h nd1 q_0 q_7 "Z" (.int 1) ∧ Exa Z h nd2 q_0 ∧ Fld Z h nd2 q_0 q_8 q_4 (.ref b2) ∧ Fld Z h nd2 q_0 q_6 q_1 .null ∧ Fld Z h nd2 q_0 q_9 q_1 (.ref en) ∧ Fld Z h nd2 q_0 q_5 q_1 (.ref nd1) ∧ Fld Z h nd2 q_0 q_7 "Z" (.int 1) ∧ Exa Z h en q_0 ∧ Fld Z h en q_0 q_8 q_4 (.ref b3) ∧ Fld Z h en q_0 q_6 q_1 .null ∧ Fld Z h en q_0 q_9 q_1 .null ∧ Fld Z h en q_0 q_5 q_1 (.ref nd2) ∧ Fld Z h en q_0 q_7 "Z" (.int 0)
theorem rm_put3_0124 (l : Launch) (Z : State) (a0 : Array Value) (hw : oW a0 Z) (ws : List Jvm.Cond) (mp nd0 nd1 nd2 b0 b1 b2 b3 vx : Addr) (sz mc : Int32) (h0 : Heap) (n0 : Nat) (Z0 : n0 ≤ h0.size) (O0 : Old Z n0 h0) (s0 : Exa Z h0 mp q_2) (s1 : Fld Z h0 mp q_2 q_12 q_1 (.ref nd1)) (s2 : Fld Z h0 mp q_2 q_13 "I" (.int sz)) (s3 : Fld Z h0 mp q_2 q_14 "I" (.int mc)) (s4 : Fld Z h0 mp q_2 q_10 q_11 .null) (s5 : Exa Z h0 nd0 q_0) (s6 : Fld Z h0 nd0 q_0 q_8 q_4 (.ref b0)) (s7 : Fld Z h0 nd0 q_0 q_6 q_1 .null) (s8 : Fld Z h0 nd0 q_0 q_9 q_1 .null) (s9 : Fld Z h0 nd0 q_0 q_5 q_1 (.ref nd1)) (s10 : Fld Z h0 nd0 q_0 q_7 "Z" (.int 0)) (s11 : Exa Z h0 nd1 q_0) (s12 : Fld Z h0 nd1 q_0 q_8 q_4 (.ref b1)) (s13 : Fld Z h0 nd1 q_0 q_6 q_1 (.ref nd0)) (s14 : Fld Z h0 nd1 q_0 q_9 q_1 (.ref nd2)) (s15 : Fld Z h0 nd1 q_0 q_5 q_1 .null) (s16 : Fld Z h0 nd1 q_0 q_7 "Z" (.int 1)) (s17 : Exa Z h0 nd2 q_0) (s18 : Fld Z h0 nd2 q_0 q_8 q_4 (.ref b2)) (s19 : Fld Z h0 nd2 q_0 q_6 q_1 .null) (s20 : Fld Z h0 nd2 q_0 q_9 q_1 .null) (s21 : Fld Z h0 nd2 q_0 q_5 q_1 (.ref nd1)) (s22 : Fld Z h0 nd2 q_0 q_7 "Z" (.int 0)) (g_mp : n0 ≤ mp) (g_nd0 : n0 ≤ nd0) (g_nd1 : n0 ≤ nd1) (g_nd2 : n0 ≤ nd2) (ne_nd0_nd1 : nd0 ≠ nd1) (ne_nd0_nd2 : nd0 ≠ nd2) (ne_nd1_nd2 : nd1 ≠ nd2) (B_b0 : own_Box Z b0 (0 : Int64)) (B_b1 : own_Box Z b1 (1 : Int64)) (B_b2 : own_Box Z b2 (2 : Int64)) (B_b3 : own_Box Z b3 (4 : Int64)) :
   oM l oY10 j2729_31 10 (some (.object q_16)) ws (own_R 5 1 6 110) #[(.ref mp), (.ref b3), (.ref vx), (.int 1)] Z h0 (Q_put3_0124 Z mp nd0 nd1 nd2 b0 b1 b2 b3 vx sz mc h0 n0) := by
 refine own_open (n0 := n0) (cn := q_2) rfl (plainFor_of_name pn0) (L0 := #[(vR mp), (vR b3), (vR vx), (vI 1), .unset, .unset, .unset, .unset, .unset, .unset]) ?_
 intro p e s m below meth c s₁ P hx hby hml hown hnm X0 e0 N0 hlk hret hZ hP
 refine aA X0 hx hby dc_0 rfl rfl ?_
 refine gF X0 hx hby hZ hown (tw_100 hw) Via.refl e0 s1 dc_1 ?_
 intro T11 X11 e11
 refine aT X11 hx hby dc_4 rfl rfl ?_
 refine aB X11 hx hby dc_6 rfl rfl ?_
 refine w_ifnonnullYes X11 hx hby dc_8 (pc' := 19) ?_
 refine aA X11 hx hby dc_19 rfl rfl ?_
 refine gF X11 hx hby hZ hown (tw_59 hw) Via.refl e11 s4 dc_20 ?_
 intro T12 X12 e12
 refine aT X12 hx hby dc_23 rfl rfl ?_
 refine aB X12 hx hby dc_25 rfl rfl ?_
 refine w_ifnullYes X12 hx hby dc_27 (pc' := 112) ?_
 refine aA X12 hx hby dc_112 rfl rfl ?_
 refine c_stat 0 X12 hx hby hml hZ hown (tw_165 hw) (tw_25 hw) (tw_26 hw) (tw_27 hw) (rm_rnn l Z a0 hw [] b3 h0 n0 Z0 ) e12 dc_113 [(.ref b3)] [] (lenOf pd3 rfl) rfl rfl ?_
 rintro _ T13 Lc13 ⟨rfl, N13q, q13⟩ X13
 have N13 := Fr.app N0 N13q
 refine pO X13 hx hby dc_116 rfl ?_
 refine aA X13 hx hby dc_117 rfl rfl ?_
 obtain ⟨T14, X14, e14, st14⟩ := castY X13 hx hZ hown (tw_112 hw) q13 (Ins.of_exa (Exa.ext O0.2 B_b3.1) (tw_113 hw)) (g := (mkF m 118 #[(vR mp), (vR b3), (vR vx), (vI 1), (vR nd1), .unset, .unset, .val .null, .unset, .unset] [(.ref b3)])) rfl rfl (hb hby dc_118)
 refine Go.by st14 ?_
 refine aT X14 hx hby dc_121 rfl rfl ?_
 refine aB X14 hx hby dc_123 rfl rfl ?_
 refine aT X14 hx hby dc_125 rfl rfl ?_
 refine aB X14 hx hby dc_127 rfl rfl ?_
 refine aB X14 hx hby dc_129 rfl rfl ?_
 refine gF X14 hx hby hZ hown (tw_166 hw) Via.refl e14 s12 dc_131 ?_
 intro T15 X15 e15
 obtain ⟨cq16, kq16, q16a, q16b, q16c⟩ := isOf hZ e15 (Exa.ext O0.2 B_b3.1)
 obtain ⟨_, _, ⟨T16, L16, k16, n16⟩, -, X16, ⟨Lc16, hQ16, l16, y16, z16⟩, st16⟩ := X15.interfaceBack hx (xi := oY7) (y := oY4) hown (mvT hZ (tw_114 hw)) (mvT hZ (tw_115 hw)) (mvT hZ (tw_116 hw)) (mvT hZ (tw_117 hw)) (mvT hZ (tw_118 hw)) (mvT hZ (tw_119 hw)) (mvT hZ (tw_120 hw)) (mvT hZ (tw_113 hw)) (by decide) (backOf (W := 0) (rm_ct2_gt l Z a0 hw [] b3 b1 (4 : Int64) (1 : Int64) h0 n0 Z0 O0 B_b3 B_b1 (by decide : (1 : Int64) < (4 : Int64)) (by decide : ¬ (4 : Int64) < (1 : Int64)) (by decide : ¬ (4 : Int64) = (1 : Int64))) hZ (tw_121 hw) (tw_84 hw) (by decide) (by decide)) q16a q16b q16c (g := (mkF m 134 #[(vR mp), (vR b3), (vR vx), (vI 1), (vR nd1), .unset, (vR nd1), .val .null, (vR b3), .unset] [(.ref b1), (.ref b3)])) rfl (by rw [hml]; rfl) (Steps.refl _) (argsL := [(.ref b1)]) (rest := []) (lenOf pd0 rfl) rfl (by show 2 * 0 + _ ≤ _; exact Nat.le_of_eq rfl) (hb hby dc_134) (fun _ _ => ⟨rfl, e15, (by decide : 0 + 0 ≤ _), (by decide : 0 + 0 ≤ _)⟩)
 dsimp only [Pt.U, Pt.locs, Pt.cells, Pt.slots] at X16 l16 y16 z16 st16 hQ16
 subst l16 y16 z16
 obtain ⟨rfl, N16q, q16⟩ := hQ16
 have N16 := Fr.app N13 N16q
 refine Go.by (fun t k => st16.trans k) ?_
 show oG p e below P m T16 139 #[(vR mp), (vR b3), (vR vx), (vI 1), (vR nd1), .unset, (vR nd1), .val .null, (vR b3), .unset] [(.int 1)]
 refine iT X16 hx hby dc_139 rfl ?_
 refine iB X16 hx hby dc_141 rfl ?_
 refine fY X16 hx hby dc_143 (pc' := 156) (XT.i0_ge_t (by decide : ¬ (1 : Int32) < (0 : Int32))) ?_
 refine iB X16 hx hby dc_156 rfl ?_
 refine fN X16 hx hby dc_158 (XT.i0_le_f (by decide : (0 : Int32) < (1 : Int32))) ?_
 refine aB X16 hx hby dc_161 rfl rfl ?_
 refine gF X16 hx hby hZ hown (tw_167 hw) Via.refl q16 s14 dc_163 ?_
 intro T17 X17 e17
 refine aT X17 hx hby dc_166 rfl rfl ?_
 refine gO X17 hx hby dc_168 (pc' := 196) ?_
 refine aB X17 hx hby dc_196 rfl rfl ?_
 refine w_ifnonnullYes X17 hx hby dc_198 (pc' := 123) ?_
 refine aB X17 hx hby dc_123 rfl rfl ?_
 refine aT X17 hx hby dc_125 rfl rfl ?_
 refine aB X17 hx hby dc_127 rfl rfl ?_
 refine aB X17 hx hby dc_129 rfl rfl ?_
 refine gF X17 hx hby hZ hown (tw_166 hw) Via.refl e17 s18 dc_131 ?_
 intro T18 X18 e18
 obtain ⟨cq19, kq19, q19a, q19b, q19c⟩ := isOf hZ e18 (Exa.ext O0.2 B_b3.1)
 obtain ⟨_, _, ⟨T19, L19, k19, n19⟩, -, X19, ⟨Lc19, hQ19, l19, y19, z19⟩, st19⟩ := X18.interfaceBack hx (xi := oY7) (y := oY4) hown (mvT hZ (tw_114 hw)) (mvT hZ (tw_115 hw)) (mvT hZ (tw_116 hw)) (mvT hZ (tw_117 hw)) (mvT hZ (tw_118 hw)) (mvT hZ (tw_119 hw)) (mvT hZ (tw_120 hw)) (mvT hZ (tw_113 hw)) (by decide) (backOf (W := 0) (rm_ct2_gt l Z a0 hw [] b3 b2 (4 : Int64) (2 : Int64) h0 n0 Z0 O0 B_b3 B_b2 (by decide : (2 : Int64) < (4 : Int64)) (by decide : ¬ (4 : Int64) < (2 : Int64)) (by decide : ¬ (4 : Int64) = (2 : Int64))) hZ (tw_121 hw) (tw_84 hw) (by decide) (by decide)) q19a q19b q19c (g := (mkF m 134 #[(vR mp), (vR b3), (vR vx), (vI 1), (vR nd2), (vI 1), (vR nd2), .val .null, (vR b3), .unset] [(.ref b2), (.ref b3)])) rfl (by rw [hml]; rfl) (Steps.refl _) (argsL := [(.ref b2)]) (rest := []) (lenOf pd0 rfl) rfl (by show 2 * 0 + _ ≤ _; exact Nat.le_of_eq rfl) (hb hby dc_134) (fun _ _ => ⟨rfl, e18, (by decide : 0 + 0 ≤ _), (by decide : 0 + 0 ≤ _)⟩)
 dsimp only [Pt.U, Pt.locs, Pt.cells, Pt.slots] at X19 l19 y19 z19 st19 hQ19
 subst l19 y19 z19
 obtain ⟨rfl, N19q, q19⟩ := hQ19
 have N19 := Fr.app N16 N19q
 refine Go.by (fun t k => st19.trans k) ?_
 show oG p e below P m T19 139 #[(vR mp), (vR b3), (vR vx), (vI 1), (vR nd2), (vI 1), (vR nd2), .val .null, (vR b3), .unset] [(.int 1)]
 refine iT X19 hx hby dc_139 rfl ?_
 refine iB X19 hx hby dc_141 rfl ?_
 refine fY X19 hx hby dc_143 (pc' := 156) (XT.i0_ge_t (by decide : ¬ (1 : Int32) < (0 : Int32))) ?_
 refine iB X19 hx hby dc_156 rfl ?_
 refine fN X19 hx hby dc_158 (XT.i0_le_f (by decide : (0 : Int32) < (1 : Int32))) ?_
 refine aB X19 hx hby dc_161 rfl rfl ?_
 refine gF X19 hx hby hZ hown (tw_167 hw) Via.refl q19 s20 dc_163 ?_
 intro T20 X20 e20
 refine aT X20 hx hby dc_166 rfl rfl ?_
 refine gO X20 hx hby dc_168 (pc' := 196) ?_
 refine aB X20 hx hby dc_196 rfl rfl ?_
 refine w_ifnonnullNo X20 hx hby dc_198 ?_
 refine aA X20 hx hby dc_201 rfl rfl ?_
 refine aA X20 hx hby dc_202 rfl rfl ?_
 refine aA X20 hx hby dc_203 rfl rfl ?_
 refine aB X20 hx hby dc_204 rfl rfl ?_
 refine iB X20 hx hby dc_206 rfl ?_
 refine fY X20 hx hby dc_208 (pc' := 215) (XT.i0_ge_t (by decide : ¬ (1 : Int32) < (0 : Int32))) ?_
 refine iC X20 hx hby dc_215 (v := 0) rfl ?_
 obtain ⟨cq21, q21a, q21b⟩ := Exa.cell s0
 obtain ⟨_, _, ⟨T21, L21, k21, n21⟩, -, X21, ⟨Lc21, hQ21, l21, y21, z21⟩, st21⟩ := X20.privateBack hx (y := oY13) hown (mvT hZ (tw_189 hw)) (mvT hZ (tw_190 hw)) (own_selfP (args := #[(.ref mp), (.ref b3), (.ref vx), (.int 1)]) (mvT hZ (tw_192 hw)) (mvT hZ (tw_190 hw)) (mvP hZ (tw_191 hw)) (by decide)) (Cond.privateMethod_at (args := #[]) (mvP hZ (tw_191 hw))) (mvT hZ (tw_193 hw)) (by decide) (backOf (W := 0) (rm_addE3 l Z a0 hw [] mp nd0 nd1 nd2 b0 b1 b2 b3 vx sz mc h0 n0 Z0 O0 s0 s1 s2 s3 s4 s5 s6 s7 s8 s9 s10 s11 s12 s13 s14 s15 s16 s17 s18 s19 s20 s21 s22 g_mp g_nd0 g_nd1 g_nd2 ne_nd0_nd1 ne_nd0_nd2 ne_nd1_nd2) hZ (tw_193 hw) (tw_44 hw) (by decide) (by decide)) (g := (mkF m 216 #[(vR mp), (vR b3), (vR vx), (vI 1), .val .null, (vI 1), (vR nd2), .val .null, (vR b3), .unset] [(.int 0), (.ref nd2), (.ref vx), (.ref b3), (.ref mp)])) rfl (by rw [hml]; rfl) (Steps.refl _) (a := mp) (by rw [e20]; exact q21a) q21b (argsL := [(.ref b3), (.ref vx), (.ref nd2), (.int 0)]) (rest := []) (lenOf pd13 rfl) rfl (by show 2 * 0 + _ ≤ _; exact Nat.le_of_eq rfl) (hb hby dc_216) (fun _ _ => ⟨rfl, e20, (by decide : 0 + 1 ≤ _), (by decide : 0 + 6 ≤ _)⟩)
 dsimp only [Pt.U, Pt.locs, Pt.cells, Pt.slots] at X21 l21 y21 z21 st21 hQ21
 subst l21 y21 z21
 obtain ⟨rfl, N21q, K21, en21, zn21, G21_0, G21_1, G21_2, G21_3, G21_4, G21_5, G21_6, G21_7, G21_8, G21_9, G21_10, G21_11, G21_12, G21_13, G21_14, G21_15, G21_16, G21_17, G21_18, G21_19, G21_20, G21_21, G21_22, G21_23, G21_24, G21_25, G21_26, G21_27, G21_28⟩ := hQ21
 have N21 := Fr.app N19 N21q
 refine Go.by (fun t k => st21.trans k) ?_
 have f21_1 := Keep.trans (Keep.refl h0 [mp, nd0, nd1, nd2]) K21 (allS (Or.inl (List.mem_of_getElem? (i := 0) rfl)) (allS (Or.inl (List.mem_of_getElem? (i := 1) rfl)) (allS (Or.inl (List.mem_of_getElem? (i := 2) rfl)) (allS (Or.inl (List.mem_of_getElem? (i := 3) rfl)) all0))))
 have f21_3 := Exa.keep s0 K21
 have f21_4 := Exa.keep s5 K21
 have f21_5 := Exa.keep s11 K21
 have f21_6 := Exa.keep s17 K21
 have g_en21 : n0 ≤ en21 := Nat.le_trans Z0 zn21
 have sz_en21 : h0.size ≤ en21 := Nat.le_trans (Keep.refl h0 [mp, nd0, nd1, nd2]).1 zn21
 show oG p e below P m T21 219 #[(vR mp), (vR b3), (vR vx), (vI 1), .val .null, (vI 1), (vR nd2), .val .null, (vR b3), .unset] []
 refine w_aconstNull X21 hx hby dc_219 ?_
 refine r_val hP hlk hret X21 hx hby dc_220 rfl (Or.inr (Or.inr (Or.inr (Or.inr ⟨rfl, rfl, rfl⟩)))) (by decide) ?_
 exact ⟨rfl, N21, f21_1, en21, sz_en21, f21_3, G21_1, G21_2, G21_3, G21_4, f21_4, G21_6, G21_7, G21_8, G21_9, G21_10, f21_5, G21_12, G21_13, G21_14, G21_15, G21_16, f21_6, G21_18, G21_19, G21_20, G21_21, G21_22, G21_23, G21_24, G21_25, G21_26, G21_27, G21_28⟩
def Q_put2_0124 (Z : State) (mp nd0 nd1 nd2 b0 b1 b2 b3 vx : Addr) (sz mc : Int32) (h0 : Heap) (n0 : Nat) (v : Option Value) (h : Heap) (L : List Loc) : Prop := v = some .null ∧ Fr n0 L ∧ Keep h0 h [mp, nd0, nd1, nd2] ∧ ∃ en, h0.size ≤ en ∧ Exa Z h mp q_2 ∧ Fld Z h mp q_2 q_12 q_1 (.ref nd1) ∧ Fld Z h mp q_2 q_13 "I" (.int (sz + (1 : Int32))) ∧ Fld Z h mp q_2 q_14 "I" (.int (mc + (1 : Int32))) ∧ Fld Z h mp q_2 q_10 q_11 .null ∧ Exa Z h nd0 q_0 ∧ Fld Z h nd0 q_0 q_8 q_4 (.ref b0) ∧ Fld Z h nd0 q_0 q_6 q_1 .null ∧ Fld Z h nd0 q_0 q_9 q_1 .null ∧ Fld Z h nd0 q_0 q_5 q_1 (.ref nd1) ∧ Fld Z h nd0 q_0 q_7 "Z" (.int 1) ∧ Exa Z h nd1 q_0 ∧ Fld Z h nd1 q_0 q_8 q_4 (.ref b1) ∧ Fld Z h nd1 q_0 q_6 q_1 (.ref nd0) ∧ Fld Z h nd1 q_0 q_9 q_1 (.ref nd2) ∧ Fld Z h nd1 q_0 q_5 q_1 .null ∧ Fld Z h nd1 q_0 q_7 "Z" (.int 1) ∧ Exa Z h nd2 q_0 ∧ Fld Z h nd2 q_0 q_8 q_4 (.ref b2) ∧ Fld Z h nd2 q_0 q_6 q_1 .null ∧ Fld Z h nd2 q_0 q_9 q_1 (.ref en) ∧ Fld Z h nd2 q_0 q_5 q_1 (.ref nd1) ∧ Fld Z h nd2 q_0 q_7 "Z" (.int 1) ∧ Exa Z h en q_0 ∧ Fld Z h en q_0 q_8 q_4 (.ref b3) ∧ Fld Z h en q_0 q_6 q_1 .null ∧ Fld Z h en q_0 q_9 q_1 .null ∧ Fld Z h en q_0 q_5 q_1 (.ref nd2) ∧ Fld Z h en q_0 q_7 "Z" (.int 0)
theorem rm_put2_0124 (l : Launch) (Z : State) (a0 : Array Value) (hw : oW a0 Z) (ws : List Jvm.Cond) (mp nd0 nd1 nd2 b0 b1 b2 b3 vx : Addr) (sz mc : Int32) (h0 : Heap) (n0 : Nat) (Z0 : n0 ≤ h0.size) (O0 : Old Z n0 h0) (s0 : Exa Z h0 mp q_2) (s1 : Fld Z h0 mp q_2 q_12 q_1 (.ref nd1)) (s2 : Fld Z h0 mp q_2 q_13 "I" (.int sz)) (s3 : Fld Z h0 mp q_2 q_14 "I" (.int mc)) (s4 : Fld Z h0 mp q_2 q_10 q_11 .null) (s5 : Exa Z h0 nd0 q_0) (s6 : Fld Z h0 nd0 q_0 q_8 q_4 (.ref b0)) (s7 : Fld Z h0 nd0 q_0 q_6 q_1 .null) (s8 : Fld Z h0 nd0 q_0 q_9 q_1 .null) (s9 : Fld Z h0 nd0 q_0 q_5 q_1 (.ref nd1)) (s10 : Fld Z h0 nd0 q_0 q_7 "Z" (.int 0)) (s11 : Exa Z h0 nd1 q_0) (s12 : Fld Z h0 nd1 q_0 q_8 q_4 (.ref b1)) (s13 : Fld Z h0 nd1 q_0 q_6 q_1 (.ref nd0)) (s14 : Fld Z h0 nd1 q_0 q_9 q_1 (.ref nd2)) (s15 : Fld Z h0 nd1 q_0 q_5 q_1 .null) (s16 : Fld Z h0 nd1 q_0 q_7 "Z" (.int 1)) (s17 : Exa Z h0 nd2 q_0) (s18 : Fld Z h0 nd2 q_0 q_8 q_4 (.ref b2)) (s19 : Fld Z h0 nd2 q_0 q_6 q_1 .null) (s20 : Fld Z h0 nd2 q_0 q_9 q_1 .null) (s21 : Fld Z h0 nd2 q_0 q_5 q_1 (.ref nd1)) (s22 : Fld Z h0 nd2 q_0 q_7 "Z" (.int 0)) (g_mp : n0 ≤ mp) (g_nd0 : n0 ≤ nd0) (g_nd1 : n0 ≤ nd1) (g_nd2 : n0 ≤ nd2) (ne_nd0_nd1 : nd0 ≠ nd1) (ne_nd0_nd2 : nd0 ≠ nd2) (ne_nd1_nd2 : nd1 ≠ nd2) (B_b0 : own_Box Z b0 (0 : Int64)) (B_b1 : own_Box Z b1 (1 : Int64)) (B_b2 : own_Box Z b2 (2 : Int64)) (B_b3 : own_Box Z b3 (4 : Int64)) :
   oM l oY6 j2729_21 3 (some (.object q_16)) ws (own_R 6 1 6 140) #[(.ref mp), (.ref b3), (.ref vx)] Z h0 (Q_put2_0124 Z mp nd0 nd1 nd2 b0 b1 b2 b3 vx sz mc h0 n0) := by
 refine own_open (n0 := n0) (cn := q_2) rfl (plainFor_of_name pn0) (L0 := #[(vR mp), (vR b3), (vR vx)]) ?_
 intro p e s m below meth c s₁ P hx hby hml hown hnm X0 e0 N0 hlk hret hZ hP
 refine aA X0 hx hby dm_0 rfl rfl ?_
 refine aA X0 hx hby dm_1 rfl rfl ?_
 refine aA X0 hx hby dm_2 rfl rfl ?_
 refine iC X0 hx hby dm_3 (v := 1) rfl ?_
 obtain ⟨cq11, q11a, q11b⟩ := Exa.cell s0
 obtain ⟨_, _, ⟨T11, L11, k11, n11⟩, -, X11, ⟨Lc11, hQ11, l11, y11, z11⟩, st11⟩ := X0.privateBack hx (y := oY10) hown (mvT hZ (tw_95 hw)) (mvT hZ (tw_96 hw)) (own_selfP (args := #[(.ref mp), (.ref b3), (.ref vx)]) (mvT hZ (tw_98 hw)) (mvT hZ (tw_96 hw)) (mvP hZ (tw_97 hw)) (by decide)) (Cond.privateMethod_at (args := #[]) (mvP hZ (tw_97 hw))) (mvT hZ (tw_99 hw)) (by decide) (backOf (W := 0) (rm_put3_0124 l Z a0 hw [] mp nd0 nd1 nd2 b0 b1 b2 b3 vx sz mc h0 n0 Z0 O0 s0 s1 s2 s3 s4 s5 s6 s7 s8 s9 s10 s11 s12 s13 s14 s15 s16 s17 s18 s19 s20 s21 s22 g_mp g_nd0 g_nd1 g_nd2 ne_nd0_nd1 ne_nd0_nd2 ne_nd1_nd2 B_b0 B_b1 B_b2 B_b3) hZ (tw_99 hw) (tw_44 hw) (by decide) (by decide)) (g := (mkF m 4 #[(vR mp), (vR b3), (vR vx)] [(.int 1), (.ref vx), (.ref b3), (.ref mp)])) rfl (by rw [hml]; rfl) (Steps.refl _) (a := mp) (by rw [e0]; exact q11a) q11b (argsL := [(.ref b3), (.ref vx), (.int 1)]) (rest := []) (lenOf pd9 rfl) rfl (by show 2 * 0 + _ ≤ _; exact Nat.le_of_eq rfl) (hb hby dm_4) (fun _ _ => ⟨rfl, e0, (by decide : 0 + 1 ≤ _), (by decide : 0 + 6 ≤ _)⟩)
 dsimp only [Pt.U, Pt.locs, Pt.cells, Pt.slots] at X11 l11 y11 z11 st11 hQ11
 subst l11 y11 z11
 obtain ⟨rfl, N11q, K11, en11, zn11, G11_0, G11_1, G11_2, G11_3, G11_4, G11_5, G11_6, G11_7, G11_8, G11_9, G11_10, G11_11, G11_12, G11_13, G11_14, G11_15, G11_16, G11_17, G11_18, G11_19, G11_20, G11_21, G11_22, G11_23, G11_24, G11_25, G11_26, G11_27, G11_28⟩ := hQ11
 have N11 := Fr.app N0 N11q
 refine Go.by (fun t k => st11.trans k) ?_
 have f11_1 := Keep.trans (Keep.refl h0 [mp, nd0, nd1, nd2]) K11 (allS (Or.inl (List.mem_of_getElem? (i := 0) rfl)) (allS (Or.inl (List.mem_of_getElem? (i := 1) rfl)) (allS (Or.inl (List.mem_of_getElem? (i := 2) rfl)) (allS (Or.inl (List.mem_of_getElem? (i := 3) rfl)) all0))))
 have f11_3 := Exa.keep s0 K11
 have f11_4 := Exa.keep s5 K11
 have f11_5 := Exa.keep s11 K11
 have f11_6 := Exa.keep s17 K11
 have g_en11 : n0 ≤ en11 := Nat.le_trans Z0 zn11
 have sz_en11 : h0.size ≤ en11 := Nat.le_trans (Keep.refl h0 [mp, nd0, nd1, nd2]).1 zn11
 show oG p e below P m T11 7 #[(vR mp), (vR b3), (vR vx)] [.null]
 refine r_val hP hlk hret X11 hx hby dm_7 rfl (Or.inr (Or.inr (Or.inr (Or.inr ⟨rfl, rfl, rfl⟩)))) (by decide) ?_
 exact ⟨rfl, N11, f11_1, en11, sz_en11, f11_3, G11_1, G11_2, G11_3, G11_4, f11_4, G11_6, G11_7, G11_8, G11_9, G11_10, f11_5, G11_12, G11_13, G11_14, G11_15, G11_16, f11_6, G11_18, G11_19, G11_20, G11_21, G11_22, G11_23, G11_24, G11_25, G11_26, G11_27, G11_28⟩
def Q_getE__0 (Z : State) (mp bq : Addr) (sz mc : Int32) (h0 : Heap) (n0 : Nat) (v : Option Value) (h : Heap) (L : List Loc) : Prop := v = some .null ∧ Fr n0 L ∧ h = h0
theorem rm_getE__0 (l : Launch) (Z : State) (a0 : Array Value) (hw : oW a0 Z) (ws : List Jvm.Cond) (mp bq : Addr) (sz mc : Int32) (h0 : Heap) (n0 : Nat) (Z0 : n0 ≤ h0.size) (O0 : Old Z n0 h0) (s0 : Exa Z h0 mp q_2) (s1 : Fld Z h0 mp q_2 q_12 q_1 .null) (s2 : Fld Z h0 mp q_2 q_13 "I" (.int sz)) (s3 : Fld Z h0 mp q_2 q_14 "I" (.int mc)) (s4 : Fld Z h0 mp q_2 q_10 q_11 .null) (B_bq : own_Box Z bq (0 : Int64)) :
   oM l oY1 j2729_15 5 (some (.object q_0)) ws (own_R 3 0 0 60) #[(.ref mp), (.ref bq)] Z h0 (Q_getE__0 Z mp bq sz mc h0 n0) := by
 refine own_open (n0 := n0) (cn := q_2) rfl (plainFor_of_name pn0) (L0 := #[(vR mp), (vR bq), .unset, .unset, .unset]) ?_
 intro p e s m below meth c s₁ P hx hby hml hown hnm X0 e0 N0 hlk hret hZ hP
 refine aA X0 hx hby da_0 rfl rfl ?_
 refine gF X0 hx hby hZ hown (tw_59 hw) Via.refl e0 s4 da_1 ?_
 intro T11 X11 e11
 refine w_ifnullYes X11 hx hby da_4 (pc' := 13) ?_
 refine aA X11 hx hby da_13 rfl rfl ?_
 refine c_stat 0 X11 hx hby hml hZ hown (tw_165 hw) (tw_25 hw) (tw_26 hw) (tw_27 hw) (rm_rnn l Z a0 hw [] bq h0 n0 Z0 ) e11 da_14 [(.ref bq)] [] (lenOf pd3 rfl) rfl rfl ?_
 rintro _ T12 Lc12 ⟨rfl, N12q, q12⟩ X12
 have N12 := Fr.app N0 N12q
 refine pO X12 hx hby da_17 rfl ?_
 refine aA X12 hx hby da_18 rfl rfl ?_
 obtain ⟨T13, X13, e13, st13⟩ := castY X12 hx hZ hown (tw_112 hw) q12 (Ins.of_exa (Exa.ext O0.2 B_bq.1) (tw_113 hw)) (g := (mkF m 19 #[(vR mp), (vR bq), .unset, .unset, .unset] [(.ref bq)])) rfl rfl (hb hby da_19)
 refine Go.by st13 ?_
 refine aS X13 hx hby da_22 rfl rfl ?_
 refine aA X13 hx hby da_23 rfl rfl ?_
 refine gF X13 hx hby hZ hown (tw_100 hw) Via.refl e13 s1 da_24 ?_
 intro T14 X14 e14
 refine aS X14 hx hby da_27 rfl rfl ?_
 refine aA X14 hx hby da_28 rfl rfl ?_
 refine w_ifnullYes X14 hx hby da_29 (pc' := 75) ?_
 refine w_aconstNull X14 hx hby da_75 ?_
 refine r_val hP hlk hret X14 hx hby da_76 rfl (Or.inr (Or.inr (Or.inr (Or.inr ⟨rfl, rfl, rfl⟩)))) (by decide) ?_
 rw [e14]
 exact ⟨rfl, N12, rfl⟩
def Q_hasK__0 (Z : State) (mp bq : Addr) (sz mc : Int32) (h0 : Heap) (n0 : Nat) (v : Option Value) (h : Heap) (L : List Loc) : Prop := v = some (.int 0) ∧ Fr n0 L ∧ h = h0
theorem rm_hasK__0 (l : Launch) (Z : State) (a0 : Array Value) (hw : oW a0 Z) (ws : List Jvm.Cond) (mp bq : Addr) (sz mc : Int32) (h0 : Heap) (n0 : Nat) (Z0 : n0 ≤ h0.size) (O0 : Old Z n0 h0) (s0 : Exa Z h0 mp q_2) (s1 : Fld Z h0 mp q_2 q_12 q_1 .null) (s2 : Fld Z h0 mp q_2 q_13 "I" (.int sz)) (s3 : Fld Z h0 mp q_2 q_14 "I" (.int mc)) (s4 : Fld Z h0 mp q_2 q_10 q_11 .null) (B_bq : own_Box Z bq (0 : Int64)) :
   oM l oY0 j2729_6 2 (some .boolean) ws (own_R 4 0 0 80) #[(.ref mp), (.ref bq)] Z h0 (Q_hasK__0 Z mp bq sz mc h0 n0) := by
 refine own_open (n0 := n0) (cn := q_2) rfl (plainFor_of_name pn0) (L0 := #[(vR mp), (vR bq)]) ?_
 intro p e s m below meth c s₁ P hx hby hml hown hnm X0 e0 N0 hlk hret hZ hP
 refine aA X0 hx hby dh_0 rfl rfl ?_
 refine aA X0 hx hby dh_1 rfl rfl ?_
 refine c_virt 0 X0 hx hby hml hZ hown (tw_160 hw) (tw_161 hw) (tw_163 hw) (tw_162 hw) (tw_164 hw) (tw_44 hw) (rm_getE__0 l Z a0 hw [] mp bq sz mc h0 n0 Z0 O0 s0 s1 s2 s3 s4 B_bq) e0 s0 dh_2 [(.ref bq)] [] (lenOf pd7 rfl) rfl rfl ?_
 rintro _ T11 Lc11 ⟨rfl, N11q, q11⟩ X11
 have N11 := Fr.app N0 N11q
 refine w_ifnullYes X11 hx hby dh_5 (pc' := 12) ?_
 refine iC X11 hx hby dh_12 (v := 0) rfl ?_
 refine r_val hP hlk hret X11 hx hby dh_13 rfl (Or.inl ⟨rfl, Or.inr (Or.inl rfl), _, rfl⟩) (by decide) ?_
 rw [q11]
 exact ⟨rfl, N11, rfl⟩
def Q_getE__1 (Z : State) (mp bq : Addr) (sz mc : Int32) (h0 : Heap) (n0 : Nat) (v : Option Value) (h : Heap) (L : List Loc) : Prop := v = some .null ∧ Fr n0 L ∧ h = h0
theorem rm_getE__1 (l : Launch) (Z : State) (a0 : Array Value) (hw : oW a0 Z) (ws : List Jvm.Cond) (mp bq : Addr) (sz mc : Int32) (h0 : Heap) (n0 : Nat) (Z0 : n0 ≤ h0.size) (O0 : Old Z n0 h0) (s0 : Exa Z h0 mp q_2) (s1 : Fld Z h0 mp q_2 q_12 q_1 .null) (s2 : Fld Z h0 mp q_2 q_13 "I" (.int sz)) (s3 : Fld Z h0 mp q_2 q_14 "I" (.int mc)) (s4 : Fld Z h0 mp q_2 q_10 q_11 .null) (B_bq : own_Box Z bq (1 : Int64)) :
   oM l oY1 j2729_15 5 (some (.object q_0)) ws (own_R 3 0 0 60) #[(.ref mp), (.ref bq)] Z h0 (Q_getE__1 Z mp bq sz mc h0 n0) := by
 refine own_open (n0 := n0) (cn := q_2) rfl (plainFor_of_name pn0) (L0 := #[(vR mp), (vR bq), .unset, .unset, .unset]) ?_
 intro p e s m below meth c s₁ P hx hby hml hown hnm X0 e0 N0 hlk hret hZ hP
 refine aA X0 hx hby da_0 rfl rfl ?_
 refine gF X0 hx hby hZ hown (tw_59 hw) Via.refl e0 s4 da_1 ?_
 intro T11 X11 e11
 refine w_ifnullYes X11 hx hby da_4 (pc' := 13) ?_
 refine aA X11 hx hby da_13 rfl rfl ?_
 refine c_stat 0 X11 hx hby hml hZ hown (tw_165 hw) (tw_25 hw) (tw_26 hw) (tw_27 hw) (rm_rnn l Z a0 hw [] bq h0 n0 Z0 ) e11 da_14 [(.ref bq)] [] (lenOf pd3 rfl) rfl rfl ?_
 rintro _ T12 Lc12 ⟨rfl, N12q, q12⟩ X12
 have N12 := Fr.app N0 N12q
 refine pO X12 hx hby da_17 rfl ?_
 refine aA X12 hx hby da_18 rfl rfl ?_
 obtain ⟨T13, X13, e13, st13⟩ := castY X12 hx hZ hown (tw_112 hw) q12 (Ins.of_exa (Exa.ext O0.2 B_bq.1) (tw_113 hw)) (g := (mkF m 19 #[(vR mp), (vR bq), .unset, .unset, .unset] [(.ref bq)])) rfl rfl (hb hby da_19)
 refine Go.by st13 ?_
 refine aS X13 hx hby da_22 rfl rfl ?_
 refine aA X13 hx hby da_23 rfl rfl ?_
 refine gF X13 hx hby hZ hown (tw_100 hw) Via.refl e13 s1 da_24 ?_
 intro T14 X14 e14
 refine aS X14 hx hby da_27 rfl rfl ?_
 refine aA X14 hx hby da_28 rfl rfl ?_
 refine w_ifnullYes X14 hx hby da_29 (pc' := 75) ?_
 refine w_aconstNull X14 hx hby da_75 ?_
 refine r_val hP hlk hret X14 hx hby da_76 rfl (Or.inr (Or.inr (Or.inr (Or.inr ⟨rfl, rfl, rfl⟩)))) (by decide) ?_
 rw [e14]
 exact ⟨rfl, N12, rfl⟩
def Q_hasK__1 (Z : State) (mp bq : Addr) (sz mc : Int32) (h0 : Heap) (n0 : Nat) (v : Option Value) (h : Heap) (L : List Loc) : Prop := v = some (.int 0) ∧ Fr n0 L ∧ h = h0
theorem rm_hasK__1 (l : Launch) (Z : State) (a0 : Array Value) (hw : oW a0 Z) (ws : List Jvm.Cond) (mp bq : Addr) (sz mc : Int32) (h0 : Heap) (n0 : Nat) (Z0 : n0 ≤ h0.size) (O0 : Old Z n0 h0) (s0 : Exa Z h0 mp q_2) (s1 : Fld Z h0 mp q_2 q_12 q_1 .null) (s2 : Fld Z h0 mp q_2 q_13 "I" (.int sz)) (s3 : Fld Z h0 mp q_2 q_14 "I" (.int mc)) (s4 : Fld Z h0 mp q_2 q_10 q_11 .null) (B_bq : own_Box Z bq (1 : Int64)) :
   oM l oY0 j2729_6 2 (some .boolean) ws (own_R 4 0 0 80) #[(.ref mp), (.ref bq)] Z h0 (Q_hasK__1 Z mp bq sz mc h0 n0) := by
 refine own_open (n0 := n0) (cn := q_2) rfl (plainFor_of_name pn0) (L0 := #[(vR mp), (vR bq)]) ?_
 intro p e s m below meth c s₁ P hx hby hml hown hnm X0 e0 N0 hlk hret hZ hP
 refine aA X0 hx hby dh_0 rfl rfl ?_
 refine aA X0 hx hby dh_1 rfl rfl ?_
 refine c_virt 0 X0 hx hby hml hZ hown (tw_160 hw) (tw_161 hw) (tw_163 hw) (tw_162 hw) (tw_164 hw) (tw_44 hw) (rm_getE__1 l Z a0 hw [] mp bq sz mc h0 n0 Z0 O0 s0 s1 s2 s3 s4 B_bq) e0 s0 dh_2 [(.ref bq)] [] (lenOf pd7 rfl) rfl rfl ?_
 rintro _ T11 Lc11 ⟨rfl, N11q, q11⟩ X11
 have N11 := Fr.app N0 N11q
 refine w_ifnullYes X11 hx hby dh_5 (pc' := 12) ?_
 refine iC X11 hx hby dh_12 (v := 0) rfl ?_
 refine r_val hP hlk hret X11 hx hby dh_13 rfl (Or.inl ⟨rfl, Or.inr (Or.inl rfl), _, rfl⟩) (by decide) ?_
 rw [q11]
 exact ⟨rfl, N11, rfl⟩
def Q_getE_0_1 (Z : State) (mp nd0 b0 bq : Addr) (sz mc : Int32) (h0 : Heap) (n0 : Nat) (v : Option Value) (h : Heap) (L : List Loc) : Prop := v = some .null ∧ Fr n0 L ∧ h = h0
theorem rm_getE_0_1 (l : Launch) (Z : State) (a0 : Array Value) (hw : oW a0 Z) (ws : List Jvm.Cond) (mp nd0 b0 bq : Addr) (sz mc : Int32) (h0 : Heap) (n0 : Nat) (Z0 : n0 ≤ h0.size) (O0 : Old Z n0 h0) (s0 : Exa Z h0 mp q_2) (s1 : Fld Z h0 mp q_2 q_12 q_1 (.ref nd0)) (s2 : Fld Z h0 mp q_2 q_13 "I" (.int sz)) (s3 : Fld Z h0 mp q_2 q_14 "I" (.int mc)) (s4 : Fld Z h0 mp q_2 q_10 q_11 .null) (s5 : Exa Z h0 nd0 q_0) (s6 : Fld Z h0 nd0 q_0 q_8 q_4 (.ref b0)) (s7 : Fld Z h0 nd0 q_0 q_6 q_1 .null) (s8 : Fld Z h0 nd0 q_0 q_9 q_1 .null) (s9 : Fld Z h0 nd0 q_0 q_5 q_1 .null) (s10 : Fld Z h0 nd0 q_0 q_7 "Z" (.int 1)) (B_b0 : own_Box Z b0 (0 : Int64)) (B_bq : own_Box Z bq (1 : Int64)) :
   oM l oY1 j2729_15 5 (some (.object q_0)) ws (own_R 3 0 0 60) #[(.ref mp), (.ref bq)] Z h0 (Q_getE_0_1 Z mp nd0 b0 bq sz mc h0 n0) := by
 refine own_open (n0 := n0) (cn := q_2) rfl (plainFor_of_name pn0) (L0 := #[(vR mp), (vR bq), .unset, .unset, .unset]) ?_
 intro p e s m below meth c s₁ P hx hby hml hown hnm X0 e0 N0 hlk hret hZ hP
 refine aA X0 hx hby da_0 rfl rfl ?_
 refine gF X0 hx hby hZ hown (tw_59 hw) Via.refl e0 s4 da_1 ?_
 intro T11 X11 e11
 refine w_ifnullYes X11 hx hby da_4 (pc' := 13) ?_
 refine aA X11 hx hby da_13 rfl rfl ?_
 refine c_stat 0 X11 hx hby hml hZ hown (tw_165 hw) (tw_25 hw) (tw_26 hw) (tw_27 hw) (rm_rnn l Z a0 hw [] bq h0 n0 Z0 ) e11 da_14 [(.ref bq)] [] (lenOf pd3 rfl) rfl rfl ?_
 rintro _ T12 Lc12 ⟨rfl, N12q, q12⟩ X12
 have N12 := Fr.app N0 N12q
 refine pO X12 hx hby da_17 rfl ?_
 refine aA X12 hx hby da_18 rfl rfl ?_
 obtain ⟨T13, X13, e13, st13⟩ := castY X12 hx hZ hown (tw_112 hw) q12 (Ins.of_exa (Exa.ext O0.2 B_bq.1) (tw_113 hw)) (g := (mkF m 19 #[(vR mp), (vR bq), .unset, .unset, .unset] [(.ref bq)])) rfl rfl (hb hby da_19)
 refine Go.by st13 ?_
 refine aS X13 hx hby da_22 rfl rfl ?_
 refine aA X13 hx hby da_23 rfl rfl ?_
 refine gF X13 hx hby hZ hown (tw_100 hw) Via.refl e13 s1 da_24 ?_
 intro T14 X14 e14
 refine aS X14 hx hby da_27 rfl rfl ?_
 refine aA X14 hx hby da_28 rfl rfl ?_
 refine w_ifnullNo X14 hx hby da_29 ?_
 refine aA X14 hx hby da_32 rfl rfl ?_
 refine aA X14 hx hby da_33 rfl rfl ?_
 refine gF X14 hx hby hZ hown (tw_166 hw) Via.refl e14 s6 da_34 ?_
 intro T15 X15 e15
 obtain ⟨cq16, kq16, q16a, q16b, q16c⟩ := isOf hZ e15 (Exa.ext O0.2 B_bq.1)
 obtain ⟨_, _, ⟨T16, L16, k16, n16⟩, -, X16, ⟨Lc16, hQ16, l16, y16, z16⟩, st16⟩ := X15.interfaceBack hx (xi := oY7) (y := oY4) hown (mvT hZ (tw_114 hw)) (mvT hZ (tw_115 hw)) (mvT hZ (tw_116 hw)) (mvT hZ (tw_117 hw)) (mvT hZ (tw_118 hw)) (mvT hZ (tw_119 hw)) (mvT hZ (tw_120 hw)) (mvT hZ (tw_113 hw)) (by decide) (backOf (W := 0) (rm_ct2_gt l Z a0 hw [] bq b0 (1 : Int64) (0 : Int64) h0 n0 Z0 O0 B_bq B_b0 (by decide : (0 : Int64) < (1 : Int64)) (by decide : ¬ (1 : Int64) < (0 : Int64)) (by decide : ¬ (1 : Int64) = (0 : Int64))) hZ (tw_121 hw) (tw_84 hw) (by decide) (by decide)) q16a q16b q16c (g := (mkF m 37 #[(vR mp), (vR bq), (vR bq), (vR nd0), .unset] [(.ref b0), (.ref bq)])) rfl (by rw [hml]; rfl) (Steps.refl _) (argsL := [(.ref b0)]) (rest := []) (lenOf pd0 rfl) rfl (by show 2 * 0 + _ ≤ _; exact Nat.le_of_eq rfl) (hb hby da_37) (fun _ _ => ⟨rfl, e15, (by decide : 0 + 0 ≤ _), (by decide : 0 + 0 ≤ _)⟩)
 dsimp only [Pt.U, Pt.locs, Pt.cells, Pt.slots] at X16 l16 y16 z16 st16 hQ16
 subst l16 y16 z16
 obtain ⟨rfl, N16q, q16⟩ := hQ16
 have N16 := Fr.app N12 N16q
 refine Go.by (fun t k => st16.trans k) ?_
 show oG p e below P m T16 42 #[(vR mp), (vR bq), (vR bq), (vR nd0), .unset] [(.int 1)]
 refine iT X16 hx hby da_42 rfl ?_
 refine iB X16 hx hby da_44 rfl ?_
 refine fY X16 hx hby da_46 (pc' := 57) (XT.i0_ge_t (by decide : ¬ (1 : Int32) < (0 : Int32))) ?_
 refine iB X16 hx hby da_57 rfl ?_
 refine fN X16 hx hby da_59 (XT.i0_le_f (by decide : (0 : Int32) < (1 : Int32))) ?_
 refine aA X16 hx hby da_62 rfl rfl ?_
 refine gF X16 hx hby hZ hown (tw_167 hw) Via.refl q16 s8 da_63 ?_
 intro T17 X17 e17
 refine aS X17 hx hby da_66 rfl rfl ?_
 refine gO X17 hx hby da_67 (pc' := 72) ?_
 refine gO X17 hx hby da_72 (pc' := 28) ?_
 refine aA X17 hx hby da_28 rfl rfl ?_
 refine w_ifnullYes X17 hx hby da_29 (pc' := 75) ?_
 refine w_aconstNull X17 hx hby da_75 ?_
 refine r_val hP hlk hret X17 hx hby da_76 rfl (Or.inr (Or.inr (Or.inr (Or.inr ⟨rfl, rfl, rfl⟩)))) (by decide) ?_
 rw [e17]
 exact ⟨rfl, N16, rfl⟩
def Q_hasK_0_1 (Z : State) (mp nd0 b0 bq : Addr) (sz mc : Int32) (h0 : Heap) (n0 : Nat) (v : Option Value) (h : Heap) (L : List Loc) : Prop := v = some (.int 0) ∧ Fr n0 L ∧ h = h0
theorem rm_hasK_0_1 (l : Launch) (Z : State) (a0 : Array Value) (hw : oW a0 Z) (ws : List Jvm.Cond) (mp nd0 b0 bq : Addr) (sz mc : Int32) (h0 : Heap) (n0 : Nat) (Z0 : n0 ≤ h0.size) (O0 : Old Z n0 h0) (s0 : Exa Z h0 mp q_2) (s1 : Fld Z h0 mp q_2 q_12 q_1 (.ref nd0)) (s2 : Fld Z h0 mp q_2 q_13 "I" (.int sz)) (s3 : Fld Z h0 mp q_2 q_14 "I" (.int mc)) (s4 : Fld Z h0 mp q_2 q_10 q_11 .null) (s5 : Exa Z h0 nd0 q_0) (s6 : Fld Z h0 nd0 q_0 q_8 q_4 (.ref b0)) (s7 : Fld Z h0 nd0 q_0 q_6 q_1 .null) (s8 : Fld Z h0 nd0 q_0 q_9 q_1 .null) (s9 : Fld Z h0 nd0 q_0 q_5 q_1 .null) (s10 : Fld Z h0 nd0 q_0 q_7 "Z" (.int 1)) (B_b0 : own_Box Z b0 (0 : Int64)) (B_bq : own_Box Z bq (1 : Int64)) :
   oM l oY0 j2729_6 2 (some .boolean) ws (own_R 4 0 0 80) #[(.ref mp), (.ref bq)] Z h0 (Q_hasK_0_1 Z mp nd0 b0 bq sz mc h0 n0) := by
 refine own_open (n0 := n0) (cn := q_2) rfl (plainFor_of_name pn0) (L0 := #[(vR mp), (vR bq)]) ?_
 intro p e s m below meth c s₁ P hx hby hml hown hnm X0 e0 N0 hlk hret hZ hP
 refine aA X0 hx hby dh_0 rfl rfl ?_
 refine aA X0 hx hby dh_1 rfl rfl ?_
 refine c_virt 0 X0 hx hby hml hZ hown (tw_160 hw) (tw_161 hw) (tw_163 hw) (tw_162 hw) (tw_164 hw) (tw_44 hw) (rm_getE_0_1 l Z a0 hw [] mp nd0 b0 bq sz mc h0 n0 Z0 O0 s0 s1 s2 s3 s4 s5 s6 s7 s8 s9 s10 B_b0 B_bq) e0 s0 dh_2 [(.ref bq)] [] (lenOf pd7 rfl) rfl rfl ?_
 rintro _ T11 Lc11 ⟨rfl, N11q, q11⟩ X11
 have N11 := Fr.app N0 N11q
 refine w_ifnullYes X11 hx hby dh_5 (pc' := 12) ?_
 refine iC X11 hx hby dh_12 (v := 0) rfl ?_
 refine r_val hP hlk hret X11 hx hby dh_13 rfl (Or.inl ⟨rfl, Or.inr (Or.inl rfl), _, rfl⟩) (by decide) ?_
 rw [q11]
 exact ⟨rfl, N11, rfl⟩
def Q_getE_0_0 (Z : State) (mp nd0 b0 bq : Addr) (sz mc : Int32) (h0 : Heap) (n0 : Nat) (v : Option Value) (h : Heap) (L : List Loc) : Prop := v = some (.ref nd0) ∧ Fr n0 L ∧ h = h0
theorem rm_getE_0_0 (l : Launch) (Z : State) (a0 : Array Value) (hw : oW a0 Z) (ws : List Jvm.Cond) (mp nd0 b0 bq : Addr) (sz mc : Int32) (h0 : Heap) (n0 : Nat) (Z0 : n0 ≤ h0.size) (O0 : Old Z n0 h0) (s0 : Exa Z h0 mp q_2) (s1 : Fld Z h0 mp q_2 q_12 q_1 (.ref nd0)) (s2 : Fld Z h0 mp q_2 q_13 "I" (.int sz)) (s3 : Fld Z h0 mp q_2 q_14 "I" (.int mc)) (s4 : Fld Z h0 mp q_2 q_10 q_11 .null) (s5 : Exa Z h0 nd0 q_0) (s6 : Fld Z h0 nd0 q_0 q_8 q_4 (.ref b0)) (s7 : Fld Z h0 nd0 q_0 q_6 q_1 .null) (s8 : Fld Z h0 nd0 q_0 q_9 q_1 .null) (s9 : Fld Z h0 nd0 q_0 q_5 q_1 .null) (s10 : Fld Z h0 nd0 q_0 q_7 "Z" (.int 1)) (B_b0 : own_Box Z b0 (0 : Int64)) (B_bq : own_Box Z bq (0 : Int64)) :
   oM l oY1 j2729_15 5 (some (.object q_0)) ws (own_R 3 0 0 60) #[(.ref mp), (.ref bq)] Z h0 (Q_getE_0_0 Z mp nd0 b0 bq sz mc h0 n0) := by
 refine own_open (n0 := n0) (cn := q_2) rfl (plainFor_of_name pn0) (L0 := #[(vR mp), (vR bq), .unset, .unset, .unset]) ?_
 intro p e s m below meth c s₁ P hx hby hml hown hnm X0 e0 N0 hlk hret hZ hP
 refine aA X0 hx hby da_0 rfl rfl ?_
 refine gF X0 hx hby hZ hown (tw_59 hw) Via.refl e0 s4 da_1 ?_
 intro T11 X11 e11
 refine w_ifnullYes X11 hx hby da_4 (pc' := 13) ?_
 refine aA X11 hx hby da_13 rfl rfl ?_
 refine c_stat 0 X11 hx hby hml hZ hown (tw_165 hw) (tw_25 hw) (tw_26 hw) (tw_27 hw) (rm_rnn l Z a0 hw [] bq h0 n0 Z0 ) e11 da_14 [(.ref bq)] [] (lenOf pd3 rfl) rfl rfl ?_
 rintro _ T12 Lc12 ⟨rfl, N12q, q12⟩ X12
 have N12 := Fr.app N0 N12q
 refine pO X12 hx hby da_17 rfl ?_
 refine aA X12 hx hby da_18 rfl rfl ?_
 obtain ⟨T13, X13, e13, st13⟩ := castY X12 hx hZ hown (tw_112 hw) q12 (Ins.of_exa (Exa.ext O0.2 B_bq.1) (tw_113 hw)) (g := (mkF m 19 #[(vR mp), (vR bq), .unset, .unset, .unset] [(.ref bq)])) rfl rfl (hb hby da_19)
 refine Go.by st13 ?_
 refine aS X13 hx hby da_22 rfl rfl ?_
 refine aA X13 hx hby da_23 rfl rfl ?_
 refine gF X13 hx hby hZ hown (tw_100 hw) Via.refl e13 s1 da_24 ?_
 intro T14 X14 e14
 refine aS X14 hx hby da_27 rfl rfl ?_
 refine aA X14 hx hby da_28 rfl rfl ?_
 refine w_ifnullNo X14 hx hby da_29 ?_
 refine aA X14 hx hby da_32 rfl rfl ?_
 refine aA X14 hx hby da_33 rfl rfl ?_
 refine gF X14 hx hby hZ hown (tw_166 hw) Via.refl e14 s6 da_34 ?_
 intro T15 X15 e15
 obtain ⟨cq16, kq16, q16a, q16b, q16c⟩ := isOf hZ e15 (Exa.ext O0.2 B_bq.1)
 obtain ⟨_, _, ⟨T16, L16, k16, n16⟩, -, X16, ⟨Lc16, hQ16, l16, y16, z16⟩, st16⟩ := X15.interfaceBack hx (xi := oY7) (y := oY4) hown (mvT hZ (tw_114 hw)) (mvT hZ (tw_115 hw)) (mvT hZ (tw_116 hw)) (mvT hZ (tw_117 hw)) (mvT hZ (tw_118 hw)) (mvT hZ (tw_119 hw)) (mvT hZ (tw_120 hw)) (mvT hZ (tw_113 hw)) (by decide) (backOf (W := 0) (rm_ct2_eq l Z a0 hw [] bq b0 (0 : Int64) (0 : Int64) h0 n0 Z0 O0 B_bq B_b0 (rfl : (0 : Int64) = (0 : Int64)) (by decide : ¬ (0 : Int64) < (0 : Int64))) hZ (tw_121 hw) (tw_84 hw) (by decide) (by decide)) q16a q16b q16c (g := (mkF m 37 #[(vR mp), (vR bq), (vR bq), (vR nd0), .unset] [(.ref b0), (.ref bq)])) rfl (by rw [hml]; rfl) (Steps.refl _) (argsL := [(.ref b0)]) (rest := []) (lenOf pd0 rfl) rfl (by show 2 * 0 + _ ≤ _; exact Nat.le_of_eq rfl) (hb hby da_37) (fun _ _ => ⟨rfl, e15, (by decide : 0 + 0 ≤ _), (by decide : 0 + 0 ≤ _)⟩)
 dsimp only [Pt.U, Pt.locs, Pt.cells, Pt.slots] at X16 l16 y16 z16 st16 hQ16
 subst l16 y16 z16
 obtain ⟨rfl, N16q, q16⟩ := hQ16
 have N16 := Fr.app N12 N16q
 refine Go.by (fun t k => st16.trans k) ?_
 show oG p e below P m T16 42 #[(vR mp), (vR bq), (vR bq), (vR nd0), .unset] [(.int 0)]
 refine iT X16 hx hby da_42 rfl ?_
 refine iB X16 hx hby da_44 rfl ?_
 refine fY X16 hx hby da_46 (pc' := 57) (XT.i0_ge_t (by decide : ¬ (0 : Int32) < (0 : Int32))) ?_
 refine iB X16 hx hby da_57 rfl ?_
 refine fY X16 hx hby da_59 (pc' := 70) (XT.i0_le_t (by decide : ¬ (0 : Int32) < (0 : Int32))) ?_
 refine aA X16 hx hby da_70 rfl rfl ?_
 refine r_val hP hlk hret X16 hx hby da_71 rfl (Or.inr (Or.inr (Or.inr (Or.inr ⟨rfl, rfl, rfl⟩)))) (by decide) ?_
 rw [q16]
 exact ⟨rfl, N16, rfl⟩
def Q_hasK_0_0 (Z : State) (mp nd0 b0 bq : Addr) (sz mc : Int32) (h0 : Heap) (n0 : Nat) (v : Option Value) (h : Heap) (L : List Loc) : Prop := v = some (.int 1) ∧ Fr n0 L ∧ h = h0
theorem rm_hasK_0_0 (l : Launch) (Z : State) (a0 : Array Value) (hw : oW a0 Z) (ws : List Jvm.Cond) (mp nd0 b0 bq : Addr) (sz mc : Int32) (h0 : Heap) (n0 : Nat) (Z0 : n0 ≤ h0.size) (O0 : Old Z n0 h0) (s0 : Exa Z h0 mp q_2) (s1 : Fld Z h0 mp q_2 q_12 q_1 (.ref nd0)) (s2 : Fld Z h0 mp q_2 q_13 "I" (.int sz)) (s3 : Fld Z h0 mp q_2 q_14 "I" (.int mc)) (s4 : Fld Z h0 mp q_2 q_10 q_11 .null) (s5 : Exa Z h0 nd0 q_0) (s6 : Fld Z h0 nd0 q_0 q_8 q_4 (.ref b0)) (s7 : Fld Z h0 nd0 q_0 q_6 q_1 .null) (s8 : Fld Z h0 nd0 q_0 q_9 q_1 .null) (s9 : Fld Z h0 nd0 q_0 q_5 q_1 .null) (s10 : Fld Z h0 nd0 q_0 q_7 "Z" (.int 1)) (B_b0 : own_Box Z b0 (0 : Int64)) (B_bq : own_Box Z bq (0 : Int64)) :
   oM l oY0 j2729_6 2 (some .boolean) ws (own_R 4 0 0 80) #[(.ref mp), (.ref bq)] Z h0 (Q_hasK_0_0 Z mp nd0 b0 bq sz mc h0 n0) := by
 refine own_open (n0 := n0) (cn := q_2) rfl (plainFor_of_name pn0) (L0 := #[(vR mp), (vR bq)]) ?_
 intro p e s m below meth c s₁ P hx hby hml hown hnm X0 e0 N0 hlk hret hZ hP
 refine aA X0 hx hby dh_0 rfl rfl ?_
 refine aA X0 hx hby dh_1 rfl rfl ?_
 refine c_virt 0 X0 hx hby hml hZ hown (tw_160 hw) (tw_161 hw) (tw_163 hw) (tw_162 hw) (tw_164 hw) (tw_44 hw) (rm_getE_0_0 l Z a0 hw [] mp nd0 b0 bq sz mc h0 n0 Z0 O0 s0 s1 s2 s3 s4 s5 s6 s7 s8 s9 s10 B_b0 B_bq) e0 s0 dh_2 [(.ref bq)] [] (lenOf pd7 rfl) rfl rfl ?_
 rintro _ T11 Lc11 ⟨rfl, N11q, q11⟩ X11
 have N11 := Fr.app N0 N11q
 refine w_ifnullNo X11 hx hby dh_5 ?_
 refine iC X11 hx hby dh_8 (v := 1) rfl ?_
 refine gO X11 hx hby dh_9 (pc' := 13) ?_
 refine r_val hP hlk hret X11 hx hby dh_13 rfl (Or.inl ⟨rfl, Or.inr (Or.inl rfl), _, rfl⟩) (by decide) ?_
 rw [q11]
 exact ⟨rfl, N11, rfl⟩
def Q_getE_0_2 (Z : State) (mp nd0 b0 bq : Addr) (sz mc : Int32) (h0 : Heap) (n0 : Nat) (v : Option Value) (h : Heap) (L : List Loc) : Prop := v = some .null ∧ Fr n0 L ∧ h = h0
theorem rm_getE_0_2 (l : Launch) (Z : State) (a0 : Array Value) (hw : oW a0 Z) (ws : List Jvm.Cond) (mp nd0 b0 bq : Addr) (sz mc : Int32) (h0 : Heap) (n0 : Nat) (Z0 : n0 ≤ h0.size) (O0 : Old Z n0 h0) (s0 : Exa Z h0 mp q_2) (s1 : Fld Z h0 mp q_2 q_12 q_1 (.ref nd0)) (s2 : Fld Z h0 mp q_2 q_13 "I" (.int sz)) (s3 : Fld Z h0 mp q_2 q_14 "I" (.int mc)) (s4 : Fld Z h0 mp q_2 q_10 q_11 .null) (s5 : Exa Z h0 nd0 q_0) (s6 : Fld Z h0 nd0 q_0 q_8 q_4 (.ref b0)) (s7 : Fld Z h0 nd0 q_0 q_6 q_1 .null) (s8 : Fld Z h0 nd0 q_0 q_9 q_1 .null) (s9 : Fld Z h0 nd0 q_0 q_5 q_1 .null) (s10 : Fld Z h0 nd0 q_0 q_7 "Z" (.int 1)) (B_b0 : own_Box Z b0 (0 : Int64)) (B_bq : own_Box Z bq (2 : Int64)) :
   oM l oY1 j2729_15 5 (some (.object q_0)) ws (own_R 3 0 0 60) #[(.ref mp), (.ref bq)] Z h0 (Q_getE_0_2 Z mp nd0 b0 bq sz mc h0 n0) := by
 refine own_open (n0 := n0) (cn := q_2) rfl (plainFor_of_name pn0) (L0 := #[(vR mp), (vR bq), .unset, .unset, .unset]) ?_
 intro p e s m below meth c s₁ P hx hby hml hown hnm X0 e0 N0 hlk hret hZ hP
 refine aA X0 hx hby da_0 rfl rfl ?_
 refine gF X0 hx hby hZ hown (tw_59 hw) Via.refl e0 s4 da_1 ?_
 intro T11 X11 e11
 refine w_ifnullYes X11 hx hby da_4 (pc' := 13) ?_
 refine aA X11 hx hby da_13 rfl rfl ?_
 refine c_stat 0 X11 hx hby hml hZ hown (tw_165 hw) (tw_25 hw) (tw_26 hw) (tw_27 hw) (rm_rnn l Z a0 hw [] bq h0 n0 Z0 ) e11 da_14 [(.ref bq)] [] (lenOf pd3 rfl) rfl rfl ?_
 rintro _ T12 Lc12 ⟨rfl, N12q, q12⟩ X12
 have N12 := Fr.app N0 N12q
 refine pO X12 hx hby da_17 rfl ?_
 refine aA X12 hx hby da_18 rfl rfl ?_
 obtain ⟨T13, X13, e13, st13⟩ := castY X12 hx hZ hown (tw_112 hw) q12 (Ins.of_exa (Exa.ext O0.2 B_bq.1) (tw_113 hw)) (g := (mkF m 19 #[(vR mp), (vR bq), .unset, .unset, .unset] [(.ref bq)])) rfl rfl (hb hby da_19)
 refine Go.by st13 ?_
 refine aS X13 hx hby da_22 rfl rfl ?_
 refine aA X13 hx hby da_23 rfl rfl ?_
 refine gF X13 hx hby hZ hown (tw_100 hw) Via.refl e13 s1 da_24 ?_
 intro T14 X14 e14
 refine aS X14 hx hby da_27 rfl rfl ?_
 refine aA X14 hx hby da_28 rfl rfl ?_
 refine w_ifnullNo X14 hx hby da_29 ?_
 refine aA X14 hx hby da_32 rfl rfl ?_
 refine aA X14 hx hby da_33 rfl rfl ?_
 refine gF X14 hx hby hZ hown (tw_166 hw) Via.refl e14 s6 da_34 ?_
 intro T15 X15 e15
 obtain ⟨cq16, kq16, q16a, q16b, q16c⟩ := isOf hZ e15 (Exa.ext O0.2 B_bq.1)
 obtain ⟨_, _, ⟨T16, L16, k16, n16⟩, -, X16, ⟨Lc16, hQ16, l16, y16, z16⟩, st16⟩ := X15.interfaceBack hx (xi := oY7) (y := oY4) hown (mvT hZ (tw_114 hw)) (mvT hZ (tw_115 hw)) (mvT hZ (tw_116 hw)) (mvT hZ (tw_117 hw)) (mvT hZ (tw_118 hw)) (mvT hZ (tw_119 hw)) (mvT hZ (tw_120 hw)) (mvT hZ (tw_113 hw)) (by decide) (backOf (W := 0) (rm_ct2_gt l Z a0 hw [] bq b0 (2 : Int64) (0 : Int64) h0 n0 Z0 O0 B_bq B_b0 (by decide : (0 : Int64) < (2 : Int64)) (by decide : ¬ (2 : Int64) < (0 : Int64)) (by decide : ¬ (2 : Int64) = (0 : Int64))) hZ (tw_121 hw) (tw_84 hw) (by decide) (by decide)) q16a q16b q16c (g := (mkF m 37 #[(vR mp), (vR bq), (vR bq), (vR nd0), .unset] [(.ref b0), (.ref bq)])) rfl (by rw [hml]; rfl) (Steps.refl _) (argsL := [(.ref b0)]) (rest := []) (lenOf pd0 rfl) rfl (by show 2 * 0 + _ ≤ _; exact Nat.le_of_eq rfl) (hb hby da_37) (fun _ _ => ⟨rfl, e15, (by decide : 0 + 0 ≤ _), (by decide : 0 + 0 ≤ _)⟩)
 dsimp only [Pt.U, Pt.locs, Pt.cells, Pt.slots] at X16 l16 y16 z16 st16 hQ16
 subst l16 y16 z16
 obtain ⟨rfl, N16q, q16⟩ := hQ16
 have N16 := Fr.app N12 N16q
 refine Go.by (fun t k => st16.trans k) ?_
 show oG p e below P m T16 42 #[(vR mp), (vR bq), (vR bq), (vR nd0), .unset] [(.int 1)]
 refine iT X16 hx hby da_42 rfl ?_
 refine iB X16 hx hby da_44 rfl ?_
 refine fY X16 hx hby da_46 (pc' := 57) (XT.i0_ge_t (by decide : ¬ (1 : Int32) < (0 : Int32))) ?_
 refine iB X16 hx hby da_57 rfl ?_
 refine fN X16 hx hby da_59 (XT.i0_le_f (by decide : (0 : Int32) < (1 : Int32))) ?_
 refine aA X16 hx hby da_62 rfl rfl ?_
 refine gF X16 hx hby hZ hown (tw_167 hw) Via.refl q16 s8 da_63 ?_
 intro T17 X17 e17
 refine aS X17 hx hby da_66 rfl rfl ?_
 refine gO X17 hx hby da_67 (pc' := 72) ?_
 refine gO X17 hx hby da_72 (pc' := 28) ?_
 refine aA X17 hx hby da_28 rfl rfl ?_
 refine w_ifnullYes X17 hx hby da_29 (pc' := 75) ?_
 refine w_aconstNull X17 hx hby da_75 ?_
 refine r_val hP hlk hret X17 hx hby da_76 rfl (Or.inr (Or.inr (Or.inr (Or.inr ⟨rfl, rfl, rfl⟩)))) (by decide) ?_
 rw [e17]
 exact ⟨rfl, N16, rfl⟩
def Q_hasK_0_2 (Z : State) (mp nd0 b0 bq : Addr) (sz mc : Int32) (h0 : Heap) (n0 : Nat) (v : Option Value) (h : Heap) (L : List Loc) : Prop := v = some (.int 0) ∧ Fr n0 L ∧ h = h0
theorem rm_hasK_0_2 (l : Launch) (Z : State) (a0 : Array Value) (hw : oW a0 Z) (ws : List Jvm.Cond) (mp nd0 b0 bq : Addr) (sz mc : Int32) (h0 : Heap) (n0 : Nat) (Z0 : n0 ≤ h0.size) (O0 : Old Z n0 h0) (s0 : Exa Z h0 mp q_2) (s1 : Fld Z h0 mp q_2 q_12 q_1 (.ref nd0)) (s2 : Fld Z h0 mp q_2 q_13 "I" (.int sz)) (s3 : Fld Z h0 mp q_2 q_14 "I" (.int mc)) (s4 : Fld Z h0 mp q_2 q_10 q_11 .null) (s5 : Exa Z h0 nd0 q_0) (s6 : Fld Z h0 nd0 q_0 q_8 q_4 (.ref b0)) (s7 : Fld Z h0 nd0 q_0 q_6 q_1 .null) (s8 : Fld Z h0 nd0 q_0 q_9 q_1 .null) (s9 : Fld Z h0 nd0 q_0 q_5 q_1 .null) (s10 : Fld Z h0 nd0 q_0 q_7 "Z" (.int 1)) (B_b0 : own_Box Z b0 (0 : Int64)) (B_bq : own_Box Z bq (2 : Int64)) :
   oM l oY0 j2729_6 2 (some .boolean) ws (own_R 4 0 0 80) #[(.ref mp), (.ref bq)] Z h0 (Q_hasK_0_2 Z mp nd0 b0 bq sz mc h0 n0) := by
 refine own_open (n0 := n0) (cn := q_2) rfl (plainFor_of_name pn0) (L0 := #[(vR mp), (vR bq)]) ?_
 intro p e s m below meth c s₁ P hx hby hml hown hnm X0 e0 N0 hlk hret hZ hP
 refine aA X0 hx hby dh_0 rfl rfl ?_
 refine aA X0 hx hby dh_1 rfl rfl ?_
 refine c_virt 0 X0 hx hby hml hZ hown (tw_160 hw) (tw_161 hw) (tw_163 hw) (tw_162 hw) (tw_164 hw) (tw_44 hw) (rm_getE_0_2 l Z a0 hw [] mp nd0 b0 bq sz mc h0 n0 Z0 O0 s0 s1 s2 s3 s4 s5 s6 s7 s8 s9 s10 B_b0 B_bq) e0 s0 dh_2 [(.ref bq)] [] (lenOf pd7 rfl) rfl rfl ?_
 rintro _ T11 Lc11 ⟨rfl, N11q, q11⟩ X11
 have N11 := Fr.app N0 N11q
 refine w_ifnullYes X11 hx hby dh_5 (pc' := 12) ?_
 refine iC X11 hx hby dh_12 (v := 0) rfl ?_
 refine r_val hP hlk hret X11 hx hby dh_13 rfl (Or.inl ⟨rfl, Or.inr (Or.inl rfl), _, rfl⟩) (by decide) ?_
 rw [q11]
 exact ⟨rfl, N11, rfl⟩
def Q_getE_1_0 (Z : State) (mp nd0 b0 bq : Addr) (sz mc : Int32) (h0 : Heap) (n0 : Nat) (v : Option Value) (h : Heap) (L : List Loc) : Prop := v = some .null ∧ Fr n0 L ∧ h = h0
theorem rm_getE_1_0 (l : Launch) (Z : State) (a0 : Array Value) (hw : oW a0 Z) (ws : List Jvm.Cond) (mp nd0 b0 bq : Addr) (sz mc : Int32) (h0 : Heap) (n0 : Nat) (Z0 : n0 ≤ h0.size) (O0 : Old Z n0 h0) (s0 : Exa Z h0 mp q_2) (s1 : Fld Z h0 mp q_2 q_12 q_1 (.ref nd0)) (s2 : Fld Z h0 mp q_2 q_13 "I" (.int sz)) (s3 : Fld Z h0 mp q_2 q_14 "I" (.int mc)) (s4 : Fld Z h0 mp q_2 q_10 q_11 .null) (s5 : Exa Z h0 nd0 q_0) (s6 : Fld Z h0 nd0 q_0 q_8 q_4 (.ref b0)) (s7 : Fld Z h0 nd0 q_0 q_6 q_1 .null) (s8 : Fld Z h0 nd0 q_0 q_9 q_1 .null) (s9 : Fld Z h0 nd0 q_0 q_5 q_1 .null) (s10 : Fld Z h0 nd0 q_0 q_7 "Z" (.int 1)) (B_b0 : own_Box Z b0 (1 : Int64)) (B_bq : own_Box Z bq (0 : Int64)) :
   oM l oY1 j2729_15 5 (some (.object q_0)) ws (own_R 3 0 0 60) #[(.ref mp), (.ref bq)] Z h0 (Q_getE_1_0 Z mp nd0 b0 bq sz mc h0 n0) := by
 refine own_open (n0 := n0) (cn := q_2) rfl (plainFor_of_name pn0) (L0 := #[(vR mp), (vR bq), .unset, .unset, .unset]) ?_
 intro p e s m below meth c s₁ P hx hby hml hown hnm X0 e0 N0 hlk hret hZ hP
 refine aA X0 hx hby da_0 rfl rfl ?_
 refine gF X0 hx hby hZ hown (tw_59 hw) Via.refl e0 s4 da_1 ?_
 intro T11 X11 e11
 refine w_ifnullYes X11 hx hby da_4 (pc' := 13) ?_
 refine aA X11 hx hby da_13 rfl rfl ?_
 refine c_stat 0 X11 hx hby hml hZ hown (tw_165 hw) (tw_25 hw) (tw_26 hw) (tw_27 hw) (rm_rnn l Z a0 hw [] bq h0 n0 Z0 ) e11 da_14 [(.ref bq)] [] (lenOf pd3 rfl) rfl rfl ?_
 rintro _ T12 Lc12 ⟨rfl, N12q, q12⟩ X12
 have N12 := Fr.app N0 N12q
 refine pO X12 hx hby da_17 rfl ?_
 refine aA X12 hx hby da_18 rfl rfl ?_
 obtain ⟨T13, X13, e13, st13⟩ := castY X12 hx hZ hown (tw_112 hw) q12 (Ins.of_exa (Exa.ext O0.2 B_bq.1) (tw_113 hw)) (g := (mkF m 19 #[(vR mp), (vR bq), .unset, .unset, .unset] [(.ref bq)])) rfl rfl (hb hby da_19)
 refine Go.by st13 ?_
 refine aS X13 hx hby da_22 rfl rfl ?_
 refine aA X13 hx hby da_23 rfl rfl ?_
 refine gF X13 hx hby hZ hown (tw_100 hw) Via.refl e13 s1 da_24 ?_
 intro T14 X14 e14
 refine aS X14 hx hby da_27 rfl rfl ?_
 refine aA X14 hx hby da_28 rfl rfl ?_
 refine w_ifnullNo X14 hx hby da_29 ?_
 refine aA X14 hx hby da_32 rfl rfl ?_
 refine aA X14 hx hby da_33 rfl rfl ?_
 refine gF X14 hx hby hZ hown (tw_166 hw) Via.refl e14 s6 da_34 ?_
 intro T15 X15 e15
 obtain ⟨cq16, kq16, q16a, q16b, q16c⟩ := isOf hZ e15 (Exa.ext O0.2 B_bq.1)
 obtain ⟨_, _, ⟨T16, L16, k16, n16⟩, -, X16, ⟨Lc16, hQ16, l16, y16, z16⟩, st16⟩ := X15.interfaceBack hx (xi := oY7) (y := oY4) hown (mvT hZ (tw_114 hw)) (mvT hZ (tw_115 hw)) (mvT hZ (tw_116 hw)) (mvT hZ (tw_117 hw)) (mvT hZ (tw_118 hw)) (mvT hZ (tw_119 hw)) (mvT hZ (tw_120 hw)) (mvT hZ (tw_113 hw)) (by decide) (backOf (W := 0) (rm_ct2_lt l Z a0 hw [] bq b0 (0 : Int64) (1 : Int64) h0 n0 Z0 O0 B_bq B_b0 (by decide : (0 : Int64) < (1 : Int64))) hZ (tw_121 hw) (tw_84 hw) (by decide) (by decide)) q16a q16b q16c (g := (mkF m 37 #[(vR mp), (vR bq), (vR bq), (vR nd0), .unset] [(.ref b0), (.ref bq)])) rfl (by rw [hml]; rfl) (Steps.refl _) (argsL := [(.ref b0)]) (rest := []) (lenOf pd0 rfl) rfl (by show 2 * 0 + _ ≤ _; exact Nat.le_of_eq rfl) (hb hby da_37) (fun _ _ => ⟨rfl, e15, (by decide : 0 + 0 ≤ _), (by decide : 0 + 0 ≤ _)⟩)
 dsimp only [Pt.U, Pt.locs, Pt.cells, Pt.slots] at X16 l16 y16 z16 st16 hQ16
 subst l16 y16 z16
 obtain ⟨rfl, N16q, q16⟩ := hQ16
 have N16 := Fr.app N12 N16q
 refine Go.by (fun t k => st16.trans k) ?_
 show oG p e below P m T16 42 #[(vR mp), (vR bq), (vR bq), (vR nd0), .unset] [(.int (-1))]
 refine iT X16 hx hby da_42 rfl ?_
 refine iB X16 hx hby da_44 rfl ?_
 refine fN X16 hx hby da_46 (XT.i0_ge_f (by decide : (-1 : Int32) < (0 : Int32))) ?_
 refine aA X16 hx hby da_49 rfl rfl ?_
 refine gF X16 hx hby hZ hown (tw_209 hw) Via.refl q16 s7 da_50 ?_
 intro T17 X17 e17
 refine aS X17 hx hby da_53 rfl rfl ?_
 refine gO X17 hx hby da_54 (pc' := 72) ?_
 refine gO X17 hx hby da_72 (pc' := 28) ?_
 refine aA X17 hx hby da_28 rfl rfl ?_
 refine w_ifnullYes X17 hx hby da_29 (pc' := 75) ?_
 refine w_aconstNull X17 hx hby da_75 ?_
 refine r_val hP hlk hret X17 hx hby da_76 rfl (Or.inr (Or.inr (Or.inr (Or.inr ⟨rfl, rfl, rfl⟩)))) (by decide) ?_
 rw [e17]
 exact ⟨rfl, N16, rfl⟩
def Q_hasK_1_0 (Z : State) (mp nd0 b0 bq : Addr) (sz mc : Int32) (h0 : Heap) (n0 : Nat) (v : Option Value) (h : Heap) (L : List Loc) : Prop := v = some (.int 0) ∧ Fr n0 L ∧ h = h0
theorem rm_hasK_1_0 (l : Launch) (Z : State) (a0 : Array Value) (hw : oW a0 Z) (ws : List Jvm.Cond) (mp nd0 b0 bq : Addr) (sz mc : Int32) (h0 : Heap) (n0 : Nat) (Z0 : n0 ≤ h0.size) (O0 : Old Z n0 h0) (s0 : Exa Z h0 mp q_2) (s1 : Fld Z h0 mp q_2 q_12 q_1 (.ref nd0)) (s2 : Fld Z h0 mp q_2 q_13 "I" (.int sz)) (s3 : Fld Z h0 mp q_2 q_14 "I" (.int mc)) (s4 : Fld Z h0 mp q_2 q_10 q_11 .null) (s5 : Exa Z h0 nd0 q_0) (s6 : Fld Z h0 nd0 q_0 q_8 q_4 (.ref b0)) (s7 : Fld Z h0 nd0 q_0 q_6 q_1 .null) (s8 : Fld Z h0 nd0 q_0 q_9 q_1 .null) (s9 : Fld Z h0 nd0 q_0 q_5 q_1 .null) (s10 : Fld Z h0 nd0 q_0 q_7 "Z" (.int 1)) (B_b0 : own_Box Z b0 (1 : Int64)) (B_bq : own_Box Z bq (0 : Int64)) :
   oM l oY0 j2729_6 2 (some .boolean) ws (own_R 4 0 0 80) #[(.ref mp), (.ref bq)] Z h0 (Q_hasK_1_0 Z mp nd0 b0 bq sz mc h0 n0) := by
 refine own_open (n0 := n0) (cn := q_2) rfl (plainFor_of_name pn0) (L0 := #[(vR mp), (vR bq)]) ?_
 intro p e s m below meth c s₁ P hx hby hml hown hnm X0 e0 N0 hlk hret hZ hP
 refine aA X0 hx hby dh_0 rfl rfl ?_
 refine aA X0 hx hby dh_1 rfl rfl ?_
 refine c_virt 0 X0 hx hby hml hZ hown (tw_160 hw) (tw_161 hw) (tw_163 hw) (tw_162 hw) (tw_164 hw) (tw_44 hw) (rm_getE_1_0 l Z a0 hw [] mp nd0 b0 bq sz mc h0 n0 Z0 O0 s0 s1 s2 s3 s4 s5 s6 s7 s8 s9 s10 B_b0 B_bq) e0 s0 dh_2 [(.ref bq)] [] (lenOf pd7 rfl) rfl rfl ?_
 rintro _ T11 Lc11 ⟨rfl, N11q, q11⟩ X11
 have N11 := Fr.app N0 N11q
 refine w_ifnullYes X11 hx hby dh_5 (pc' := 12) ?_
 refine iC X11 hx hby dh_12 (v := 0) rfl ?_
 refine r_val hP hlk hret X11 hx hby dh_13 rfl (Or.inl ⟨rfl, Or.inr (Or.inl rfl), _, rfl⟩) (by decide) ?_
 rw [q11]
 exact ⟨rfl, N11, rfl⟩
def Q_getE_01_2 (Z : State) (mp nd0 nd1 b0 b1 bq : Addr) (sz mc : Int32) (h0 : Heap) (n0 : Nat) (v : Option Value) (h : Heap) (L : List Loc) : Prop := v = some .null ∧ Fr n0 L ∧ h = h0
theorem rm_getE_01_2 (l : Launch) (Z : State) (a0 : Array Value) (hw : oW a0 Z) (ws : List Jvm.Cond) (mp nd0 nd1 b0 b1 bq : Addr) (sz mc : Int32) (h0 : Heap) (n0 : Nat) (Z0 : n0 ≤ h0.size) (O0 : Old Z n0 h0) (s0 : Exa Z h0 mp q_2) (s1 : Fld Z h0 mp q_2 q_12 q_1 (.ref nd0)) (s2 : Fld Z h0 mp q_2 q_13 "I" (.int sz)) (s3 : Fld Z h0 mp q_2 q_14 "I" (.int mc)) (s4 : Fld Z h0 mp q_2 q_10 q_11 .null) (s5 : Exa Z h0 nd0 q_0) (s6 : Fld Z h0 nd0 q_0 q_8 q_4 (.ref b0)) (s7 : Fld Z h0 nd0 q_0 q_6 q_1 .null) (s8 : Fld Z h0 nd0 q_0 q_9 q_1 (.ref nd1)) (s9 : Fld Z h0 nd0 q_0 q_5 q_1 .null) (s10 : Fld Z h0 nd0 q_0 q_7 "Z" (.int 1)) (s11 : Exa Z h0 nd1 q_0) (s12 : Fld Z h0 nd1 q_0 q_8 q_4 (.ref b1)) (s13 : Fld Z h0 nd1 q_0 q_6 q_1 .null) (s14 : Fld Z h0 nd1 q_0 q_9 q_1 .null) (s15 : Fld Z h0 nd1 q_0 q_5 q_1 (.ref nd0)) (s16 : Fld Z h0 nd1 q_0 q_7 "Z" (.int 0)) (B_b0 : own_Box Z b0 (0 : Int64)) (B_b1 : own_Box Z b1 (1 : Int64)) (B_bq : own_Box Z bq (2 : Int64)) :
   oM l oY1 j2729_15 5 (some (.object q_0)) ws (own_R 3 0 0 60) #[(.ref mp), (.ref bq)] Z h0 (Q_getE_01_2 Z mp nd0 nd1 b0 b1 bq sz mc h0 n0) := by
 refine own_open (n0 := n0) (cn := q_2) rfl (plainFor_of_name pn0) (L0 := #[(vR mp), (vR bq), .unset, .unset, .unset]) ?_
 intro p e s m below meth c s₁ P hx hby hml hown hnm X0 e0 N0 hlk hret hZ hP
 refine aA X0 hx hby da_0 rfl rfl ?_
 refine gF X0 hx hby hZ hown (tw_59 hw) Via.refl e0 s4 da_1 ?_
 intro T11 X11 e11
 refine w_ifnullYes X11 hx hby da_4 (pc' := 13) ?_
 refine aA X11 hx hby da_13 rfl rfl ?_
 refine c_stat 0 X11 hx hby hml hZ hown (tw_165 hw) (tw_25 hw) (tw_26 hw) (tw_27 hw) (rm_rnn l Z a0 hw [] bq h0 n0 Z0 ) e11 da_14 [(.ref bq)] [] (lenOf pd3 rfl) rfl rfl ?_
 rintro _ T12 Lc12 ⟨rfl, N12q, q12⟩ X12
 have N12 := Fr.app N0 N12q
 refine pO X12 hx hby da_17 rfl ?_
 refine aA X12 hx hby da_18 rfl rfl ?_
 obtain ⟨T13, X13, e13, st13⟩ := castY X12 hx hZ hown (tw_112 hw) q12 (Ins.of_exa (Exa.ext O0.2 B_bq.1) (tw_113 hw)) (g := (mkF m 19 #[(vR mp), (vR bq), .unset, .unset, .unset] [(.ref bq)])) rfl rfl (hb hby da_19)
 refine Go.by st13 ?_
 refine aS X13 hx hby da_22 rfl rfl ?_
 refine aA X13 hx hby da_23 rfl rfl ?_
 refine gF X13 hx hby hZ hown (tw_100 hw) Via.refl e13 s1 da_24 ?_
 intro T14 X14 e14
 refine aS X14 hx hby da_27 rfl rfl ?_
 refine aA X14 hx hby da_28 rfl rfl ?_
 refine w_ifnullNo X14 hx hby da_29 ?_
 refine aA X14 hx hby da_32 rfl rfl ?_
 refine aA X14 hx hby da_33 rfl rfl ?_
 refine gF X14 hx hby hZ hown (tw_166 hw) Via.refl e14 s6 da_34 ?_
 intro T15 X15 e15
 obtain ⟨cq16, kq16, q16a, q16b, q16c⟩ := isOf hZ e15 (Exa.ext O0.2 B_bq.1)
 obtain ⟨_, _, ⟨T16, L16, k16, n16⟩, -, X16, ⟨Lc16, hQ16, l16, y16, z16⟩, st16⟩ := X15.interfaceBack hx (xi := oY7) (y := oY4) hown (mvT hZ (tw_114 hw)) (mvT hZ (tw_115 hw)) (mvT hZ (tw_116 hw)) (mvT hZ (tw_117 hw)) (mvT hZ (tw_118 hw)) (mvT hZ (tw_119 hw)) (mvT hZ (tw_120 hw)) (mvT hZ (tw_113 hw)) (by decide) (backOf (W := 0) (rm_ct2_gt l Z a0 hw [] bq b0 (2 : Int64) (0 : Int64) h0 n0 Z0 O0 B_bq B_b0 (by decide : (0 : Int64) < (2 : Int64)) (by decide : ¬ (2 : Int64) < (0 : Int64)) (by decide : ¬ (2 : Int64) = (0 : Int64))) hZ (tw_121 hw) (tw_84 hw) (by decide) (by decide)) q16a q16b q16c (g := (mkF m 37 #[(vR mp), (vR bq), (vR bq), (vR nd0), .unset] [(.ref b0), (.ref bq)])) rfl (by rw [hml]; rfl) (Steps.refl _) (argsL := [(.ref b0)]) (rest := []) (lenOf pd0 rfl) rfl (by show 2 * 0 + _ ≤ _; exact Nat.le_of_eq rfl) (hb hby da_37) (fun _ _ => ⟨rfl, e15, (by decide : 0 + 0 ≤ _), (by decide : 0 + 0 ≤ _)⟩)
 dsimp only [Pt.U, Pt.locs, Pt.cells, Pt.slots] at X16 l16 y16 z16 st16 hQ16
 subst l16 y16 z16
 obtain ⟨rfl, N16q, q16⟩ := hQ16
 have N16 := Fr.app N12 N16q
 refine Go.by (fun t k => st16.trans k) ?_
 show oG p e below P m T16 42 #[(vR mp), (vR bq), (vR bq), (vR nd0), .unset] [(.int 1)]
 refine iT X16 hx hby da_42 rfl ?_
 refine iB X16 hx hby da_44 rfl ?_
 refine fY X16 hx hby da_46 (pc' := 57) (XT.i0_ge_t (by decide : ¬ (1 : Int32) < (0 : Int32))) ?_
 refine iB X16 hx hby da_57 rfl ?_
 refine fN X16 hx hby da_59 (XT.i0_le_f (by decide : (0 : Int32) < (1 : Int32))) ?_
 refine aA X16 hx hby da_62 rfl rfl ?_
 refine gF X16 hx hby hZ hown (tw_167 hw) Via.refl q16 s8 da_63 ?_
 intro T17 X17 e17
 refine aS X17 hx hby da_66 rfl rfl ?_
 refine gO X17 hx hby da_67 (pc' := 72) ?_
 refine gO X17 hx hby da_72 (pc' := 28) ?_
 refine aA X17 hx hby da_28 rfl rfl ?_
 refine w_ifnullNo X17 hx hby da_29 ?_
 refine aA X17 hx hby da_32 rfl rfl ?_
 refine aA X17 hx hby da_33 rfl rfl ?_
 refine gF X17 hx hby hZ hown (tw_166 hw) Via.refl e17 s12 da_34 ?_
 intro T18 X18 e18
 obtain ⟨cq19, kq19, q19a, q19b, q19c⟩ := isOf hZ e18 (Exa.ext O0.2 B_bq.1)
 obtain ⟨_, _, ⟨T19, L19, k19, n19⟩, -, X19, ⟨Lc19, hQ19, l19, y19, z19⟩, st19⟩ := X18.interfaceBack hx (xi := oY7) (y := oY4) hown (mvT hZ (tw_114 hw)) (mvT hZ (tw_115 hw)) (mvT hZ (tw_116 hw)) (mvT hZ (tw_117 hw)) (mvT hZ (tw_118 hw)) (mvT hZ (tw_119 hw)) (mvT hZ (tw_120 hw)) (mvT hZ (tw_113 hw)) (by decide) (backOf (W := 0) (rm_ct2_gt l Z a0 hw [] bq b1 (2 : Int64) (1 : Int64) h0 n0 Z0 O0 B_bq B_b1 (by decide : (1 : Int64) < (2 : Int64)) (by decide : ¬ (2 : Int64) < (1 : Int64)) (by decide : ¬ (2 : Int64) = (1 : Int64))) hZ (tw_121 hw) (tw_84 hw) (by decide) (by decide)) q19a q19b q19c (g := (mkF m 37 #[(vR mp), (vR bq), (vR bq), (vR nd1), (vI 1)] [(.ref b1), (.ref bq)])) rfl (by rw [hml]; rfl) (Steps.refl _) (argsL := [(.ref b1)]) (rest := []) (lenOf pd0 rfl) rfl (by show 2 * 0 + _ ≤ _; exact Nat.le_of_eq rfl) (hb hby da_37) (fun _ _ => ⟨rfl, e18, (by decide : 0 + 0 ≤ _), (by decide : 0 + 0 ≤ _)⟩)
 dsimp only [Pt.U, Pt.locs, Pt.cells, Pt.slots] at X19 l19 y19 z19 st19 hQ19
 subst l19 y19 z19
 obtain ⟨rfl, N19q, q19⟩ := hQ19
 have N19 := Fr.app N16 N19q
 refine Go.by (fun t k => st19.trans k) ?_
 show oG p e below P m T19 42 #[(vR mp), (vR bq), (vR bq), (vR nd1), (vI 1)] [(.int 1)]
 refine iT X19 hx hby da_42 rfl ?_
 refine iB X19 hx hby da_44 rfl ?_
 refine fY X19 hx hby da_46 (pc' := 57) (XT.i0_ge_t (by decide : ¬ (1 : Int32) < (0 : Int32))) ?_
 refine iB X19 hx hby da_57 rfl ?_
 refine fN X19 hx hby da_59 (XT.i0_le_f (by decide : (0 : Int32) < (1 : Int32))) ?_
 refine aA X19 hx hby da_62 rfl rfl ?_
 refine gF X19 hx hby hZ hown (tw_167 hw) Via.refl q19 s14 da_63 ?_
 intro T20 X20 e20
 refine aS X20 hx hby da_66 rfl rfl ?_
 refine gO X20 hx hby da_67 (pc' := 72) ?_
 refine gO X20 hx hby da_72 (pc' := 28) ?_
 refine aA X20 hx hby da_28 rfl rfl ?_
 refine w_ifnullYes X20 hx hby da_29 (pc' := 75) ?_
 refine w_aconstNull X20 hx hby da_75 ?_
 refine r_val hP hlk hret X20 hx hby da_76 rfl (Or.inr (Or.inr (Or.inr (Or.inr ⟨rfl, rfl, rfl⟩)))) (by decide) ?_
 rw [e20]
 exact ⟨rfl, N19, rfl⟩
def Q_hasK_01_2 (Z : State) (mp nd0 nd1 b0 b1 bq : Addr) (sz mc : Int32) (h0 : Heap) (n0 : Nat) (v : Option Value) (h : Heap) (L : List Loc) : Prop := v = some (.int 0) ∧ Fr n0 L ∧ h = h0
theorem rm_hasK_01_2 (l : Launch) (Z : State) (a0 : Array Value) (hw : oW a0 Z) (ws : List Jvm.Cond) (mp nd0 nd1 b0 b1 bq : Addr) (sz mc : Int32) (h0 : Heap) (n0 : Nat) (Z0 : n0 ≤ h0.size) (O0 : Old Z n0 h0) (s0 : Exa Z h0 mp q_2) (s1 : Fld Z h0 mp q_2 q_12 q_1 (.ref nd0)) (s2 : Fld Z h0 mp q_2 q_13 "I" (.int sz)) (s3 : Fld Z h0 mp q_2 q_14 "I" (.int mc)) (s4 : Fld Z h0 mp q_2 q_10 q_11 .null) (s5 : Exa Z h0 nd0 q_0) (s6 : Fld Z h0 nd0 q_0 q_8 q_4 (.ref b0)) (s7 : Fld Z h0 nd0 q_0 q_6 q_1 .null) (s8 : Fld Z h0 nd0 q_0 q_9 q_1 (.ref nd1)) (s9 : Fld Z h0 nd0 q_0 q_5 q_1 .null) (s10 : Fld Z h0 nd0 q_0 q_7 "Z" (.int 1)) (s11 : Exa Z h0 nd1 q_0) (s12 : Fld Z h0 nd1 q_0 q_8 q_4 (.ref b1)) (s13 : Fld Z h0 nd1 q_0 q_6 q_1 .null) (s14 : Fld Z h0 nd1 q_0 q_9 q_1 .null) (s15 : Fld Z h0 nd1 q_0 q_5 q_1 (.ref nd0)) (s16 : Fld Z h0 nd1 q_0 q_7 "Z" (.int 0)) (B_b0 : own_Box Z b0 (0 : Int64)) (B_b1 : own_Box Z b1 (1 : Int64)) (B_bq : own_Box Z bq (2 : Int64)) :
   oM l oY0 j2729_6 2 (some .boolean) ws (own_R 4 0 0 80) #[(.ref mp), (.ref bq)] Z h0 (Q_hasK_01_2 Z mp nd0 nd1 b0 b1 bq sz mc h0 n0) := by
 refine own_open (n0 := n0) (cn := q_2) rfl (plainFor_of_name pn0) (L0 := #[(vR mp), (vR bq)]) ?_
 intro p e s m below meth c s₁ P hx hby hml hown hnm X0 e0 N0 hlk hret hZ hP
 refine aA X0 hx hby dh_0 rfl rfl ?_
 refine aA X0 hx hby dh_1 rfl rfl ?_
 refine c_virt 0 X0 hx hby hml hZ hown (tw_160 hw) (tw_161 hw) (tw_163 hw) (tw_162 hw) (tw_164 hw) (tw_44 hw) (rm_getE_01_2 l Z a0 hw [] mp nd0 nd1 b0 b1 bq sz mc h0 n0 Z0 O0 s0 s1 s2 s3 s4 s5 s6 s7 s8 s9 s10 s11 s12 s13 s14 s15 s16 B_b0 B_b1 B_bq) e0 s0 dh_2 [(.ref bq)] [] (lenOf pd7 rfl) rfl rfl ?_
 rintro _ T11 Lc11 ⟨rfl, N11q, q11⟩ X11
 have N11 := Fr.app N0 N11q
 refine w_ifnullYes X11 hx hby dh_5 (pc' := 12) ?_
 refine iC X11 hx hby dh_12 (v := 0) rfl ?_
 refine r_val hP hlk hret X11 hx hby dh_13 rfl (Or.inl ⟨rfl, Or.inr (Or.inl rfl), _, rfl⟩) (by decide) ?_
 rw [q11]
 exact ⟨rfl, N11, rfl⟩
def Q_getE_01_1 (Z : State) (mp nd0 nd1 b0 b1 bq : Addr) (sz mc : Int32) (h0 : Heap) (n0 : Nat) (v : Option Value) (h : Heap) (L : List Loc) : Prop := v = some (.ref nd1) ∧ Fr n0 L ∧ h = h0
theorem rm_getE_01_1 (l : Launch) (Z : State) (a0 : Array Value) (hw : oW a0 Z) (ws : List Jvm.Cond) (mp nd0 nd1 b0 b1 bq : Addr) (sz mc : Int32) (h0 : Heap) (n0 : Nat) (Z0 : n0 ≤ h0.size) (O0 : Old Z n0 h0) (s0 : Exa Z h0 mp q_2) (s1 : Fld Z h0 mp q_2 q_12 q_1 (.ref nd0)) (s2 : Fld Z h0 mp q_2 q_13 "I" (.int sz)) (s3 : Fld Z h0 mp q_2 q_14 "I" (.int mc)) (s4 : Fld Z h0 mp q_2 q_10 q_11 .null) (s5 : Exa Z h0 nd0 q_0) (s6 : Fld Z h0 nd0 q_0 q_8 q_4 (.ref b0)) (s7 : Fld Z h0 nd0 q_0 q_6 q_1 .null) (s8 : Fld Z h0 nd0 q_0 q_9 q_1 (.ref nd1)) (s9 : Fld Z h0 nd0 q_0 q_5 q_1 .null) (s10 : Fld Z h0 nd0 q_0 q_7 "Z" (.int 1)) (s11 : Exa Z h0 nd1 q_0) (s12 : Fld Z h0 nd1 q_0 q_8 q_4 (.ref b1)) (s13 : Fld Z h0 nd1 q_0 q_6 q_1 .null) (s14 : Fld Z h0 nd1 q_0 q_9 q_1 .null) (s15 : Fld Z h0 nd1 q_0 q_5 q_1 (.ref nd0)) (s16 : Fld Z h0 nd1 q_0 q_7 "Z" (.int 0)) (B_b0 : own_Box Z b0 (0 : Int64)) (B_b1 : own_Box Z b1 (1 : Int64)) (B_bq : own_Box Z bq (1 : Int64)) :
   oM l oY1 j2729_15 5 (some (.object q_0)) ws (own_R 3 0 0 60) #[(.ref mp), (.ref bq)] Z h0 (Q_getE_01_1 Z mp nd0 nd1 b0 b1 bq sz mc h0 n0) := by
 refine own_open (n0 := n0) (cn := q_2) rfl (plainFor_of_name pn0) (L0 := #[(vR mp), (vR bq), .unset, .unset, .unset]) ?_
 intro p e s m below meth c s₁ P hx hby hml hown hnm X0 e0 N0 hlk hret hZ hP
 refine aA X0 hx hby da_0 rfl rfl ?_
 refine gF X0 hx hby hZ hown (tw_59 hw) Via.refl e0 s4 da_1 ?_
 intro T11 X11 e11
 refine w_ifnullYes X11 hx hby da_4 (pc' := 13) ?_
 refine aA X11 hx hby da_13 rfl rfl ?_
 refine c_stat 0 X11 hx hby hml hZ hown (tw_165 hw) (tw_25 hw) (tw_26 hw) (tw_27 hw) (rm_rnn l Z a0 hw [] bq h0 n0 Z0 ) e11 da_14 [(.ref bq)] [] (lenOf pd3 rfl) rfl rfl ?_
 rintro _ T12 Lc12 ⟨rfl, N12q, q12⟩ X12
 have N12 := Fr.app N0 N12q
 refine pO X12 hx hby da_17 rfl ?_
 refine aA X12 hx hby da_18 rfl rfl ?_
 obtain ⟨T13, X13, e13, st13⟩ := castY X12 hx hZ hown (tw_112 hw) q12 (Ins.of_exa (Exa.ext O0.2 B_bq.1) (tw_113 hw)) (g := (mkF m 19 #[(vR mp), (vR bq), .unset, .unset, .unset] [(.ref bq)])) rfl rfl (hb hby da_19)
 refine Go.by st13 ?_
 refine aS X13 hx hby da_22 rfl rfl ?_
 refine aA X13 hx hby da_23 rfl rfl ?_
 refine gF X13 hx hby hZ hown (tw_100 hw) Via.refl e13 s1 da_24 ?_
 intro T14 X14 e14
 refine aS X14 hx hby da_27 rfl rfl ?_
 refine aA X14 hx hby da_28 rfl rfl ?_
 refine w_ifnullNo X14 hx hby da_29 ?_
 refine aA X14 hx hby da_32 rfl rfl ?_
 refine aA X14 hx hby da_33 rfl rfl ?_
 refine gF X14 hx hby hZ hown (tw_166 hw) Via.refl e14 s6 da_34 ?_
 intro T15 X15 e15
 obtain ⟨cq16, kq16, q16a, q16b, q16c⟩ := isOf hZ e15 (Exa.ext O0.2 B_bq.1)
 obtain ⟨_, _, ⟨T16, L16, k16, n16⟩, -, X16, ⟨Lc16, hQ16, l16, y16, z16⟩, st16⟩ := X15.interfaceBack hx (xi := oY7) (y := oY4) hown (mvT hZ (tw_114 hw)) (mvT hZ (tw_115 hw)) (mvT hZ (tw_116 hw)) (mvT hZ (tw_117 hw)) (mvT hZ (tw_118 hw)) (mvT hZ (tw_119 hw)) (mvT hZ (tw_120 hw)) (mvT hZ (tw_113 hw)) (by decide) (backOf (W := 0) (rm_ct2_gt l Z a0 hw [] bq b0 (1 : Int64) (0 : Int64) h0 n0 Z0 O0 B_bq B_b0 (by decide : (0 : Int64) < (1 : Int64)) (by decide : ¬ (1 : Int64) < (0 : Int64)) (by decide : ¬ (1 : Int64) = (0 : Int64))) hZ (tw_121 hw) (tw_84 hw) (by decide) (by decide)) q16a q16b q16c (g := (mkF m 37 #[(vR mp), (vR bq), (vR bq), (vR nd0), .unset] [(.ref b0), (.ref bq)])) rfl (by rw [hml]; rfl) (Steps.refl _) (argsL := [(.ref b0)]) (rest := []) (lenOf pd0 rfl) rfl (by show 2 * 0 + _ ≤ _; exact Nat.le_of_eq rfl) (hb hby da_37) (fun _ _ => ⟨rfl, e15, (by decide : 0 + 0 ≤ _), (by decide : 0 + 0 ≤ _)⟩)
 dsimp only [Pt.U, Pt.locs, Pt.cells, Pt.slots] at X16 l16 y16 z16 st16 hQ16
 subst l16 y16 z16
 obtain ⟨rfl, N16q, q16⟩ := hQ16
 have N16 := Fr.app N12 N16q
 refine Go.by (fun t k => st16.trans k) ?_
 show oG p e below P m T16 42 #[(vR mp), (vR bq), (vR bq), (vR nd0), .unset] [(.int 1)]
 refine iT X16 hx hby da_42 rfl ?_
 refine iB X16 hx hby da_44 rfl ?_
 refine fY X16 hx hby da_46 (pc' := 57) (XT.i0_ge_t (by decide : ¬ (1 : Int32) < (0 : Int32))) ?_
 refine iB X16 hx hby da_57 rfl ?_
 refine fN X16 hx hby da_59 (XT.i0_le_f (by decide : (0 : Int32) < (1 : Int32))) ?_
 refine aA X16 hx hby da_62 rfl rfl ?_
 refine gF X16 hx hby hZ hown (tw_167 hw) Via.refl q16 s8 da_63 ?_
 intro T17 X17 e17
 refine aS X17 hx hby da_66 rfl rfl ?_
 refine gO X17 hx hby da_67 (pc' := 72) ?_
 refine gO X17 hx hby da_72 (pc' := 28) ?_
 refine aA X17 hx hby da_28 rfl rfl ?_
 refine w_ifnullNo X17 hx hby da_29 ?_
 refine aA X17 hx hby da_32 rfl rfl ?_
 refine aA X17 hx hby da_33 rfl rfl ?_
 refine gF X17 hx hby hZ hown (tw_166 hw) Via.refl e17 s12 da_34 ?_
 intro T18 X18 e18
 obtain ⟨cq19, kq19, q19a, q19b, q19c⟩ := isOf hZ e18 (Exa.ext O0.2 B_bq.1)
 obtain ⟨_, _, ⟨T19, L19, k19, n19⟩, -, X19, ⟨Lc19, hQ19, l19, y19, z19⟩, st19⟩ := X18.interfaceBack hx (xi := oY7) (y := oY4) hown (mvT hZ (tw_114 hw)) (mvT hZ (tw_115 hw)) (mvT hZ (tw_116 hw)) (mvT hZ (tw_117 hw)) (mvT hZ (tw_118 hw)) (mvT hZ (tw_119 hw)) (mvT hZ (tw_120 hw)) (mvT hZ (tw_113 hw)) (by decide) (backOf (W := 0) (rm_ct2_eq l Z a0 hw [] bq b1 (1 : Int64) (1 : Int64) h0 n0 Z0 O0 B_bq B_b1 (rfl : (1 : Int64) = (1 : Int64)) (by decide : ¬ (1 : Int64) < (1 : Int64))) hZ (tw_121 hw) (tw_84 hw) (by decide) (by decide)) q19a q19b q19c (g := (mkF m 37 #[(vR mp), (vR bq), (vR bq), (vR nd1), (vI 1)] [(.ref b1), (.ref bq)])) rfl (by rw [hml]; rfl) (Steps.refl _) (argsL := [(.ref b1)]) (rest := []) (lenOf pd0 rfl) rfl (by show 2 * 0 + _ ≤ _; exact Nat.le_of_eq rfl) (hb hby da_37) (fun _ _ => ⟨rfl, e18, (by decide : 0 + 0 ≤ _), (by decide : 0 + 0 ≤ _)⟩)
 dsimp only [Pt.U, Pt.locs, Pt.cells, Pt.slots] at X19 l19 y19 z19 st19 hQ19
 subst l19 y19 z19
 obtain ⟨rfl, N19q, q19⟩ := hQ19
 have N19 := Fr.app N16 N19q
 refine Go.by (fun t k => st19.trans k) ?_
 show oG p e below P m T19 42 #[(vR mp), (vR bq), (vR bq), (vR nd1), (vI 1)] [(.int 0)]
 refine iT X19 hx hby da_42 rfl ?_
 refine iB X19 hx hby da_44 rfl ?_
 refine fY X19 hx hby da_46 (pc' := 57) (XT.i0_ge_t (by decide : ¬ (0 : Int32) < (0 : Int32))) ?_
 refine iB X19 hx hby da_57 rfl ?_
 refine fY X19 hx hby da_59 (pc' := 70) (XT.i0_le_t (by decide : ¬ (0 : Int32) < (0 : Int32))) ?_
 refine aA X19 hx hby da_70 rfl rfl ?_
 refine r_val hP hlk hret X19 hx hby da_71 rfl (Or.inr (Or.inr (Or.inr (Or.inr ⟨rfl, rfl, rfl⟩)))) (by decide) ?_
 rw [q19]
 exact ⟨rfl, N19, rfl⟩
def Q_hasK_01_1 (Z : State) (mp nd0 nd1 b0 b1 bq : Addr) (sz mc : Int32) (h0 : Heap) (n0 : Nat) (v : Option Value) (h : Heap) (L : List Loc) : Prop := v = some (.int 1) ∧ Fr n0 L ∧ h = h0
theorem rm_hasK_01_1 (l : Launch) (Z : State) (a0 : Array Value) (hw : oW a0 Z) (ws : List Jvm.Cond) (mp nd0 nd1 b0 b1 bq : Addr) (sz mc : Int32) (h0 : Heap) (n0 : Nat) (Z0 : n0 ≤ h0.size) (O0 : Old Z n0 h0) (s0 : Exa Z h0 mp q_2) (s1 : Fld Z h0 mp q_2 q_12 q_1 (.ref nd0)) (s2 : Fld Z h0 mp q_2 q_13 "I" (.int sz)) (s3 : Fld Z h0 mp q_2 q_14 "I" (.int mc)) (s4 : Fld Z h0 mp q_2 q_10 q_11 .null) (s5 : Exa Z h0 nd0 q_0) (s6 : Fld Z h0 nd0 q_0 q_8 q_4 (.ref b0)) (s7 : Fld Z h0 nd0 q_0 q_6 q_1 .null) (s8 : Fld Z h0 nd0 q_0 q_9 q_1 (.ref nd1)) (s9 : Fld Z h0 nd0 q_0 q_5 q_1 .null) (s10 : Fld Z h0 nd0 q_0 q_7 "Z" (.int 1)) (s11 : Exa Z h0 nd1 q_0) (s12 : Fld Z h0 nd1 q_0 q_8 q_4 (.ref b1)) (s13 : Fld Z h0 nd1 q_0 q_6 q_1 .null) (s14 : Fld Z h0 nd1 q_0 q_9 q_1 .null) (s15 : Fld Z h0 nd1 q_0 q_5 q_1 (.ref nd0)) (s16 : Fld Z h0 nd1 q_0 q_7 "Z" (.int 0)) (B_b0 : own_Box Z b0 (0 : Int64)) (B_b1 : own_Box Z b1 (1 : Int64)) (B_bq : own_Box Z bq (1 : Int64)) :
   oM l oY0 j2729_6 2 (some .boolean) ws (own_R 4 0 0 80) #[(.ref mp), (.ref bq)] Z h0 (Q_hasK_01_1 Z mp nd0 nd1 b0 b1 bq sz mc h0 n0) := by
 refine own_open (n0 := n0) (cn := q_2) rfl (plainFor_of_name pn0) (L0 := #[(vR mp), (vR bq)]) ?_
 intro p e s m below meth c s₁ P hx hby hml hown hnm X0 e0 N0 hlk hret hZ hP
 refine aA X0 hx hby dh_0 rfl rfl ?_
 refine aA X0 hx hby dh_1 rfl rfl ?_
 refine c_virt 0 X0 hx hby hml hZ hown (tw_160 hw) (tw_161 hw) (tw_163 hw) (tw_162 hw) (tw_164 hw) (tw_44 hw) (rm_getE_01_1 l Z a0 hw [] mp nd0 nd1 b0 b1 bq sz mc h0 n0 Z0 O0 s0 s1 s2 s3 s4 s5 s6 s7 s8 s9 s10 s11 s12 s13 s14 s15 s16 B_b0 B_b1 B_bq) e0 s0 dh_2 [(.ref bq)] [] (lenOf pd7 rfl) rfl rfl ?_
 rintro _ T11 Lc11 ⟨rfl, N11q, q11⟩ X11
 have N11 := Fr.app N0 N11q
 refine w_ifnullNo X11 hx hby dh_5 ?_
 refine iC X11 hx hby dh_8 (v := 1) rfl ?_
 refine gO X11 hx hby dh_9 (pc' := 13) ?_
 refine r_val hP hlk hret X11 hx hby dh_13 rfl (Or.inl ⟨rfl, Or.inr (Or.inl rfl), _, rfl⟩) (by decide) ?_
 rw [q11]
 exact ⟨rfl, N11, rfl⟩
def Q_getE_01_3 (Z : State) (mp nd0 nd1 b0 b1 bq : Addr) (sz mc : Int32) (h0 : Heap) (n0 : Nat) (v : Option Value) (h : Heap) (L : List Loc) : Prop := v = some .null ∧ Fr n0 L ∧ h = h0
theorem rm_getE_01_3 (l : Launch) (Z : State) (a0 : Array Value) (hw : oW a0 Z) (ws : List Jvm.Cond) (mp nd0 nd1 b0 b1 bq : Addr) (sz mc : Int32) (h0 : Heap) (n0 : Nat) (Z0 : n0 ≤ h0.size) (O0 : Old Z n0 h0) (s0 : Exa Z h0 mp q_2) (s1 : Fld Z h0 mp q_2 q_12 q_1 (.ref nd0)) (s2 : Fld Z h0 mp q_2 q_13 "I" (.int sz)) (s3 : Fld Z h0 mp q_2 q_14 "I" (.int mc)) (s4 : Fld Z h0 mp q_2 q_10 q_11 .null) (s5 : Exa Z h0 nd0 q_0) (s6 : Fld Z h0 nd0 q_0 q_8 q_4 (.ref b0)) (s7 : Fld Z h0 nd0 q_0 q_6 q_1 .null) (s8 : Fld Z h0 nd0 q_0 q_9 q_1 (.ref nd1)) (s9 : Fld Z h0 nd0 q_0 q_5 q_1 .null) (s10 : Fld Z h0 nd0 q_0 q_7 "Z" (.int 1)) (s11 : Exa Z h0 nd1 q_0) (s12 : Fld Z h0 nd1 q_0 q_8 q_4 (.ref b1)) (s13 : Fld Z h0 nd1 q_0 q_6 q_1 .null) (s14 : Fld Z h0 nd1 q_0 q_9 q_1 .null) (s15 : Fld Z h0 nd1 q_0 q_5 q_1 (.ref nd0)) (s16 : Fld Z h0 nd1 q_0 q_7 "Z" (.int 0)) (B_b0 : own_Box Z b0 (0 : Int64)) (B_b1 : own_Box Z b1 (1 : Int64)) (B_bq : own_Box Z bq (3 : Int64)) :
   oM l oY1 j2729_15 5 (some (.object q_0)) ws (own_R 3 0 0 60) #[(.ref mp), (.ref bq)] Z h0 (Q_getE_01_3 Z mp nd0 nd1 b0 b1 bq sz mc h0 n0) := by
 refine own_open (n0 := n0) (cn := q_2) rfl (plainFor_of_name pn0) (L0 := #[(vR mp), (vR bq), .unset, .unset, .unset]) ?_
 intro p e s m below meth c s₁ P hx hby hml hown hnm X0 e0 N0 hlk hret hZ hP
 refine aA X0 hx hby da_0 rfl rfl ?_
 refine gF X0 hx hby hZ hown (tw_59 hw) Via.refl e0 s4 da_1 ?_
 intro T11 X11 e11
 refine w_ifnullYes X11 hx hby da_4 (pc' := 13) ?_
 refine aA X11 hx hby da_13 rfl rfl ?_
 refine c_stat 0 X11 hx hby hml hZ hown (tw_165 hw) (tw_25 hw) (tw_26 hw) (tw_27 hw) (rm_rnn l Z a0 hw [] bq h0 n0 Z0 ) e11 da_14 [(.ref bq)] [] (lenOf pd3 rfl) rfl rfl ?_
 rintro _ T12 Lc12 ⟨rfl, N12q, q12⟩ X12
 have N12 := Fr.app N0 N12q
 refine pO X12 hx hby da_17 rfl ?_
 refine aA X12 hx hby da_18 rfl rfl ?_
 obtain ⟨T13, X13, e13, st13⟩ := castY X12 hx hZ hown (tw_112 hw) q12 (Ins.of_exa (Exa.ext O0.2 B_bq.1) (tw_113 hw)) (g := (mkF m 19 #[(vR mp), (vR bq), .unset, .unset, .unset] [(.ref bq)])) rfl rfl (hb hby da_19)
 refine Go.by st13 ?_
 refine aS X13 hx hby da_22 rfl rfl ?_
 refine aA X13 hx hby da_23 rfl rfl ?_
 refine gF X13 hx hby hZ hown (tw_100 hw) Via.refl e13 s1 da_24 ?_
 intro T14 X14 e14
 refine aS X14 hx hby da_27 rfl rfl ?_
 refine aA X14 hx hby da_28 rfl rfl ?_
 refine w_ifnullNo X14 hx hby da_29 ?_
 refine aA X14 hx hby da_32 rfl rfl ?_
 refine aA X14 hx hby da_33 rfl rfl ?_
 refine gF X14 hx hby hZ hown (tw_166 hw) Via.refl e14 s6 da_34 ?_
 intro T15 X15 e15
 obtain ⟨cq16, kq16, q16a, q16b, q16c⟩ := isOf hZ e15 (Exa.ext O0.2 B_bq.1)
 obtain ⟨_, _, ⟨T16, L16, k16, n16⟩, -, X16, ⟨Lc16, hQ16, l16, y16, z16⟩, st16⟩ := X15.interfaceBack hx (xi := oY7) (y := oY4) hown (mvT hZ (tw_114 hw)) (mvT hZ (tw_115 hw)) (mvT hZ (tw_116 hw)) (mvT hZ (tw_117 hw)) (mvT hZ (tw_118 hw)) (mvT hZ (tw_119 hw)) (mvT hZ (tw_120 hw)) (mvT hZ (tw_113 hw)) (by decide) (backOf (W := 0) (rm_ct2_gt l Z a0 hw [] bq b0 (3 : Int64) (0 : Int64) h0 n0 Z0 O0 B_bq B_b0 (by decide : (0 : Int64) < (3 : Int64)) (by decide : ¬ (3 : Int64) < (0 : Int64)) (by decide : ¬ (3 : Int64) = (0 : Int64))) hZ (tw_121 hw) (tw_84 hw) (by decide) (by decide)) q16a q16b q16c (g := (mkF m 37 #[(vR mp), (vR bq), (vR bq), (vR nd0), .unset] [(.ref b0), (.ref bq)])) rfl (by rw [hml]; rfl) (Steps.refl _) (argsL := [(.ref b0)]) (rest := []) (lenOf pd0 rfl) rfl (by show 2 * 0 + _ ≤ _; exact Nat.le_of_eq rfl) (hb hby da_37) (fun _ _ => ⟨rfl, e15, (by decide : 0 + 0 ≤ _), (by decide : 0 + 0 ≤ _)⟩)
 dsimp only [Pt.U, Pt.locs, Pt.cells, Pt.slots] at X16 l16 y16 z16 st16 hQ16
 subst l16 y16 z16
 obtain ⟨rfl, N16q, q16⟩ := hQ16
 have N16 := Fr.app N12 N16q
 refine Go.by (fun t k => st16.trans k) ?_
 show oG p e below P m T16 42 #[(vR mp), (vR bq), (vR bq), (vR nd0), .unset] [(.int 1)]
 refine iT X16 hx hby da_42 rfl ?_
 refine iB X16 hx hby da_44 rfl ?_
 refine fY X16 hx hby da_46 (pc' := 57) (XT.i0_ge_t (by decide : ¬ (1 : Int32) < (0 : Int32))) ?_
 refine iB X16 hx hby da_57 rfl ?_
 refine fN X16 hx hby da_59 (XT.i0_le_f (by decide : (0 : Int32) < (1 : Int32))) ?_
 refine aA X16 hx hby da_62 rfl rfl ?_
 refine gF X16 hx hby hZ hown (tw_167 hw) Via.refl q16 s8 da_63 ?_
 intro T17 X17 e17
 refine aS X17 hx hby da_66 rfl rfl ?_
 refine gO X17 hx hby da_67 (pc' := 72) ?_
 refine gO X17 hx hby da_72 (pc' := 28) ?_
 refine aA X17 hx hby da_28 rfl rfl ?_
 refine w_ifnullNo X17 hx hby da_29 ?_
 refine aA X17 hx hby da_32 rfl rfl ?_
 refine aA X17 hx hby da_33 rfl rfl ?_
 refine gF X17 hx hby hZ hown (tw_166 hw) Via.refl e17 s12 da_34 ?_
 intro T18 X18 e18
 obtain ⟨cq19, kq19, q19a, q19b, q19c⟩ := isOf hZ e18 (Exa.ext O0.2 B_bq.1)
 obtain ⟨_, _, ⟨T19, L19, k19, n19⟩, -, X19, ⟨Lc19, hQ19, l19, y19, z19⟩, st19⟩ := X18.interfaceBack hx (xi := oY7) (y := oY4) hown (mvT hZ (tw_114 hw)) (mvT hZ (tw_115 hw)) (mvT hZ (tw_116 hw)) (mvT hZ (tw_117 hw)) (mvT hZ (tw_118 hw)) (mvT hZ (tw_119 hw)) (mvT hZ (tw_120 hw)) (mvT hZ (tw_113 hw)) (by decide) (backOf (W := 0) (rm_ct2_gt l Z a0 hw [] bq b1 (3 : Int64) (1 : Int64) h0 n0 Z0 O0 B_bq B_b1 (by decide : (1 : Int64) < (3 : Int64)) (by decide : ¬ (3 : Int64) < (1 : Int64)) (by decide : ¬ (3 : Int64) = (1 : Int64))) hZ (tw_121 hw) (tw_84 hw) (by decide) (by decide)) q19a q19b q19c (g := (mkF m 37 #[(vR mp), (vR bq), (vR bq), (vR nd1), (vI 1)] [(.ref b1), (.ref bq)])) rfl (by rw [hml]; rfl) (Steps.refl _) (argsL := [(.ref b1)]) (rest := []) (lenOf pd0 rfl) rfl (by show 2 * 0 + _ ≤ _; exact Nat.le_of_eq rfl) (hb hby da_37) (fun _ _ => ⟨rfl, e18, (by decide : 0 + 0 ≤ _), (by decide : 0 + 0 ≤ _)⟩)
 dsimp only [Pt.U, Pt.locs, Pt.cells, Pt.slots] at X19 l19 y19 z19 st19 hQ19
 subst l19 y19 z19
 obtain ⟨rfl, N19q, q19⟩ := hQ19
 have N19 := Fr.app N16 N19q
 refine Go.by (fun t k => st19.trans k) ?_
 show oG p e below P m T19 42 #[(vR mp), (vR bq), (vR bq), (vR nd1), (vI 1)] [(.int 1)]
 refine iT X19 hx hby da_42 rfl ?_
 refine iB X19 hx hby da_44 rfl ?_
 refine fY X19 hx hby da_46 (pc' := 57) (XT.i0_ge_t (by decide : ¬ (1 : Int32) < (0 : Int32))) ?_
 refine iB X19 hx hby da_57 rfl ?_
 refine fN X19 hx hby da_59 (XT.i0_le_f (by decide : (0 : Int32) < (1 : Int32))) ?_
 refine aA X19 hx hby da_62 rfl rfl ?_
 refine gF X19 hx hby hZ hown (tw_167 hw) Via.refl q19 s14 da_63 ?_
 intro T20 X20 e20
 refine aS X20 hx hby da_66 rfl rfl ?_
 refine gO X20 hx hby da_67 (pc' := 72) ?_
 refine gO X20 hx hby da_72 (pc' := 28) ?_
 refine aA X20 hx hby da_28 rfl rfl ?_
 refine w_ifnullYes X20 hx hby da_29 (pc' := 75) ?_
 refine w_aconstNull X20 hx hby da_75 ?_
 refine r_val hP hlk hret X20 hx hby da_76 rfl (Or.inr (Or.inr (Or.inr (Or.inr ⟨rfl, rfl, rfl⟩)))) (by decide) ?_
 rw [e20]
 exact ⟨rfl, N19, rfl⟩
def Q_hasK_01_3 (Z : State) (mp nd0 nd1 b0 b1 bq : Addr) (sz mc : Int32) (h0 : Heap) (n0 : Nat) (v : Option Value) (h : Heap) (L : List Loc) : Prop := v = some (.int 0) ∧ Fr n0 L ∧ h = h0
theorem rm_hasK_01_3 (l : Launch) (Z : State) (a0 : Array Value) (hw : oW a0 Z) (ws : List Jvm.Cond) (mp nd0 nd1 b0 b1 bq : Addr) (sz mc : Int32) (h0 : Heap) (n0 : Nat) (Z0 : n0 ≤ h0.size) (O0 : Old Z n0 h0) (s0 : Exa Z h0 mp q_2) (s1 : Fld Z h0 mp q_2 q_12 q_1 (.ref nd0)) (s2 : Fld Z h0 mp q_2 q_13 "I" (.int sz)) (s3 : Fld Z h0 mp q_2 q_14 "I" (.int mc)) (s4 : Fld Z h0 mp q_2 q_10 q_11 .null) (s5 : Exa Z h0 nd0 q_0) (s6 : Fld Z h0 nd0 q_0 q_8 q_4 (.ref b0)) (s7 : Fld Z h0 nd0 q_0 q_6 q_1 .null) (s8 : Fld Z h0 nd0 q_0 q_9 q_1 (.ref nd1)) (s9 : Fld Z h0 nd0 q_0 q_5 q_1 .null) (s10 : Fld Z h0 nd0 q_0 q_7 "Z" (.int 1)) (s11 : Exa Z h0 nd1 q_0) (s12 : Fld Z h0 nd1 q_0 q_8 q_4 (.ref b1)) (s13 : Fld Z h0 nd1 q_0 q_6 q_1 .null) (s14 : Fld Z h0 nd1 q_0 q_9 q_1 .null) (s15 : Fld Z h0 nd1 q_0 q_5 q_1 (.ref nd0)) (s16 : Fld Z h0 nd1 q_0 q_7 "Z" (.int 0)) (B_b0 : own_Box Z b0 (0 : Int64)) (B_b1 : own_Box Z b1 (1 : Int64)) (B_bq : own_Box Z bq (3 : Int64)) :
   oM l oY0 j2729_6 2 (some .boolean) ws (own_R 4 0 0 80) #[(.ref mp), (.ref bq)] Z h0 (Q_hasK_01_3 Z mp nd0 nd1 b0 b1 bq sz mc h0 n0) := by
 refine own_open (n0 := n0) (cn := q_2) rfl (plainFor_of_name pn0) (L0 := #[(vR mp), (vR bq)]) ?_
 intro p e s m below meth c s₁ P hx hby hml hown hnm X0 e0 N0 hlk hret hZ hP
 refine aA X0 hx hby dh_0 rfl rfl ?_
 refine aA X0 hx hby dh_1 rfl rfl ?_
 refine c_virt 0 X0 hx hby hml hZ hown (tw_160 hw) (tw_161 hw) (tw_163 hw) (tw_162 hw) (tw_164 hw) (tw_44 hw) (rm_getE_01_3 l Z a0 hw [] mp nd0 nd1 b0 b1 bq sz mc h0 n0 Z0 O0 s0 s1 s2 s3 s4 s5 s6 s7 s8 s9 s10 s11 s12 s13 s14 s15 s16 B_b0 B_b1 B_bq) e0 s0 dh_2 [(.ref bq)] [] (lenOf pd7 rfl) rfl rfl ?_
 rintro _ T11 Lc11 ⟨rfl, N11q, q11⟩ X11
 have N11 := Fr.app N0 N11q
 refine w_ifnullYes X11 hx hby dh_5 (pc' := 12) ?_
 refine iC X11 hx hby dh_12 (v := 0) rfl ?_
 refine r_val hP hlk hret X11 hx hby dh_13 rfl (Or.inl ⟨rfl, Or.inr (Or.inl rfl), _, rfl⟩) (by decide) ?_
 rw [q11]
 exact ⟨rfl, N11, rfl⟩
def Q_getE_02_1 (Z : State) (mp nd0 nd1 b0 b1 bq : Addr) (sz mc : Int32) (h0 : Heap) (n0 : Nat) (v : Option Value) (h : Heap) (L : List Loc) : Prop := v = some .null ∧ Fr n0 L ∧ h = h0
theorem rm_getE_02_1 (l : Launch) (Z : State) (a0 : Array Value) (hw : oW a0 Z) (ws : List Jvm.Cond) (mp nd0 nd1 b0 b1 bq : Addr) (sz mc : Int32) (h0 : Heap) (n0 : Nat) (Z0 : n0 ≤ h0.size) (O0 : Old Z n0 h0) (s0 : Exa Z h0 mp q_2) (s1 : Fld Z h0 mp q_2 q_12 q_1 (.ref nd0)) (s2 : Fld Z h0 mp q_2 q_13 "I" (.int sz)) (s3 : Fld Z h0 mp q_2 q_14 "I" (.int mc)) (s4 : Fld Z h0 mp q_2 q_10 q_11 .null) (s5 : Exa Z h0 nd0 q_0) (s6 : Fld Z h0 nd0 q_0 q_8 q_4 (.ref b0)) (s7 : Fld Z h0 nd0 q_0 q_6 q_1 .null) (s8 : Fld Z h0 nd0 q_0 q_9 q_1 (.ref nd1)) (s9 : Fld Z h0 nd0 q_0 q_5 q_1 .null) (s10 : Fld Z h0 nd0 q_0 q_7 "Z" (.int 1)) (s11 : Exa Z h0 nd1 q_0) (s12 : Fld Z h0 nd1 q_0 q_8 q_4 (.ref b1)) (s13 : Fld Z h0 nd1 q_0 q_6 q_1 .null) (s14 : Fld Z h0 nd1 q_0 q_9 q_1 .null) (s15 : Fld Z h0 nd1 q_0 q_5 q_1 (.ref nd0)) (s16 : Fld Z h0 nd1 q_0 q_7 "Z" (.int 0)) (B_b0 : own_Box Z b0 (0 : Int64)) (B_b1 : own_Box Z b1 (2 : Int64)) (B_bq : own_Box Z bq (1 : Int64)) :
   oM l oY1 j2729_15 5 (some (.object q_0)) ws (own_R 3 0 0 60) #[(.ref mp), (.ref bq)] Z h0 (Q_getE_02_1 Z mp nd0 nd1 b0 b1 bq sz mc h0 n0) := by
 refine own_open (n0 := n0) (cn := q_2) rfl (plainFor_of_name pn0) (L0 := #[(vR mp), (vR bq), .unset, .unset, .unset]) ?_
 intro p e s m below meth c s₁ P hx hby hml hown hnm X0 e0 N0 hlk hret hZ hP
 refine aA X0 hx hby da_0 rfl rfl ?_
 refine gF X0 hx hby hZ hown (tw_59 hw) Via.refl e0 s4 da_1 ?_
 intro T11 X11 e11
 refine w_ifnullYes X11 hx hby da_4 (pc' := 13) ?_
 refine aA X11 hx hby da_13 rfl rfl ?_
 refine c_stat 0 X11 hx hby hml hZ hown (tw_165 hw) (tw_25 hw) (tw_26 hw) (tw_27 hw) (rm_rnn l Z a0 hw [] bq h0 n0 Z0 ) e11 da_14 [(.ref bq)] [] (lenOf pd3 rfl) rfl rfl ?_
 rintro _ T12 Lc12 ⟨rfl, N12q, q12⟩ X12
 have N12 := Fr.app N0 N12q
 refine pO X12 hx hby da_17 rfl ?_
 refine aA X12 hx hby da_18 rfl rfl ?_
 obtain ⟨T13, X13, e13, st13⟩ := castY X12 hx hZ hown (tw_112 hw) q12 (Ins.of_exa (Exa.ext O0.2 B_bq.1) (tw_113 hw)) (g := (mkF m 19 #[(vR mp), (vR bq), .unset, .unset, .unset] [(.ref bq)])) rfl rfl (hb hby da_19)
 refine Go.by st13 ?_
 refine aS X13 hx hby da_22 rfl rfl ?_
 refine aA X13 hx hby da_23 rfl rfl ?_
 refine gF X13 hx hby hZ hown (tw_100 hw) Via.refl e13 s1 da_24 ?_
 intro T14 X14 e14
 refine aS X14 hx hby da_27 rfl rfl ?_
 refine aA X14 hx hby da_28 rfl rfl ?_
 refine w_ifnullNo X14 hx hby da_29 ?_
 refine aA X14 hx hby da_32 rfl rfl ?_
 refine aA X14 hx hby da_33 rfl rfl ?_
 refine gF X14 hx hby hZ hown (tw_166 hw) Via.refl e14 s6 da_34 ?_
 intro T15 X15 e15
 obtain ⟨cq16, kq16, q16a, q16b, q16c⟩ := isOf hZ e15 (Exa.ext O0.2 B_bq.1)
 obtain ⟨_, _, ⟨T16, L16, k16, n16⟩, -, X16, ⟨Lc16, hQ16, l16, y16, z16⟩, st16⟩ := X15.interfaceBack hx (xi := oY7) (y := oY4) hown (mvT hZ (tw_114 hw)) (mvT hZ (tw_115 hw)) (mvT hZ (tw_116 hw)) (mvT hZ (tw_117 hw)) (mvT hZ (tw_118 hw)) (mvT hZ (tw_119 hw)) (mvT hZ (tw_120 hw)) (mvT hZ (tw_113 hw)) (by decide) (backOf (W := 0) (rm_ct2_gt l Z a0 hw [] bq b0 (1 : Int64) (0 : Int64) h0 n0 Z0 O0 B_bq B_b0 (by decide : (0 : Int64) < (1 : Int64)) (by decide : ¬ (1 : Int64) < (0 : Int64)) (by decide : ¬ (1 : Int64) = (0 : Int64))) hZ (tw_121 hw) (tw_84 hw) (by decide) (by decide)) q16a q16b q16c (g := (mkF m 37 #[(vR mp), (vR bq), (vR bq), (vR nd0), .unset] [(.ref b0), (.ref bq)])) rfl (by rw [hml]; rfl) (Steps.refl _) (argsL := [(.ref b0)]) (rest := []) (lenOf pd0 rfl) rfl (by show 2 * 0 + _ ≤ _; exact Nat.le_of_eq rfl) (hb hby da_37) (fun _ _ => ⟨rfl, e15, (by decide : 0 + 0 ≤ _), (by decide : 0 + 0 ≤ _)⟩)
 dsimp only [Pt.U, Pt.locs, Pt.cells, Pt.slots] at X16 l16 y16 z16 st16 hQ16
 subst l16 y16 z16
 obtain ⟨rfl, N16q, q16⟩ := hQ16
 have N16 := Fr.app N12 N16q
 refine Go.by (fun t k => st16.trans k) ?_
 show oG p e below P m T16 42 #[(vR mp), (vR bq), (vR bq), (vR nd0), .unset] [(.int 1)]
 refine iT X16 hx hby da_42 rfl ?_
 refine iB X16 hx hby da_44 rfl ?_
 refine fY X16 hx hby da_46 (pc' := 57) (XT.i0_ge_t (by decide : ¬ (1 : Int32) < (0 : Int32))) ?_
 refine iB X16 hx hby da_57 rfl ?_
 refine fN X16 hx hby da_59 (XT.i0_le_f (by decide : (0 : Int32) < (1 : Int32))) ?_
 refine aA X16 hx hby da_62 rfl rfl ?_
 refine gF X16 hx hby hZ hown (tw_167 hw) Via.refl q16 s8 da_63 ?_
 intro T17 X17 e17
 refine aS X17 hx hby da_66 rfl rfl ?_
 refine gO X17 hx hby da_67 (pc' := 72) ?_
 refine gO X17 hx hby da_72 (pc' := 28) ?_
 refine aA X17 hx hby da_28 rfl rfl ?_
 refine w_ifnullNo X17 hx hby da_29 ?_
 refine aA X17 hx hby da_32 rfl rfl ?_
 refine aA X17 hx hby da_33 rfl rfl ?_
 refine gF X17 hx hby hZ hown (tw_166 hw) Via.refl e17 s12 da_34 ?_
 intro T18 X18 e18
 obtain ⟨cq19, kq19, q19a, q19b, q19c⟩ := isOf hZ e18 (Exa.ext O0.2 B_bq.1)
 obtain ⟨_, _, ⟨T19, L19, k19, n19⟩, -, X19, ⟨Lc19, hQ19, l19, y19, z19⟩, st19⟩ := X18.interfaceBack hx (xi := oY7) (y := oY4) hown (mvT hZ (tw_114 hw)) (mvT hZ (tw_115 hw)) (mvT hZ (tw_116 hw)) (mvT hZ (tw_117 hw)) (mvT hZ (tw_118 hw)) (mvT hZ (tw_119 hw)) (mvT hZ (tw_120 hw)) (mvT hZ (tw_113 hw)) (by decide) (backOf (W := 0) (rm_ct2_lt l Z a0 hw [] bq b1 (1 : Int64) (2 : Int64) h0 n0 Z0 O0 B_bq B_b1 (by decide : (1 : Int64) < (2 : Int64))) hZ (tw_121 hw) (tw_84 hw) (by decide) (by decide)) q19a q19b q19c (g := (mkF m 37 #[(vR mp), (vR bq), (vR bq), (vR nd1), (vI 1)] [(.ref b1), (.ref bq)])) rfl (by rw [hml]; rfl) (Steps.refl _) (argsL := [(.ref b1)]) (rest := []) (lenOf pd0 rfl) rfl (by show 2 * 0 + _ ≤ _; exact Nat.le_of_eq rfl) (hb hby da_37) (fun _ _ => ⟨rfl, e18, (by decide : 0 + 0 ≤ _), (by decide : 0 + 0 ≤ _)⟩)
 dsimp only [Pt.U, Pt.locs, Pt.cells, Pt.slots] at X19 l19 y19 z19 st19 hQ19
 subst l19 y19 z19
 obtain ⟨rfl, N19q, q19⟩ := hQ19
 have N19 := Fr.app N16 N19q
 refine Go.by (fun t k => st19.trans k) ?_
 show oG p e below P m T19 42 #[(vR mp), (vR bq), (vR bq), (vR nd1), (vI 1)] [(.int (-1))]
 refine iT X19 hx hby da_42 rfl ?_
 refine iB X19 hx hby da_44 rfl ?_
 refine fN X19 hx hby da_46 (XT.i0_ge_f (by decide : (-1 : Int32) < (0 : Int32))) ?_
 refine aA X19 hx hby da_49 rfl rfl ?_
 refine gF X19 hx hby hZ hown (tw_209 hw) Via.refl q19 s13 da_50 ?_
 intro T20 X20 e20
 refine aS X20 hx hby da_53 rfl rfl ?_
 refine gO X20 hx hby da_54 (pc' := 72) ?_
 refine gO X20 hx hby da_72 (pc' := 28) ?_
 refine aA X20 hx hby da_28 rfl rfl ?_
 refine w_ifnullYes X20 hx hby da_29 (pc' := 75) ?_
 refine w_aconstNull X20 hx hby da_75 ?_
 refine r_val hP hlk hret X20 hx hby da_76 rfl (Or.inr (Or.inr (Or.inr (Or.inr ⟨rfl, rfl, rfl⟩)))) (by decide) ?_
 rw [e20]
 exact ⟨rfl, N19, rfl⟩
def Q_hasK_02_1 (Z : State) (mp nd0 nd1 b0 b1 bq : Addr) (sz mc : Int32) (h0 : Heap) (n0 : Nat) (v : Option Value) (h : Heap) (L : List Loc) : Prop := v = some (.int 0) ∧ Fr n0 L ∧ h = h0
theorem rm_hasK_02_1 (l : Launch) (Z : State) (a0 : Array Value) (hw : oW a0 Z) (ws : List Jvm.Cond) (mp nd0 nd1 b0 b1 bq : Addr) (sz mc : Int32) (h0 : Heap) (n0 : Nat) (Z0 : n0 ≤ h0.size) (O0 : Old Z n0 h0) (s0 : Exa Z h0 mp q_2) (s1 : Fld Z h0 mp q_2 q_12 q_1 (.ref nd0)) (s2 : Fld Z h0 mp q_2 q_13 "I" (.int sz)) (s3 : Fld Z h0 mp q_2 q_14 "I" (.int mc)) (s4 : Fld Z h0 mp q_2 q_10 q_11 .null) (s5 : Exa Z h0 nd0 q_0) (s6 : Fld Z h0 nd0 q_0 q_8 q_4 (.ref b0)) (s7 : Fld Z h0 nd0 q_0 q_6 q_1 .null) (s8 : Fld Z h0 nd0 q_0 q_9 q_1 (.ref nd1)) (s9 : Fld Z h0 nd0 q_0 q_5 q_1 .null) (s10 : Fld Z h0 nd0 q_0 q_7 "Z" (.int 1)) (s11 : Exa Z h0 nd1 q_0) (s12 : Fld Z h0 nd1 q_0 q_8 q_4 (.ref b1)) (s13 : Fld Z h0 nd1 q_0 q_6 q_1 .null) (s14 : Fld Z h0 nd1 q_0 q_9 q_1 .null) (s15 : Fld Z h0 nd1 q_0 q_5 q_1 (.ref nd0)) (s16 : Fld Z h0 nd1 q_0 q_7 "Z" (.int 0)) (B_b0 : own_Box Z b0 (0 : Int64)) (B_b1 : own_Box Z b1 (2 : Int64)) (B_bq : own_Box Z bq (1 : Int64)) :
   oM l oY0 j2729_6 2 (some .boolean) ws (own_R 4 0 0 80) #[(.ref mp), (.ref bq)] Z h0 (Q_hasK_02_1 Z mp nd0 nd1 b0 b1 bq sz mc h0 n0) := by
 refine own_open (n0 := n0) (cn := q_2) rfl (plainFor_of_name pn0) (L0 := #[(vR mp), (vR bq)]) ?_
 intro p e s m below meth c s₁ P hx hby hml hown hnm X0 e0 N0 hlk hret hZ hP
 refine aA X0 hx hby dh_0 rfl rfl ?_
 refine aA X0 hx hby dh_1 rfl rfl ?_
 refine c_virt 0 X0 hx hby hml hZ hown (tw_160 hw) (tw_161 hw) (tw_163 hw) (tw_162 hw) (tw_164 hw) (tw_44 hw) (rm_getE_02_1 l Z a0 hw [] mp nd0 nd1 b0 b1 bq sz mc h0 n0 Z0 O0 s0 s1 s2 s3 s4 s5 s6 s7 s8 s9 s10 s11 s12 s13 s14 s15 s16 B_b0 B_b1 B_bq) e0 s0 dh_2 [(.ref bq)] [] (lenOf pd7 rfl) rfl rfl ?_
 rintro _ T11 Lc11 ⟨rfl, N11q, q11⟩ X11
 have N11 := Fr.app N0 N11q
 refine w_ifnullYes X11 hx hby dh_5 (pc' := 12) ?_
 refine iC X11 hx hby dh_12 (v := 0) rfl ?_
 refine r_val hP hlk hret X11 hx hby dh_13 rfl (Or.inl ⟨rfl, Or.inr (Or.inl rfl), _, rfl⟩) (by decide) ?_
 rw [q11]
 exact ⟨rfl, N11, rfl⟩
def Q_getE_012_2 (Z : State) (mp nd0 nd1 nd2 b0 b1 b2 bq : Addr) (sz mc : Int32) (h0 : Heap) (n0 : Nat) (v : Option Value) (h : Heap) (L : List Loc) : Prop := v = some (.ref nd2) ∧ Fr n0 L ∧ h = h0
theorem rm_getE_012_2 (l : Launch) (Z : State) (a0 : Array Value) (hw : oW a0 Z) (ws : List Jvm.Cond) (mp nd0 nd1 nd2 b0 b1 b2 bq : Addr) (sz mc : Int32) (h0 : Heap) (n0 : Nat) (Z0 : n0 ≤ h0.size) (O0 : Old Z n0 h0) (s0 : Exa Z h0 mp q_2) (s1 : Fld Z h0 mp q_2 q_12 q_1 (.ref nd1)) (s2 : Fld Z h0 mp q_2 q_13 "I" (.int sz)) (s3 : Fld Z h0 mp q_2 q_14 "I" (.int mc)) (s4 : Fld Z h0 mp q_2 q_10 q_11 .null) (s5 : Exa Z h0 nd0 q_0) (s6 : Fld Z h0 nd0 q_0 q_8 q_4 (.ref b0)) (s7 : Fld Z h0 nd0 q_0 q_6 q_1 .null) (s8 : Fld Z h0 nd0 q_0 q_9 q_1 .null) (s9 : Fld Z h0 nd0 q_0 q_5 q_1 (.ref nd1)) (s10 : Fld Z h0 nd0 q_0 q_7 "Z" (.int 0)) (s11 : Exa Z h0 nd1 q_0) (s12 : Fld Z h0 nd1 q_0 q_8 q_4 (.ref b1)) (s13 : Fld Z h0 nd1 q_0 q_6 q_1 (.ref nd0)) (s14 : Fld Z h0 nd1 q_0 q_9 q_1 (.ref nd2)) (s15 : Fld Z h0 nd1 q_0 q_5 q_1 .null) (s16 : Fld Z h0 nd1 q_0 q_7 "Z" (.int 1)) (s17 : Exa Z h0 nd2 q_0) (s18 : Fld Z h0 nd2 q_0 q_8 q_4 (.ref b2)) (s19 : Fld Z h0 nd2 q_0 q_6 q_1 .null) (s20 : Fld Z h0 nd2 q_0 q_9 q_1 .null) (s21 : Fld Z h0 nd2 q_0 q_5 q_1 (.ref nd1)) (s22 : Fld Z h0 nd2 q_0 q_7 "Z" (.int 0)) (B_b0 : own_Box Z b0 (0 : Int64)) (B_b1 : own_Box Z b1 (1 : Int64)) (B_b2 : own_Box Z b2 (2 : Int64)) (B_bq : own_Box Z bq (2 : Int64)) :
   oM l oY1 j2729_15 5 (some (.object q_0)) ws (own_R 3 0 0 60) #[(.ref mp), (.ref bq)] Z h0 (Q_getE_012_2 Z mp nd0 nd1 nd2 b0 b1 b2 bq sz mc h0 n0) := by
 refine own_open (n0 := n0) (cn := q_2) rfl (plainFor_of_name pn0) (L0 := #[(vR mp), (vR bq), .unset, .unset, .unset]) ?_
 intro p e s m below meth c s₁ P hx hby hml hown hnm X0 e0 N0 hlk hret hZ hP
 refine aA X0 hx hby da_0 rfl rfl ?_
 refine gF X0 hx hby hZ hown (tw_59 hw) Via.refl e0 s4 da_1 ?_
 intro T11 X11 e11
 refine w_ifnullYes X11 hx hby da_4 (pc' := 13) ?_
 refine aA X11 hx hby da_13 rfl rfl ?_
 refine c_stat 0 X11 hx hby hml hZ hown (tw_165 hw) (tw_25 hw) (tw_26 hw) (tw_27 hw) (rm_rnn l Z a0 hw [] bq h0 n0 Z0 ) e11 da_14 [(.ref bq)] [] (lenOf pd3 rfl) rfl rfl ?_
 rintro _ T12 Lc12 ⟨rfl, N12q, q12⟩ X12
 have N12 := Fr.app N0 N12q
 refine pO X12 hx hby da_17 rfl ?_
 refine aA X12 hx hby da_18 rfl rfl ?_
 obtain ⟨T13, X13, e13, st13⟩ := castY X12 hx hZ hown (tw_112 hw) q12 (Ins.of_exa (Exa.ext O0.2 B_bq.1) (tw_113 hw)) (g := (mkF m 19 #[(vR mp), (vR bq), .unset, .unset, .unset] [(.ref bq)])) rfl rfl (hb hby da_19)
 refine Go.by st13 ?_
 refine aS X13 hx hby da_22 rfl rfl ?_
 refine aA X13 hx hby da_23 rfl rfl ?_
 refine gF X13 hx hby hZ hown (tw_100 hw) Via.refl e13 s1 da_24 ?_
 intro T14 X14 e14
 refine aS X14 hx hby da_27 rfl rfl ?_
 refine aA X14 hx hby da_28 rfl rfl ?_
 refine w_ifnullNo X14 hx hby da_29 ?_
 refine aA X14 hx hby da_32 rfl rfl ?_
 refine aA X14 hx hby da_33 rfl rfl ?_
 refine gF X14 hx hby hZ hown (tw_166 hw) Via.refl e14 s12 da_34 ?_
 intro T15 X15 e15
 obtain ⟨cq16, kq16, q16a, q16b, q16c⟩ := isOf hZ e15 (Exa.ext O0.2 B_bq.1)
 obtain ⟨_, _, ⟨T16, L16, k16, n16⟩, -, X16, ⟨Lc16, hQ16, l16, y16, z16⟩, st16⟩ := X15.interfaceBack hx (xi := oY7) (y := oY4) hown (mvT hZ (tw_114 hw)) (mvT hZ (tw_115 hw)) (mvT hZ (tw_116 hw)) (mvT hZ (tw_117 hw)) (mvT hZ (tw_118 hw)) (mvT hZ (tw_119 hw)) (mvT hZ (tw_120 hw)) (mvT hZ (tw_113 hw)) (by decide) (backOf (W := 0) (rm_ct2_gt l Z a0 hw [] bq b1 (2 : Int64) (1 : Int64) h0 n0 Z0 O0 B_bq B_b1 (by decide : (1 : Int64) < (2 : Int64)) (by decide : ¬ (2 : Int64) < (1 : Int64)) (by decide : ¬ (2 : Int64) = (1 : Int64))) hZ (tw_121 hw) (tw_84 hw) (by decide) (by decide)) q16a q16b q16c (g := (mkF m 37 #[(vR mp), (vR bq), (vR bq), (vR nd1), .unset] [(.ref b1), (.ref bq)])) rfl (by rw [hml]; rfl) (Steps.refl _) (argsL := [(.ref b1)]) (rest := []) (lenOf pd0 rfl) rfl (by show 2 * 0 + _ ≤ _; exact Nat.le_of_eq rfl) (hb hby da_37) (fun _ _ => ⟨rfl, e15, (by decide : 0 + 0 ≤ _), (by decide : 0 + 0 ≤ _)⟩)
 dsimp only [Pt.U, Pt.locs, Pt.cells, Pt.slots] at X16 l16 y16 z16 st16 hQ16
 subst l16 y16 z16
 obtain ⟨rfl, N16q, q16⟩ := hQ16
 have N16 := Fr.app N12 N16q
 refine Go.by (fun t k => st16.trans k) ?_
 show oG p e below P m T16 42 #[(vR mp), (vR bq), (vR bq), (vR nd1), .unset] [(.int 1)]
 refine iT X16 hx hby da_42 rfl ?_
 refine iB X16 hx hby da_44 rfl ?_
 refine fY X16 hx hby da_46 (pc' := 57) (XT.i0_ge_t (by decide : ¬ (1 : Int32) < (0 : Int32))) ?_
 refine iB X16 hx hby da_57 rfl ?_
 refine fN X16 hx hby da_59 (XT.i0_le_f (by decide : (0 : Int32) < (1 : Int32))) ?_
 refine aA X16 hx hby da_62 rfl rfl ?_
 refine gF X16 hx hby hZ hown (tw_167 hw) Via.refl q16 s14 da_63 ?_
 intro T17 X17 e17
 refine aS X17 hx hby da_66 rfl rfl ?_
 refine gO X17 hx hby da_67 (pc' := 72) ?_
 refine gO X17 hx hby da_72 (pc' := 28) ?_
 refine aA X17 hx hby da_28 rfl rfl ?_
 refine w_ifnullNo X17 hx hby da_29 ?_
 refine aA X17 hx hby da_32 rfl rfl ?_
 refine aA X17 hx hby da_33 rfl rfl ?_
 refine gF X17 hx hby hZ hown (tw_166 hw) Via.refl e17 s18 da_34 ?_
 intro T18 X18 e18
 obtain ⟨cq19, kq19, q19a, q19b, q19c⟩ := isOf hZ e18 (Exa.ext O0.2 B_bq.1)
 obtain ⟨_, _, ⟨T19, L19, k19, n19⟩, -, X19, ⟨Lc19, hQ19, l19, y19, z19⟩, st19⟩ := X18.interfaceBack hx (xi := oY7) (y := oY4) hown (mvT hZ (tw_114 hw)) (mvT hZ (tw_115 hw)) (mvT hZ (tw_116 hw)) (mvT hZ (tw_117 hw)) (mvT hZ (tw_118 hw)) (mvT hZ (tw_119 hw)) (mvT hZ (tw_120 hw)) (mvT hZ (tw_113 hw)) (by decide) (backOf (W := 0) (rm_ct2_eq l Z a0 hw [] bq b2 (2 : Int64) (2 : Int64) h0 n0 Z0 O0 B_bq B_b2 (rfl : (2 : Int64) = (2 : Int64)) (by decide : ¬ (2 : Int64) < (2 : Int64))) hZ (tw_121 hw) (tw_84 hw) (by decide) (by decide)) q19a q19b q19c (g := (mkF m 37 #[(vR mp), (vR bq), (vR bq), (vR nd2), (vI 1)] [(.ref b2), (.ref bq)])) rfl (by rw [hml]; rfl) (Steps.refl _) (argsL := [(.ref b2)]) (rest := []) (lenOf pd0 rfl) rfl (by show 2 * 0 + _ ≤ _; exact Nat.le_of_eq rfl) (hb hby da_37) (fun _ _ => ⟨rfl, e18, (by decide : 0 + 0 ≤ _), (by decide : 0 + 0 ≤ _)⟩)
 dsimp only [Pt.U, Pt.locs, Pt.cells, Pt.slots] at X19 l19 y19 z19 st19 hQ19
 subst l19 y19 z19
 obtain ⟨rfl, N19q, q19⟩ := hQ19
 have N19 := Fr.app N16 N19q
 refine Go.by (fun t k => st19.trans k) ?_
 show oG p e below P m T19 42 #[(vR mp), (vR bq), (vR bq), (vR nd2), (vI 1)] [(.int 0)]
 refine iT X19 hx hby da_42 rfl ?_
 refine iB X19 hx hby da_44 rfl ?_
 refine fY X19 hx hby da_46 (pc' := 57) (XT.i0_ge_t (by decide : ¬ (0 : Int32) < (0 : Int32))) ?_
 refine iB X19 hx hby da_57 rfl ?_
 refine fY X19 hx hby da_59 (pc' := 70) (XT.i0_le_t (by decide : ¬ (0 : Int32) < (0 : Int32))) ?_
 refine aA X19 hx hby da_70 rfl rfl ?_
 refine r_val hP hlk hret X19 hx hby da_71 rfl (Or.inr (Or.inr (Or.inr (Or.inr ⟨rfl, rfl, rfl⟩)))) (by decide) ?_
 rw [q19]
 exact ⟨rfl, N19, rfl⟩
def Q_hasK_012_2 (Z : State) (mp nd0 nd1 nd2 b0 b1 b2 bq : Addr) (sz mc : Int32) (h0 : Heap) (n0 : Nat) (v : Option Value) (h : Heap) (L : List Loc) : Prop := v = some (.int 1) ∧ Fr n0 L ∧ h = h0
theorem rm_hasK_012_2 (l : Launch) (Z : State) (a0 : Array Value) (hw : oW a0 Z) (ws : List Jvm.Cond) (mp nd0 nd1 nd2 b0 b1 b2 bq : Addr) (sz mc : Int32) (h0 : Heap) (n0 : Nat) (Z0 : n0 ≤ h0.size) (O0 : Old Z n0 h0) (s0 : Exa Z h0 mp q_2) (s1 : Fld Z h0 mp q_2 q_12 q_1 (.ref nd1)) (s2 : Fld Z h0 mp q_2 q_13 "I" (.int sz)) (s3 : Fld Z h0 mp q_2 q_14 "I" (.int mc)) (s4 : Fld Z h0 mp q_2 q_10 q_11 .null) (s5 : Exa Z h0 nd0 q_0) (s6 : Fld Z h0 nd0 q_0 q_8 q_4 (.ref b0)) (s7 : Fld Z h0 nd0 q_0 q_6 q_1 .null) (s8 : Fld Z h0 nd0 q_0 q_9 q_1 .null) (s9 : Fld Z h0 nd0 q_0 q_5 q_1 (.ref nd1)) (s10 : Fld Z h0 nd0 q_0 q_7 "Z" (.int 0)) (s11 : Exa Z h0 nd1 q_0) (s12 : Fld Z h0 nd1 q_0 q_8 q_4 (.ref b1)) (s13 : Fld Z h0 nd1 q_0 q_6 q_1 (.ref nd0)) (s14 : Fld Z h0 nd1 q_0 q_9 q_1 (.ref nd2)) (s15 : Fld Z h0 nd1 q_0 q_5 q_1 .null) (s16 : Fld Z h0 nd1 q_0 q_7 "Z" (.int 1)) (s17 : Exa Z h0 nd2 q_0) (s18 : Fld Z h0 nd2 q_0 q_8 q_4 (.ref b2)) (s19 : Fld Z h0 nd2 q_0 q_6 q_1 .null) (s20 : Fld Z h0 nd2 q_0 q_9 q_1 .null) (s21 : Fld Z h0 nd2 q_0 q_5 q_1 (.ref nd1)) (s22 : Fld Z h0 nd2 q_0 q_7 "Z" (.int 0)) (B_b0 : own_Box Z b0 (0 : Int64)) (B_b1 : own_Box Z b1 (1 : Int64)) (B_b2 : own_Box Z b2 (2 : Int64)) (B_bq : own_Box Z bq (2 : Int64)) :
   oM l oY0 j2729_6 2 (some .boolean) ws (own_R 4 0 0 80) #[(.ref mp), (.ref bq)] Z h0 (Q_hasK_012_2 Z mp nd0 nd1 nd2 b0 b1 b2 bq sz mc h0 n0) := by
 refine own_open (n0 := n0) (cn := q_2) rfl (plainFor_of_name pn0) (L0 := #[(vR mp), (vR bq)]) ?_
 intro p e s m below meth c s₁ P hx hby hml hown hnm X0 e0 N0 hlk hret hZ hP
 refine aA X0 hx hby dh_0 rfl rfl ?_
 refine aA X0 hx hby dh_1 rfl rfl ?_
 refine c_virt 0 X0 hx hby hml hZ hown (tw_160 hw) (tw_161 hw) (tw_163 hw) (tw_162 hw) (tw_164 hw) (tw_44 hw) (rm_getE_012_2 l Z a0 hw [] mp nd0 nd1 nd2 b0 b1 b2 bq sz mc h0 n0 Z0 O0 s0 s1 s2 s3 s4 s5 s6 s7 s8 s9 s10 s11 s12 s13 s14 s15 s16 s17 s18 s19 s20 s21 s22 B_b0 B_b1 B_b2 B_bq) e0 s0 dh_2 [(.ref bq)] [] (lenOf pd7 rfl) rfl rfl ?_
 rintro _ T11 Lc11 ⟨rfl, N11q, q11⟩ X11
 have N11 := Fr.app N0 N11q
 refine w_ifnullNo X11 hx hby dh_5 ?_
 refine iC X11 hx hby dh_8 (v := 1) rfl ?_
 refine gO X11 hx hby dh_9 (pc' := 13) ?_
 refine r_val hP hlk hret X11 hx hby dh_13 rfl (Or.inl ⟨rfl, Or.inr (Or.inl rfl), _, rfl⟩) (by decide) ?_
 rw [q11]
 exact ⟨rfl, N11, rfl⟩
def Q_getE_012_3 (Z : State) (mp nd0 nd1 nd2 b0 b1 b2 bq : Addr) (sz mc : Int32) (h0 : Heap) (n0 : Nat) (v : Option Value) (h : Heap) (L : List Loc) : Prop := v = some .null ∧ Fr n0 L ∧ h = h0
theorem rm_getE_012_3 (l : Launch) (Z : State) (a0 : Array Value) (hw : oW a0 Z) (ws : List Jvm.Cond) (mp nd0 nd1 nd2 b0 b1 b2 bq : Addr) (sz mc : Int32) (h0 : Heap) (n0 : Nat) (Z0 : n0 ≤ h0.size) (O0 : Old Z n0 h0) (s0 : Exa Z h0 mp q_2) (s1 : Fld Z h0 mp q_2 q_12 q_1 (.ref nd1)) (s2 : Fld Z h0 mp q_2 q_13 "I" (.int sz)) (s3 : Fld Z h0 mp q_2 q_14 "I" (.int mc)) (s4 : Fld Z h0 mp q_2 q_10 q_11 .null) (s5 : Exa Z h0 nd0 q_0) (s6 : Fld Z h0 nd0 q_0 q_8 q_4 (.ref b0)) (s7 : Fld Z h0 nd0 q_0 q_6 q_1 .null) (s8 : Fld Z h0 nd0 q_0 q_9 q_1 .null) (s9 : Fld Z h0 nd0 q_0 q_5 q_1 (.ref nd1)) (s10 : Fld Z h0 nd0 q_0 q_7 "Z" (.int 0)) (s11 : Exa Z h0 nd1 q_0) (s12 : Fld Z h0 nd1 q_0 q_8 q_4 (.ref b1)) (s13 : Fld Z h0 nd1 q_0 q_6 q_1 (.ref nd0)) (s14 : Fld Z h0 nd1 q_0 q_9 q_1 (.ref nd2)) (s15 : Fld Z h0 nd1 q_0 q_5 q_1 .null) (s16 : Fld Z h0 nd1 q_0 q_7 "Z" (.int 1)) (s17 : Exa Z h0 nd2 q_0) (s18 : Fld Z h0 nd2 q_0 q_8 q_4 (.ref b2)) (s19 : Fld Z h0 nd2 q_0 q_6 q_1 .null) (s20 : Fld Z h0 nd2 q_0 q_9 q_1 .null) (s21 : Fld Z h0 nd2 q_0 q_5 q_1 (.ref nd1)) (s22 : Fld Z h0 nd2 q_0 q_7 "Z" (.int 0)) (B_b0 : own_Box Z b0 (0 : Int64)) (B_b1 : own_Box Z b1 (1 : Int64)) (B_b2 : own_Box Z b2 (2 : Int64)) (B_bq : own_Box Z bq (3 : Int64)) :
   oM l oY1 j2729_15 5 (some (.object q_0)) ws (own_R 3 0 0 60) #[(.ref mp), (.ref bq)] Z h0 (Q_getE_012_3 Z mp nd0 nd1 nd2 b0 b1 b2 bq sz mc h0 n0) := by
 refine own_open (n0 := n0) (cn := q_2) rfl (plainFor_of_name pn0) (L0 := #[(vR mp), (vR bq), .unset, .unset, .unset]) ?_
 intro p e s m below meth c s₁ P hx hby hml hown hnm X0 e0 N0 hlk hret hZ hP
 refine aA X0 hx hby da_0 rfl rfl ?_
 refine gF X0 hx hby hZ hown (tw_59 hw) Via.refl e0 s4 da_1 ?_
 intro T11 X11 e11
 refine w_ifnullYes X11 hx hby da_4 (pc' := 13) ?_
 refine aA X11 hx hby da_13 rfl rfl ?_
 refine c_stat 0 X11 hx hby hml hZ hown (tw_165 hw) (tw_25 hw) (tw_26 hw) (tw_27 hw) (rm_rnn l Z a0 hw [] bq h0 n0 Z0 ) e11 da_14 [(.ref bq)] [] (lenOf pd3 rfl) rfl rfl ?_
 rintro _ T12 Lc12 ⟨rfl, N12q, q12⟩ X12
 have N12 := Fr.app N0 N12q
 refine pO X12 hx hby da_17 rfl ?_
 refine aA X12 hx hby da_18 rfl rfl ?_
 obtain ⟨T13, X13, e13, st13⟩ := castY X12 hx hZ hown (tw_112 hw) q12 (Ins.of_exa (Exa.ext O0.2 B_bq.1) (tw_113 hw)) (g := (mkF m 19 #[(vR mp), (vR bq), .unset, .unset, .unset] [(.ref bq)])) rfl rfl (hb hby da_19)
 refine Go.by st13 ?_
 refine aS X13 hx hby da_22 rfl rfl ?_
 refine aA X13 hx hby da_23 rfl rfl ?_
 refine gF X13 hx hby hZ hown (tw_100 hw) Via.refl e13 s1 da_24 ?_
 intro T14 X14 e14
 refine aS X14 hx hby da_27 rfl rfl ?_
 refine aA X14 hx hby da_28 rfl rfl ?_
 refine w_ifnullNo X14 hx hby da_29 ?_
 refine aA X14 hx hby da_32 rfl rfl ?_
 refine aA X14 hx hby da_33 rfl rfl ?_
 refine gF X14 hx hby hZ hown (tw_166 hw) Via.refl e14 s12 da_34 ?_
 intro T15 X15 e15
 obtain ⟨cq16, kq16, q16a, q16b, q16c⟩ := isOf hZ e15 (Exa.ext O0.2 B_bq.1)
 obtain ⟨_, _, ⟨T16, L16, k16, n16⟩, -, X16, ⟨Lc16, hQ16, l16, y16, z16⟩, st16⟩ := X15.interfaceBack hx (xi := oY7) (y := oY4) hown (mvT hZ (tw_114 hw)) (mvT hZ (tw_115 hw)) (mvT hZ (tw_116 hw)) (mvT hZ (tw_117 hw)) (mvT hZ (tw_118 hw)) (mvT hZ (tw_119 hw)) (mvT hZ (tw_120 hw)) (mvT hZ (tw_113 hw)) (by decide) (backOf (W := 0) (rm_ct2_gt l Z a0 hw [] bq b1 (3 : Int64) (1 : Int64) h0 n0 Z0 O0 B_bq B_b1 (by decide : (1 : Int64) < (3 : Int64)) (by decide : ¬ (3 : Int64) < (1 : Int64)) (by decide : ¬ (3 : Int64) = (1 : Int64))) hZ (tw_121 hw) (tw_84 hw) (by decide) (by decide)) q16a q16b q16c (g := (mkF m 37 #[(vR mp), (vR bq), (vR bq), (vR nd1), .unset] [(.ref b1), (.ref bq)])) rfl (by rw [hml]; rfl) (Steps.refl _) (argsL := [(.ref b1)]) (rest := []) (lenOf pd0 rfl) rfl (by show 2 * 0 + _ ≤ _; exact Nat.le_of_eq rfl) (hb hby da_37) (fun _ _ => ⟨rfl, e15, (by decide : 0 + 0 ≤ _), (by decide : 0 + 0 ≤ _)⟩)
 dsimp only [Pt.U, Pt.locs, Pt.cells, Pt.slots] at X16 l16 y16 z16 st16 hQ16
 subst l16 y16 z16
 obtain ⟨rfl, N16q, q16⟩ := hQ16
 have N16 := Fr.app N12 N16q
 refine Go.by (fun t k => st16.trans k) ?_
 show oG p e below P m T16 42 #[(vR mp), (vR bq), (vR bq), (vR nd1), .unset] [(.int 1)]
 refine iT X16 hx hby da_42 rfl ?_
 refine iB X16 hx hby da_44 rfl ?_
 refine fY X16 hx hby da_46 (pc' := 57) (XT.i0_ge_t (by decide : ¬ (1 : Int32) < (0 : Int32))) ?_
 refine iB X16 hx hby da_57 rfl ?_
 refine fN X16 hx hby da_59 (XT.i0_le_f (by decide : (0 : Int32) < (1 : Int32))) ?_
 refine aA X16 hx hby da_62 rfl rfl ?_
 refine gF X16 hx hby hZ hown (tw_167 hw) Via.refl q16 s14 da_63 ?_
 intro T17 X17 e17
 refine aS X17 hx hby da_66 rfl rfl ?_
 refine gO X17 hx hby da_67 (pc' := 72) ?_
 refine gO X17 hx hby da_72 (pc' := 28) ?_
 refine aA X17 hx hby da_28 rfl rfl ?_
 refine w_ifnullNo X17 hx hby da_29 ?_
 refine aA X17 hx hby da_32 rfl rfl ?_
 refine aA X17 hx hby da_33 rfl rfl ?_
 refine gF X17 hx hby hZ hown (tw_166 hw) Via.refl e17 s18 da_34 ?_
 intro T18 X18 e18
 obtain ⟨cq19, kq19, q19a, q19b, q19c⟩ := isOf hZ e18 (Exa.ext O0.2 B_bq.1)
 obtain ⟨_, _, ⟨T19, L19, k19, n19⟩, -, X19, ⟨Lc19, hQ19, l19, y19, z19⟩, st19⟩ := X18.interfaceBack hx (xi := oY7) (y := oY4) hown (mvT hZ (tw_114 hw)) (mvT hZ (tw_115 hw)) (mvT hZ (tw_116 hw)) (mvT hZ (tw_117 hw)) (mvT hZ (tw_118 hw)) (mvT hZ (tw_119 hw)) (mvT hZ (tw_120 hw)) (mvT hZ (tw_113 hw)) (by decide) (backOf (W := 0) (rm_ct2_gt l Z a0 hw [] bq b2 (3 : Int64) (2 : Int64) h0 n0 Z0 O0 B_bq B_b2 (by decide : (2 : Int64) < (3 : Int64)) (by decide : ¬ (3 : Int64) < (2 : Int64)) (by decide : ¬ (3 : Int64) = (2 : Int64))) hZ (tw_121 hw) (tw_84 hw) (by decide) (by decide)) q19a q19b q19c (g := (mkF m 37 #[(vR mp), (vR bq), (vR bq), (vR nd2), (vI 1)] [(.ref b2), (.ref bq)])) rfl (by rw [hml]; rfl) (Steps.refl _) (argsL := [(.ref b2)]) (rest := []) (lenOf pd0 rfl) rfl (by show 2 * 0 + _ ≤ _; exact Nat.le_of_eq rfl) (hb hby da_37) (fun _ _ => ⟨rfl, e18, (by decide : 0 + 0 ≤ _), (by decide : 0 + 0 ≤ _)⟩)
 dsimp only [Pt.U, Pt.locs, Pt.cells, Pt.slots] at X19 l19 y19 z19 st19 hQ19
 subst l19 y19 z19
 obtain ⟨rfl, N19q, q19⟩ := hQ19
 have N19 := Fr.app N16 N19q
 refine Go.by (fun t k => st19.trans k) ?_
 show oG p e below P m T19 42 #[(vR mp), (vR bq), (vR bq), (vR nd2), (vI 1)] [(.int 1)]
 refine iT X19 hx hby da_42 rfl ?_
 refine iB X19 hx hby da_44 rfl ?_
 refine fY X19 hx hby da_46 (pc' := 57) (XT.i0_ge_t (by decide : ¬ (1 : Int32) < (0 : Int32))) ?_
 refine iB X19 hx hby da_57 rfl ?_
 refine fN X19 hx hby da_59 (XT.i0_le_f (by decide : (0 : Int32) < (1 : Int32))) ?_
 refine aA X19 hx hby da_62 rfl rfl ?_
 refine gF X19 hx hby hZ hown (tw_167 hw) Via.refl q19 s20 da_63 ?_
 intro T20 X20 e20
 refine aS X20 hx hby da_66 rfl rfl ?_
 refine gO X20 hx hby da_67 (pc' := 72) ?_
 refine gO X20 hx hby da_72 (pc' := 28) ?_
 refine aA X20 hx hby da_28 rfl rfl ?_
 refine w_ifnullYes X20 hx hby da_29 (pc' := 75) ?_
 refine w_aconstNull X20 hx hby da_75 ?_
 refine r_val hP hlk hret X20 hx hby da_76 rfl (Or.inr (Or.inr (Or.inr (Or.inr ⟨rfl, rfl, rfl⟩)))) (by decide) ?_
 rw [e20]
 exact ⟨rfl, N19, rfl⟩
def Q_hasK_012_3 (Z : State) (mp nd0 nd1 nd2 b0 b1 b2 bq : Addr) (sz mc : Int32) (h0 : Heap) (n0 : Nat) (v : Option Value) (h : Heap) (L : List Loc) : Prop := v = some (.int 0) ∧ Fr n0 L ∧ h = h0
theorem rm_hasK_012_3 (l : Launch) (Z : State) (a0 : Array Value) (hw : oW a0 Z) (ws : List Jvm.Cond) (mp nd0 nd1 nd2 b0 b1 b2 bq : Addr) (sz mc : Int32) (h0 : Heap) (n0 : Nat) (Z0 : n0 ≤ h0.size) (O0 : Old Z n0 h0) (s0 : Exa Z h0 mp q_2) (s1 : Fld Z h0 mp q_2 q_12 q_1 (.ref nd1)) (s2 : Fld Z h0 mp q_2 q_13 "I" (.int sz)) (s3 : Fld Z h0 mp q_2 q_14 "I" (.int mc)) (s4 : Fld Z h0 mp q_2 q_10 q_11 .null) (s5 : Exa Z h0 nd0 q_0) (s6 : Fld Z h0 nd0 q_0 q_8 q_4 (.ref b0)) (s7 : Fld Z h0 nd0 q_0 q_6 q_1 .null) (s8 : Fld Z h0 nd0 q_0 q_9 q_1 .null) (s9 : Fld Z h0 nd0 q_0 q_5 q_1 (.ref nd1)) (s10 : Fld Z h0 nd0 q_0 q_7 "Z" (.int 0)) (s11 : Exa Z h0 nd1 q_0) (s12 : Fld Z h0 nd1 q_0 q_8 q_4 (.ref b1)) (s13 : Fld Z h0 nd1 q_0 q_6 q_1 (.ref nd0)) (s14 : Fld Z h0 nd1 q_0 q_9 q_1 (.ref nd2)) (s15 : Fld Z h0 nd1 q_0 q_5 q_1 .null) (s16 : Fld Z h0 nd1 q_0 q_7 "Z" (.int 1)) (s17 : Exa Z h0 nd2 q_0) (s18 : Fld Z h0 nd2 q_0 q_8 q_4 (.ref b2)) (s19 : Fld Z h0 nd2 q_0 q_6 q_1 .null) (s20 : Fld Z h0 nd2 q_0 q_9 q_1 .null) (s21 : Fld Z h0 nd2 q_0 q_5 q_1 (.ref nd1)) (s22 : Fld Z h0 nd2 q_0 q_7 "Z" (.int 0)) (B_b0 : own_Box Z b0 (0 : Int64)) (B_b1 : own_Box Z b1 (1 : Int64)) (B_b2 : own_Box Z b2 (2 : Int64)) (B_bq : own_Box Z bq (3 : Int64)) :
   oM l oY0 j2729_6 2 (some .boolean) ws (own_R 4 0 0 80) #[(.ref mp), (.ref bq)] Z h0 (Q_hasK_012_3 Z mp nd0 nd1 nd2 b0 b1 b2 bq sz mc h0 n0) := by
 refine own_open (n0 := n0) (cn := q_2) rfl (plainFor_of_name pn0) (L0 := #[(vR mp), (vR bq)]) ?_
 intro p e s m below meth c s₁ P hx hby hml hown hnm X0 e0 N0 hlk hret hZ hP
 refine aA X0 hx hby dh_0 rfl rfl ?_
 refine aA X0 hx hby dh_1 rfl rfl ?_
 refine c_virt 0 X0 hx hby hml hZ hown (tw_160 hw) (tw_161 hw) (tw_163 hw) (tw_162 hw) (tw_164 hw) (tw_44 hw) (rm_getE_012_3 l Z a0 hw [] mp nd0 nd1 nd2 b0 b1 b2 bq sz mc h0 n0 Z0 O0 s0 s1 s2 s3 s4 s5 s6 s7 s8 s9 s10 s11 s12 s13 s14 s15 s16 s17 s18 s19 s20 s21 s22 B_b0 B_b1 B_b2 B_bq) e0 s0 dh_2 [(.ref bq)] [] (lenOf pd7 rfl) rfl rfl ?_
 rintro _ T11 Lc11 ⟨rfl, N11q, q11⟩ X11
 have N11 := Fr.app N0 N11q
 refine w_ifnullYes X11 hx hby dh_5 (pc' := 12) ?_
 refine iC X11 hx hby dh_12 (v := 0) rfl ?_
 refine r_val hP hlk hret X11 hx hby dh_13 rfl (Or.inl ⟨rfl, Or.inr (Or.inl rfl), _, rfl⟩) (by decide) ?_
 rw [q11]
 exact ⟨rfl, N11, rfl⟩
def Q_getE_012_4 (Z : State) (mp nd0 nd1 nd2 b0 b1 b2 bq : Addr) (sz mc : Int32) (h0 : Heap) (n0 : Nat) (v : Option Value) (h : Heap) (L : List Loc) : Prop := v = some .null ∧ Fr n0 L ∧ h = h0
theorem rm_getE_012_4 (l : Launch) (Z : State) (a0 : Array Value) (hw : oW a0 Z) (ws : List Jvm.Cond) (mp nd0 nd1 nd2 b0 b1 b2 bq : Addr) (sz mc : Int32) (h0 : Heap) (n0 : Nat) (Z0 : n0 ≤ h0.size) (O0 : Old Z n0 h0) (s0 : Exa Z h0 mp q_2) (s1 : Fld Z h0 mp q_2 q_12 q_1 (.ref nd1)) (s2 : Fld Z h0 mp q_2 q_13 "I" (.int sz)) (s3 : Fld Z h0 mp q_2 q_14 "I" (.int mc)) (s4 : Fld Z h0 mp q_2 q_10 q_11 .null) (s5 : Exa Z h0 nd0 q_0) (s6 : Fld Z h0 nd0 q_0 q_8 q_4 (.ref b0)) (s7 : Fld Z h0 nd0 q_0 q_6 q_1 .null) (s8 : Fld Z h0 nd0 q_0 q_9 q_1 .null) (s9 : Fld Z h0 nd0 q_0 q_5 q_1 (.ref nd1)) (s10 : Fld Z h0 nd0 q_0 q_7 "Z" (.int 0)) (s11 : Exa Z h0 nd1 q_0) (s12 : Fld Z h0 nd1 q_0 q_8 q_4 (.ref b1)) (s13 : Fld Z h0 nd1 q_0 q_6 q_1 (.ref nd0)) (s14 : Fld Z h0 nd1 q_0 q_9 q_1 (.ref nd2)) (s15 : Fld Z h0 nd1 q_0 q_5 q_1 .null) (s16 : Fld Z h0 nd1 q_0 q_7 "Z" (.int 1)) (s17 : Exa Z h0 nd2 q_0) (s18 : Fld Z h0 nd2 q_0 q_8 q_4 (.ref b2)) (s19 : Fld Z h0 nd2 q_0 q_6 q_1 .null) (s20 : Fld Z h0 nd2 q_0 q_9 q_1 .null) (s21 : Fld Z h0 nd2 q_0 q_5 q_1 (.ref nd1)) (s22 : Fld Z h0 nd2 q_0 q_7 "Z" (.int 0)) (B_b0 : own_Box Z b0 (0 : Int64)) (B_b1 : own_Box Z b1 (1 : Int64)) (B_b2 : own_Box Z b2 (2 : Int64)) (B_bq : own_Box Z bq (4 : Int64)) :
   oM l oY1 j2729_15 5 (some (.object q_0)) ws (own_R 3 0 0 60) #[(.ref mp), (.ref bq)] Z h0 (Q_getE_012_4 Z mp nd0 nd1 nd2 b0 b1 b2 bq sz mc h0 n0) := by
 refine own_open (n0 := n0) (cn := q_2) rfl (plainFor_of_name pn0) (L0 := #[(vR mp), (vR bq), .unset, .unset, .unset]) ?_
 intro p e s m below meth c s₁ P hx hby hml hown hnm X0 e0 N0 hlk hret hZ hP
 refine aA X0 hx hby da_0 rfl rfl ?_
 refine gF X0 hx hby hZ hown (tw_59 hw) Via.refl e0 s4 da_1 ?_
 intro T11 X11 e11
 refine w_ifnullYes X11 hx hby da_4 (pc' := 13) ?_
 refine aA X11 hx hby da_13 rfl rfl ?_
 refine c_stat 0 X11 hx hby hml hZ hown (tw_165 hw) (tw_25 hw) (tw_26 hw) (tw_27 hw) (rm_rnn l Z a0 hw [] bq h0 n0 Z0 ) e11 da_14 [(.ref bq)] [] (lenOf pd3 rfl) rfl rfl ?_
 rintro _ T12 Lc12 ⟨rfl, N12q, q12⟩ X12
 have N12 := Fr.app N0 N12q
 refine pO X12 hx hby da_17 rfl ?_
 refine aA X12 hx hby da_18 rfl rfl ?_
 obtain ⟨T13, X13, e13, st13⟩ := castY X12 hx hZ hown (tw_112 hw) q12 (Ins.of_exa (Exa.ext O0.2 B_bq.1) (tw_113 hw)) (g := (mkF m 19 #[(vR mp), (vR bq), .unset, .unset, .unset] [(.ref bq)])) rfl rfl (hb hby da_19)
 refine Go.by st13 ?_
 refine aS X13 hx hby da_22 rfl rfl ?_
 refine aA X13 hx hby da_23 rfl rfl ?_
 refine gF X13 hx hby hZ hown (tw_100 hw) Via.refl e13 s1 da_24 ?_
 intro T14 X14 e14
 refine aS X14 hx hby da_27 rfl rfl ?_
 refine aA X14 hx hby da_28 rfl rfl ?_
 refine w_ifnullNo X14 hx hby da_29 ?_
 refine aA X14 hx hby da_32 rfl rfl ?_
 refine aA X14 hx hby da_33 rfl rfl ?_
 refine gF X14 hx hby hZ hown (tw_166 hw) Via.refl e14 s12 da_34 ?_
 intro T15 X15 e15
 obtain ⟨cq16, kq16, q16a, q16b, q16c⟩ := isOf hZ e15 (Exa.ext O0.2 B_bq.1)
 obtain ⟨_, _, ⟨T16, L16, k16, n16⟩, -, X16, ⟨Lc16, hQ16, l16, y16, z16⟩, st16⟩ := X15.interfaceBack hx (xi := oY7) (y := oY4) hown (mvT hZ (tw_114 hw)) (mvT hZ (tw_115 hw)) (mvT hZ (tw_116 hw)) (mvT hZ (tw_117 hw)) (mvT hZ (tw_118 hw)) (mvT hZ (tw_119 hw)) (mvT hZ (tw_120 hw)) (mvT hZ (tw_113 hw)) (by decide) (backOf (W := 0) (rm_ct2_gt l Z a0 hw [] bq b1 (4 : Int64) (1 : Int64) h0 n0 Z0 O0 B_bq B_b1 (by decide : (1 : Int64) < (4 : Int64)) (by decide : ¬ (4 : Int64) < (1 : Int64)) (by decide : ¬ (4 : Int64) = (1 : Int64))) hZ (tw_121 hw) (tw_84 hw) (by decide) (by decide)) q16a q16b q16c (g := (mkF m 37 #[(vR mp), (vR bq), (vR bq), (vR nd1), .unset] [(.ref b1), (.ref bq)])) rfl (by rw [hml]; rfl) (Steps.refl _) (argsL := [(.ref b1)]) (rest := []) (lenOf pd0 rfl) rfl (by show 2 * 0 + _ ≤ _; exact Nat.le_of_eq rfl) (hb hby da_37) (fun _ _ => ⟨rfl, e15, (by decide : 0 + 0 ≤ _), (by decide : 0 + 0 ≤ _)⟩)
 dsimp only [Pt.U, Pt.locs, Pt.cells, Pt.slots] at X16 l16 y16 z16 st16 hQ16
 subst l16 y16 z16
 obtain ⟨rfl, N16q, q16⟩ := hQ16
 have N16 := Fr.app N12 N16q
 refine Go.by (fun t k => st16.trans k) ?_
 show oG p e below P m T16 42 #[(vR mp), (vR bq), (vR bq), (vR nd1), .unset] [(.int 1)]
 refine iT X16 hx hby da_42 rfl ?_
 refine iB X16 hx hby da_44 rfl ?_
 refine fY X16 hx hby da_46 (pc' := 57) (XT.i0_ge_t (by decide : ¬ (1 : Int32) < (0 : Int32))) ?_
 refine iB X16 hx hby da_57 rfl ?_
 refine fN X16 hx hby da_59 (XT.i0_le_f (by decide : (0 : Int32) < (1 : Int32))) ?_
 refine aA X16 hx hby da_62 rfl rfl ?_
 refine gF X16 hx hby hZ hown (tw_167 hw) Via.refl q16 s14 da_63 ?_
 intro T17 X17 e17
 refine aS X17 hx hby da_66 rfl rfl ?_
 refine gO X17 hx hby da_67 (pc' := 72) ?_
 refine gO X17 hx hby da_72 (pc' := 28) ?_
 refine aA X17 hx hby da_28 rfl rfl ?_
 refine w_ifnullNo X17 hx hby da_29 ?_
 refine aA X17 hx hby da_32 rfl rfl ?_
 refine aA X17 hx hby da_33 rfl rfl ?_
 refine gF X17 hx hby hZ hown (tw_166 hw) Via.refl e17 s18 da_34 ?_
 intro T18 X18 e18
 obtain ⟨cq19, kq19, q19a, q19b, q19c⟩ := isOf hZ e18 (Exa.ext O0.2 B_bq.1)
 obtain ⟨_, _, ⟨T19, L19, k19, n19⟩, -, X19, ⟨Lc19, hQ19, l19, y19, z19⟩, st19⟩ := X18.interfaceBack hx (xi := oY7) (y := oY4) hown (mvT hZ (tw_114 hw)) (mvT hZ (tw_115 hw)) (mvT hZ (tw_116 hw)) (mvT hZ (tw_117 hw)) (mvT hZ (tw_118 hw)) (mvT hZ (tw_119 hw)) (mvT hZ (tw_120 hw)) (mvT hZ (tw_113 hw)) (by decide) (backOf (W := 0) (rm_ct2_gt l Z a0 hw [] bq b2 (4 : Int64) (2 : Int64) h0 n0 Z0 O0 B_bq B_b2 (by decide : (2 : Int64) < (4 : Int64)) (by decide : ¬ (4 : Int64) < (2 : Int64)) (by decide : ¬ (4 : Int64) = (2 : Int64))) hZ (tw_121 hw) (tw_84 hw) (by decide) (by decide)) q19a q19b q19c (g := (mkF m 37 #[(vR mp), (vR bq), (vR bq), (vR nd2), (vI 1)] [(.ref b2), (.ref bq)])) rfl (by rw [hml]; rfl) (Steps.refl _) (argsL := [(.ref b2)]) (rest := []) (lenOf pd0 rfl) rfl (by show 2 * 0 + _ ≤ _; exact Nat.le_of_eq rfl) (hb hby da_37) (fun _ _ => ⟨rfl, e18, (by decide : 0 + 0 ≤ _), (by decide : 0 + 0 ≤ _)⟩)
 dsimp only [Pt.U, Pt.locs, Pt.cells, Pt.slots] at X19 l19 y19 z19 st19 hQ19
 subst l19 y19 z19
 obtain ⟨rfl, N19q, q19⟩ := hQ19
 have N19 := Fr.app N16 N19q
 refine Go.by (fun t k => st19.trans k) ?_
 show oG p e below P m T19 42 #[(vR mp), (vR bq), (vR bq), (vR nd2), (vI 1)] [(.int 1)]
 refine iT X19 hx hby da_42 rfl ?_
 refine iB X19 hx hby da_44 rfl ?_
 refine fY X19 hx hby da_46 (pc' := 57) (XT.i0_ge_t (by decide : ¬ (1 : Int32) < (0 : Int32))) ?_
 refine iB X19 hx hby da_57 rfl ?_
 refine fN X19 hx hby da_59 (XT.i0_le_f (by decide : (0 : Int32) < (1 : Int32))) ?_
 refine aA X19 hx hby da_62 rfl rfl ?_
 refine gF X19 hx hby hZ hown (tw_167 hw) Via.refl q19 s20 da_63 ?_
 intro T20 X20 e20
 refine aS X20 hx hby da_66 rfl rfl ?_
 refine gO X20 hx hby da_67 (pc' := 72) ?_
 refine gO X20 hx hby da_72 (pc' := 28) ?_
 refine aA X20 hx hby da_28 rfl rfl ?_
 refine w_ifnullYes X20 hx hby da_29 (pc' := 75) ?_
 refine w_aconstNull X20 hx hby da_75 ?_
 refine r_val hP hlk hret X20 hx hby da_76 rfl (Or.inr (Or.inr (Or.inr (Or.inr ⟨rfl, rfl, rfl⟩)))) (by decide) ?_
 rw [e20]
 exact ⟨rfl, N19, rfl⟩
def Q_hasK_012_4 (Z : State) (mp nd0 nd1 nd2 b0 b1 b2 bq : Addr) (sz mc : Int32) (h0 : Heap) (n0 : Nat) (v : Option Value) (h : Heap) (L : List Loc) : Prop := v = some (.int 0) ∧ Fr n0 L ∧ h = h0
theorem rm_hasK_012_4 (l : Launch) (Z : State) (a0 : Array Value) (hw : oW a0 Z) (ws : List Jvm.Cond) (mp nd0 nd1 nd2 b0 b1 b2 bq : Addr) (sz mc : Int32) (h0 : Heap) (n0 : Nat) (Z0 : n0 ≤ h0.size) (O0 : Old Z n0 h0) (s0 : Exa Z h0 mp q_2) (s1 : Fld Z h0 mp q_2 q_12 q_1 (.ref nd1)) (s2 : Fld Z h0 mp q_2 q_13 "I" (.int sz)) (s3 : Fld Z h0 mp q_2 q_14 "I" (.int mc)) (s4 : Fld Z h0 mp q_2 q_10 q_11 .null) (s5 : Exa Z h0 nd0 q_0) (s6 : Fld Z h0 nd0 q_0 q_8 q_4 (.ref b0)) (s7 : Fld Z h0 nd0 q_0 q_6 q_1 .null) (s8 : Fld Z h0 nd0 q_0 q_9 q_1 .null) (s9 : Fld Z h0 nd0 q_0 q_5 q_1 (.ref nd1)) (s10 : Fld Z h0 nd0 q_0 q_7 "Z" (.int 0)) (s11 : Exa Z h0 nd1 q_0) (s12 : Fld Z h0 nd1 q_0 q_8 q_4 (.ref b1)) (s13 : Fld Z h0 nd1 q_0 q_6 q_1 (.ref nd0)) (s14 : Fld Z h0 nd1 q_0 q_9 q_1 (.ref nd2)) (s15 : Fld Z h0 nd1 q_0 q_5 q_1 .null) (s16 : Fld Z h0 nd1 q_0 q_7 "Z" (.int 1)) (s17 : Exa Z h0 nd2 q_0) (s18 : Fld Z h0 nd2 q_0 q_8 q_4 (.ref b2)) (s19 : Fld Z h0 nd2 q_0 q_6 q_1 .null) (s20 : Fld Z h0 nd2 q_0 q_9 q_1 .null) (s21 : Fld Z h0 nd2 q_0 q_5 q_1 (.ref nd1)) (s22 : Fld Z h0 nd2 q_0 q_7 "Z" (.int 0)) (B_b0 : own_Box Z b0 (0 : Int64)) (B_b1 : own_Box Z b1 (1 : Int64)) (B_b2 : own_Box Z b2 (2 : Int64)) (B_bq : own_Box Z bq (4 : Int64)) :
   oM l oY0 j2729_6 2 (some .boolean) ws (own_R 4 0 0 80) #[(.ref mp), (.ref bq)] Z h0 (Q_hasK_012_4 Z mp nd0 nd1 nd2 b0 b1 b2 bq sz mc h0 n0) := by
 refine own_open (n0 := n0) (cn := q_2) rfl (plainFor_of_name pn0) (L0 := #[(vR mp), (vR bq)]) ?_
 intro p e s m below meth c s₁ P hx hby hml hown hnm X0 e0 N0 hlk hret hZ hP
 refine aA X0 hx hby dh_0 rfl rfl ?_
 refine aA X0 hx hby dh_1 rfl rfl ?_
 refine c_virt 0 X0 hx hby hml hZ hown (tw_160 hw) (tw_161 hw) (tw_163 hw) (tw_162 hw) (tw_164 hw) (tw_44 hw) (rm_getE_012_4 l Z a0 hw [] mp nd0 nd1 nd2 b0 b1 b2 bq sz mc h0 n0 Z0 O0 s0 s1 s2 s3 s4 s5 s6 s7 s8 s9 s10 s11 s12 s13 s14 s15 s16 s17 s18 s19 s20 s21 s22 B_b0 B_b1 B_b2 B_bq) e0 s0 dh_2 [(.ref bq)] [] (lenOf pd7 rfl) rfl rfl ?_
 rintro _ T11 Lc11 ⟨rfl, N11q, q11⟩ X11
 have N11 := Fr.app N0 N11q
 refine w_ifnullYes X11 hx hby dh_5 (pc' := 12) ?_
 refine iC X11 hx hby dh_12 (v := 0) rfl ?_
 refine r_val hP hlk hret X11 hx hby dh_13 rfl (Or.inl ⟨rfl, Or.inr (Or.inl rfl), _, rfl⟩) (by decide) ?_
 rw [q11]
 exact ⟨rfl, N11, rfl⟩
def Q_getE_013_2 (Z : State) (mp nd0 nd1 nd2 b0 b1 b2 bq : Addr) (sz mc : Int32) (h0 : Heap) (n0 : Nat) (v : Option Value) (h : Heap) (L : List Loc) : Prop := v = some .null ∧ Fr n0 L ∧ h = h0
theorem rm_getE_013_2 (l : Launch) (Z : State) (a0 : Array Value) (hw : oW a0 Z) (ws : List Jvm.Cond) (mp nd0 nd1 nd2 b0 b1 b2 bq : Addr) (sz mc : Int32) (h0 : Heap) (n0 : Nat) (Z0 : n0 ≤ h0.size) (O0 : Old Z n0 h0) (s0 : Exa Z h0 mp q_2) (s1 : Fld Z h0 mp q_2 q_12 q_1 (.ref nd1)) (s2 : Fld Z h0 mp q_2 q_13 "I" (.int sz)) (s3 : Fld Z h0 mp q_2 q_14 "I" (.int mc)) (s4 : Fld Z h0 mp q_2 q_10 q_11 .null) (s5 : Exa Z h0 nd0 q_0) (s6 : Fld Z h0 nd0 q_0 q_8 q_4 (.ref b0)) (s7 : Fld Z h0 nd0 q_0 q_6 q_1 .null) (s8 : Fld Z h0 nd0 q_0 q_9 q_1 .null) (s9 : Fld Z h0 nd0 q_0 q_5 q_1 (.ref nd1)) (s10 : Fld Z h0 nd0 q_0 q_7 "Z" (.int 0)) (s11 : Exa Z h0 nd1 q_0) (s12 : Fld Z h0 nd1 q_0 q_8 q_4 (.ref b1)) (s13 : Fld Z h0 nd1 q_0 q_6 q_1 (.ref nd0)) (s14 : Fld Z h0 nd1 q_0 q_9 q_1 (.ref nd2)) (s15 : Fld Z h0 nd1 q_0 q_5 q_1 .null) (s16 : Fld Z h0 nd1 q_0 q_7 "Z" (.int 1)) (s17 : Exa Z h0 nd2 q_0) (s18 : Fld Z h0 nd2 q_0 q_8 q_4 (.ref b2)) (s19 : Fld Z h0 nd2 q_0 q_6 q_1 .null) (s20 : Fld Z h0 nd2 q_0 q_9 q_1 .null) (s21 : Fld Z h0 nd2 q_0 q_5 q_1 (.ref nd1)) (s22 : Fld Z h0 nd2 q_0 q_7 "Z" (.int 0)) (B_b0 : own_Box Z b0 (0 : Int64)) (B_b1 : own_Box Z b1 (1 : Int64)) (B_b2 : own_Box Z b2 (3 : Int64)) (B_bq : own_Box Z bq (2 : Int64)) :
   oM l oY1 j2729_15 5 (some (.object q_0)) ws (own_R 3 0 0 60) #[(.ref mp), (.ref bq)] Z h0 (Q_getE_013_2 Z mp nd0 nd1 nd2 b0 b1 b2 bq sz mc h0 n0) := by
 refine own_open (n0 := n0) (cn := q_2) rfl (plainFor_of_name pn0) (L0 := #[(vR mp), (vR bq), .unset, .unset, .unset]) ?_
 intro p e s m below meth c s₁ P hx hby hml hown hnm X0 e0 N0 hlk hret hZ hP
 refine aA X0 hx hby da_0 rfl rfl ?_
 refine gF X0 hx hby hZ hown (tw_59 hw) Via.refl e0 s4 da_1 ?_
 intro T11 X11 e11
 refine w_ifnullYes X11 hx hby da_4 (pc' := 13) ?_
 refine aA X11 hx hby da_13 rfl rfl ?_
 refine c_stat 0 X11 hx hby hml hZ hown (tw_165 hw) (tw_25 hw) (tw_26 hw) (tw_27 hw) (rm_rnn l Z a0 hw [] bq h0 n0 Z0 ) e11 da_14 [(.ref bq)] [] (lenOf pd3 rfl) rfl rfl ?_
 rintro _ T12 Lc12 ⟨rfl, N12q, q12⟩ X12
 have N12 := Fr.app N0 N12q
 refine pO X12 hx hby da_17 rfl ?_
 refine aA X12 hx hby da_18 rfl rfl ?_
 obtain ⟨T13, X13, e13, st13⟩ := castY X12 hx hZ hown (tw_112 hw) q12 (Ins.of_exa (Exa.ext O0.2 B_bq.1) (tw_113 hw)) (g := (mkF m 19 #[(vR mp), (vR bq), .unset, .unset, .unset] [(.ref bq)])) rfl rfl (hb hby da_19)
 refine Go.by st13 ?_
 refine aS X13 hx hby da_22 rfl rfl ?_
 refine aA X13 hx hby da_23 rfl rfl ?_
 refine gF X13 hx hby hZ hown (tw_100 hw) Via.refl e13 s1 da_24 ?_
 intro T14 X14 e14
 refine aS X14 hx hby da_27 rfl rfl ?_
 refine aA X14 hx hby da_28 rfl rfl ?_
 refine w_ifnullNo X14 hx hby da_29 ?_
 refine aA X14 hx hby da_32 rfl rfl ?_
 refine aA X14 hx hby da_33 rfl rfl ?_
 refine gF X14 hx hby hZ hown (tw_166 hw) Via.refl e14 s12 da_34 ?_
 intro T15 X15 e15
 obtain ⟨cq16, kq16, q16a, q16b, q16c⟩ := isOf hZ e15 (Exa.ext O0.2 B_bq.1)
 obtain ⟨_, _, ⟨T16, L16, k16, n16⟩, -, X16, ⟨Lc16, hQ16, l16, y16, z16⟩, st16⟩ := X15.interfaceBack hx (xi := oY7) (y := oY4) hown (mvT hZ (tw_114 hw)) (mvT hZ (tw_115 hw)) (mvT hZ (tw_116 hw)) (mvT hZ (tw_117 hw)) (mvT hZ (tw_118 hw)) (mvT hZ (tw_119 hw)) (mvT hZ (tw_120 hw)) (mvT hZ (tw_113 hw)) (by decide) (backOf (W := 0) (rm_ct2_gt l Z a0 hw [] bq b1 (2 : Int64) (1 : Int64) h0 n0 Z0 O0 B_bq B_b1 (by decide : (1 : Int64) < (2 : Int64)) (by decide : ¬ (2 : Int64) < (1 : Int64)) (by decide : ¬ (2 : Int64) = (1 : Int64))) hZ (tw_121 hw) (tw_84 hw) (by decide) (by decide)) q16a q16b q16c (g := (mkF m 37 #[(vR mp), (vR bq), (vR bq), (vR nd1), .unset] [(.ref b1), (.ref bq)])) rfl (by rw [hml]; rfl) (Steps.refl _) (argsL := [(.ref b1)]) (rest := []) (lenOf pd0 rfl) rfl (by show 2 * 0 + _ ≤ _; exact Nat.le_of_eq rfl) (hb hby da_37) (fun _ _ => ⟨rfl, e15, (by decide : 0 + 0 ≤ _), (by decide : 0 + 0 ≤ _)⟩)
 dsimp only [Pt.U, Pt.locs, Pt.cells, Pt.slots] at X16 l16 y16 z16 st16 hQ16
 subst l16 y16 z16
 obtain ⟨rfl, N16q, q16⟩ := hQ16
 have N16 := Fr.app N12 N16q
 refine Go.by (fun t k => st16.trans k) ?_
 show oG p e below P m T16 42 #[(vR mp), (vR bq), (vR bq), (vR nd1), .unset] [(.int 1)]
 refine iT X16 hx hby da_42 rfl ?_
 refine iB X16 hx hby da_44 rfl ?_
 refine fY X16 hx hby da_46 (pc' := 57) (XT.i0_ge_t (by decide : ¬ (1 : Int32) < (0 : Int32))) ?_
 refine iB X16 hx hby da_57 rfl ?_
 refine fN X16 hx hby da_59 (XT.i0_le_f (by decide : (0 : Int32) < (1 : Int32))) ?_
 refine aA X16 hx hby da_62 rfl rfl ?_
 refine gF X16 hx hby hZ hown (tw_167 hw) Via.refl q16 s14 da_63 ?_
 intro T17 X17 e17
 refine aS X17 hx hby da_66 rfl rfl ?_
 refine gO X17 hx hby da_67 (pc' := 72) ?_
 refine gO X17 hx hby da_72 (pc' := 28) ?_
 refine aA X17 hx hby da_28 rfl rfl ?_
 refine w_ifnullNo X17 hx hby da_29 ?_
 refine aA X17 hx hby da_32 rfl rfl ?_
 refine aA X17 hx hby da_33 rfl rfl ?_
 refine gF X17 hx hby hZ hown (tw_166 hw) Via.refl e17 s18 da_34 ?_
 intro T18 X18 e18
 obtain ⟨cq19, kq19, q19a, q19b, q19c⟩ := isOf hZ e18 (Exa.ext O0.2 B_bq.1)
 obtain ⟨_, _, ⟨T19, L19, k19, n19⟩, -, X19, ⟨Lc19, hQ19, l19, y19, z19⟩, st19⟩ := X18.interfaceBack hx (xi := oY7) (y := oY4) hown (mvT hZ (tw_114 hw)) (mvT hZ (tw_115 hw)) (mvT hZ (tw_116 hw)) (mvT hZ (tw_117 hw)) (mvT hZ (tw_118 hw)) (mvT hZ (tw_119 hw)) (mvT hZ (tw_120 hw)) (mvT hZ (tw_113 hw)) (by decide) (backOf (W := 0) (rm_ct2_lt l Z a0 hw [] bq b2 (2 : Int64) (3 : Int64) h0 n0 Z0 O0 B_bq B_b2 (by decide : (2 : Int64) < (3 : Int64))) hZ (tw_121 hw) (tw_84 hw) (by decide) (by decide)) q19a q19b q19c (g := (mkF m 37 #[(vR mp), (vR bq), (vR bq), (vR nd2), (vI 1)] [(.ref b2), (.ref bq)])) rfl (by rw [hml]; rfl) (Steps.refl _) (argsL := [(.ref b2)]) (rest := []) (lenOf pd0 rfl) rfl (by show 2 * 0 + _ ≤ _; exact Nat.le_of_eq rfl) (hb hby da_37) (fun _ _ => ⟨rfl, e18, (by decide : 0 + 0 ≤ _), (by decide : 0 + 0 ≤ _)⟩)
 dsimp only [Pt.U, Pt.locs, Pt.cells, Pt.slots] at X19 l19 y19 z19 st19 hQ19
 subst l19 y19 z19
 obtain ⟨rfl, N19q, q19⟩ := hQ19
 have N19 := Fr.app N16 N19q
 refine Go.by (fun t k => st19.trans k) ?_
 show oG p e below P m T19 42 #[(vR mp), (vR bq), (vR bq), (vR nd2), (vI 1)] [(.int (-1))]
 refine iT X19 hx hby da_42 rfl ?_
 refine iB X19 hx hby da_44 rfl ?_
 refine fN X19 hx hby da_46 (XT.i0_ge_f (by decide : (-1 : Int32) < (0 : Int32))) ?_
 refine aA X19 hx hby da_49 rfl rfl ?_
 refine gF X19 hx hby hZ hown (tw_209 hw) Via.refl q19 s19 da_50 ?_
 intro T20 X20 e20
 refine aS X20 hx hby da_53 rfl rfl ?_
 refine gO X20 hx hby da_54 (pc' := 72) ?_
 refine gO X20 hx hby da_72 (pc' := 28) ?_
 refine aA X20 hx hby da_28 rfl rfl ?_
 refine w_ifnullYes X20 hx hby da_29 (pc' := 75) ?_
 refine w_aconstNull X20 hx hby da_75 ?_
 refine r_val hP hlk hret X20 hx hby da_76 rfl (Or.inr (Or.inr (Or.inr (Or.inr ⟨rfl, rfl, rfl⟩)))) (by decide) ?_
 rw [e20]
 exact ⟨rfl, N19, rfl⟩
def Q_hasK_013_2 (Z : State) (mp nd0 nd1 nd2 b0 b1 b2 bq : Addr) (sz mc : Int32) (h0 : Heap) (n0 : Nat) (v : Option Value) (h : Heap) (L : List Loc) : Prop := v = some (.int 0) ∧ Fr n0 L ∧ h = h0
theorem rm_hasK_013_2 (l : Launch) (Z : State) (a0 : Array Value) (hw : oW a0 Z) (ws : List Jvm.Cond) (mp nd0 nd1 nd2 b0 b1 b2 bq : Addr) (sz mc : Int32) (h0 : Heap) (n0 : Nat) (Z0 : n0 ≤ h0.size) (O0 : Old Z n0 h0) (s0 : Exa Z h0 mp q_2) (s1 : Fld Z h0 mp q_2 q_12 q_1 (.ref nd1)) (s2 : Fld Z h0 mp q_2 q_13 "I" (.int sz)) (s3 : Fld Z h0 mp q_2 q_14 "I" (.int mc)) (s4 : Fld Z h0 mp q_2 q_10 q_11 .null) (s5 : Exa Z h0 nd0 q_0) (s6 : Fld Z h0 nd0 q_0 q_8 q_4 (.ref b0)) (s7 : Fld Z h0 nd0 q_0 q_6 q_1 .null) (s8 : Fld Z h0 nd0 q_0 q_9 q_1 .null) (s9 : Fld Z h0 nd0 q_0 q_5 q_1 (.ref nd1)) (s10 : Fld Z h0 nd0 q_0 q_7 "Z" (.int 0)) (s11 : Exa Z h0 nd1 q_0) (s12 : Fld Z h0 nd1 q_0 q_8 q_4 (.ref b1)) (s13 : Fld Z h0 nd1 q_0 q_6 q_1 (.ref nd0)) (s14 : Fld Z h0 nd1 q_0 q_9 q_1 (.ref nd2)) (s15 : Fld Z h0 nd1 q_0 q_5 q_1 .null) (s16 : Fld Z h0 nd1 q_0 q_7 "Z" (.int 1)) (s17 : Exa Z h0 nd2 q_0) (s18 : Fld Z h0 nd2 q_0 q_8 q_4 (.ref b2)) (s19 : Fld Z h0 nd2 q_0 q_6 q_1 .null) (s20 : Fld Z h0 nd2 q_0 q_9 q_1 .null) (s21 : Fld Z h0 nd2 q_0 q_5 q_1 (.ref nd1)) (s22 : Fld Z h0 nd2 q_0 q_7 "Z" (.int 0)) (B_b0 : own_Box Z b0 (0 : Int64)) (B_b1 : own_Box Z b1 (1 : Int64)) (B_b2 : own_Box Z b2 (3 : Int64)) (B_bq : own_Box Z bq (2 : Int64)) :
   oM l oY0 j2729_6 2 (some .boolean) ws (own_R 4 0 0 80) #[(.ref mp), (.ref bq)] Z h0 (Q_hasK_013_2 Z mp nd0 nd1 nd2 b0 b1 b2 bq sz mc h0 n0) := by
 refine own_open (n0 := n0) (cn := q_2) rfl (plainFor_of_name pn0) (L0 := #[(vR mp), (vR bq)]) ?_
 intro p e s m below meth c s₁ P hx hby hml hown hnm X0 e0 N0 hlk hret hZ hP
 refine aA X0 hx hby dh_0 rfl rfl ?_
 refine aA X0 hx hby dh_1 rfl rfl ?_
 refine c_virt 0 X0 hx hby hml hZ hown (tw_160 hw) (tw_161 hw) (tw_163 hw) (tw_162 hw) (tw_164 hw) (tw_44 hw) (rm_getE_013_2 l Z a0 hw [] mp nd0 nd1 nd2 b0 b1 b2 bq sz mc h0 n0 Z0 O0 s0 s1 s2 s3 s4 s5 s6 s7 s8 s9 s10 s11 s12 s13 s14 s15 s16 s17 s18 s19 s20 s21 s22 B_b0 B_b1 B_b2 B_bq) e0 s0 dh_2 [(.ref bq)] [] (lenOf pd7 rfl) rfl rfl ?_
 rintro _ T11 Lc11 ⟨rfl, N11q, q11⟩ X11
 have N11 := Fr.app N0 N11q
 refine w_ifnullYes X11 hx hby dh_5 (pc' := 12) ?_
 refine iC X11 hx hby dh_12 (v := 0) rfl ?_
 refine r_val hP hlk hret X11 hx hby dh_13 rfl (Or.inl ⟨rfl, Or.inr (Or.inl rfl), _, rfl⟩) (by decide) ?_
 rw [q11]
 exact ⟨rfl, N11, rfl⟩
def Q_getE_0124_3 (Z : State) (mp nd0 nd1 nd2 nd3 b0 b1 b2 b3 bq : Addr) (sz mc : Int32) (h0 : Heap) (n0 : Nat) (v : Option Value) (h : Heap) (L : List Loc) : Prop := v = some .null ∧ Fr n0 L ∧ h = h0
theorem rm_getE_0124_3 (l : Launch) (Z : State) (a0 : Array Value) (hw : oW a0 Z) (ws : List Jvm.Cond) (mp nd0 nd1 nd2 nd3 b0 b1 b2 b3 bq : Addr) (sz mc : Int32) (h0 : Heap) (n0 : Nat) (Z0 : n0 ≤ h0.size) (O0 : Old Z n0 h0) (s0 : Exa Z h0 mp q_2) (s1 : Fld Z h0 mp q_2 q_12 q_1 (.ref nd1)) (s2 : Fld Z h0 mp q_2 q_13 "I" (.int sz)) (s3 : Fld Z h0 mp q_2 q_14 "I" (.int mc)) (s4 : Fld Z h0 mp q_2 q_10 q_11 .null) (s5 : Exa Z h0 nd0 q_0) (s6 : Fld Z h0 nd0 q_0 q_8 q_4 (.ref b0)) (s7 : Fld Z h0 nd0 q_0 q_6 q_1 .null) (s8 : Fld Z h0 nd0 q_0 q_9 q_1 .null) (s9 : Fld Z h0 nd0 q_0 q_5 q_1 (.ref nd1)) (s10 : Fld Z h0 nd0 q_0 q_7 "Z" (.int 1)) (s11 : Exa Z h0 nd1 q_0) (s12 : Fld Z h0 nd1 q_0 q_8 q_4 (.ref b1)) (s13 : Fld Z h0 nd1 q_0 q_6 q_1 (.ref nd0)) (s14 : Fld Z h0 nd1 q_0 q_9 q_1 (.ref nd2)) (s15 : Fld Z h0 nd1 q_0 q_5 q_1 .null) (s16 : Fld Z h0 nd1 q_0 q_7 "Z" (.int 1)) (s17 : Exa Z h0 nd2 q_0) (s18 : Fld Z h0 nd2 q_0 q_8 q_4 (.ref b2)) (s19 : Fld Z h0 nd2 q_0 q_6 q_1 .null) (s20 : Fld Z h0 nd2 q_0 q_9 q_1 (.ref nd3)) (s21 : Fld Z h0 nd2 q_0 q_5 q_1 (.ref nd1)) (s22 : Fld Z h0 nd2 q_0 q_7 "Z" (.int 1)) (s23 : Exa Z h0 nd3 q_0) (s24 : Fld Z h0 nd3 q_0 q_8 q_4 (.ref b3)) (s25 : Fld Z h0 nd3 q_0 q_6 q_1 .null) (s26 : Fld Z h0 nd3 q_0 q_9 q_1 .null) (s27 : Fld Z h0 nd3 q_0 q_5 q_1 (.ref nd2)) (s28 : Fld Z h0 nd3 q_0 q_7 "Z" (.int 0)) (B_b0 : own_Box Z b0 (0 : Int64)) (B_b1 : own_Box Z b1 (1 : Int64)) (B_b2 : own_Box Z b2 (2 : Int64)) (B_b3 : own_Box Z b3 (4 : Int64)) (B_bq : own_Box Z bq (3 : Int64)) :
   oM l oY1 j2729_15 5 (some (.object q_0)) ws (own_R 3 0 0 60) #[(.ref mp), (.ref bq)] Z h0 (Q_getE_0124_3 Z mp nd0 nd1 nd2 nd3 b0 b1 b2 b3 bq sz mc h0 n0) := by
 refine own_open (n0 := n0) (cn := q_2) rfl (plainFor_of_name pn0) (L0 := #[(vR mp), (vR bq), .unset, .unset, .unset]) ?_
 intro p e s m below meth c s₁ P hx hby hml hown hnm X0 e0 N0 hlk hret hZ hP
 refine aA X0 hx hby da_0 rfl rfl ?_
 refine gF X0 hx hby hZ hown (tw_59 hw) Via.refl e0 s4 da_1 ?_
 intro T11 X11 e11
 refine w_ifnullYes X11 hx hby da_4 (pc' := 13) ?_
 refine aA X11 hx hby da_13 rfl rfl ?_
 refine c_stat 0 X11 hx hby hml hZ hown (tw_165 hw) (tw_25 hw) (tw_26 hw) (tw_27 hw) (rm_rnn l Z a0 hw [] bq h0 n0 Z0 ) e11 da_14 [(.ref bq)] [] (lenOf pd3 rfl) rfl rfl ?_
 rintro _ T12 Lc12 ⟨rfl, N12q, q12⟩ X12
 have N12 := Fr.app N0 N12q
 refine pO X12 hx hby da_17 rfl ?_
 refine aA X12 hx hby da_18 rfl rfl ?_
 obtain ⟨T13, X13, e13, st13⟩ := castY X12 hx hZ hown (tw_112 hw) q12 (Ins.of_exa (Exa.ext O0.2 B_bq.1) (tw_113 hw)) (g := (mkF m 19 #[(vR mp), (vR bq), .unset, .unset, .unset] [(.ref bq)])) rfl rfl (hb hby da_19)
 refine Go.by st13 ?_
 refine aS X13 hx hby da_22 rfl rfl ?_
 refine aA X13 hx hby da_23 rfl rfl ?_
 refine gF X13 hx hby hZ hown (tw_100 hw) Via.refl e13 s1 da_24 ?_
 intro T14 X14 e14
 refine aS X14 hx hby da_27 rfl rfl ?_
 refine aA X14 hx hby da_28 rfl rfl ?_
 refine w_ifnullNo X14 hx hby da_29 ?_
 refine aA X14 hx hby da_32 rfl rfl ?_
 refine aA X14 hx hby da_33 rfl rfl ?_
 refine gF X14 hx hby hZ hown (tw_166 hw) Via.refl e14 s12 da_34 ?_
 intro T15 X15 e15
 obtain ⟨cq16, kq16, q16a, q16b, q16c⟩ := isOf hZ e15 (Exa.ext O0.2 B_bq.1)
 obtain ⟨_, _, ⟨T16, L16, k16, n16⟩, -, X16, ⟨Lc16, hQ16, l16, y16, z16⟩, st16⟩ := X15.interfaceBack hx (xi := oY7) (y := oY4) hown (mvT hZ (tw_114 hw)) (mvT hZ (tw_115 hw)) (mvT hZ (tw_116 hw)) (mvT hZ (tw_117 hw)) (mvT hZ (tw_118 hw)) (mvT hZ (tw_119 hw)) (mvT hZ (tw_120 hw)) (mvT hZ (tw_113 hw)) (by decide) (backOf (W := 0) (rm_ct2_gt l Z a0 hw [] bq b1 (3 : Int64) (1 : Int64) h0 n0 Z0 O0 B_bq B_b1 (by decide : (1 : Int64) < (3 : Int64)) (by decide : ¬ (3 : Int64) < (1 : Int64)) (by decide : ¬ (3 : Int64) = (1 : Int64))) hZ (tw_121 hw) (tw_84 hw) (by decide) (by decide)) q16a q16b q16c (g := (mkF m 37 #[(vR mp), (vR bq), (vR bq), (vR nd1), .unset] [(.ref b1), (.ref bq)])) rfl (by rw [hml]; rfl) (Steps.refl _) (argsL := [(.ref b1)]) (rest := []) (lenOf pd0 rfl) rfl (by show 2 * 0 + _ ≤ _; exact Nat.le_of_eq rfl) (hb hby da_37) (fun _ _ => ⟨rfl, e15, (by decide : 0 + 0 ≤ _), (by decide : 0 + 0 ≤ _)⟩)
 dsimp only [Pt.U, Pt.locs, Pt.cells, Pt.slots] at X16 l16 y16 z16 st16 hQ16
 subst l16 y16 z16
 obtain ⟨rfl, N16q, q16⟩ := hQ16
 have N16 := Fr.app N12 N16q
 refine Go.by (fun t k => st16.trans k) ?_
 show oG p e below P m T16 42 #[(vR mp), (vR bq), (vR bq), (vR nd1), .unset] [(.int 1)]
 refine iT X16 hx hby da_42 rfl ?_
 refine iB X16 hx hby da_44 rfl ?_
 refine fY X16 hx hby da_46 (pc' := 57) (XT.i0_ge_t (by decide : ¬ (1 : Int32) < (0 : Int32))) ?_
 refine iB X16 hx hby da_57 rfl ?_
 refine fN X16 hx hby da_59 (XT.i0_le_f (by decide : (0 : Int32) < (1 : Int32))) ?_
 refine aA X16 hx hby da_62 rfl rfl ?_
 refine gF X16 hx hby hZ hown (tw_167 hw) Via.refl q16 s14 da_63 ?_
 intro T17 X17 e17
 refine aS X17 hx hby da_66 rfl rfl ?_
 refine gO X17 hx hby da_67 (pc' := 72) ?_
 refine gO X17 hx hby da_72 (pc' := 28) ?_
 refine aA X17 hx hby da_28 rfl rfl ?_
 refine w_ifnullNo X17 hx hby da_29 ?_
 refine aA X17 hx hby da_32 rfl rfl ?_
 refine aA X17 hx hby da_33 rfl rfl ?_
 refine gF X17 hx hby hZ hown (tw_166 hw) Via.refl e17 s18 da_34 ?_
 intro T18 X18 e18
 obtain ⟨cq19, kq19, q19a, q19b, q19c⟩ := isOf hZ e18 (Exa.ext O0.2 B_bq.1)
 obtain ⟨_, _, ⟨T19, L19, k19, n19⟩, -, X19, ⟨Lc19, hQ19, l19, y19, z19⟩, st19⟩ := X18.interfaceBack hx (xi := oY7) (y := oY4) hown (mvT hZ (tw_114 hw)) (mvT hZ (tw_115 hw)) (mvT hZ (tw_116 hw)) (mvT hZ (tw_117 hw)) (mvT hZ (tw_118 hw)) (mvT hZ (tw_119 hw)) (mvT hZ (tw_120 hw)) (mvT hZ (tw_113 hw)) (by decide) (backOf (W := 0) (rm_ct2_gt l Z a0 hw [] bq b2 (3 : Int64) (2 : Int64) h0 n0 Z0 O0 B_bq B_b2 (by decide : (2 : Int64) < (3 : Int64)) (by decide : ¬ (3 : Int64) < (2 : Int64)) (by decide : ¬ (3 : Int64) = (2 : Int64))) hZ (tw_121 hw) (tw_84 hw) (by decide) (by decide)) q19a q19b q19c (g := (mkF m 37 #[(vR mp), (vR bq), (vR bq), (vR nd2), (vI 1)] [(.ref b2), (.ref bq)])) rfl (by rw [hml]; rfl) (Steps.refl _) (argsL := [(.ref b2)]) (rest := []) (lenOf pd0 rfl) rfl (by show 2 * 0 + _ ≤ _; exact Nat.le_of_eq rfl) (hb hby da_37) (fun _ _ => ⟨rfl, e18, (by decide : 0 + 0 ≤ _), (by decide : 0 + 0 ≤ _)⟩)
 dsimp only [Pt.U, Pt.locs, Pt.cells, Pt.slots] at X19 l19 y19 z19 st19 hQ19
 subst l19 y19 z19
 obtain ⟨rfl, N19q, q19⟩ := hQ19
 have N19 := Fr.app N16 N19q
 refine Go.by (fun t k => st19.trans k) ?_
 show oG p e below P m T19 42 #[(vR mp), (vR bq), (vR bq), (vR nd2), (vI 1)] [(.int 1)]
 refine iT X19 hx hby da_42 rfl ?_
 refine iB X19 hx hby da_44 rfl ?_
 refine fY X19 hx hby da_46 (pc' := 57) (XT.i0_ge_t (by decide : ¬ (1 : Int32) < (0 : Int32))) ?_
 refine iB X19 hx hby da_57 rfl ?_
 refine fN X19 hx hby da_59 (XT.i0_le_f (by decide : (0 : Int32) < (1 : Int32))) ?_
 refine aA X19 hx hby da_62 rfl rfl ?_
 refine gF X19 hx hby hZ hown (tw_167 hw) Via.refl q19 s20 da_63 ?_
 intro T20 X20 e20
 refine aS X20 hx hby da_66 rfl rfl ?_
 refine gO X20 hx hby da_67 (pc' := 72) ?_
 refine gO X20 hx hby da_72 (pc' := 28) ?_
 refine aA X20 hx hby da_28 rfl rfl ?_
 refine w_ifnullNo X20 hx hby da_29 ?_
 refine aA X20 hx hby da_32 rfl rfl ?_
 refine aA X20 hx hby da_33 rfl rfl ?_
 refine gF X20 hx hby hZ hown (tw_166 hw) Via.refl e20 s24 da_34 ?_
 intro T21 X21 e21
 obtain ⟨cq22, kq22, q22a, q22b, q22c⟩ := isOf hZ e21 (Exa.ext O0.2 B_bq.1)
 obtain ⟨_, _, ⟨T22, L22, k22, n22⟩, -, X22, ⟨Lc22, hQ22, l22, y22, z22⟩, st22⟩ := X21.interfaceBack hx (xi := oY7) (y := oY4) hown (mvT hZ (tw_114 hw)) (mvT hZ (tw_115 hw)) (mvT hZ (tw_116 hw)) (mvT hZ (tw_117 hw)) (mvT hZ (tw_118 hw)) (mvT hZ (tw_119 hw)) (mvT hZ (tw_120 hw)) (mvT hZ (tw_113 hw)) (by decide) (backOf (W := 0) (rm_ct2_lt l Z a0 hw [] bq b3 (3 : Int64) (4 : Int64) h0 n0 Z0 O0 B_bq B_b3 (by decide : (3 : Int64) < (4 : Int64))) hZ (tw_121 hw) (tw_84 hw) (by decide) (by decide)) q22a q22b q22c (g := (mkF m 37 #[(vR mp), (vR bq), (vR bq), (vR nd3), (vI 1)] [(.ref b3), (.ref bq)])) rfl (by rw [hml]; rfl) (Steps.refl _) (argsL := [(.ref b3)]) (rest := []) (lenOf pd0 rfl) rfl (by show 2 * 0 + _ ≤ _; exact Nat.le_of_eq rfl) (hb hby da_37) (fun _ _ => ⟨rfl, e21, (by decide : 0 + 0 ≤ _), (by decide : 0 + 0 ≤ _)⟩)
 dsimp only [Pt.U, Pt.locs, Pt.cells, Pt.slots] at X22 l22 y22 z22 st22 hQ22
 subst l22 y22 z22
 obtain ⟨rfl, N22q, q22⟩ := hQ22
 have N22 := Fr.app N19 N22q
 refine Go.by (fun t k => st22.trans k) ?_
 show oG p e below P m T22 42 #[(vR mp), (vR bq), (vR bq), (vR nd3), (vI 1)] [(.int (-1))]
 refine iT X22 hx hby da_42 rfl ?_
 refine iB X22 hx hby da_44 rfl ?_
 refine fN X22 hx hby da_46 (XT.i0_ge_f (by decide : (-1 : Int32) < (0 : Int32))) ?_
 refine aA X22 hx hby da_49 rfl rfl ?_
 refine gF X22 hx hby hZ hown (tw_209 hw) Via.refl q22 s25 da_50 ?_
 intro T23 X23 e23
 refine aS X23 hx hby da_53 rfl rfl ?_
 refine gO X23 hx hby da_54 (pc' := 72) ?_
 refine gO X23 hx hby da_72 (pc' := 28) ?_
 refine aA X23 hx hby da_28 rfl rfl ?_
 refine w_ifnullYes X23 hx hby da_29 (pc' := 75) ?_
 refine w_aconstNull X23 hx hby da_75 ?_
 refine r_val hP hlk hret X23 hx hby da_76 rfl (Or.inr (Or.inr (Or.inr (Or.inr ⟨rfl, rfl, rfl⟩)))) (by decide) ?_
 rw [e23]
 exact ⟨rfl, N22, rfl⟩
def Q_hasK_0124_3 (Z : State) (mp nd0 nd1 nd2 nd3 b0 b1 b2 b3 bq : Addr) (sz mc : Int32) (h0 : Heap) (n0 : Nat) (v : Option Value) (h : Heap) (L : List Loc) : Prop := v = some (.int 0) ∧ Fr n0 L ∧ h = h0
theorem rm_hasK_0124_3 (l : Launch) (Z : State) (a0 : Array Value) (hw : oW a0 Z) (ws : List Jvm.Cond) (mp nd0 nd1 nd2 nd3 b0 b1 b2 b3 bq : Addr) (sz mc : Int32) (h0 : Heap) (n0 : Nat) (Z0 : n0 ≤ h0.size) (O0 : Old Z n0 h0) (s0 : Exa Z h0 mp q_2) (s1 : Fld Z h0 mp q_2 q_12 q_1 (.ref nd1)) (s2 : Fld Z h0 mp q_2 q_13 "I" (.int sz)) (s3 : Fld Z h0 mp q_2 q_14 "I" (.int mc)) (s4 : Fld Z h0 mp q_2 q_10 q_11 .null) (s5 : Exa Z h0 nd0 q_0) (s6 : Fld Z h0 nd0 q_0 q_8 q_4 (.ref b0)) (s7 : Fld Z h0 nd0 q_0 q_6 q_1 .null) (s8 : Fld Z h0 nd0 q_0 q_9 q_1 .null) (s9 : Fld Z h0 nd0 q_0 q_5 q_1 (.ref nd1)) (s10 : Fld Z h0 nd0 q_0 q_7 "Z" (.int 1)) (s11 : Exa Z h0 nd1 q_0) (s12 : Fld Z h0 nd1 q_0 q_8 q_4 (.ref b1)) (s13 : Fld Z h0 nd1 q_0 q_6 q_1 (.ref nd0)) (s14 : Fld Z h0 nd1 q_0 q_9 q_1 (.ref nd2)) (s15 : Fld Z h0 nd1 q_0 q_5 q_1 .null) (s16 : Fld Z h0 nd1 q_0 q_7 "Z" (.int 1)) (s17 : Exa Z h0 nd2 q_0) (s18 : Fld Z h0 nd2 q_0 q_8 q_4 (.ref b2)) (s19 : Fld Z h0 nd2 q_0 q_6 q_1 .null) (s20 : Fld Z h0 nd2 q_0 q_9 q_1 (.ref nd3)) (s21 : Fld Z h0 nd2 q_0 q_5 q_1 (.ref nd1)) (s22 : Fld Z h0 nd2 q_0 q_7 "Z" (.int 1)) (s23 : Exa Z h0 nd3 q_0) (s24 : Fld Z h0 nd3 q_0 q_8 q_4 (.ref b3)) (s25 : Fld Z h0 nd3 q_0 q_6 q_1 .null) (s26 : Fld Z h0 nd3 q_0 q_9 q_1 .null) (s27 : Fld Z h0 nd3 q_0 q_5 q_1 (.ref nd2)) (s28 : Fld Z h0 nd3 q_0 q_7 "Z" (.int 0)) (B_b0 : own_Box Z b0 (0 : Int64)) (B_b1 : own_Box Z b1 (1 : Int64)) (B_b2 : own_Box Z b2 (2 : Int64)) (B_b3 : own_Box Z b3 (4 : Int64)) (B_bq : own_Box Z bq (3 : Int64)) :
   oM l oY0 j2729_6 2 (some .boolean) ws (own_R 4 0 0 80) #[(.ref mp), (.ref bq)] Z h0 (Q_hasK_0124_3 Z mp nd0 nd1 nd2 nd3 b0 b1 b2 b3 bq sz mc h0 n0) := by
 refine own_open (n0 := n0) (cn := q_2) rfl (plainFor_of_name pn0) (L0 := #[(vR mp), (vR bq)]) ?_
 intro p e s m below meth c s₁ P hx hby hml hown hnm X0 e0 N0 hlk hret hZ hP
 refine aA X0 hx hby dh_0 rfl rfl ?_
 refine aA X0 hx hby dh_1 rfl rfl ?_
 refine c_virt 0 X0 hx hby hml hZ hown (tw_160 hw) (tw_161 hw) (tw_163 hw) (tw_162 hw) (tw_164 hw) (tw_44 hw) (rm_getE_0124_3 l Z a0 hw [] mp nd0 nd1 nd2 nd3 b0 b1 b2 b3 bq sz mc h0 n0 Z0 O0 s0 s1 s2 s3 s4 s5 s6 s7 s8 s9 s10 s11 s12 s13 s14 s15 s16 s17 s18 s19 s20 s21 s22 s23 s24 s25 s26 s27 s28 B_b0 B_b1 B_b2 B_b3 B_bq) e0 s0 dh_2 [(.ref bq)] [] (lenOf pd7 rfl) rfl rfl ?_
 rintro _ T11 Lc11 ⟨rfl, N11q, q11⟩ X11
 have N11 := Fr.app N0 N11q
 refine w_ifnullYes X11 hx hby dh_5 (pc' := 12) ?_
 refine iC X11 hx hby dh_12 (v := 0) rfl ?_
 refine r_val hP hlk hret X11 hx hby dh_13 rfl (Or.inl ⟨rfl, Or.inr (Or.inl rfl), _, rfl⟩) (by decide) ?_
 rw [q11]
 exact ⟨rfl, N11, rfl⟩
def Q_amInit (Z : State) (a0_ : Addr) (h0 : Heap) (n0 : Nat) (v : Option Value) (h : Heap) (L : List Loc) : Prop := v = none ∧ Fr n0 L ∧ h = h0
theorem rm_amInit (l : Launch) (Z : State) (a0 : Array Value) (hw : oW a0 Z) (ws : List Jvm.Cond) (a0_ : Addr) (h0 : Heap) (n0 : Nat) (Z0 : n0 ≤ h0.size) :
   oM l oY28 jdk_71_method_1_code 1 none ws (own_R 1 0 0 12) #[(.ref a0_)] Z h0 (Q_amInit Z a0_ h0 n0) := by
 refine own_open (n0 := n0) (cn := "java/util/AbstractMap") rfl (plainFor_of_name pn7) (L0 := #[(vR a0_)]) ?_
 intro p e s m below meth c s₁ P hx hby hml hown hnm X0 e0 N0 hlk hret hZ hP
 refine aA X0 hx hby dE_0 rfl rfl ?_
 obtain ⟨T11, X11, e11, st11⟩ := initO X0 hx hZ hown (tw_54 hw) (tw_9 hw) (tw_10 hw) e0 (g := (mkF m 1 #[(vR a0_)] [(.ref a0_)])) rfl (by rw [hml]; rfl) rfl (hb hby dE_1) (by decide) (W := 0) (by show 2 * 0 + _ ≤ _; exact Nat.le_of_eq rfl) (by decide)
 refine Go.by st11 ?_
 show oG p e below P m T11 4 #[(vR a0_)] []
 refine own_fin hP hlk X11 (v := none) (fun _ => rfl) (by decide) (by decide) ?_ (fun fs hr => X11.returnOut hx hret (hb hby dE_4) hr)
 rw [e11]
 exact ⟨rfl, N0, rfl⟩
def Q_tmInit (Z : State) (a0_ : Addr) (h0 : Heap) (n0 : Nat) (v : Option Value) (h : Heap) (L : List Loc) : Prop := v = none ∧ Fr n0 L ∧ Keep h0 h [a0_] ∧ Exa Z h a0_ q_2 ∧ Fld Z h a0_ q_2 q_12 q_1 .null ∧ Fld Z h a0_ q_2 q_13 "I" (.int 0) ∧ Fld Z h a0_ q_2 q_14 "I" (.int 0) ∧ Fld Z h a0_ q_2 q_10 q_11 .null
theorem rm_tmInit (l : Launch) (Z : State) (a0 : Array Value) (hw : oW a0 Z) (ws : List Jvm.Cond) (a0_ : Addr) (h0 : Heap) (n0 : Nat) (Z0 : n0 ≤ h0.size) (s0 : Exa Z h0 a0_ q_2) (s1 : Fld Z h0 a0_ q_2 q_12 q_1 .null) (s2 : Fld Z h0 a0_ q_2 q_13 "I" (.int 0)) (s3 : Fld Z h0 a0_ q_2 q_14 "I" (.int 0)) (s4 : Fld Z h0 a0_ q_2 q_10 q_11 .null) (g_a0_ : n0 ≤ a0_) :
   oM l oY29 j2729_1 1 none ws (own_R 2 0 0 26) #[(.ref a0_)] Z h0 (Q_tmInit Z a0_ h0 n0) := by
 refine own_open (n0 := n0) (cn := q_2) rfl (plainFor_of_name pn0) (L0 := #[(vR a0_)]) ?_
 intro p e s m below meth c s₁ P hx hby hml hown hnm X0 e0 N0 hlk hret hZ hP
 refine aA X0 hx hby ds_0 rfl rfl ?_
 obtain ⟨_, _, ⟨T11, L11, k11, n11⟩, -, X11, ⟨Lc11, hQ11, l11, y11, z11⟩, st11⟩ := X0.specialBack hx (y := oY28) rfl hown (mvT hZ (tw_48 hw)) (mvT hZ (tw_49 hw)) (mvT hZ (tw_53 hw)) (by decide) (backOf (W := 0) (rm_amInit l Z a0 hw [] a0_ h0 n0 Z0 ) hZ (tw_53 hw) (tw_52 hw) (by decide) (by decide)) (g := (mkF m 1 #[(vR a0_)] [(.ref a0_)])) rfl (by rw [hml]; rfl) (Steps.refl _) (a := a0_) (argsL := []) (rest := []) (lenOf pd20 rfl) rfl (by show 2 * 0 + _ ≤ _; exact Nat.le_of_eq rfl) (hb hby ds_1) (fun _ _ => ⟨rfl, e0, (by decide : 0 + 0 ≤ _), (by decide : 0 + 0 ≤ _)⟩)
 dsimp only [Pt.U, Pt.locs, Pt.cells, Pt.slots] at X11 l11 y11 z11 st11 hQ11
 subst l11 y11 z11
 obtain ⟨rfl, N11q, q11⟩ := hQ11
 have N11 := Fr.app N0 N11q
 refine Go.by (fun t k => st11.trans k) ?_
 show oG p e below P m T11 4 #[(vR a0_)] []
 refine aA X11 hx hby ds_4 rfl rfl ?_
 refine iC X11 hx hby ds_5 (v := 0) rfl ?_
 obtain ⟨T12, h12, X12, e12, W12, st12⟩ := putF X11 hx hZ hown (host := "") (Or.inl (tw_55 hw)) Via.refl q11 s2 s0 (Or.inl (tw_56 hw)) (tw_43 hw) (ty := .int) (by decide) rfl rfl (g := (mkF m 6 #[(vR a0_)] [(.int 0), (.ref a0_)])) rfl rfl (hb hby ds_6)
 refine Go.by st12 ?_
 have N12 := Fr.snoc X12 N11 g_a0_
 have f12_1 := Keep.wr (Keep.refl h0 [a0_]) W12 (Or.inl (List.mem_of_getElem? (i := 0) rfl))
 have f12_2 := Exa.wr W12 s0
 have f12_3 := Fld.other W12 s1 (Or.inr (slot_ne (Or.inl (tw_101 hw)) (Or.inl (tw_56 hw)) (by decide) (t := (.object q_0)) (t' := .int) (by decide) (by decide)))
 have f12_4 := Fld.same W12 s2
 have f12_5 := Fld.other W12 s3 (Or.inr (slot_ne (Or.inl (tw_58 hw)) (Or.inl (tw_56 hw)) (by decide) (t := .int) (t' := .int) (by decide) (by decide)))
 have f12_6 := Fld.other W12 s4 (Or.inr (slot_ne (Or.inr (tw_60 hw)) (Or.inl (tw_56 hw)) (by decide) (t := (.object q_21)) (t' := .int) (by decide) (by decide)))
 refine aA X12 hx hby ds_9 rfl rfl ?_
 refine iC X12 hx hby ds_10 (v := 0) rfl ?_
 obtain ⟨T13, h13, X13, e13, W13, st13⟩ := putF X12 hx hZ hown (host := "") (Or.inl (tw_57 hw)) Via.refl e12 f12_5 f12_2 (Or.inl (tw_58 hw)) (tw_43 hw) (ty := .int) (by decide) rfl rfl (g := (mkF m 11 #[(vR a0_)] [(.int 0), (.ref a0_)])) rfl rfl (hb hby ds_11)
 refine Go.by st13 ?_
 have N13 := Fr.snoc X13 N12 g_a0_
 have f13_1 := Keep.wr f12_1 W13 (Or.inl (List.mem_of_getElem? (i := 0) rfl))
 have f13_2 := Exa.wr W13 f12_2
 have f13_3 := Fld.other W13 f12_3 (Or.inr (slot_ne (Or.inl (tw_101 hw)) (Or.inl (tw_58 hw)) (by decide) (t := (.object q_0)) (t' := .int) (by decide) (by decide)))
 have f13_4 := Fld.other W13 f12_4 (Or.inr (slot_ne (Or.inl (tw_56 hw)) (Or.inl (tw_58 hw)) (by decide) (t := .int) (t' := .int) (by decide) (by decide)))
 have f13_5 := Fld.same W13 f12_5
 have f13_6 := Fld.other W13 f12_6 (Or.inr (slot_ne (Or.inr (tw_60 hw)) (Or.inl (tw_58 hw)) (by decide) (t := (.object q_21)) (t' := .int) (by decide) (by decide)))
 refine aA X13 hx hby ds_14 rfl rfl ?_
 refine w_aconstNull X13 hx hby ds_15 ?_
 obtain ⟨T14, h14, X14, e14, W14, st14⟩ := putF X13 hx hZ hown (host := "") (Or.inl (tw_59 hw)) Via.refl e13 f13_6 f13_2 (Or.inr ⟨(tw_60 hw), rfl, hnm⟩) (tw_43 hw) (ty := (.object q_21)) (by decide) rfl rfl (g := (mkF m 16 #[(vR a0_)] [.null, (.ref a0_)])) rfl rfl (hb hby ds_16)
 refine Go.by st14 ?_
 have N14 := Fr.snoc X14 N13 g_a0_
 have f14_1 := Keep.wr f13_1 W14 (Or.inl (List.mem_of_getElem? (i := 0) rfl))
 have f14_2 := Exa.wr W14 f13_2
 have f14_3 := Fld.other W14 f13_3 (Or.inr (slot_ne (Or.inl (tw_101 hw)) (Or.inr (tw_60 hw)) (by decide) (t := (.object q_0)) (t' := (.object q_21)) (by decide) (by decide)))
 have f14_4 := Fld.other W14 f13_4 (Or.inr (slot_ne (Or.inl (tw_56 hw)) (Or.inr (tw_60 hw)) (by decide) (t := .int) (t' := (.object q_21)) (by decide) (by decide)))
 have f14_5 := Fld.other W14 f13_5 (Or.inr (slot_ne (Or.inl (tw_58 hw)) (Or.inr (tw_60 hw)) (by decide) (t := .int) (t' := (.object q_21)) (by decide) (by decide)))
 have f14_6 := Fld.same W14 f13_6
 show oG p e below P m T14 19 #[(vR a0_)] []
 refine own_fin hP hlk X14 (v := none) (fun _ => rfl) (by decide) (by decide) ?_ (fun fs hr => X14.returnOut hx hret (hb hby ds_19) hr)
 rw [e14]
 exact ⟨rfl, N14, f14_1, f14_2, f14_3, f14_4, f14_5, f14_6⟩
def Q_orInit (Z : State) (a0_ : Addr) (h0 : Heap) (n0 : Nat) (v : Option Value) (h : Heap) (L : List Loc) : Prop := v = none ∧ Fr n0 L ∧ Keep h0 h [a0_] ∧ ∃ m, h0.size ≤ m ∧ Exa Z h a0_ q_3 ∧ Fld Z h a0_ q_3 "held" "J" (.long (0 : Int64)) ∧ Fld Z h a0_ q_3 "known" "J" (.long (0 : Int64)) ∧ Fld Z h a0_ q_3 "limit" "J" (.long (9223372036854775807 : Int64)) ∧ Fld Z h a0_ q_3 q_18 q_19 (.ref m) ∧ Exa Z h m q_2 ∧ Fld Z h m q_2 q_12 q_1 .null ∧ Fld Z h m q_2 q_13 "I" (.int 0) ∧ Fld Z h m q_2 q_14 "I" (.int 0) ∧ Fld Z h m q_2 q_10 q_11 .null
theorem rm_orInit (l : Launch) (Z : State) (a0 : Array Value) (hw : oW a0 Z) (ws : List Jvm.Cond) (a0_ : Addr) (h0 : Heap) (n0 : Nat) (Z0 : n0 ≤ h0.size) (s0 : Exa Z h0 a0_ q_3) (s1 : Fld Z h0 a0_ q_3 "held" "J" (.long (0 : Int64))) (s2 : Fld Z h0 a0_ q_3 "known" "J" (.long (0 : Int64))) (s3 : Fld Z h0 a0_ q_3 "limit" "J" (.long (0 : Int64))) (s4 : Fld Z h0 a0_ q_3 q_18 q_19 .null) (s5 : Fld Z h0 a0_ q_3 "requestAt" "J" (.long (0 : Int64))) (s6 : Fld Z h0 a0_ q_3 "askedLast" "I" (.int 0)) (g_a0_ : n0 ≤ a0_) :
   oM l oY30 p70_1 1 none ws (own_R 3 1 9 45) #[(.ref a0_)] Z h0 (Q_orInit Z a0_ h0 n0) := by
 refine own_open (n0 := n0) (cn := q_3) rfl (plainFor_of_name pn4) (L0 := #[(vR a0_)]) ?_
 intro p e s m below meth c s₁ P hx hby hml hown hnm X0 e0 N0 hlk hret hZ hP
 refine aA X0 hx hby dq_0 rfl rfl ?_
 obtain ⟨T11, X11, e11, st11⟩ := initO X0 hx hZ hown (tw_38 hw) (tw_9 hw) (tw_10 hw) e0 (g := (mkF m 1 #[(vR a0_)] [(.ref a0_)])) rfl (by rw [hml]; rfl) rfl (hb hby dq_1) (by decide) (W := 0) (by show 2 * 0 + _ ≤ _; exact Nat.le_of_eq rfl) (by decide)
 refine Go.by st11 ?_
 refine aA X11 hx hby dq_4 rfl rfl ?_
 refine lD X11 hx hby hown hZ (tw_39 hw) dq_5 (v' := (9223372036854775807 : Int64)) rfl ?_
 obtain ⟨T12, h12, X12, e12, W12, st12⟩ := putF X11 hx hZ hown (host := "") (Or.inl (tw_40 hw)) Via.refl e11 s3 s0 (Or.inl (tw_41 hw)) (tw_33 hw) (ty := .long) (by decide) rfl rfl (g := (mkF m 8 #[(vR a0_)] [(.long (9223372036854775807 : Int64)), (.ref a0_)])) rfl rfl (hb hby dq_8)
 refine Go.by st12 ?_
 have N12 := Fr.snoc X12 N0 g_a0_
 have f12_0 := Nat.le_trans Z0 (Keep.of_wr W12).1
 have f12_1 := Keep.wr (Keep.refl h0 [a0_]) W12 (Or.inl (List.mem_of_getElem? (i := 0) rfl))
 have f12_2 := Exa.wr W12 s0
 have f12_3 := Fld.other W12 s1 (Or.inr (slot_ne (Or.inl (tw_80 hw)) (Or.inl (tw_41 hw)) (by decide) (t := .long) (t' := .long) (by decide) (by decide)))
 have f12_4 := Fld.other W12 s2 (Or.inr (slot_ne (Or.inl (tw_174 hw)) (Or.inl (tw_41 hw)) (by decide) (t := .long) (t' := .long) (by decide) (by decide)))
 have f12_5 := Fld.same W12 s3
 have f12_6 := Fld.other W12 s4 (Or.inr (slot_ne (Or.inr (tw_62 hw)) (Or.inl (tw_41 hw)) (by decide) (t := (.object q_2)) (t' := .long) (by decide) (by decide)))
 have f12_7 := Fld.other W12 s5 (Or.inr (slot_ne (Or.inl (tw_65 hw)) (Or.inl (tw_41 hw)) (by decide) (t := .long) (t' := .long) (by decide) (by decide)))
 have f12_8 := Fld.other W12 s6 (Or.inr (slot_ne (Or.inl (tw_67 hw)) (Or.inl (tw_41 hw)) (by decide) (t := .int) (t' := .long) (by decide) (by decide)))
 refine aA X12 hx hby dq_11 rfl rfl ?_
 obtain ⟨T13, h13, X13, e13, E13, A13, D13, U13, st13⟩ := newO X12 hx hZ hown (tw_42 hw) (tw_43 hw) (tw_44 hw) e12 (g := (mkF m 12 #[(vR a0_)] [(.ref a0_)])) rfl (hb hby dq_12) (by decide) (by decide)
 obtain ⟨b13, g13⟩ : ∃ z, z = h12.size := ⟨_, rfl⟩
 rw [← g13] at A13 D13 U13 st13
 have g_b13 : n0 ≤ b13 := Nat.le_trans f12_0 (Nat.le_of_eq g13.symm)
 have sz_b13 : h0.size ≤ b13 := Nat.le_trans f12_1.1 (Nat.le_of_eq g13.symm)
 have ne_a0__b13 : a0_ ≠ b13 := Nat.ne_of_lt (Nat.lt_of_lt_of_le (f12_2.lt) (Nat.le_of_eq g13.symm))
 have f13_0 := Nat.le_trans f12_0 E13.1
 have f13_1 := Keep.ext f12_1 E13
 have f13_2 := Exa.ext E13 f12_2
 have f13_3 := Fld.ext E13 f12_3
 have f13_4 := Fld.ext E13 f12_4
 have f13_5 := Fld.ext E13 f12_5
 have f13_6 := Fld.ext E13 f12_6
 have f13_7 := Fld.ext E13 f12_7
 have f13_8 := Fld.ext E13 f12_8
 refine Go.by st13 ?_
 have F13_size : Fld Z h13 b13 q_2 q_13 "I" (.int 0) := D13 (Or.inl (tw_56 hw)) (ty := .int) (by decide)
 have F13_modCount : Fld Z h13 b13 q_2 q_14 "I" (.int 0) := D13 (Or.inl (tw_58 hw)) (ty := .int) (by decide)
 have F13_comparator : Fld Z h13 b13 q_2 q_10 q_11 .null := D13 (Or.inr (tw_60 hw)) (ty := (.object q_21)) (by decide)
 have F13_root : Fld Z h13 b13 q_2 q_12 q_1 .null := D13 (Or.inl (tw_101 hw)) (ty := (.object q_0)) (by decide)
 refine dU X13 hx hby dq_15 rfl ?_
 obtain ⟨_, _, ⟨T14, L14, k14, n14⟩, -, X14, ⟨Lc14, hQ14, l14, y14, z14⟩, st14⟩ := X13.specialBack hx (y := oY29) rfl hown (mvT hZ (tw_45 hw)) (mvT hZ (tw_46 hw)) (mvT hZ (tw_47 hw)) (by decide) (backOf (W := 2) (rm_tmInit l Z a0 hw [] b13 h13 n0 f13_0 A13 F13_root F13_size F13_modCount F13_comparator g_b13) hZ (tw_47 hw) (tw_44 hw) (by decide) (by decide)) (g := (mkF m 16 #[(vR a0_)] [(.ref b13), (.ref b13), (.ref a0_)])) rfl (by rw [hml]; rfl) (Steps.refl _) (a := b13) (argsL := []) (rest := [(.ref b13), (.ref a0_)]) (lenOf pd20 rfl) rfl (by show 2 * 0 + _ ≤ _; exact Nat.le_of_eq rfl) (hb hby dq_16) (fun _ _ => ⟨rfl, e13, (by decide : 1 + 0 ≤ _), (by decide : 9 + 0 ≤ _)⟩)
 dsimp only [Pt.U, Pt.locs, Pt.cells, Pt.slots] at X14 l14 y14 z14 st14 hQ14
 subst l14 y14 z14
 obtain ⟨rfl, N14q, K14, G14_0, G14_1, G14_2, G14_3, G14_4⟩ := hQ14
 have N14 := Fr.app N12 N14q
 refine Go.by (fun t k => st14.trans k) ?_
 have u14_0 := ninS ne_a0__b13 nin0
 have f14_1 := Keep.trans f13_1 K14 (allS (Or.inr sz_b13) all0)
 have f14_2 := Exa.keep f13_2 K14
 have f14_3 := Fld.keep f13_3 K14 u14_0
 have f14_4 := Fld.keep f13_4 K14 u14_0
 have f14_5 := Fld.keep f13_5 K14 u14_0
 have f14_6 := Fld.keep f13_6 K14 u14_0
 have f14_7 := Fld.keep f13_7 K14 u14_0
 have f14_8 := Fld.keep f13_8 K14 u14_0
 have f14_9 := Exa.keep A13 K14
 show oG p e below P m T14 19 #[(vR a0_)] [(.ref b13), (.ref a0_)]
 obtain ⟨T15, h15, X15, e15, W15, st15⟩ := putF X14 hx hZ hown (host := "") (Or.inl (tw_61 hw)) Via.refl rfl f14_6 f14_2 (Or.inr ⟨(tw_62 hw), rfl, hnm⟩) (tw_33 hw) (ty := (.object q_2)) (by decide) rfl rfl (g := (mkF m 19 #[(vR a0_)] [(.ref b13), (.ref a0_)])) rfl rfl (hb hby dq_19)
 refine Go.by st15 ?_
 have N15 := Fr.snoc X15 N14 g_a0_
 have f15_1 := Keep.wr f14_1 W15 (Or.inl (List.mem_of_getElem? (i := 0) rfl))
 have f15_2 := Exa.wr W15 f14_2
 have f15_3 := Fld.other W15 f14_3 (Or.inr (slot_ne (Or.inl (tw_80 hw)) (Or.inr (tw_62 hw)) (by decide) (t := .long) (t' := (.object q_2)) (by decide) (by decide)))
 have f15_4 := Fld.other W15 f14_4 (Or.inr (slot_ne (Or.inl (tw_174 hw)) (Or.inr (tw_62 hw)) (by decide) (t := .long) (t' := (.object q_2)) (by decide) (by decide)))
 have f15_5 := Fld.other W15 f14_5 (Or.inr (slot_ne (Or.inl (tw_41 hw)) (Or.inr (tw_62 hw)) (by decide) (t := .long) (t' := (.object q_2)) (by decide) (by decide)))
 have f15_6 := Fld.same W15 f14_6
 have f15_7 := Fld.other W15 f14_7 (Or.inr (slot_ne (Or.inl (tw_65 hw)) (Or.inr (tw_62 hw)) (by decide) (t := .long) (t' := (.object q_2)) (by decide) (by decide)))
 have f15_8 := Fld.other W15 f14_8 (Or.inr (slot_ne (Or.inl (tw_67 hw)) (Or.inr (tw_62 hw)) (by decide) (t := .int) (t' := (.object q_2)) (by decide) (by decide)))
 have f15_9 := Exa.wr W15 f14_9
 have f15_10 := Fld.other W15 G14_1 (Or.inl (Ne.symm ne_a0__b13))
 have f15_11 := Fld.other W15 G14_2 (Or.inl (Ne.symm ne_a0__b13))
 have f15_12 := Fld.other W15 G14_3 (Or.inl (Ne.symm ne_a0__b13))
 have f15_13 := Fld.other W15 G14_4 (Or.inl (Ne.symm ne_a0__b13))
 refine aA X15 hx hby dq_22 rfl rfl ?_
 refine lD X15 hx hby hown hZ (tw_63 hw) dq_23 (v' := (-9223372036854775808 : Int64)) rfl ?_
 obtain ⟨T16, h16, X16, e16, W16, st16⟩ := putF X15 hx hZ hown (host := "") (Or.inl (tw_64 hw)) Via.refl e15 f15_7 f15_2 (Or.inl (tw_65 hw)) (tw_33 hw) (ty := .long) (by decide) rfl rfl (g := (mkF m 26 #[(vR a0_)] [(.long (-9223372036854775808 : Int64)), (.ref a0_)])) rfl rfl (hb hby dq_26)
 refine Go.by st16 ?_
 have N16 := Fr.snoc X16 N15 g_a0_
 have f16_1 := Keep.wr f15_1 W16 (Or.inl (List.mem_of_getElem? (i := 0) rfl))
 have f16_2 := Exa.wr W16 f15_2
 have f16_3 := Fld.other W16 f15_3 (Or.inr (slot_ne (Or.inl (tw_80 hw)) (Or.inl (tw_65 hw)) (by decide) (t := .long) (t' := .long) (by decide) (by decide)))
 have f16_4 := Fld.other W16 f15_4 (Or.inr (slot_ne (Or.inl (tw_174 hw)) (Or.inl (tw_65 hw)) (by decide) (t := .long) (t' := .long) (by decide) (by decide)))
 have f16_5 := Fld.other W16 f15_5 (Or.inr (slot_ne (Or.inl (tw_41 hw)) (Or.inl (tw_65 hw)) (by decide) (t := .long) (t' := .long) (by decide) (by decide)))
 have f16_6 := Fld.other W16 f15_6 (Or.inr (slot_ne (Or.inr (tw_62 hw)) (Or.inl (tw_65 hw)) (by decide) (t := (.object q_2)) (t' := .long) (by decide) (by decide)))
 have f16_8 := Fld.other W16 f15_8 (Or.inr (slot_ne (Or.inl (tw_67 hw)) (Or.inl (tw_65 hw)) (by decide) (t := .int) (t' := .long) (by decide) (by decide)))
 have f16_9 := Exa.wr W16 f15_9
 have f16_10 := Fld.other W16 f15_10 (Or.inl (Ne.symm ne_a0__b13))
 have f16_11 := Fld.other W16 f15_11 (Or.inl (Ne.symm ne_a0__b13))
 have f16_12 := Fld.other W16 f15_12 (Or.inl (Ne.symm ne_a0__b13))
 have f16_13 := Fld.other W16 f15_13 (Or.inl (Ne.symm ne_a0__b13))
 refine aA X16 hx hby dq_29 rfl rfl ?_
 refine iC X16 hx hby dq_30 (v := (-1)) rfl ?_
 obtain ⟨T17, h17, X17, e17, W17, st17⟩ := putF X16 hx hZ hown (host := "") (Or.inl (tw_66 hw)) Via.refl e16 f16_8 f16_2 (Or.inl (tw_67 hw)) (tw_33 hw) (ty := .int) (by decide) rfl rfl (g := (mkF m 31 #[(vR a0_)] [(.int (-1)), (.ref a0_)])) rfl rfl (hb hby dq_31)
 refine Go.by st17 ?_
 have N17 := Fr.snoc X17 N16 g_a0_
 have f17_1 := Keep.wr f16_1 W17 (Or.inl (List.mem_of_getElem? (i := 0) rfl))
 have f17_2 := Exa.wr W17 f16_2
 have f17_3 := Fld.other W17 f16_3 (Or.inr (slot_ne (Or.inl (tw_80 hw)) (Or.inl (tw_67 hw)) (by decide) (t := .long) (t' := .int) (by decide) (by decide)))
 have f17_4 := Fld.other W17 f16_4 (Or.inr (slot_ne (Or.inl (tw_174 hw)) (Or.inl (tw_67 hw)) (by decide) (t := .long) (t' := .int) (by decide) (by decide)))
 have f17_5 := Fld.other W17 f16_5 (Or.inr (slot_ne (Or.inl (tw_41 hw)) (Or.inl (tw_67 hw)) (by decide) (t := .long) (t' := .int) (by decide) (by decide)))
 have f17_6 := Fld.other W17 f16_6 (Or.inr (slot_ne (Or.inr (tw_62 hw)) (Or.inl (tw_67 hw)) (by decide) (t := (.object q_2)) (t' := .int) (by decide) (by decide)))
 have f17_9 := Exa.wr W17 f16_9
 have f17_10 := Fld.other W17 f16_10 (Or.inl (Ne.symm ne_a0__b13))
 have f17_11 := Fld.other W17 f16_11 (Or.inl (Ne.symm ne_a0__b13))
 have f17_12 := Fld.other W17 f16_12 (Or.inl (Ne.symm ne_a0__b13))
 have f17_13 := Fld.other W17 f16_13 (Or.inl (Ne.symm ne_a0__b13))
 show oG p e below P m T17 34 #[(vR a0_)] []
 refine own_fin hP hlk X17 (v := none) (fun _ => rfl) (by decide) (by decide) ?_ (fun fs hr => X17.returnOut hx hret (hb hby dq_34) hr)
 rw [e17]
 exact ⟨rfl, N17, f17_1, b13, sz_b13, f17_2, f17_3, f17_4, f17_5, f17_6, f17_9, f17_10, f17_11, f17_12, f17_13⟩
def Q_lam (Z : State) (i : Int32) (h0 : Heap) (n0 : Nat) (v : Option Value) (h : Heap) (L : List Loc) : Prop := ∃ o, v = some (.ref o) ∧ Fr n0 L ∧ Keep h0 h [] ∧ h0.size ≤ o ∧ ∃ m, h0.size ≤ m ∧ Exa Z h o q_3 ∧ Fld Z h o q_3 "held" "J" (.long (0 : Int64)) ∧ Fld Z h o q_3 "known" "J" (.long (0 : Int64)) ∧ Fld Z h o q_3 "limit" "J" (.long (9223372036854775807 : Int64)) ∧ Fld Z h o q_3 q_18 q_19 (.ref m) ∧ Exa Z h m q_2 ∧ Fld Z h m q_2 q_12 q_1 .null ∧ Fld Z h m q_2 q_13 "I" (.int 0) ∧ Fld Z h m q_2 q_14 "I" (.int 0) ∧ Fld Z h m q_2 q_10 q_11 .null
theorem rm_lam (l : Launch) (Z : State) (a0 : Array Value) (hw : oW a0 Z) (ws : List Jvm.Cond) (i : Int32) (h0 : Heap) (n0 : Nat) (Z0 : n0 ≤ h0.size) :
   oM l oY17 p68_25 1 (some (.object q_3)) ws (own_R 4 2 16 60) #[(.int i)] Z h0 (Q_lam Z i h0 n0) := by
 refine own_open (n0 := n0) (cn := q_15) rfl (plainFor_of_name pn1) (L0 := #[(vI i)]) ?_
 intro p e s m below meth c s₁ P hx hby hml hown hnm X0 e0 N0 hlk hret hZ hP
 obtain ⟨T11, h11, X11, e11, E11, A11, D11, U11, st11⟩ := newO X0 hx hZ hown (tw_13 hw) (tw_33 hw) (tw_34 hw) e0 (g := (mkF m 0 #[(vI i)] [])) rfl (hb hby dD_0) (by decide) (by decide)
 obtain ⟨b11, g11⟩ : ∃ z, z = h0.size := ⟨_, rfl⟩
 rw [← g11] at A11 D11 U11 st11
 have g_b11 : n0 ≤ b11 := Nat.le_trans Z0 (Nat.le_of_eq g11.symm)
 have sz_b11 : h0.size ≤ b11 := Nat.le_trans (Keep.refl h0 []).1 (Nat.le_of_eq g11.symm)
 have f11_0 := Nat.le_trans Z0 E11.1
 have f11_1 := Keep.ext (Keep.refl h0 []) E11
 refine Go.by st11 ?_
 have F11_limit : Fld Z h11 b11 q_3 "limit" "J" (.long (0 : Int64)) := D11 (Or.inl (tw_41 hw)) (ty := .long) (by decide)
 have F11_messages : Fld Z h11 b11 q_3 q_18 q_19 .null := D11 (Or.inr (tw_62 hw)) (ty := (.object q_2)) (by decide)
 have F11_requestAt : Fld Z h11 b11 q_3 "requestAt" "J" (.long (0 : Int64)) := D11 (Or.inl (tw_65 hw)) (ty := .long) (by decide)
 have F11_askedLast : Fld Z h11 b11 q_3 "askedLast" "I" (.int 0) := D11 (Or.inl (tw_67 hw)) (ty := .int) (by decide)
 have F11_held : Fld Z h11 b11 q_3 "held" "J" (.long (0 : Int64)) := D11 (Or.inl (tw_80 hw)) (ty := .long) (by decide)
 have F11_known : Fld Z h11 b11 q_3 "known" "J" (.long (0 : Int64)) := D11 (Or.inl (tw_174 hw)) (ty := .long) (by decide)
 refine dU X11 hx hby dD_3 rfl ?_
 obtain ⟨_, _, ⟨T12, L12, k12, n12⟩, -, X12, ⟨Lc12, hQ12, l12, y12, z12⟩, st12⟩ := own_specialRef X11 hx hZ (y := oY30) rfl hown (tw_35 hw) (tw_36 hw) (tw_37 hw) (by decide) (backOf (W := 1) (rm_orInit l Z a0 hw [] b11 h11 n0 f11_0 A11 F11_held F11_known F11_limit F11_messages F11_requestAt F11_askedLast g_b11) hZ (tw_37 hw) (tw_34 hw) (by decide) (by decide)) (g := (mkF m 4 #[(vI i)] [(.ref b11), (.ref b11)])) rfl (by rw [hml]; rfl) (a := b11) (argsL := []) (rest := [(.ref b11)]) (lenOf pd20 rfl) rfl (by show 2 * 0 + _ ≤ _; exact Nat.le_of_eq rfl) (hb hby dD_4) (fun _ _ => ⟨rfl, e11, (by decide : 1 + 1 ≤ _), (by decide : 7 + 9 ≤ _)⟩)
 dsimp only [Pt.U, Pt.locs, Pt.cells, Pt.slots] at X12 l12 y12 z12 st12 hQ12
 subst l12 y12 z12
 obtain ⟨rfl, N12q, K12, m12, zm12, G12_0, G12_1, G12_2, G12_3, G12_4, G12_5, G12_6, G12_7, G12_8, G12_9⟩ := hQ12
 have N12 := Fr.app N0 N12q
 refine Go.by (fun t k => st12.trans k) ?_
 have f12_1 := Keep.trans f11_1 K12 (allS (Or.inr sz_b11) all0)
 have f12_2 := Exa.keep A11 K12
 have sz_m12 : h0.size ≤ m12 := Nat.le_trans f11_1.1 zm12
 show oG p e below P m T12 7 #[(vI i)] [(.ref b11)]
 refine r_val hP hlk hret X12 hx hby dD_7 rfl (Or.inr (Or.inr (Or.inr (Or.inr ⟨rfl, rfl, rfl⟩)))) (by decide) ?_
 exact ⟨b11, rfl, N12, f12_1, sz_b11, m12, sz_m12, f12_2, G12_1, G12_2, G12_3, G12_4, G12_5, G12_6, G12_7, G12_8, G12_9⟩
theorem own_lamMet (l : Launch) (Z : State) (a0 : Array Value) (hw : oW a0 Z) (i : Int32) (h0 : Heap) (n0 : Nat) (Z0 : n0 ≤ h0.size) :
   Met l oY17 [Jvm.Cond.code oY17 p68_25 1 (some (.object q_3))] (own_R 4 2 16 60) (fun a U => a = #[.int i] ∧ Z.Warmed39 U.vm ∧ U.heap = h0) (fun _ U o U' => ∃ v L, o = .returned v ∧ Q_lam Z i h0 n0 v U'.heap L) 2 16 (fun b => n0 ≤ b) := by
 refine MetFree.imp (rm_lam l Z a0 hw [] i h0 n0 Z0) ?_
 rintro a U o U' ⟨v, L, h1, h2, h3⟩
 refine ⟨⟨v, L, h1, h2⟩, L, h3, ?_⟩
 obtain ⟨x, -, N, -⟩ := h2
 exact N

def Q_setAll2 (Z : State) (a0_ : Addr) (ka : ClassId) (a1_ : Addr) (cK : ClassId) (h0 : Heap) (n0 : Nat) (v : Option Value) (h : Heap) (L : List Loc) : Prop := v = none ∧ Fr n0 L ∧ Keep h0 h [a0_] ∧ ∃ o0 m0 o1 m1, h0.size ≤ o0 ∧ h0.size ≤ m0 ∧ h0.size ≤ o1 ∧ h0.size ≤ m1 ∧ o0 ≠ o1 ∧ m0 ≠ m1 ∧ Arv Z h a0_ ka (.object q_3) (2 : Int32) [(.ref o0), (.ref o1)] .null ∧ Exa Z h o0 q_3 ∧ Fld Z h o0 q_3 "held" "J" (.long (0 : Int64)) ∧ Fld Z h o0 q_3 "known" "J" (.long (0 : Int64)) ∧ Fld Z h o0 q_3 "limit" "J" (.long (9223372036854775807 : Int64)) ∧ Fld Z h o0 q_3 q_18 q_19 (.ref m0) ∧ Exa Z h m0 q_2 ∧ Fld Z h m0 q_2 q_12 q_1 .null ∧ Fld Z h m0 q_2 q_13 "I" (.int 0) ∧ Fld Z h m0 q_2 q_14 "I" (.int 0) ∧ Fld Z h m0 q_2 q_10 q_11 .null ∧ Exa Z h o1 q_3 ∧ Fld Z h o1 q_3 "held" "J" (.long (0 : Int64)) ∧ Fld Z h o1 q_3 "known" "J" (.long (0 : Int64)) ∧ Fld Z h o1 q_3 "limit" "J" (.long (9223372036854775807 : Int64)) ∧ Fld Z h o1 q_3 q_18 q_19 (.ref m1) ∧ Exa Z h m1 q_2 ∧ Fld Z h m1 q_2 q_12 q_1 .null ∧ Fld Z h m1 q_2 q_13 "I" (.int 0) ∧ Fld Z h m1 q_2 q_14 "I" (.int 0) ∧ Fld Z h m1 q_2 q_10 q_11 .null
theorem rm_setAll2 (l : Launch) (Z : State) (a0 : Array Value) (hw : oW a0 Z) (ws : List Jvm.Cond) (a0_ : Addr) (ka : ClassId) (a1_ : Addr) (cK : ClassId) (h0 : Heap) (n0 : Nat) (Z0 : n0 ≤ h0.size) (V0 : Arv Z h0 a0_ ka (.object q_3) (2 : Int32) [.null, .null] .null) (g_a0_ : n0 ≤ a0_) (OV : Ovr Z ka q_3) (MD : Jvm.LamKit.Made Z q_15 own_sh cK) (FN : Jvm.LamKit.FnAt h0 a1_ cK) :
   oM l oY23 j65_173 3 none ws (own_R 6 4 32 110) #[(.ref a0_), (.ref a1_)] Z h0 (Q_setAll2 Z a0_ ka a1_ cK h0 n0) := by
 refine own_open (n0 := n0) (cn := "java/util/Arrays") rfl (plainFor_of_name pn5) (L0 := #[(vR a0_), (vR a1_), .unset]) ?_
 intro p e s m below meth c s₁ P hx hby hml hown hnm X0 e0 N0 hlk hret hZ hP
 refine aA X0 hx hby di_0 rfl rfl ?_
 refine c_stat 0 X0 hx hby hml hZ hown (tw_24 hw) (tw_25 hw) (tw_26 hw) (tw_27 hw) (rm_rnn l Z a0 hw [] a1_ h0 n0 Z0 ) e0 di_1 [(.ref a1_)] [] (lenOf pd3 rfl) rfl rfl ?_
 rintro _ T11 Lc11 ⟨rfl, N11q, q11⟩ X11
 have N11 := Fr.app N0 N11q
 refine pO X11 hx hby di_4 rfl ?_
 refine iC X11 hx hby di_5 (v := 0) rfl ?_
 refine iS X11 hx hby di_6 rfl ?_
 refine iA X11 hx hby di_7 rfl ?_
 refine aA X11 hx hby di_8 rfl rfl ?_
 have av12 := V0
 obtain ⟨cl12, Ar12, -, Sz12, Nn12, -, -⟩ := av12
 refine Go.by (X11.arraylength hx (by rw [q11]; exact Ar12.1) (State.isArrayOf_alike hZ.alike Ar12.2.1) (g := (mkF m 9 #[(vR a0_), (vR a1_), (vI 0)] [(.ref a0_), (.int 0)])) rfl rfl (hb hby di_9)) ?_
 rw [len_of Sz12 Nn12]
 show oG p e below P m T11 10 #[(vR a0_), (vR a1_), (vI 0)] [(.int 2), (.int 0)]
 refine cN X11 hx hby di_10 (XT.ii_ge_f (by decide : (0 : Int32) < (2 : Int32))) ?_
 refine aA X11 hx hby di_13 rfl rfl ?_
 refine iA X11 hx hby di_14 rfl ?_
 refine aA X11 hx hby di_15 rfl rfl ?_
 refine iA X11 hx hby di_16 rfl ?_
 obtain ⟨v13, st13s, t13, T13, L13, X13, hL13, e13, es13, hq13, st13⟩ := Jvm.LamKit.callLamS X11 hx (own := "java/util/Arrays") (host := q_15) (index := 558) (count := 2) (xi := oY24) (y := oY17) (σ := own_sh) (own_lamMet l Z a0 hw (0 : Int32) h0 n0 Z0) (fun _ _ _ _ k => k) rfl rfl (fun w hw' a' U hU => by rw [List.mem_singleton.mp hw']; exact mv (wtrans hZ hU) (tw_32 hw)) (List.mem_singleton.mpr rfl) hown (mvT hZ (tw_28 hw)) (mvT hZ (tw_29 hw)) (mvT hZ (tw_30 hw)) (mvT hZ (tw_32 hw)) (mvT hZ (tw_31 hw)) (mvT hZ (tw_4 hw)) (by decide +kernel) (by decide +kernel) (by decide) (own_made39 hZ MD) (by rw [q11]; exact FN) own_fwd own_f1 own_f4 (g := (mkF m 17 #[(vR a0_), (vR a1_), (vI 0)] [(.int 0), (.ref a1_), (.int 0), (.ref a0_)])) rfl (by rw [hml]; rfl) (argsL := [.int 0]) (argsT := [.int 0]) (rest := [(.int 0), (.ref a0_)]) (L0 := #[(vR a1_), (vI 0)]) (lenOf pd14 rfl) (lenOf pd15 rfl) rfl (hb hby di_17) (fun _ => rfl) rfl (fun U ck bl target hU hck _ _ k => XS.iloadN hU hx rfl (hb hck own_f0) rfl k) (fun st v t hh => by obtain ⟨_, _, r1, x, r2, -⟩ := hh; cases r1; subst r2; exact Or.inr (Or.inr (Or.inl ⟨_, _, rfl, rfl, rfl, rfl, rfl⟩))) (by decide) (by show 2 * 0 + _ + _ + _ ≤ _; exact Nat.le_of_ble_eq_true rfl) (by decide) (by decide) (fun U hU hh => ⟨rfl, wtrans hZ hU, by rw [hh]; exact q11⟩)
 obtain ⟨_, _, r13, o13, rv13, -, K13, zo13, m13, zm13, G13_0, G13_1, G13_2, G13_3, G13_4, G13_5, G13_6, G13_7, G13_8, G13_9⟩ := hq13
 cases r13
 subst rv13
 have N13 := Fr.app N11 hL13
 refine Go.by (fun t k => st13 t k) ?_
 have f13_0 := Nat.le_trans Z0 K13.1
 have f13_1 := Keep.trans (Keep.refl h0 [a0_]) K13 all0
 have f13_2 := Arv.keep V0 K13 nin0
 have f13_3 : Jvm.LamKit.FnAt t13.heap a1_ cK := (own_fnKeep K13 FN)
 have g_o13 : n0 ≤ o13 := Nat.le_trans Z0 zo13
 have sz_o13 : h0.size ≤ o13 := Nat.le_trans (Keep.refl h0 [a0_]).1 zo13
 have ne_a0__o13 : a0_ ≠ o13 := Nat.ne_of_lt (Nat.lt_of_lt_of_le (V0.lt) zo13)
 have g_m13 : n0 ≤ m13 := Nat.le_trans Z0 zm13
 have sz_m13 : h0.size ≤ m13 := Nat.le_trans (Keep.refl h0 [a0_]).1 zm13
 have ne_a0__m13 : a0_ ≠ m13 := Nat.ne_of_lt (Nat.lt_of_lt_of_le (V0.lt) zm13)
 show oG p e below P m T13 22 #[(vR a0_), (vR a1_), (vI 0)] [(.ref o13), (.int 0), (.ref a0_)]
 have av14 := f13_2
 obtain ⟨cl14, Ar14, q14, Sz14, Nn14, Ha14, Gf14⟩ := av14
 have hin14 : ¬ ((0 : Int32) < 0 ∨ cl14.slots.size ≤ ((0 : Int32)).toNatClampNeg) := inb_of Sz14 ⟨by decide, by decide⟩
 obtain ⟨T15, h15, X15, e15, W15, st15⟩ := stR X13 hx hZ e13 Ar14 (j := (0 : Int32)) hin14 rfl (Sto.ofV Ar14 q14 OV (Ins.self G13_0)) (g := (mkF m 22 #[(vR a0_), (vR a1_), (vI 0)] [(.ref o13), (.int 0), (.ref a0_)])) rfl rfl (hb hby di_22)
 have V15 : Arv Z h15 a0_ ka (.object q_3) (2 : Int32) [(.ref o13), .null] .null := Arv.set Ar14 q14 Sz14 Nn14 Ha14 Gf14 rfl W15 0 rfl (Nat.le_of_ble_eq_true rfl)
 have N15 := Fr.snoc X15 N13 g_a0_
 have f15_0 := Nat.le_trans f13_0 (Keep.of_wr W15).1
 have f15_1 := Keep.wr f13_1 W15 (Or.inl (List.mem_of_getElem? (i := 0) rfl))
 have f15_2 : Jvm.LamKit.FnAt h15 a1_ cK := (own_fnKeep (Keep.of_wr W15) f13_3)
 have f15_3 := Exa.wr W15 G13_0
 have f15_4 := Fld.other W15 G13_1 (Or.inl (Ne.symm ne_a0__o13))
 have f15_5 := Fld.other W15 G13_2 (Or.inl (Ne.symm ne_a0__o13))
 have f15_6 := Fld.other W15 G13_3 (Or.inl (Ne.symm ne_a0__o13))
 have f15_7 := Fld.other W15 G13_4 (Or.inl (Ne.symm ne_a0__o13))
 have f15_8 := Exa.wr W15 G13_5
 have f15_9 := Fld.other W15 G13_6 (Or.inl (Ne.symm ne_a0__m13))
 have f15_10 := Fld.other W15 G13_7 (Or.inl (Ne.symm ne_a0__m13))
 have f15_11 := Fld.other W15 G13_8 (Or.inl (Ne.symm ne_a0__m13))
 have f15_12 := Fld.other W15 G13_9 (Or.inl (Ne.symm ne_a0__m13))
 refine Go.by st15 ?_
 refine iI X15 hx hby di_23 rfl (l' := #[(vR a0_), (vR a1_), (vI 1)]) rfl ?_
 refine gO X15 hx hby di_26 (pc' := 7) ?_
 refine iA X15 hx hby di_7 rfl ?_
 refine aA X15 hx hby di_8 rfl rfl ?_
 have av16 := V15
 obtain ⟨cl16, Ar16, -, Sz16, Nn16, -, -⟩ := av16
 refine Go.by (X15.arraylength hx (by rw [e15]; exact Ar16.1) (State.isArrayOf_alike hZ.alike Ar16.2.1) (g := (mkF m 9 #[(vR a0_), (vR a1_), (vI 1)] [(.ref a0_), (.int 1)])) rfl rfl (hb hby di_9)) ?_
 rw [len_of Sz16 Nn16]
 show oG p e below P m T15 10 #[(vR a0_), (vR a1_), (vI 1)] [(.int 2), (.int 1)]
 refine cN X15 hx hby di_10 (XT.ii_ge_f (by decide : (1 : Int32) < (2 : Int32))) ?_
 refine aA X15 hx hby di_13 rfl rfl ?_
 refine iA X15 hx hby di_14 rfl ?_
 refine aA X15 hx hby di_15 rfl rfl ?_
 refine iA X15 hx hby di_16 rfl ?_
 obtain ⟨v17, st17s, t17, T17, L17, X17, hL17, e17, es17, hq17, st17⟩ := Jvm.LamKit.callLamS X15 hx (own := "java/util/Arrays") (host := q_15) (index := 558) (count := 2) (xi := oY24) (y := oY17) (σ := own_sh) (own_lamMet l Z a0 hw (1 : Int32) h15 n0 f15_0) (fun _ _ _ _ k => k) rfl rfl (fun w hw' a' U hU => by rw [List.mem_singleton.mp hw']; exact mv (wtrans hZ hU) (tw_32 hw)) (List.mem_singleton.mpr rfl) hown (mvT hZ (tw_28 hw)) (mvT hZ (tw_29 hw)) (mvT hZ (tw_30 hw)) (mvT hZ (tw_32 hw)) (mvT hZ (tw_31 hw)) (mvT hZ (tw_4 hw)) (by decide +kernel) (by decide +kernel) (by decide) (own_made39 hZ MD) (by rw [e15]; exact f15_2) own_fwd own_f1 own_f4 (g := (mkF m 17 #[(vR a0_), (vR a1_), (vI 1)] [(.int 1), (.ref a1_), (.int 1), (.ref a0_)])) rfl (by rw [hml]; rfl) (argsL := [.int 1]) (argsT := [.int 1]) (rest := [(.int 1), (.ref a0_)]) (L0 := #[(vR a1_), (vI 1)]) (lenOf pd14 rfl) (lenOf pd15 rfl) rfl (hb hby di_17) (fun _ => rfl) rfl (fun U ck bl target hU hck _ _ k => XS.iloadN hU hx rfl (hb hck own_f0) rfl k) (fun st v t hh => by obtain ⟨_, _, r1, x, r2, -⟩ := hh; cases r1; subst r2; exact Or.inr (Or.inr (Or.inl ⟨_, _, rfl, rfl, rfl, rfl, rfl⟩))) (by decide) (by show 2 * 0 + _ + _ + _ ≤ _; exact Nat.le_of_ble_eq_true rfl) (by decide) (by decide) (fun U hU hh => ⟨rfl, wtrans hZ hU, by rw [hh]; exact e15⟩)
 obtain ⟨_, _, r17, o17, rv17, -, K17, zo17, m17, zm17, G17_0, G17_1, G17_2, G17_3, G17_4, G17_5, G17_6, G17_7, G17_8, G17_9⟩ := hq17
 cases r17
 subst rv17
 have N17 := Fr.app N15 hL17
 refine Go.by (fun t k => st17 t k) ?_
 have f17_1 := Keep.trans f15_1 K17 all0
 have f17_3 := Exa.keep f15_3 K17
 have f17_4 := Fld.keep f15_4 K17 nin0
 have f17_5 := Fld.keep f15_5 K17 nin0
 have f17_6 := Fld.keep f15_6 K17 nin0
 have f17_7 := Fld.keep f15_7 K17 nin0
 have f17_8 := Exa.keep f15_8 K17
 have f17_9 := Fld.keep f15_9 K17 nin0
 have f17_10 := Fld.keep f15_10 K17 nin0
 have f17_11 := Fld.keep f15_11 K17 nin0
 have f17_12 := Fld.keep f15_12 K17 nin0
 have f17_13 := Arv.keep V15 K17 nin0
 have g_o17 : n0 ≤ o17 := Nat.le_trans f15_0 zo17
 have sz_o17 : h0.size ≤ o17 := Nat.le_trans f15_1.1 zo17
 have ne_o13_o17 : o13 ≠ o17 := Nat.ne_of_lt (Nat.lt_of_lt_of_le (f15_3.lt) zo17)
 have ne_a0__o17 : a0_ ≠ o17 := Nat.ne_of_lt (Nat.lt_of_lt_of_le (V15.lt) zo17)
 have g_m17 : n0 ≤ m17 := Nat.le_trans f15_0 zm17
 have sz_m17 : h0.size ≤ m17 := Nat.le_trans f15_1.1 zm17
 have ne_m13_m17 : m13 ≠ m17 := Nat.ne_of_lt (Nat.lt_of_lt_of_le (f15_8.lt) zm17)
 have ne_a0__m17 : a0_ ≠ m17 := Nat.ne_of_lt (Nat.lt_of_lt_of_le (V15.lt) zm17)
 show oG p e below P m T17 22 #[(vR a0_), (vR a1_), (vI 1)] [(.ref o17), (.int 1), (.ref a0_)]
 have av18 := f17_13
 obtain ⟨cl18, Ar18, q18, Sz18, Nn18, Ha18, Gf18⟩ := av18
 have hin18 : ¬ ((1 : Int32) < 0 ∨ cl18.slots.size ≤ ((1 : Int32)).toNatClampNeg) := inb_of Sz18 ⟨by decide, by decide⟩
 obtain ⟨T19, h19, X19, e19, W19, st19⟩ := stR X17 hx hZ e17 Ar18 (j := (1 : Int32)) hin18 rfl (Sto.ofV Ar18 q18 OV (Ins.self G17_0)) (g := (mkF m 22 #[(vR a0_), (vR a1_), (vI 1)] [(.ref o17), (.int 1), (.ref a0_)])) rfl rfl (hb hby di_22)
 have V19 : Arv Z h19 a0_ ka (.object q_3) (2 : Int32) [(.ref o13), (.ref o17)] .null := Arv.set Ar18 q18 Sz18 Nn18 Ha18 Gf18 rfl W19 1 rfl (Nat.le_of_ble_eq_true rfl)
 have N19 := Fr.snoc X19 N17 g_a0_
 have f19_1 := Keep.wr f17_1 W19 (Or.inl (List.mem_of_getElem? (i := 0) rfl))
 have f19_3 := Exa.wr W19 f17_3
 have f19_4 := Fld.other W19 f17_4 (Or.inl (Ne.symm ne_a0__o13))
 have f19_5 := Fld.other W19 f17_5 (Or.inl (Ne.symm ne_a0__o13))
 have f19_6 := Fld.other W19 f17_6 (Or.inl (Ne.symm ne_a0__o13))
 have f19_7 := Fld.other W19 f17_7 (Or.inl (Ne.symm ne_a0__o13))
 have f19_8 := Exa.wr W19 f17_8
 have f19_9 := Fld.other W19 f17_9 (Or.inl (Ne.symm ne_a0__m13))
 have f19_10 := Fld.other W19 f17_10 (Or.inl (Ne.symm ne_a0__m13))
 have f19_11 := Fld.other W19 f17_11 (Or.inl (Ne.symm ne_a0__m13))
 have f19_12 := Fld.other W19 f17_12 (Or.inl (Ne.symm ne_a0__m13))
 have f19_13 := Exa.wr W19 G17_0
 have f19_14 := Fld.other W19 G17_1 (Or.inl (Ne.symm ne_a0__o17))
 have f19_15 := Fld.other W19 G17_2 (Or.inl (Ne.symm ne_a0__o17))
 have f19_16 := Fld.other W19 G17_3 (Or.inl (Ne.symm ne_a0__o17))
 have f19_17 := Fld.other W19 G17_4 (Or.inl (Ne.symm ne_a0__o17))
 have f19_18 := Exa.wr W19 G17_5
 have f19_19 := Fld.other W19 G17_6 (Or.inl (Ne.symm ne_a0__m17))
 have f19_20 := Fld.other W19 G17_7 (Or.inl (Ne.symm ne_a0__m17))
 have f19_21 := Fld.other W19 G17_8 (Or.inl (Ne.symm ne_a0__m17))
 have f19_22 := Fld.other W19 G17_9 (Or.inl (Ne.symm ne_a0__m17))
 refine Go.by st19 ?_
 refine iI X19 hx hby di_23 rfl (l' := #[(vR a0_), (vR a1_), (vI 2)]) rfl ?_
 refine gO X19 hx hby di_26 (pc' := 7) ?_
 refine iA X19 hx hby di_7 rfl ?_
 refine aA X19 hx hby di_8 rfl rfl ?_
 have av20 := V19
 obtain ⟨cl20, Ar20, -, Sz20, Nn20, -, -⟩ := av20
 refine Go.by (X19.arraylength hx (by rw [e19]; exact Ar20.1) (State.isArrayOf_alike hZ.alike Ar20.2.1) (g := (mkF m 9 #[(vR a0_), (vR a1_), (vI 2)] [(.ref a0_), (.int 2)])) rfl rfl (hb hby di_9)) ?_
 rw [len_of Sz20 Nn20]
 show oG p e below P m T19 10 #[(vR a0_), (vR a1_), (vI 2)] [(.int 2), (.int 2)]
 refine cY X19 hx hby di_10 (pc' := 29) (XT.ii_ge_t (by decide : ¬ (2 : Int32) < (2 : Int32))) ?_
 refine own_fin hP hlk X19 (v := none) (fun _ => rfl) (by decide) (by decide) ?_ (fun fs hr => X19.returnOut hx hret (hb hby di_29) hr)
 rw [e19]
 exact ⟨rfl, N19, f19_1, o13, m13, o17, m17, sz_o13, sz_m13, sz_o17, sz_m17, ne_o13_o17, ne_m13_m17, V19, f19_3, f19_4, f19_5, f19_6, f19_7, f19_8, f19_9, f19_10, f19_11, f19_12, f19_13, f19_14, f19_15, f19_16, f19_17, f19_18, f19_19, f19_20, f19_21, f19_22⟩
def Q_setAll3 (Z : State) (a0_ : Addr) (ka : ClassId) (a1_ : Addr) (cK : ClassId) (h0 : Heap) (n0 : Nat) (v : Option Value) (h : Heap) (L : List Loc) : Prop := v = none ∧ Fr n0 L ∧ Keep h0 h [a0_] ∧ ∃ o0 m0 o1 m1 o2 m2, h0.size ≤ o0 ∧ h0.size ≤ m0 ∧ h0.size ≤ o1 ∧ h0.size ≤ m1 ∧ h0.size ≤ o2 ∧ h0.size ≤ m2 ∧ o0 ≠ o1 ∧ m0 ≠ m1 ∧ o0 ≠ o2 ∧ m0 ≠ m2 ∧ o1 ≠ o2 ∧ m1 ≠ m2 ∧ Arv Z h a0_ ka (.object q_3) (3 : Int32) [(.ref o0), (.ref o1), (.ref o2)] .null ∧ Exa Z h o0 q_3 ∧ Fld Z h o0 q_3 "held" "J" (.long (0 : Int64)) ∧ Fld Z h o0 q_3 "known" "J" (.long (0 : Int64)) ∧ Fld Z h o0 q_3 "limit" "J" (.long (9223372036854775807 : Int64)) ∧ Fld Z h o0 q_3 q_18 q_19 (.ref m0) ∧ Exa Z h m0 q_2 ∧ Fld Z h m0 q_2 q_12 q_1 .null ∧ Fld Z h m0 q_2 q_13 "I" (.int 0) ∧ Fld Z h m0 q_2 q_14 "I" (.int 0) ∧ Fld Z h m0 q_2 q_10 q_11 .null ∧ Exa Z h o1 q_3 ∧ Fld Z h o1 q_3 "held" "J" (.long (0 : Int64)) ∧ Fld Z h o1 q_3 "known" "J" (.long (0 : Int64)) ∧ Fld Z h o1 q_3 "limit" "J" (.long (9223372036854775807 : Int64)) ∧ Fld Z h o1 q_3 q_18 q_19 (.ref m1) ∧ Exa Z h m1 q_2 ∧ Fld Z h m1 q_2 q_12 q_1 .null ∧ Fld Z h m1 q_2 q_13 "I" (.int 0) ∧ Fld Z h m1 q_2 q_14 "I" (.int 0) ∧ Fld Z h m1 q_2 q_10 q_11 .null ∧ Exa Z h o2 q_3 ∧ Fld Z h o2 q_3 "held" "J" (.long (0 : Int64)) ∧ Fld Z h o2 q_3 "known" "J" (.long (0 : Int64)) ∧ Fld Z h o2 q_3 "limit" "J" (.long (9223372036854775807 : Int64)) ∧ Fld Z h o2 q_3 q_18 q_19 (.ref m2) ∧ Exa Z h m2 q_2 ∧ Fld Z h m2 q_2 q_12 q_1 .null ∧ Fld Z h m2 q_2 q_13 "I" (.int 0) ∧ Fld Z h m2 q_2 q_14 "I" (.int 0) ∧ Fld Z h m2 q_2 q_10 q_11 .null
theorem rm_setAll3 (l : Launch) (Z : State) (a0 : Array Value) (hw : oW a0 Z) (ws : List Jvm.Cond) (a0_ : Addr) (ka : ClassId) (a1_ : Addr) (cK : ClassId) (h0 : Heap) (n0 : Nat) (Z0 : n0 ≤ h0.size) (V0 : Arv Z h0 a0_ ka (.object q_3) (3 : Int32) [.null, .null, .null] .null) (g_a0_ : n0 ≤ a0_) (OV : Ovr Z ka q_3) (MD : Jvm.LamKit.Made Z q_15 own_sh cK) (FN : Jvm.LamKit.FnAt h0 a1_ cK) :
   oM l oY23 j65_173 3 none ws (own_R 6 6 48 110) #[(.ref a0_), (.ref a1_)] Z h0 (Q_setAll3 Z a0_ ka a1_ cK h0 n0) := by
 refine own_open (n0 := n0) (cn := "java/util/Arrays") rfl (plainFor_of_name pn5) (L0 := #[(vR a0_), (vR a1_), .unset]) ?_
 intro p e s m below meth c s₁ P hx hby hml hown hnm X0 e0 N0 hlk hret hZ hP
 refine aA X0 hx hby di_0 rfl rfl ?_
 refine c_stat 0 X0 hx hby hml hZ hown (tw_24 hw) (tw_25 hw) (tw_26 hw) (tw_27 hw) (rm_rnn l Z a0 hw [] a1_ h0 n0 Z0 ) e0 di_1 [(.ref a1_)] [] (lenOf pd3 rfl) rfl rfl ?_
 rintro _ T11 Lc11 ⟨rfl, N11q, q11⟩ X11
 have N11 := Fr.app N0 N11q
 refine pO X11 hx hby di_4 rfl ?_
 refine iC X11 hx hby di_5 (v := 0) rfl ?_
 refine iS X11 hx hby di_6 rfl ?_
 refine iA X11 hx hby di_7 rfl ?_
 refine aA X11 hx hby di_8 rfl rfl ?_
 have av12 := V0
 obtain ⟨cl12, Ar12, -, Sz12, Nn12, -, -⟩ := av12
 refine Go.by (X11.arraylength hx (by rw [q11]; exact Ar12.1) (State.isArrayOf_alike hZ.alike Ar12.2.1) (g := (mkF m 9 #[(vR a0_), (vR a1_), (vI 0)] [(.ref a0_), (.int 0)])) rfl rfl (hb hby di_9)) ?_
 rw [len_of Sz12 Nn12]
 show oG p e below P m T11 10 #[(vR a0_), (vR a1_), (vI 0)] [(.int 3), (.int 0)]
 refine cN X11 hx hby di_10 (XT.ii_ge_f (by decide : (0 : Int32) < (3 : Int32))) ?_
 refine aA X11 hx hby di_13 rfl rfl ?_
 refine iA X11 hx hby di_14 rfl ?_
 refine aA X11 hx hby di_15 rfl rfl ?_
 refine iA X11 hx hby di_16 rfl ?_
 obtain ⟨v13, st13s, t13, T13, L13, X13, hL13, e13, es13, hq13, st13⟩ := Jvm.LamKit.callLamS X11 hx (own := "java/util/Arrays") (host := q_15) (index := 558) (count := 2) (xi := oY24) (y := oY17) (σ := own_sh) (own_lamMet l Z a0 hw (0 : Int32) h0 n0 Z0) (fun _ _ _ _ k => k) rfl rfl (fun w hw' a' U hU => by rw [List.mem_singleton.mp hw']; exact mv (wtrans hZ hU) (tw_32 hw)) (List.mem_singleton.mpr rfl) hown (mvT hZ (tw_28 hw)) (mvT hZ (tw_29 hw)) (mvT hZ (tw_30 hw)) (mvT hZ (tw_32 hw)) (mvT hZ (tw_31 hw)) (mvT hZ (tw_4 hw)) (by decide +kernel) (by decide +kernel) (by decide) (own_made39 hZ MD) (by rw [q11]; exact FN) own_fwd own_f1 own_f4 (g := (mkF m 17 #[(vR a0_), (vR a1_), (vI 0)] [(.int 0), (.ref a1_), (.int 0), (.ref a0_)])) rfl (by rw [hml]; rfl) (argsL := [.int 0]) (argsT := [.int 0]) (rest := [(.int 0), (.ref a0_)]) (L0 := #[(vR a1_), (vI 0)]) (lenOf pd14 rfl) (lenOf pd15 rfl) rfl (hb hby di_17) (fun _ => rfl) rfl (fun U ck bl target hU hck _ _ k => XS.iloadN hU hx rfl (hb hck own_f0) rfl k) (fun st v t hh => by obtain ⟨_, _, r1, x, r2, -⟩ := hh; cases r1; subst r2; exact Or.inr (Or.inr (Or.inl ⟨_, _, rfl, rfl, rfl, rfl, rfl⟩))) (by decide) (by show 2 * 0 + _ + _ + _ ≤ _; exact Nat.le_of_ble_eq_true rfl) (by decide) (by decide) (fun U hU hh => ⟨rfl, wtrans hZ hU, by rw [hh]; exact q11⟩)
 obtain ⟨_, _, r13, o13, rv13, -, K13, zo13, m13, zm13, G13_0, G13_1, G13_2, G13_3, G13_4, G13_5, G13_6, G13_7, G13_8, G13_9⟩ := hq13
 cases r13
 subst rv13
 have N13 := Fr.app N11 hL13
 refine Go.by (fun t k => st13 t k) ?_
 have f13_0 := Nat.le_trans Z0 K13.1
 have f13_1 := Keep.trans (Keep.refl h0 [a0_]) K13 all0
 have f13_2 := Arv.keep V0 K13 nin0
 have f13_3 : Jvm.LamKit.FnAt t13.heap a1_ cK := (own_fnKeep K13 FN)
 have g_o13 : n0 ≤ o13 := Nat.le_trans Z0 zo13
 have sz_o13 : h0.size ≤ o13 := Nat.le_trans (Keep.refl h0 [a0_]).1 zo13
 have ne_a0__o13 : a0_ ≠ o13 := Nat.ne_of_lt (Nat.lt_of_lt_of_le (V0.lt) zo13)
 have g_m13 : n0 ≤ m13 := Nat.le_trans Z0 zm13
 have sz_m13 : h0.size ≤ m13 := Nat.le_trans (Keep.refl h0 [a0_]).1 zm13
 have ne_a0__m13 : a0_ ≠ m13 := Nat.ne_of_lt (Nat.lt_of_lt_of_le (V0.lt) zm13)
 show oG p e below P m T13 22 #[(vR a0_), (vR a1_), (vI 0)] [(.ref o13), (.int 0), (.ref a0_)]
 have av14 := f13_2
 obtain ⟨cl14, Ar14, q14, Sz14, Nn14, Ha14, Gf14⟩ := av14
 have hin14 : ¬ ((0 : Int32) < 0 ∨ cl14.slots.size ≤ ((0 : Int32)).toNatClampNeg) := inb_of Sz14 ⟨by decide, by decide⟩
 obtain ⟨T15, h15, X15, e15, W15, st15⟩ := stR X13 hx hZ e13 Ar14 (j := (0 : Int32)) hin14 rfl (Sto.ofV Ar14 q14 OV (Ins.self G13_0)) (g := (mkF m 22 #[(vR a0_), (vR a1_), (vI 0)] [(.ref o13), (.int 0), (.ref a0_)])) rfl rfl (hb hby di_22)
 have V15 : Arv Z h15 a0_ ka (.object q_3) (3 : Int32) [(.ref o13), .null, .null] .null := Arv.set Ar14 q14 Sz14 Nn14 Ha14 Gf14 rfl W15 0 rfl (Nat.le_of_ble_eq_true rfl)
 have N15 := Fr.snoc X15 N13 g_a0_
 have f15_0 := Nat.le_trans f13_0 (Keep.of_wr W15).1
 have f15_1 := Keep.wr f13_1 W15 (Or.inl (List.mem_of_getElem? (i := 0) rfl))
 have f15_2 : Jvm.LamKit.FnAt h15 a1_ cK := (own_fnKeep (Keep.of_wr W15) f13_3)
 have f15_3 := Exa.wr W15 G13_0
 have f15_4 := Fld.other W15 G13_1 (Or.inl (Ne.symm ne_a0__o13))
 have f15_5 := Fld.other W15 G13_2 (Or.inl (Ne.symm ne_a0__o13))
 have f15_6 := Fld.other W15 G13_3 (Or.inl (Ne.symm ne_a0__o13))
 have f15_7 := Fld.other W15 G13_4 (Or.inl (Ne.symm ne_a0__o13))
 have f15_8 := Exa.wr W15 G13_5
 have f15_9 := Fld.other W15 G13_6 (Or.inl (Ne.symm ne_a0__m13))
 have f15_10 := Fld.other W15 G13_7 (Or.inl (Ne.symm ne_a0__m13))
 have f15_11 := Fld.other W15 G13_8 (Or.inl (Ne.symm ne_a0__m13))
 have f15_12 := Fld.other W15 G13_9 (Or.inl (Ne.symm ne_a0__m13))
 refine Go.by st15 ?_
 refine iI X15 hx hby di_23 rfl (l' := #[(vR a0_), (vR a1_), (vI 1)]) rfl ?_
 refine gO X15 hx hby di_26 (pc' := 7) ?_
 refine iA X15 hx hby di_7 rfl ?_
 refine aA X15 hx hby di_8 rfl rfl ?_
 have av16 := V15
 obtain ⟨cl16, Ar16, -, Sz16, Nn16, -, -⟩ := av16
 refine Go.by (X15.arraylength hx (by rw [e15]; exact Ar16.1) (State.isArrayOf_alike hZ.alike Ar16.2.1) (g := (mkF m 9 #[(vR a0_), (vR a1_), (vI 1)] [(.ref a0_), (.int 1)])) rfl rfl (hb hby di_9)) ?_
 rw [len_of Sz16 Nn16]
 show oG p e below P m T15 10 #[(vR a0_), (vR a1_), (vI 1)] [(.int 3), (.int 1)]
 refine cN X15 hx hby di_10 (XT.ii_ge_f (by decide : (1 : Int32) < (3 : Int32))) ?_
 refine aA X15 hx hby di_13 rfl rfl ?_
 refine iA X15 hx hby di_14 rfl ?_
 refine aA X15 hx hby di_15 rfl rfl ?_
 refine iA X15 hx hby di_16 rfl ?_
 obtain ⟨v17, st17s, t17, T17, L17, X17, hL17, e17, es17, hq17, st17⟩ := Jvm.LamKit.callLamS X15 hx (own := "java/util/Arrays") (host := q_15) (index := 558) (count := 2) (xi := oY24) (y := oY17) (σ := own_sh) (own_lamMet l Z a0 hw (1 : Int32) h15 n0 f15_0) (fun _ _ _ _ k => k) rfl rfl (fun w hw' a' U hU => by rw [List.mem_singleton.mp hw']; exact mv (wtrans hZ hU) (tw_32 hw)) (List.mem_singleton.mpr rfl) hown (mvT hZ (tw_28 hw)) (mvT hZ (tw_29 hw)) (mvT hZ (tw_30 hw)) (mvT hZ (tw_32 hw)) (mvT hZ (tw_31 hw)) (mvT hZ (tw_4 hw)) (by decide +kernel) (by decide +kernel) (by decide) (own_made39 hZ MD) (by rw [e15]; exact f15_2) own_fwd own_f1 own_f4 (g := (mkF m 17 #[(vR a0_), (vR a1_), (vI 1)] [(.int 1), (.ref a1_), (.int 1), (.ref a0_)])) rfl (by rw [hml]; rfl) (argsL := [.int 1]) (argsT := [.int 1]) (rest := [(.int 1), (.ref a0_)]) (L0 := #[(vR a1_), (vI 1)]) (lenOf pd14 rfl) (lenOf pd15 rfl) rfl (hb hby di_17) (fun _ => rfl) rfl (fun U ck bl target hU hck _ _ k => XS.iloadN hU hx rfl (hb hck own_f0) rfl k) (fun st v t hh => by obtain ⟨_, _, r1, x, r2, -⟩ := hh; cases r1; subst r2; exact Or.inr (Or.inr (Or.inl ⟨_, _, rfl, rfl, rfl, rfl, rfl⟩))) (by decide) (by show 2 * 0 + _ + _ + _ ≤ _; exact Nat.le_of_ble_eq_true rfl) (by decide) (by decide) (fun U hU hh => ⟨rfl, wtrans hZ hU, by rw [hh]; exact e15⟩)
 obtain ⟨_, _, r17, o17, rv17, -, K17, zo17, m17, zm17, G17_0, G17_1, G17_2, G17_3, G17_4, G17_5, G17_6, G17_7, G17_8, G17_9⟩ := hq17
 cases r17
 subst rv17
 have N17 := Fr.app N15 hL17
 refine Go.by (fun t k => st17 t k) ?_
 have f17_0 := Nat.le_trans f15_0 K17.1
 have f17_1 := Keep.trans f15_1 K17 all0
 have f17_2 : Jvm.LamKit.FnAt t17.heap a1_ cK := (own_fnKeep K17 f15_2)
 have f17_3 := Exa.keep f15_3 K17
 have f17_4 := Fld.keep f15_4 K17 nin0
 have f17_5 := Fld.keep f15_5 K17 nin0
 have f17_6 := Fld.keep f15_6 K17 nin0
 have f17_7 := Fld.keep f15_7 K17 nin0
 have f17_8 := Exa.keep f15_8 K17
 have f17_9 := Fld.keep f15_9 K17 nin0
 have f17_10 := Fld.keep f15_10 K17 nin0
 have f17_11 := Fld.keep f15_11 K17 nin0
 have f17_12 := Fld.keep f15_12 K17 nin0
 have f17_13 := Arv.keep V15 K17 nin0
 have g_o17 : n0 ≤ o17 := Nat.le_trans f15_0 zo17
 have sz_o17 : h0.size ≤ o17 := Nat.le_trans f15_1.1 zo17
 have ne_o13_o17 : o13 ≠ o17 := Nat.ne_of_lt (Nat.lt_of_lt_of_le (f15_3.lt) zo17)
 have ne_a0__o17 : a0_ ≠ o17 := Nat.ne_of_lt (Nat.lt_of_lt_of_le (V15.lt) zo17)
 have g_m17 : n0 ≤ m17 := Nat.le_trans f15_0 zm17
 have sz_m17 : h0.size ≤ m17 := Nat.le_trans f15_1.1 zm17
 have ne_m13_m17 : m13 ≠ m17 := Nat.ne_of_lt (Nat.lt_of_lt_of_le (f15_8.lt) zm17)
 have ne_a0__m17 : a0_ ≠ m17 := Nat.ne_of_lt (Nat.lt_of_lt_of_le (V15.lt) zm17)
 show oG p e below P m T17 22 #[(vR a0_), (vR a1_), (vI 1)] [(.ref o17), (.int 1), (.ref a0_)]
 have av18 := f17_13
 obtain ⟨cl18, Ar18, q18, Sz18, Nn18, Ha18, Gf18⟩ := av18
 have hin18 : ¬ ((1 : Int32) < 0 ∨ cl18.slots.size ≤ ((1 : Int32)).toNatClampNeg) := inb_of Sz18 ⟨by decide, by decide⟩
 obtain ⟨T19, h19, X19, e19, W19, st19⟩ := stR X17 hx hZ e17 Ar18 (j := (1 : Int32)) hin18 rfl (Sto.ofV Ar18 q18 OV (Ins.self G17_0)) (g := (mkF m 22 #[(vR a0_), (vR a1_), (vI 1)] [(.ref o17), (.int 1), (.ref a0_)])) rfl rfl (hb hby di_22)
 have V19 : Arv Z h19 a0_ ka (.object q_3) (3 : Int32) [(.ref o13), (.ref o17), .null] .null := Arv.set Ar18 q18 Sz18 Nn18 Ha18 Gf18 rfl W19 1 rfl (Nat.le_of_ble_eq_true rfl)
 have N19 := Fr.snoc X19 N17 g_a0_
 have f19_0 := Nat.le_trans f17_0 (Keep.of_wr W19).1
 have f19_1 := Keep.wr f17_1 W19 (Or.inl (List.mem_of_getElem? (i := 0) rfl))
 have f19_2 : Jvm.LamKit.FnAt h19 a1_ cK := (own_fnKeep (Keep.of_wr W19) f17_2)
 have f19_3 := Exa.wr W19 f17_3
 have f19_4 := Fld.other W19 f17_4 (Or.inl (Ne.symm ne_a0__o13))
 have f19_5 := Fld.other W19 f17_5 (Or.inl (Ne.symm ne_a0__o13))
 have f19_6 := Fld.other W19 f17_6 (Or.inl (Ne.symm ne_a0__o13))
 have f19_7 := Fld.other W19 f17_7 (Or.inl (Ne.symm ne_a0__o13))
 have f19_8 := Exa.wr W19 f17_8
 have f19_9 := Fld.other W19 f17_9 (Or.inl (Ne.symm ne_a0__m13))
 have f19_10 := Fld.other W19 f17_10 (Or.inl (Ne.symm ne_a0__m13))
 have f19_11 := Fld.other W19 f17_11 (Or.inl (Ne.symm ne_a0__m13))
 have f19_12 := Fld.other W19 f17_12 (Or.inl (Ne.symm ne_a0__m13))
 have f19_13 := Exa.wr W19 G17_0
 have f19_14 := Fld.other W19 G17_1 (Or.inl (Ne.symm ne_a0__o17))
 have f19_15 := Fld.other W19 G17_2 (Or.inl (Ne.symm ne_a0__o17))
 have f19_16 := Fld.other W19 G17_3 (Or.inl (Ne.symm ne_a0__o17))
 have f19_17 := Fld.other W19 G17_4 (Or.inl (Ne.symm ne_a0__o17))
 have f19_18 := Exa.wr W19 G17_5
 have f19_19 := Fld.other W19 G17_6 (Or.inl (Ne.symm ne_a0__m17))
 have f19_20 := Fld.other W19 G17_7 (Or.inl (Ne.symm ne_a0__m17))
 have f19_21 := Fld.other W19 G17_8 (Or.inl (Ne.symm ne_a0__m17))
 have f19_22 := Fld.other W19 G17_9 (Or.inl (Ne.symm ne_a0__m17))
 refine Go.by st19 ?_
 refine iI X19 hx hby di_23 rfl (l' := #[(vR a0_), (vR a1_), (vI 2)]) rfl ?_
 refine gO X19 hx hby di_26 (pc' := 7) ?_
 refine iA X19 hx hby di_7 rfl ?_
 refine aA X19 hx hby di_8 rfl rfl ?_
 have av20 := V19
 obtain ⟨cl20, Ar20, -, Sz20, Nn20, -, -⟩ := av20
 refine Go.by (X19.arraylength hx (by rw [e19]; exact Ar20.1) (State.isArrayOf_alike hZ.alike Ar20.2.1) (g := (mkF m 9 #[(vR a0_), (vR a1_), (vI 2)] [(.ref a0_), (.int 2)])) rfl rfl (hb hby di_9)) ?_
 rw [len_of Sz20 Nn20]
 show oG p e below P m T19 10 #[(vR a0_), (vR a1_), (vI 2)] [(.int 3), (.int 2)]
 refine cN X19 hx hby di_10 (XT.ii_ge_f (by decide : (2 : Int32) < (3 : Int32))) ?_
 refine aA X19 hx hby di_13 rfl rfl ?_
 refine iA X19 hx hby di_14 rfl ?_
 refine aA X19 hx hby di_15 rfl rfl ?_
 refine iA X19 hx hby di_16 rfl ?_
 obtain ⟨v21, st21s, t21, T21, L21, X21, hL21, e21, es21, hq21, st21⟩ := Jvm.LamKit.callLamS X19 hx (own := "java/util/Arrays") (host := q_15) (index := 558) (count := 2) (xi := oY24) (y := oY17) (σ := own_sh) (own_lamMet l Z a0 hw (2 : Int32) h19 n0 f19_0) (fun _ _ _ _ k => k) rfl rfl (fun w hw' a' U hU => by rw [List.mem_singleton.mp hw']; exact mv (wtrans hZ hU) (tw_32 hw)) (List.mem_singleton.mpr rfl) hown (mvT hZ (tw_28 hw)) (mvT hZ (tw_29 hw)) (mvT hZ (tw_30 hw)) (mvT hZ (tw_32 hw)) (mvT hZ (tw_31 hw)) (mvT hZ (tw_4 hw)) (by decide +kernel) (by decide +kernel) (by decide) (own_made39 hZ MD) (by rw [e19]; exact f19_2) own_fwd own_f1 own_f4 (g := (mkF m 17 #[(vR a0_), (vR a1_), (vI 2)] [(.int 2), (.ref a1_), (.int 2), (.ref a0_)])) rfl (by rw [hml]; rfl) (argsL := [.int 2]) (argsT := [.int 2]) (rest := [(.int 2), (.ref a0_)]) (L0 := #[(vR a1_), (vI 2)]) (lenOf pd14 rfl) (lenOf pd15 rfl) rfl (hb hby di_17) (fun _ => rfl) rfl (fun U ck bl target hU hck _ _ k => XS.iloadN hU hx rfl (hb hck own_f0) rfl k) (fun st v t hh => by obtain ⟨_, _, r1, x, r2, -⟩ := hh; cases r1; subst r2; exact Or.inr (Or.inr (Or.inl ⟨_, _, rfl, rfl, rfl, rfl, rfl⟩))) (by decide) (by show 2 * 0 + _ + _ + _ ≤ _; exact Nat.le_of_ble_eq_true rfl) (by decide) (by decide) (fun U hU hh => ⟨rfl, wtrans hZ hU, by rw [hh]; exact e19⟩)
 obtain ⟨_, _, r21, o21, rv21, -, K21, zo21, m21, zm21, G21_0, G21_1, G21_2, G21_3, G21_4, G21_5, G21_6, G21_7, G21_8, G21_9⟩ := hq21
 cases r21
 subst rv21
 have N21 := Fr.app N19 hL21
 refine Go.by (fun t k => st21 t k) ?_
 have f21_1 := Keep.trans f19_1 K21 all0
 have f21_3 := Exa.keep f19_3 K21
 have f21_4 := Fld.keep f19_4 K21 nin0
 have f21_5 := Fld.keep f19_5 K21 nin0
 have f21_6 := Fld.keep f19_6 K21 nin0
 have f21_7 := Fld.keep f19_7 K21 nin0
 have f21_8 := Exa.keep f19_8 K21
 have f21_9 := Fld.keep f19_9 K21 nin0
 have f21_10 := Fld.keep f19_10 K21 nin0
 have f21_11 := Fld.keep f19_11 K21 nin0
 have f21_12 := Fld.keep f19_12 K21 nin0
 have f21_13 := Exa.keep f19_13 K21
 have f21_14 := Fld.keep f19_14 K21 nin0
 have f21_15 := Fld.keep f19_15 K21 nin0
 have f21_16 := Fld.keep f19_16 K21 nin0
 have f21_17 := Fld.keep f19_17 K21 nin0
 have f21_18 := Exa.keep f19_18 K21
 have f21_19 := Fld.keep f19_19 K21 nin0
 have f21_20 := Fld.keep f19_20 K21 nin0
 have f21_21 := Fld.keep f19_21 K21 nin0
 have f21_22 := Fld.keep f19_22 K21 nin0
 have f21_23 := Arv.keep V19 K21 nin0
 have g_o21 : n0 ≤ o21 := Nat.le_trans f19_0 zo21
 have sz_o21 : h0.size ≤ o21 := Nat.le_trans f19_1.1 zo21
 have ne_o13_o21 : o13 ≠ o21 := Nat.ne_of_lt (Nat.lt_of_lt_of_le (f19_3.lt) zo21)
 have ne_o17_o21 : o17 ≠ o21 := Nat.ne_of_lt (Nat.lt_of_lt_of_le (f19_13.lt) zo21)
 have ne_a0__o21 : a0_ ≠ o21 := Nat.ne_of_lt (Nat.lt_of_lt_of_le (V19.lt) zo21)
 have g_m21 : n0 ≤ m21 := Nat.le_trans f19_0 zm21
 have sz_m21 : h0.size ≤ m21 := Nat.le_trans f19_1.1 zm21
 have ne_m13_m21 : m13 ≠ m21 := Nat.ne_of_lt (Nat.lt_of_lt_of_le (f19_8.lt) zm21)
 have ne_m17_m21 : m17 ≠ m21 := Nat.ne_of_lt (Nat.lt_of_lt_of_le (f19_18.lt) zm21)
 have ne_a0__m21 : a0_ ≠ m21 := Nat.ne_of_lt (Nat.lt_of_lt_of_le (V19.lt) zm21)
 show oG p e below P m T21 22 #[(vR a0_), (vR a1_), (vI 2)] [(.ref o21), (.int 2), (.ref a0_)]
 have av22 := f21_23
 obtain ⟨cl22, Ar22, q22, Sz22, Nn22, Ha22, Gf22⟩ := av22
 have hin22 : ¬ ((2 : Int32) < 0 ∨ cl22.slots.size ≤ ((2 : Int32)).toNatClampNeg) := inb_of Sz22 ⟨by decide, by decide⟩
 obtain ⟨T23, h23, X23, e23, W23, st23⟩ := stR X21 hx hZ e21 Ar22 (j := (2 : Int32)) hin22 rfl (Sto.ofV Ar22 q22 OV (Ins.self G21_0)) (g := (mkF m 22 #[(vR a0_), (vR a1_), (vI 2)] [(.ref o21), (.int 2), (.ref a0_)])) rfl rfl (hb hby di_22)
 have V23 : Arv Z h23 a0_ ka (.object q_3) (3 : Int32) [(.ref o13), (.ref o17), (.ref o21)] .null := Arv.set Ar22 q22 Sz22 Nn22 Ha22 Gf22 rfl W23 2 rfl (Nat.le_of_ble_eq_true rfl)
 have N23 := Fr.snoc X23 N21 g_a0_
 have f23_1 := Keep.wr f21_1 W23 (Or.inl (List.mem_of_getElem? (i := 0) rfl))
 have f23_3 := Exa.wr W23 f21_3
 have f23_4 := Fld.other W23 f21_4 (Or.inl (Ne.symm ne_a0__o13))
 have f23_5 := Fld.other W23 f21_5 (Or.inl (Ne.symm ne_a0__o13))
 have f23_6 := Fld.other W23 f21_6 (Or.inl (Ne.symm ne_a0__o13))
 have f23_7 := Fld.other W23 f21_7 (Or.inl (Ne.symm ne_a0__o13))
 have f23_8 := Exa.wr W23 f21_8
 have f23_9 := Fld.other W23 f21_9 (Or.inl (Ne.symm ne_a0__m13))
 have f23_10 := Fld.other W23 f21_10 (Or.inl (Ne.symm ne_a0__m13))
 have f23_11 := Fld.other W23 f21_11 (Or.inl (Ne.symm ne_a0__m13))
 have f23_12 := Fld.other W23 f21_12 (Or.inl (Ne.symm ne_a0__m13))
 have f23_13 := Exa.wr W23 f21_13
 have f23_14 := Fld.other W23 f21_14 (Or.inl (Ne.symm ne_a0__o17))
 have f23_15 := Fld.other W23 f21_15 (Or.inl (Ne.symm ne_a0__o17))
 have f23_16 := Fld.other W23 f21_16 (Or.inl (Ne.symm ne_a0__o17))
 have f23_17 := Fld.other W23 f21_17 (Or.inl (Ne.symm ne_a0__o17))
 have f23_18 := Exa.wr W23 f21_18
 have f23_19 := Fld.other W23 f21_19 (Or.inl (Ne.symm ne_a0__m17))
 have f23_20 := Fld.other W23 f21_20 (Or.inl (Ne.symm ne_a0__m17))
 have f23_21 := Fld.other W23 f21_21 (Or.inl (Ne.symm ne_a0__m17))
 have f23_22 := Fld.other W23 f21_22 (Or.inl (Ne.symm ne_a0__m17))
 have f23_23 := Exa.wr W23 G21_0
 have f23_24 := Fld.other W23 G21_1 (Or.inl (Ne.symm ne_a0__o21))
 have f23_25 := Fld.other W23 G21_2 (Or.inl (Ne.symm ne_a0__o21))
 have f23_26 := Fld.other W23 G21_3 (Or.inl (Ne.symm ne_a0__o21))
 have f23_27 := Fld.other W23 G21_4 (Or.inl (Ne.symm ne_a0__o21))
 have f23_28 := Exa.wr W23 G21_5
 have f23_29 := Fld.other W23 G21_6 (Or.inl (Ne.symm ne_a0__m21))
 have f23_30 := Fld.other W23 G21_7 (Or.inl (Ne.symm ne_a0__m21))
 have f23_31 := Fld.other W23 G21_8 (Or.inl (Ne.symm ne_a0__m21))
 have f23_32 := Fld.other W23 G21_9 (Or.inl (Ne.symm ne_a0__m21))
 refine Go.by st23 ?_
 refine iI X23 hx hby di_23 rfl (l' := #[(vR a0_), (vR a1_), (vI 3)]) rfl ?_
 refine gO X23 hx hby di_26 (pc' := 7) ?_
 refine iA X23 hx hby di_7 rfl ?_
 refine aA X23 hx hby di_8 rfl rfl ?_
 have av24 := V23
 obtain ⟨cl24, Ar24, -, Sz24, Nn24, -, -⟩ := av24
 refine Go.by (X23.arraylength hx (by rw [e23]; exact Ar24.1) (State.isArrayOf_alike hZ.alike Ar24.2.1) (g := (mkF m 9 #[(vR a0_), (vR a1_), (vI 3)] [(.ref a0_), (.int 3)])) rfl rfl (hb hby di_9)) ?_
 rw [len_of Sz24 Nn24]
 show oG p e below P m T23 10 #[(vR a0_), (vR a1_), (vI 3)] [(.int 3), (.int 3)]
 refine cY X23 hx hby di_10 (pc' := 29) (XT.ii_ge_t (by decide : ¬ (3 : Int32) < (3 : Int32))) ?_
 refine own_fin hP hlk X23 (v := none) (fun _ => rfl) (by decide) (by decide) ?_ (fun fs hr => X23.returnOut hx hret (hb hby di_29) hr)
 rw [e23]
 exact ⟨rfl, N23, f23_1, o13, m13, o17, m17, o21, m21, sz_o13, sz_m13, sz_o17, sz_m17, sz_o21, sz_m21, ne_o13_o17, ne_m13_m17, ne_o13_o21, ne_m13_m21, ne_o17_o21, ne_m17_m21, V23, f23_3, f23_4, f23_5, f23_6, f23_7, f23_8, f23_9, f23_10, f23_11, f23_12, f23_13, f23_14, f23_15, f23_16, f23_17, f23_18, f23_19, f23_20, f23_21, f23_22, f23_23, f23_24, f23_25, f23_26, f23_27, f23_28, f23_29, f23_30, f23_31, f23_32⟩
def Q_rmInit2 (Z : State) (a0_ : Addr) (si : Int32) (h0 : Heap) (n0 : Nat) (v : Option Value) (h : Heap) (L : List Loc) : Prop := v = none ∧ Fr n0 L ∧ Keep h0 h [a0_] ∧ ∃ arr ka out ko o m x, own_RMS Z h a0_ si (2 : Int32) arr ka out ko o x ∧ (∀ i, i < ((2 : Int32)).toNatClampNeg → own_O0 Z h (o i) (m i)) ∧ own_Dis n0 (2 : Int32) arr out o m x
theorem ef_rmInit2 (m : MethodId) (a0_ : Addr) (si : Int32) : entryFrame m #[(.ref a0_), (.int 2), (.int si)] 3 = mkF m 0 #[(vR a0_), (vI 2), (vI si)] [] := by first | (simp [entryFrame, mkF, argsToLocals, Value.category]; done) | rfl
theorem rm_rmInit2 (l : Launch) (Z : State) (a0 : Array Value) (hw : oW a0 Z) (ws : List Jvm.Cond) (a0_ : Addr) (si : Int32) (h0 : Heap) (n0 : Nat) (Z0 : n0 ≤ h0.size) (O0 : Old Z n0 h0) (s0 : Exa Z h0 a0_ q_15) (s1 : Fld Z h0 a0_ q_15 "self" "I" (.int 0)) (s2 : Fld Z h0 a0_ q_15 "origins" q_20 .null) (s3 : Fld Z h0 a0_ q_15 "reported" "[[J" .null) (g_a0_ : n0 ≤ a0_) :
   MetFree l oY21 (head1 (Jvm.Cond.code oY21 p68_1 3 none :: ws) (own_R 7 11 70 3250)) (fun a U => a = #[(.ref a0_), (.int 2), (.int si)] ∧ Z.Warmed39 U.vm ∧ U.heap = h0) (fun _ _ _ _ _ => True) (fun _ U o U' => ∃ v L, o = .returned v ∧ Q_rmInit2 Z a0_ si h0 n0 v U'.heap L ∧ FrameEnd U o U' L (own_R 7 11 70 3250).cells (own_R 7 11 70 3250).slots) := by
 refine MetFree.of_bodySF (plainFor_of_name pn1) hisR ?_
 intro p e s m args below meth c s₁ Bd hml0 hP hK
 obtain ⟨rfl, hZ, hh⟩ := hP
 have hx := Bd.exec
 have hby := Bd.bytes
 have hml : c.maxLocals = 3 := hml0
 have hown : s.vm.findClass q_15 = some m.cls := findClass_of_methodNamed Bd.named
 have hnm := (name_of_methodNamed Bd.named Bd.method).1
 have X0 : Stand p l e (own_R 7 11 70 3250) s m #[(.ref a0_), (.int 2), (.int si)] below meth c s₁ [] 0 0 := Stand.of_body Bd
 have e0 : s₁.heap = h0 := by rw [← hh, Bd.state]; rfl
 have N0 := Fr.nil n0
 have hlk : meth.locks = false := Bd.notSynchronized
 obtain ⟨P, hP⟩ : ∃ P : Outcome → State → Prop, P = PQ s (Q_rmInit2 Z a0_ si h0 n0) (own_R 7 11 70 3250).cells (own_R 7 11 70 3250).slots := ⟨_, rfl⟩
 suffices hgo : Go p e below P (s₁.setTop (mkF m 0 #[(vR a0_), (vI 2), (vI si)] [])) by
   rw [hP] at hgo
   exact Go.by (fun t k => castTop (ef_rmInit2 m a0_ si) k) hgo
 show oG p e below P m s₁ 0 #[(vR a0_), (vI 2), (vI si)] []
 refine aA X0 hx hby dl_0 rfl rfl ?_
 obtain ⟨T11, X11, e11, st11⟩ := initO X0 hx hZ hown (tw_8 hw) (tw_9 hw) (tw_10 hw) e0 (g := (mkF m 1 #[(vR a0_), (vI 2), (vI si)] [(.ref a0_)])) rfl (by rw [hml]; rfl) rfl (hb hby dl_1) (by decide) (W := 0) (by show 2 * 0 + _ ≤ _; exact Nat.le_of_eq rfl) (by decide)
 refine Go.by st11 ?_
 refine aA X11 hx hby dl_4 rfl rfl ?_
 refine iA X11 hx hby dl_5 rfl ?_
 obtain ⟨T12, h12, X12, e12, W12, st12⟩ := putF X11 hx hZ hown (host := "") (Or.inl (tw_11 hw)) Via.refl e11 s1 s0 (Or.inr ⟨(tw_12 hw), rfl, hnm⟩) (tw_3 hw) (ty := .int) (by decide) rfl rfl (g := (mkF m 6 #[(vR a0_), (vI 2), (vI si)] [(.int si), (.ref a0_)])) rfl rfl (hb hby dl_6)
 refine Go.by st12 ?_
 have N12 := Fr.snoc X12 N0 g_a0_
 have f12_0 := Nat.le_trans Z0 (Keep.of_wr W12).1
 have f12_1 := Keep.wr (Keep.refl h0 [a0_]) W12 (Or.inl (List.mem_of_getElem? (i := 0) rfl))
 have f12_2 := Old.wr O0 W12 g_a0_
 have f12_3 := Exa.wr W12 s0
 have f12_4 := Fld.same W12 s1
 have f12_5 := Fld.other W12 s2 (Or.inr (slot_ne (Or.inr (tw_16 hw)) (Or.inr (tw_12 hw)) (by decide) (t := (.array (.object q_3))) (t' := .int) (by decide) (by decide)))
 have f12_6 := Fld.other W12 s3 (Or.inr (slot_ne (Or.inr (tw_73 hw)) (Or.inr (tw_12 hw)) (by decide) (t := (.array (.array .long))) (t' := .int) (by decide) (by decide)))
 refine aA X12 hx hby dl_9 rfl rfl ?_
 refine iA X12 hx hby dl_10 rfl ?_
 obtain ⟨T13, h13, k13, X13, e13, E13, A13, OV13, st13⟩ := newR X12 hx hZ hown (tw_13 hw) (tw_14 hw) e12 (g := (mkF m 11 #[(vR a0_), (vI 2), (vI si)] [(.int 2), (.ref a0_)])) rfl (hb hby dl_11) rfl (by decide) (cap := 2) (by decide) (by decide) (by decide) (by decide)
 obtain ⟨b13, g13⟩ : ∃ z, z = h12.size := ⟨_, rfl⟩
 rw [← g13] at A13 st13
 have g_b13 : n0 ≤ b13 := Nat.le_trans f12_0 (Nat.le_of_eq g13.symm)
 have sz_b13 : h0.size ≤ b13 := Nat.le_trans f12_1.1 (Nat.le_of_eq g13.symm)
 have ne_a0__b13 : a0_ ≠ b13 := Nat.ne_of_lt (Nat.lt_of_lt_of_le (f12_3.lt) (Nat.le_of_eq g13.symm))
 have f13_0 := Nat.le_trans f12_0 E13.1
 have f13_1 := Keep.ext f12_1 E13
 have f13_2 := Old.ext f12_2 E13
 have f13_3 := Exa.ext E13 f12_3
 have f13_4 := Fld.ext E13 f12_4
 have f13_5 := Fld.ext E13 f12_5
 have f13_6 := Fld.ext E13 f12_6
 refine Go.by st13 ?_
 have V13 : Arv Z h13 b13 k13 (.object q_3) (2 : Int32) [.null, .null] .null := (Arv.new A13 (by decide)).pad (pad_rep [] .null 2)
 show oG p e below P m T13 14 #[(vR a0_), (vI 2), (vI si)] [(.ref b13), (.ref a0_)]
 obtain ⟨T14, h14, X14, e14, W14, st14⟩ := putF X13 hx hZ hown (host := "") (Or.inl (tw_15 hw)) Via.refl e13 f13_5 f13_3 (Or.inr ⟨(tw_16 hw), rfl, hnm⟩) (tw_3 hw) (ty := (.array (.object q_3))) (by decide) rfl rfl (g := (mkF m 14 #[(vR a0_), (vI 2), (vI si)] [(.ref b13), (.ref a0_)])) rfl rfl (hb hby dl_14)
 refine Go.by st14 ?_
 have N14 := Fr.snoc X14 N12 g_a0_
 have f14_0 := Nat.le_trans f13_0 (Keep.of_wr W14).1
 have f14_1 := Keep.wr f13_1 W14 (Or.inl (List.mem_of_getElem? (i := 0) rfl))
 have f14_2 := Old.wr f13_2 W14 g_a0_
 have f14_3 := Exa.wr W14 f13_3
 have f14_4 := Fld.other W14 f13_4 (Or.inr (slot_ne (Or.inr (tw_12 hw)) (Or.inr (tw_16 hw)) (by decide) (t := .int) (t' := (.array (.object q_3))) (by decide) (by decide)))
 have f14_5 := Fld.same W14 f13_5
 have f14_6 := Fld.other W14 f13_6 (Or.inr (slot_ne (Or.inr (tw_73 hw)) (Or.inr (tw_16 hw)) (by decide) (t := (.array (.array .long))) (t' := (.array (.object q_3))) (by decide) (by decide)))
 have f14_7 := Arv.other V13 W14 (Ne.symm ne_a0__b13)
 refine aA X14 hx hby dl_17 rfl rfl ?_
 refine gF X14 hx hby hZ hown (tw_15 hw) Via.refl e14 f14_5 dl_18 ?_
 intro T15 X15 e15
 obtain ⟨fa16, cK16, MD16, FN16, st16⟩ := own_site X15 hx hZ Bd.named (tw_17 hw) rfl e15 f14_2.2 (g := (mkF m 21 #[(vR a0_), (vI 2), (vI si)] [(.ref b13)])) rfl rfl (by rw [hml]; rfl) (hb hby dl_21) (by show 2 * 0 + _ + 3072 ≤ _; exact Nat.le_of_ble_eq_true rfl)
 refine Go.by st16 ?_
 refine c_stat 0 X15 hx hby hml hZ hown (tw_20 hw) (tw_21 hw) (tw_22 hw) (tw_23 hw) (rm_setAll2 l Z a0 hw [] b13 k13 fa16 cK16 h14 n0 f14_0 f14_7 g_b13 OV13 MD16 FN16) e15 dl_26 [(.ref b13), (.ref fa16)] [] (lenOf pd23 rfl) rfl rfl ?_
 rintro _ T17 Lc17 ⟨rfl, N17q, K17, o17_0, m17_0, o17_1, m17_1, zo17_0, zm17_0, zo17_1, zm17_1, no17_01, nm17_01, V17, G17_0, G17_1, G17_2, G17_3, G17_4, G17_5, G17_6, G17_7, G17_8, G17_9, G17_10, G17_11, G17_12, G17_13, G17_14, G17_15, G17_16, G17_17, G17_18, G17_19⟩ X17
 have N17 := Fr.app N14 N17q
 have u17_0 := ninS ne_a0__b13 nin0
 have f17_0 := Nat.le_trans f14_0 K17.1
 have f17_1 := Keep.trans f14_1 K17 (allS (Or.inr sz_b13) all0)
 have f17_3 := Exa.keep f14_3 K17
 have f17_4 := Fld.keep f14_4 K17 u17_0
 have f17_5 := Fld.keep f14_5 K17 u17_0
 have f17_6 := Fld.keep f14_6 K17 u17_0
 have g_o17_0 : n0 ≤ o17_0 := Nat.le_trans f14_0 zo17_0
 have ne_a0__o17_0 : a0_ ≠ o17_0 := Nat.ne_of_lt (Nat.lt_of_lt_of_le (f14_3.lt) zo17_0)
 have g_o17_1 : n0 ≤ o17_1 := Nat.le_trans f14_0 zo17_1
 have ne_a0__o17_1 : a0_ ≠ o17_1 := Nat.ne_of_lt (Nat.lt_of_lt_of_le (f14_3.lt) zo17_1)
 have g_m17_0 : n0 ≤ m17_0 := Nat.le_trans f14_0 zm17_0
 have ne_a0__m17_0 : a0_ ≠ m17_0 := Nat.ne_of_lt (Nat.lt_of_lt_of_le (f14_3.lt) zm17_0)
 have g_m17_1 : n0 ≤ m17_1 := Nat.le_trans f14_0 zm17_1
 have ne_a0__m17_1 : a0_ ≠ m17_1 := Nat.ne_of_lt (Nat.lt_of_lt_of_le (f14_3.lt) zm17_1)
 refine aA X17 hx hby dl_29 rfl rfl ?_
 refine iA X17 hx hby dl_30 rfl ?_
 refine iA X17 hx hby dl_31 rfl ?_
 obtain ⟨T18, h18, k18, kc18, X18, e18, E18, V18, OV18, EX18, AL18, st18⟩ := gridM X17 hx hZ (ty := .long) (C := "[J") (ad := "[[J") hown (by decide +kernel) (by decide +kernel) (tw_69 hw) (tw_70 hw) (tw_71 hw) rfl (g := (mkF m 32 #[(vR a0_), (vI 2), (vI si)] [(.int 2), (.int 2), (.ref a0_)])) rfl (hb hby dl_32) rfl (by decide) (by decide) (xs := [T17.heap.size + 1 + 0, T17.heap.size + 1 + 1]) (N := 2) rfl rfl (cap := 2) (by decide) (by decide) (by decide) rfl rfl (by decide) (by decide)
 obtain ⟨b18, g18⟩ : ∃ z, z = T17.heap.size := ⟨_, rfl⟩
 rw [← g18] at V18 EX18 AL18 st18
 have g_b18 : n0 ≤ b18 := Nat.le_trans f17_0 (Nat.le_of_eq g18.symm)
 have ne_a0__b18 : a0_ ≠ b18 := Nat.ne_of_lt (Nat.lt_of_lt_of_le (f17_3.lt) (Nat.le_of_eq g18.symm))
 have f18_1 := Keep.ext f17_1 E18
 have f18_3 := Exa.ext E18 f17_3
 have f18_4 := Fld.ext E18 f17_4
 have f18_5 := Fld.ext E18 f17_5
 have f18_6 := Fld.ext E18 f17_6
 have f18_8 := Exa.ext E18 G17_0
 have f18_9 := Fld.ext E18 G17_1
 have f18_10 := Fld.ext E18 G17_2
 have f18_11 := Fld.ext E18 G17_3
 have f18_12 := Fld.ext E18 G17_4
 have f18_13 := Exa.ext E18 G17_5
 have f18_14 := Fld.ext E18 G17_6
 have f18_15 := Fld.ext E18 G17_7
 have f18_16 := Fld.ext E18 G17_8
 have f18_17 := Fld.ext E18 G17_9
 have f18_18 := Exa.ext E18 G17_10
 have f18_19 := Fld.ext E18 G17_11
 have f18_20 := Fld.ext E18 G17_12
 have f18_21 := Fld.ext E18 G17_13
 have f18_22 := Fld.ext E18 G17_14
 have f18_23 := Exa.ext E18 G17_15
 have f18_24 := Fld.ext E18 G17_16
 have f18_25 := Fld.ext E18 G17_17
 have f18_26 := Fld.ext E18 G17_18
 have f18_27 := Fld.ext E18 G17_19
 have f18_28 := Arv.ext V17 E18
 obtain ⟨x18_1, gx18_1⟩ : ∃ z, z = b18 + 1 + 1 := ⟨_, rfl⟩
 rw [← gx18_1] at V18 AL18
 obtain ⟨x18_0, gx18_0⟩ : ∃ z, z = b18 + 1 + 0 := ⟨_, rfl⟩
 rw [← gx18_0] at V18 AL18
 have g_x18_0 : n0 ≤ x18_0 := Nat.le_trans f17_0 (by omega : T17.heap.size ≤ x18_0)
 have ne_b13_x18_0 : b13 ≠ x18_0 := Nat.ne_of_lt (Nat.lt_of_lt_of_le (V17.lt) (by omega : T17.heap.size ≤ x18_0))
 have g_x18_1 : n0 ≤ x18_1 := Nat.le_trans f17_0 (by omega : T17.heap.size ≤ x18_1)
 have ne_b13_x18_1 : b13 ≠ x18_1 := Nat.ne_of_lt (Nat.lt_of_lt_of_le (V17.lt) (by omega : T17.heap.size ≤ x18_1))
 have LAx18_0 : own_LA Z h18 x18_0 (2 : Int32) := ⟨_, (AL18 0 _ rfl).1, sz_new _ _ _, by decide⟩
 have ne_b18_x18_0 : b18 ≠ x18_0 := by omega
 have LAx18_1 : own_LA Z h18 x18_1 (2 : Int32) := ⟨_, (AL18 1 _ rfl).1, sz_new _ _ _, by decide⟩
 have ne_b18_x18_1 : b18 ≠ x18_1 := by omega
 have VV18 : Arv Z h18 b18 k18 (.array .long) (2 : Int32) [(.ref x18_0), (.ref x18_1)] .null := V18
 refine Go.by st18 ?_
 obtain ⟨T19, h19, X19, e19, W19, st19⟩ := putF X18 hx hZ hown (host := "") (Or.inl (tw_72 hw)) Via.refl e18 f18_6 f18_3 (Or.inr ⟨(tw_73 hw), rfl, hnm⟩) (tw_3 hw) (ty := (.array (.array .long))) (by decide) rfl rfl (g := (mkF m 36 #[(vR a0_), (vI 2), (vI si)] [(.ref b18), (.ref a0_)])) rfl rfl (hb hby dl_36)
 refine Go.by st19 ?_
 have N19 := Fr.snoc X19 N17 g_a0_
 have f19_1 := Keep.wr f18_1 W19 (Or.inl (List.mem_of_getElem? (i := 0) rfl))
 have f19_3 := Exa.wr W19 f18_3
 have f19_4 := Fld.other W19 f18_4 (Or.inr (slot_ne (Or.inr (tw_12 hw)) (Or.inr (tw_73 hw)) (by decide) (t := .int) (t' := (.array (.array .long))) (by decide) (by decide)))
 have f19_5 := Fld.other W19 f18_5 (Or.inr (slot_ne (Or.inr (tw_16 hw)) (Or.inr (tw_73 hw)) (by decide) (t := (.array (.object q_3))) (t' := (.array (.array .long))) (by decide) (by decide)))
 have f19_6 := Fld.same W19 f18_6
 have f19_8 := Exa.wr W19 f18_8
 have f19_9 := Fld.other W19 f18_9 (Or.inl (Ne.symm ne_a0__o17_0))
 have f19_10 := Fld.other W19 f18_10 (Or.inl (Ne.symm ne_a0__o17_0))
 have f19_11 := Fld.other W19 f18_11 (Or.inl (Ne.symm ne_a0__o17_0))
 have f19_12 := Fld.other W19 f18_12 (Or.inl (Ne.symm ne_a0__o17_0))
 have f19_13 := Exa.wr W19 f18_13
 have f19_14 := Fld.other W19 f18_14 (Or.inl (Ne.symm ne_a0__m17_0))
 have f19_15 := Fld.other W19 f18_15 (Or.inl (Ne.symm ne_a0__m17_0))
 have f19_16 := Fld.other W19 f18_16 (Or.inl (Ne.symm ne_a0__m17_0))
 have f19_17 := Fld.other W19 f18_17 (Or.inl (Ne.symm ne_a0__m17_0))
 have f19_18 := Exa.wr W19 f18_18
 have f19_19 := Fld.other W19 f18_19 (Or.inl (Ne.symm ne_a0__o17_1))
 have f19_20 := Fld.other W19 f18_20 (Or.inl (Ne.symm ne_a0__o17_1))
 have f19_21 := Fld.other W19 f18_21 (Or.inl (Ne.symm ne_a0__o17_1))
 have f19_22 := Fld.other W19 f18_22 (Or.inl (Ne.symm ne_a0__o17_1))
 have f19_23 := Exa.wr W19 f18_23
 have f19_24 := Fld.other W19 f18_24 (Or.inl (Ne.symm ne_a0__m17_1))
 have f19_25 := Fld.other W19 f18_25 (Or.inl (Ne.symm ne_a0__m17_1))
 have f19_26 := Fld.other W19 f18_26 (Or.inl (Ne.symm ne_a0__m17_1))
 have f19_27 := Fld.other W19 f18_27 (Or.inl (Ne.symm ne_a0__m17_1))
 have f19_28 := Arv.other f18_28 W19 (Ne.symm ne_a0__b13)
 have f19_29 : own_LA Z h19 x18_0 (2 : Int32) := (own_LA.wr LAx18_0 W19)
 have f19_30 : own_LA Z h19 x18_1 (2 : Int32) := (own_LA.wr LAx18_1 W19)
 have f19_31 := Arv.other VV18 W19 (Ne.symm ne_a0__b18)
 show oG p e below P m T19 39 #[(vR a0_), (vI 2), (vI si)] []
 refine own_fin hP hlk X19 (v := none) (fun _ => rfl) (by decide) (by decide) ?_ (fun fs hr => X19.returnOut hx Bd.returns (hb hby dl_39) hr)
 rw [e19]
 exact ⟨rfl, N19, f19_1, b13, k13, b18, k18, (own_f3 o17_0 o17_1 o17_1), (own_f3 m17_0 m17_1 m17_1), (own_f3 x18_0 x18_1 x18_1), ⟨f19_3, f19_4, f19_5, f19_6, f19_28, f19_31, own_all2 f19_29 f19_30⟩, own_all2 ⟨f19_8, f19_9, f19_10, f19_11, f19_12, f19_13, f19_14, f19_15, f19_16, f19_17⟩ ⟨f19_18, f19_19, f19_20, f19_21, f19_22, f19_23, f19_24, f19_25, f19_26, f19_27⟩, ⟨own_all2 ⟨g_o17_0, g_m17_0, g_x18_0, ne_b13_x18_0, ne_b18_x18_0⟩ ⟨g_o17_1, g_m17_1, g_x18_1, ne_b13_x18_1, ne_b18_x18_1⟩, own_pairs (fun _ _ q => ⟨q.1.symm, q.2.symm⟩) (fun i j hij hj => by have hj' : j < 2 := hj; rcases (by omega : (i = 0 ∧ j = 1)) with ⟨rfl, rfl⟩ <;> first | exact ⟨no17_01, nm17_01⟩)⟩⟩
def Q_rmInit3 (Z : State) (a0_ : Addr) (si : Int32) (h0 : Heap) (n0 : Nat) (v : Option Value) (h : Heap) (L : List Loc) : Prop := v = none ∧ Fr n0 L ∧ Keep h0 h [a0_] ∧ ∃ arr ka out ko o m x, own_RMS Z h a0_ si (3 : Int32) arr ka out ko o x ∧ (∀ i, i < ((3 : Int32)).toNatClampNeg → own_O0 Z h (o i) (m i)) ∧ own_Dis n0 (3 : Int32) arr out o m x
theorem ef_rmInit3 (m : MethodId) (a0_ : Addr) (si : Int32) : entryFrame m #[(.ref a0_), (.int 3), (.int si)] 3 = mkF m 0 #[(vR a0_), (vI 3), (vI si)] [] := by first | (simp [entryFrame, mkF, argsToLocals, Value.category]; done) | rfl
theorem rm_rmInit3 (l : Launch) (Z : State) (a0 : Array Value) (hw : oW a0 Z) (ws : List Jvm.Cond) (a0_ : Addr) (si : Int32) (h0 : Heap) (n0 : Nat) (Z0 : n0 ≤ h0.size) (O0 : Old Z n0 h0) (s0 : Exa Z h0 a0_ q_15) (s1 : Fld Z h0 a0_ q_15 "self" "I" (.int 0)) (s2 : Fld Z h0 a0_ q_15 "origins" q_20 .null) (s3 : Fld Z h0 a0_ q_15 "reported" "[[J" .null) (g_a0_ : n0 ≤ a0_) :
   MetFree l oY21 (head1 (Jvm.Cond.code oY21 p68_1 3 none :: ws) (own_R 7 11 70 3250)) (fun a U => a = #[(.ref a0_), (.int 3), (.int si)] ∧ Z.Warmed39 U.vm ∧ U.heap = h0) (fun _ _ _ _ _ => True) (fun _ U o U' => ∃ v L, o = .returned v ∧ Q_rmInit3 Z a0_ si h0 n0 v U'.heap L ∧ FrameEnd U o U' L (own_R 7 11 70 3250).cells (own_R 7 11 70 3250).slots) := by
 refine MetFree.of_bodySF (plainFor_of_name pn1) hisR ?_
 intro p e s m args below meth c s₁ Bd hml0 hP hK
 obtain ⟨rfl, hZ, hh⟩ := hP
 have hx := Bd.exec
 have hby := Bd.bytes
 have hml : c.maxLocals = 3 := hml0
 have hown : s.vm.findClass q_15 = some m.cls := findClass_of_methodNamed Bd.named
 have hnm := (name_of_methodNamed Bd.named Bd.method).1
 have X0 : Stand p l e (own_R 7 11 70 3250) s m #[(.ref a0_), (.int 3), (.int si)] below meth c s₁ [] 0 0 := Stand.of_body Bd
 have e0 : s₁.heap = h0 := by rw [← hh, Bd.state]; rfl
 have N0 := Fr.nil n0
 have hlk : meth.locks = false := Bd.notSynchronized
 obtain ⟨P, hP⟩ : ∃ P : Outcome → State → Prop, P = PQ s (Q_rmInit3 Z a0_ si h0 n0) (own_R 7 11 70 3250).cells (own_R 7 11 70 3250).slots := ⟨_, rfl⟩
 suffices hgo : Go p e below P (s₁.setTop (mkF m 0 #[(vR a0_), (vI 3), (vI si)] [])) by
   rw [hP] at hgo
   exact Go.by (fun t k => castTop (ef_rmInit3 m a0_ si) k) hgo
 show oG p e below P m s₁ 0 #[(vR a0_), (vI 3), (vI si)] []
 refine aA X0 hx hby dl_0 rfl rfl ?_
 obtain ⟨T11, X11, e11, st11⟩ := initO X0 hx hZ hown (tw_8 hw) (tw_9 hw) (tw_10 hw) e0 (g := (mkF m 1 #[(vR a0_), (vI 3), (vI si)] [(.ref a0_)])) rfl (by rw [hml]; rfl) rfl (hb hby dl_1) (by decide) (W := 0) (by show 2 * 0 + _ ≤ _; exact Nat.le_of_eq rfl) (by decide)
 refine Go.by st11 ?_
 refine aA X11 hx hby dl_4 rfl rfl ?_
 refine iA X11 hx hby dl_5 rfl ?_
 obtain ⟨T12, h12, X12, e12, W12, st12⟩ := putF X11 hx hZ hown (host := "") (Or.inl (tw_11 hw)) Via.refl e11 s1 s0 (Or.inr ⟨(tw_12 hw), rfl, hnm⟩) (tw_3 hw) (ty := .int) (by decide) rfl rfl (g := (mkF m 6 #[(vR a0_), (vI 3), (vI si)] [(.int si), (.ref a0_)])) rfl rfl (hb hby dl_6)
 refine Go.by st12 ?_
 have N12 := Fr.snoc X12 N0 g_a0_
 have f12_0 := Nat.le_trans Z0 (Keep.of_wr W12).1
 have f12_1 := Keep.wr (Keep.refl h0 [a0_]) W12 (Or.inl (List.mem_of_getElem? (i := 0) rfl))
 have f12_2 := Old.wr O0 W12 g_a0_
 have f12_3 := Exa.wr W12 s0
 have f12_4 := Fld.same W12 s1
 have f12_5 := Fld.other W12 s2 (Or.inr (slot_ne (Or.inr (tw_16 hw)) (Or.inr (tw_12 hw)) (by decide) (t := (.array (.object q_3))) (t' := .int) (by decide) (by decide)))
 have f12_6 := Fld.other W12 s3 (Or.inr (slot_ne (Or.inr (tw_73 hw)) (Or.inr (tw_12 hw)) (by decide) (t := (.array (.array .long))) (t' := .int) (by decide) (by decide)))
 refine aA X12 hx hby dl_9 rfl rfl ?_
 refine iA X12 hx hby dl_10 rfl ?_
 obtain ⟨T13, h13, k13, X13, e13, E13, A13, OV13, st13⟩ := newR X12 hx hZ hown (tw_13 hw) (tw_14 hw) e12 (g := (mkF m 11 #[(vR a0_), (vI 3), (vI si)] [(.int 3), (.ref a0_)])) rfl (hb hby dl_11) rfl (by decide) (cap := 3) (by decide) (by decide) (by decide) (by decide)
 obtain ⟨b13, g13⟩ : ∃ z, z = h12.size := ⟨_, rfl⟩
 rw [← g13] at A13 st13
 have g_b13 : n0 ≤ b13 := Nat.le_trans f12_0 (Nat.le_of_eq g13.symm)
 have sz_b13 : h0.size ≤ b13 := Nat.le_trans f12_1.1 (Nat.le_of_eq g13.symm)
 have ne_a0__b13 : a0_ ≠ b13 := Nat.ne_of_lt (Nat.lt_of_lt_of_le (f12_3.lt) (Nat.le_of_eq g13.symm))
 have f13_0 := Nat.le_trans f12_0 E13.1
 have f13_1 := Keep.ext f12_1 E13
 have f13_2 := Old.ext f12_2 E13
 have f13_3 := Exa.ext E13 f12_3
 have f13_4 := Fld.ext E13 f12_4
 have f13_5 := Fld.ext E13 f12_5
 have f13_6 := Fld.ext E13 f12_6
 refine Go.by st13 ?_
 have V13 : Arv Z h13 b13 k13 (.object q_3) (3 : Int32) [.null, .null, .null] .null := (Arv.new A13 (by decide)).pad (pad_rep [] .null 3)
 show oG p e below P m T13 14 #[(vR a0_), (vI 3), (vI si)] [(.ref b13), (.ref a0_)]
 obtain ⟨T14, h14, X14, e14, W14, st14⟩ := putF X13 hx hZ hown (host := "") (Or.inl (tw_15 hw)) Via.refl e13 f13_5 f13_3 (Or.inr ⟨(tw_16 hw), rfl, hnm⟩) (tw_3 hw) (ty := (.array (.object q_3))) (by decide) rfl rfl (g := (mkF m 14 #[(vR a0_), (vI 3), (vI si)] [(.ref b13), (.ref a0_)])) rfl rfl (hb hby dl_14)
 refine Go.by st14 ?_
 have N14 := Fr.snoc X14 N12 g_a0_
 have f14_0 := Nat.le_trans f13_0 (Keep.of_wr W14).1
 have f14_1 := Keep.wr f13_1 W14 (Or.inl (List.mem_of_getElem? (i := 0) rfl))
 have f14_2 := Old.wr f13_2 W14 g_a0_
 have f14_3 := Exa.wr W14 f13_3
 have f14_4 := Fld.other W14 f13_4 (Or.inr (slot_ne (Or.inr (tw_12 hw)) (Or.inr (tw_16 hw)) (by decide) (t := .int) (t' := (.array (.object q_3))) (by decide) (by decide)))
 have f14_5 := Fld.same W14 f13_5
 have f14_6 := Fld.other W14 f13_6 (Or.inr (slot_ne (Or.inr (tw_73 hw)) (Or.inr (tw_16 hw)) (by decide) (t := (.array (.array .long))) (t' := (.array (.object q_3))) (by decide) (by decide)))
 have f14_7 := Arv.other V13 W14 (Ne.symm ne_a0__b13)
 refine aA X14 hx hby dl_17 rfl rfl ?_
 refine gF X14 hx hby hZ hown (tw_15 hw) Via.refl e14 f14_5 dl_18 ?_
 intro T15 X15 e15
 obtain ⟨fa16, cK16, MD16, FN16, st16⟩ := own_site X15 hx hZ Bd.named (tw_17 hw) rfl e15 f14_2.2 (g := (mkF m 21 #[(vR a0_), (vI 3), (vI si)] [(.ref b13)])) rfl rfl (by rw [hml]; rfl) (hb hby dl_21) (by show 2 * 0 + _ + 3072 ≤ _; exact Nat.le_of_ble_eq_true rfl)
 refine Go.by st16 ?_
 refine c_stat 0 X15 hx hby hml hZ hown (tw_20 hw) (tw_21 hw) (tw_22 hw) (tw_23 hw) (rm_setAll3 l Z a0 hw [] b13 k13 fa16 cK16 h14 n0 f14_0 f14_7 g_b13 OV13 MD16 FN16) e15 dl_26 [(.ref b13), (.ref fa16)] [] (lenOf pd23 rfl) rfl rfl ?_
 rintro _ T17 Lc17 ⟨rfl, N17q, K17, o17_0, m17_0, o17_1, m17_1, o17_2, m17_2, zo17_0, zm17_0, zo17_1, zm17_1, zo17_2, zm17_2, no17_01, nm17_01, no17_02, nm17_02, no17_12, nm17_12, V17, G17_0, G17_1, G17_2, G17_3, G17_4, G17_5, G17_6, G17_7, G17_8, G17_9, G17_10, G17_11, G17_12, G17_13, G17_14, G17_15, G17_16, G17_17, G17_18, G17_19, G17_20, G17_21, G17_22, G17_23, G17_24, G17_25, G17_26, G17_27, G17_28, G17_29⟩ X17
 have N17 := Fr.app N14 N17q
 have u17_0 := ninS ne_a0__b13 nin0
 have f17_0 := Nat.le_trans f14_0 K17.1
 have f17_1 := Keep.trans f14_1 K17 (allS (Or.inr sz_b13) all0)
 have f17_3 := Exa.keep f14_3 K17
 have f17_4 := Fld.keep f14_4 K17 u17_0
 have f17_5 := Fld.keep f14_5 K17 u17_0
 have f17_6 := Fld.keep f14_6 K17 u17_0
 have g_o17_0 : n0 ≤ o17_0 := Nat.le_trans f14_0 zo17_0
 have ne_a0__o17_0 : a0_ ≠ o17_0 := Nat.ne_of_lt (Nat.lt_of_lt_of_le (f14_3.lt) zo17_0)
 have g_o17_1 : n0 ≤ o17_1 := Nat.le_trans f14_0 zo17_1
 have ne_a0__o17_1 : a0_ ≠ o17_1 := Nat.ne_of_lt (Nat.lt_of_lt_of_le (f14_3.lt) zo17_1)
 have g_o17_2 : n0 ≤ o17_2 := Nat.le_trans f14_0 zo17_2
 have ne_a0__o17_2 : a0_ ≠ o17_2 := Nat.ne_of_lt (Nat.lt_of_lt_of_le (f14_3.lt) zo17_2)
 have g_m17_0 : n0 ≤ m17_0 := Nat.le_trans f14_0 zm17_0
 have ne_a0__m17_0 : a0_ ≠ m17_0 := Nat.ne_of_lt (Nat.lt_of_lt_of_le (f14_3.lt) zm17_0)
 have g_m17_1 : n0 ≤ m17_1 := Nat.le_trans f14_0 zm17_1
 have ne_a0__m17_1 : a0_ ≠ m17_1 := Nat.ne_of_lt (Nat.lt_of_lt_of_le (f14_3.lt) zm17_1)
 have g_m17_2 : n0 ≤ m17_2 := Nat.le_trans f14_0 zm17_2
 have ne_a0__m17_2 : a0_ ≠ m17_2 := Nat.ne_of_lt (Nat.lt_of_lt_of_le (f14_3.lt) zm17_2)
 refine aA X17 hx hby dl_29 rfl rfl ?_
 refine iA X17 hx hby dl_30 rfl ?_
 refine iA X17 hx hby dl_31 rfl ?_
 obtain ⟨T18, h18, k18, kc18, X18, e18, E18, V18, OV18, EX18, AL18, st18⟩ := gridM X17 hx hZ (ty := .long) (C := "[J") (ad := "[[J") hown (by decide +kernel) (by decide +kernel) (tw_69 hw) (tw_70 hw) (tw_71 hw) rfl (g := (mkF m 32 #[(vR a0_), (vI 3), (vI si)] [(.int 3), (.int 3), (.ref a0_)])) rfl (hb hby dl_32) rfl (by decide) (by decide) (xs := [T17.heap.size + 1 + 0, T17.heap.size + 1 + 1, T17.heap.size + 1 + 2]) (N := 3) rfl rfl (cap := 3) (by decide) (by decide) (by decide) rfl rfl (by decide) (by decide)
 obtain ⟨b18, g18⟩ : ∃ z, z = T17.heap.size := ⟨_, rfl⟩
 rw [← g18] at V18 EX18 AL18 st18
 have g_b18 : n0 ≤ b18 := Nat.le_trans f17_0 (Nat.le_of_eq g18.symm)
 have ne_a0__b18 : a0_ ≠ b18 := Nat.ne_of_lt (Nat.lt_of_lt_of_le (f17_3.lt) (Nat.le_of_eq g18.symm))
 have f18_1 := Keep.ext f17_1 E18
 have f18_3 := Exa.ext E18 f17_3
 have f18_4 := Fld.ext E18 f17_4
 have f18_5 := Fld.ext E18 f17_5
 have f18_6 := Fld.ext E18 f17_6
 have f18_8 := Exa.ext E18 G17_0
 have f18_9 := Fld.ext E18 G17_1
 have f18_10 := Fld.ext E18 G17_2
 have f18_11 := Fld.ext E18 G17_3
 have f18_12 := Fld.ext E18 G17_4
 have f18_13 := Exa.ext E18 G17_5
 have f18_14 := Fld.ext E18 G17_6
 have f18_15 := Fld.ext E18 G17_7
 have f18_16 := Fld.ext E18 G17_8
 have f18_17 := Fld.ext E18 G17_9
 have f18_18 := Exa.ext E18 G17_10
 have f18_19 := Fld.ext E18 G17_11
 have f18_20 := Fld.ext E18 G17_12
 have f18_21 := Fld.ext E18 G17_13
 have f18_22 := Fld.ext E18 G17_14
 have f18_23 := Exa.ext E18 G17_15
 have f18_24 := Fld.ext E18 G17_16
 have f18_25 := Fld.ext E18 G17_17
 have f18_26 := Fld.ext E18 G17_18
 have f18_27 := Fld.ext E18 G17_19
 have f18_28 := Exa.ext E18 G17_20
 have f18_29 := Fld.ext E18 G17_21
 have f18_30 := Fld.ext E18 G17_22
 have f18_31 := Fld.ext E18 G17_23
 have f18_32 := Fld.ext E18 G17_24
 have f18_33 := Exa.ext E18 G17_25
 have f18_34 := Fld.ext E18 G17_26
 have f18_35 := Fld.ext E18 G17_27
 have f18_36 := Fld.ext E18 G17_28
 have f18_37 := Fld.ext E18 G17_29
 have f18_38 := Arv.ext V17 E18
 obtain ⟨x18_2, gx18_2⟩ : ∃ z, z = b18 + 1 + 2 := ⟨_, rfl⟩
 rw [← gx18_2] at V18 AL18
 obtain ⟨x18_1, gx18_1⟩ : ∃ z, z = b18 + 1 + 1 := ⟨_, rfl⟩
 rw [← gx18_1] at V18 AL18
 obtain ⟨x18_0, gx18_0⟩ : ∃ z, z = b18 + 1 + 0 := ⟨_, rfl⟩
 rw [← gx18_0] at V18 AL18
 have g_x18_0 : n0 ≤ x18_0 := Nat.le_trans f17_0 (by omega : T17.heap.size ≤ x18_0)
 have ne_b13_x18_0 : b13 ≠ x18_0 := Nat.ne_of_lt (Nat.lt_of_lt_of_le (V17.lt) (by omega : T17.heap.size ≤ x18_0))
 have g_x18_1 : n0 ≤ x18_1 := Nat.le_trans f17_0 (by omega : T17.heap.size ≤ x18_1)
 have ne_b13_x18_1 : b13 ≠ x18_1 := Nat.ne_of_lt (Nat.lt_of_lt_of_le (V17.lt) (by omega : T17.heap.size ≤ x18_1))
 have g_x18_2 : n0 ≤ x18_2 := Nat.le_trans f17_0 (by omega : T17.heap.size ≤ x18_2)
 have ne_b13_x18_2 : b13 ≠ x18_2 := Nat.ne_of_lt (Nat.lt_of_lt_of_le (V17.lt) (by omega : T17.heap.size ≤ x18_2))
 have LAx18_0 : own_LA Z h18 x18_0 (3 : Int32) := ⟨_, (AL18 0 _ rfl).1, sz_new _ _ _, by decide⟩
 have ne_b18_x18_0 : b18 ≠ x18_0 := by omega
 have LAx18_1 : own_LA Z h18 x18_1 (3 : Int32) := ⟨_, (AL18 1 _ rfl).1, sz_new _ _ _, by decide⟩
 have ne_b18_x18_1 : b18 ≠ x18_1 := by omega
 have LAx18_2 : own_LA Z h18 x18_2 (3 : Int32) := ⟨_, (AL18 2 _ rfl).1, sz_new _ _ _, by decide⟩
 have ne_b18_x18_2 : b18 ≠ x18_2 := by omega
 have VV18 : Arv Z h18 b18 k18 (.array .long) (3 : Int32) [(.ref x18_0), (.ref x18_1), (.ref x18_2)] .null := V18
 refine Go.by st18 ?_
 obtain ⟨T19, h19, X19, e19, W19, st19⟩ := putF X18 hx hZ hown (host := "") (Or.inl (tw_72 hw)) Via.refl e18 f18_6 f18_3 (Or.inr ⟨(tw_73 hw), rfl, hnm⟩) (tw_3 hw) (ty := (.array (.array .long))) (by decide) rfl rfl (g := (mkF m 36 #[(vR a0_), (vI 3), (vI si)] [(.ref b18), (.ref a0_)])) rfl rfl (hb hby dl_36)
 refine Go.by st19 ?_
 have N19 := Fr.snoc X19 N17 g_a0_
 have f19_1 := Keep.wr f18_1 W19 (Or.inl (List.mem_of_getElem? (i := 0) rfl))
 have f19_3 := Exa.wr W19 f18_3
 have f19_4 := Fld.other W19 f18_4 (Or.inr (slot_ne (Or.inr (tw_12 hw)) (Or.inr (tw_73 hw)) (by decide) (t := .int) (t' := (.array (.array .long))) (by decide) (by decide)))
 have f19_5 := Fld.other W19 f18_5 (Or.inr (slot_ne (Or.inr (tw_16 hw)) (Or.inr (tw_73 hw)) (by decide) (t := (.array (.object q_3))) (t' := (.array (.array .long))) (by decide) (by decide)))
 have f19_6 := Fld.same W19 f18_6
 have f19_8 := Exa.wr W19 f18_8
 have f19_9 := Fld.other W19 f18_9 (Or.inl (Ne.symm ne_a0__o17_0))
 have f19_10 := Fld.other W19 f18_10 (Or.inl (Ne.symm ne_a0__o17_0))
 have f19_11 := Fld.other W19 f18_11 (Or.inl (Ne.symm ne_a0__o17_0))
 have f19_12 := Fld.other W19 f18_12 (Or.inl (Ne.symm ne_a0__o17_0))
 have f19_13 := Exa.wr W19 f18_13
 have f19_14 := Fld.other W19 f18_14 (Or.inl (Ne.symm ne_a0__m17_0))
 have f19_15 := Fld.other W19 f18_15 (Or.inl (Ne.symm ne_a0__m17_0))
 have f19_16 := Fld.other W19 f18_16 (Or.inl (Ne.symm ne_a0__m17_0))
 have f19_17 := Fld.other W19 f18_17 (Or.inl (Ne.symm ne_a0__m17_0))
 have f19_18 := Exa.wr W19 f18_18
 have f19_19 := Fld.other W19 f18_19 (Or.inl (Ne.symm ne_a0__o17_1))
 have f19_20 := Fld.other W19 f18_20 (Or.inl (Ne.symm ne_a0__o17_1))
 have f19_21 := Fld.other W19 f18_21 (Or.inl (Ne.symm ne_a0__o17_1))
 have f19_22 := Fld.other W19 f18_22 (Or.inl (Ne.symm ne_a0__o17_1))
 have f19_23 := Exa.wr W19 f18_23
 have f19_24 := Fld.other W19 f18_24 (Or.inl (Ne.symm ne_a0__m17_1))
 have f19_25 := Fld.other W19 f18_25 (Or.inl (Ne.symm ne_a0__m17_1))
 have f19_26 := Fld.other W19 f18_26 (Or.inl (Ne.symm ne_a0__m17_1))
 have f19_27 := Fld.other W19 f18_27 (Or.inl (Ne.symm ne_a0__m17_1))
 have f19_28 := Exa.wr W19 f18_28
 have f19_29 := Fld.other W19 f18_29 (Or.inl (Ne.symm ne_a0__o17_2))
 have f19_30 := Fld.other W19 f18_30 (Or.inl (Ne.symm ne_a0__o17_2))
 have f19_31 := Fld.other W19 f18_31 (Or.inl (Ne.symm ne_a0__o17_2))
 have f19_32 := Fld.other W19 f18_32 (Or.inl (Ne.symm ne_a0__o17_2))
 have f19_33 := Exa.wr W19 f18_33
 have f19_34 := Fld.other W19 f18_34 (Or.inl (Ne.symm ne_a0__m17_2))
 have f19_35 := Fld.other W19 f18_35 (Or.inl (Ne.symm ne_a0__m17_2))
 have f19_36 := Fld.other W19 f18_36 (Or.inl (Ne.symm ne_a0__m17_2))
 have f19_37 := Fld.other W19 f18_37 (Or.inl (Ne.symm ne_a0__m17_2))
 have f19_38 := Arv.other f18_38 W19 (Ne.symm ne_a0__b13)
 have f19_39 : own_LA Z h19 x18_0 (3 : Int32) := (own_LA.wr LAx18_0 W19)
 have f19_40 : own_LA Z h19 x18_1 (3 : Int32) := (own_LA.wr LAx18_1 W19)
 have f19_41 : own_LA Z h19 x18_2 (3 : Int32) := (own_LA.wr LAx18_2 W19)
 have f19_42 := Arv.other VV18 W19 (Ne.symm ne_a0__b18)
 show oG p e below P m T19 39 #[(vR a0_), (vI 3), (vI si)] []
 refine own_fin hP hlk X19 (v := none) (fun _ => rfl) (by decide) (by decide) ?_ (fun fs hr => X19.returnOut hx Bd.returns (hb hby dl_39) hr)
 rw [e19]
 exact ⟨rfl, N19, f19_1, b13, k13, b18, k18, (own_f3 o17_0 o17_1 o17_2), (own_f3 m17_0 m17_1 m17_2), (own_f3 x18_0 x18_1 x18_2), ⟨f19_3, f19_4, f19_5, f19_6, f19_38, f19_42, own_all3 f19_39 f19_40 f19_41⟩, own_all3 ⟨f19_8, f19_9, f19_10, f19_11, f19_12, f19_13, f19_14, f19_15, f19_16, f19_17⟩ ⟨f19_18, f19_19, f19_20, f19_21, f19_22, f19_23, f19_24, f19_25, f19_26, f19_27⟩ ⟨f19_28, f19_29, f19_30, f19_31, f19_32, f19_33, f19_34, f19_35, f19_36, f19_37⟩, ⟨own_all3 ⟨g_o17_0, g_m17_0, g_x18_0, ne_b13_x18_0, ne_b18_x18_0⟩ ⟨g_o17_1, g_m17_1, g_x18_1, ne_b13_x18_1, ne_b18_x18_1⟩ ⟨g_o17_2, g_m17_2, g_x18_2, ne_b13_x18_2, ne_b18_x18_2⟩, own_pairs (fun _ _ q => ⟨q.1.symm, q.2.symm⟩) (fun i j hij hj => by have hj' : j < 3 := hj; rcases (by omega : (i = 0 ∧ j = 1) ∨ (i = 0 ∧ j = 2) ∨ (i = 1 ∧ j = 2)) with ⟨rfl, rfl⟩ | ⟨rfl, rfl⟩ | ⟨rfl, rfl⟩ <;> first | exact ⟨no17_01, nm17_01⟩ | exact ⟨no17_02, nm17_02⟩ | exact ⟨no17_12, nm17_12⟩)⟩⟩
def Q_rmInit (Z : State) (a0_ : Addr) (z si : Int32) (h0 : Heap) (n0 : Nat) (v : Option Value) (h : Heap) (L : List Loc) : Prop := v = none ∧ Fr n0 L ∧ Keep h0 h [a0_] ∧ ∃ arr ka out ko o m x, own_RMS Z h a0_ si z arr ka out ko o x ∧ (∀ i, i < (z).toNatClampNeg → own_O0 Z h (o i) (m i)) ∧ own_Dis n0 z arr out o m x
theorem rm_rmInit (l : Launch) (Z : State) (a0 : Array Value) (hw : oW a0 Z) (ws : List Jvm.Cond) (a0_ : Addr) (z si : Int32) (h0 : Heap) (n0 : Nat) (Z0 : n0 ≤ h0.size) (O0 : Old Z n0 h0) (s0 : Exa Z h0 a0_ q_15) (s1 : Fld Z h0 a0_ q_15 "self" "I" (.int 0)) (s2 : Fld Z h0 a0_ q_15 "origins" q_20 .null) (s3 : Fld Z h0 a0_ q_15 "reported" "[[J" .null) (g_a0_ : n0 ≤ a0_) (hz : z = 2 ∨ z = 3) :
   MetFree l oY21 (head1 (Jvm.Cond.code oY21 p68_1 3 none :: ws) (own_R 7 11 70 3250)) (fun a U => a = #[(.ref a0_), (.int z), (.int si)] ∧ Z.Warmed39 U.vm ∧ U.heap = h0) (fun _ _ _ _ _ => True) (fun _ U o U' => ∃ v L, o = .returned v ∧ Q_rmInit Z a0_ z si h0 n0 v U'.heap L ∧ FrameEnd U o U' L (own_R 7 11 70 3250).cells (own_R 7 11 70 3250).slots) := by
 rcases hz with rfl | rfl
 · exact rm_rmInit2 l Z a0 hw ws a0_ si h0 n0 Z0 O0 s0 s1 s2 s3 g_a0_
 · exact rm_rmInit3 l Z a0 hw ws a0_ si h0 n0 Z0 O0 s0 s1 s2 s3 g_a0_
def Q_minJ (Z : State) (x y : Int64) (h0 : Heap) (n0 : Nat) (v : Option Value) (h : Heap) (L : List Loc) : Prop := v = some (.long x) ∧ Fr n0 L ∧ h = h0
theorem rm_minJ (l : Launch) (Z : State) (a0 : Array Value) (hw : oW a0 Z) (ws : List Jvm.Cond) (x y : Int64) (h0 : Heap) (n0 : Nat) (Z0 : n0 ≤ h0.size) (hr : ¬ y < x) :
   oM l oY31 j29_70 4 (some .long) ws (own_R 0 0 0 0) #[(.long x), (.long y)] Z h0 (Q_minJ Z x y h0 n0) := by
 refine own_open (n0 := n0) (cn := "java/lang/Math") rfl (Jvm.Free.JP.mathPlain rfl (by decide +kernel)) (L0 := #[(vJ x), .second, (vJ y), .second]) ?_
 intro p e s m below meth c s₁ P hx hby hml hown hnm X0 e0 N0 hlk hret hZ hP
 refine lA X0 hx hby dy_0 rfl ?_
 refine lA X0 hx hby dy_1 rfl ?_
 refine lK X0 hx hby dy_2 ?_
 refine fN X0 hx hby dy_3 (XT.ll_gt_f hr) ?_
 refine lA X0 hx hby dy_6 rfl ?_
 refine gO X0 hx hby dy_7 (pc' := 11) ?_
 refine r_val hP hlk hret X0 hx hby dy_11 rfl (Or.inr (Or.inl ⟨rfl, rfl, _, rfl⟩)) (by decide) ?_
 rw [e0]
 exact ⟨rfl, N0, rfl⟩
def Q_maxJ (Z : State) (x y : Int64) (h0 : Heap) (n0 : Nat) (v : Option Value) (h : Heap) (L : List Loc) : Prop := v = some (.long y) ∧ Fr n0 L ∧ h = h0
theorem rm_maxJ (l : Launch) (Z : State) (a0 : Array Value) (hw : oW a0 Z) (ws : List Jvm.Cond) (x y : Int64) (h0 : Heap) (n0 : Nat) (Z0 : n0 ≤ h0.size) (hr : x < y) :
   oM l oY32 j29_66 4 (some .long) ws (own_R 0 0 0 0) #[(.long x), (.long y)] Z h0 (Q_maxJ Z x y h0 n0) := by
 refine own_open (n0 := n0) (cn := "java/lang/Math") rfl (Jvm.Free.JP.mathPlain rfl (by decide +kernel)) (L0 := #[(vJ x), .second, (vJ y), .second]) ?_
 intro p e s m below meth c s₁ P hx hby hml hown hnm X0 e0 N0 hlk hret hZ hP
 refine lA X0 hx hby dz_0 rfl ?_
 refine lA X0 hx hby dz_1 rfl ?_
 refine lK X0 hx hby dz_2 ?_
 refine fY X0 hx hby dz_3 (pc' := 10) (XT.ll_lt_t hr) ?_
 refine lA X0 hx hby dz_10 rfl ?_
 refine r_val hP hlk hret X0 hx hby dz_11 rfl (Or.inr (Or.inl ⟨rfl, rfl, _, rfl⟩)) (by decide) ?_
 rw [e0]
 exact ⟨rfl, N0, rfl⟩
def Q_know (Z : State) (o mp : Addr) (hd kn y : Int64) (h0 : Heap) (n0 : Nat) (v : Option Value) (h : Heap) (L : List Loc) : Prop := v = none ∧ Fr n0 L ∧ Keep h0 h [o] ∧ Exa Z h o q_3 ∧ Fld Z h o q_3 "held" "J" (.long hd) ∧ Fld Z h o q_3 "known" "J" (.long y) ∧ Fld Z h o q_3 "limit" "J" (.long (9223372036854775807 : Int64)) ∧ Fld Z h o q_3 q_18 q_19 (.ref mp)
theorem rm_know (l : Launch) (Z : State) (a0 : Array Value) (hw : oW a0 Z) (ws : List Jvm.Cond) (o mp : Addr) (hd kn y : Int64) (h0 : Heap) (n0 : Nat) (Z0 : n0 ≤ h0.size) (s0 : Exa Z h0 o q_3) (s1 : Fld Z h0 o q_3 "held" "J" (.long hd)) (s2 : Fld Z h0 o q_3 "known" "J" (.long kn)) (s3 : Fld Z h0 o q_3 "limit" "J" (.long (9223372036854775807 : Int64))) (s4 : Fld Z h0 o q_3 q_18 q_19 (.ref mp)) (g_o : n0 ≤ o) (hlt : kn < y) (hle : ¬ (9223372036854775807 : Int64) < y) :
   oM l oY18 p70_3 3 none ws (own_R 1 0 0 18) #[(.ref o), (.long y)] Z h0 (Q_know Z o mp hd kn y h0 n0) := by
 refine own_open (n0 := n0) (cn := q_3) rfl (plainFor_of_name pn4) (L0 := #[(vR o), (vJ y), .second]) ?_
 intro p e s m below meth c s₁ P hx hby hml hown hnm X0 e0 N0 hlk hret hZ hP
 refine aA X0 hx hby du_0 rfl rfl ?_
 refine aA X0 hx hby du_1 rfl rfl ?_
 refine gF X0 hx hby hZ hown (tw_173 hw) Via.refl e0 s2 du_2 ?_
 intro T11 X11 e11
 refine lA X11 hx hby du_5 rfl ?_
 refine aA X11 hx hby du_6 rfl rfl ?_
 refine gF X11 hx hby hZ hown (tw_40 hw) Via.refl e11 s3 du_7 ?_
 intro T12 X12 e12
 refine c_stat 3 X12 hx hby hml hZ hown (tw_175 hw) (tw_176 hw) (tw_177 hw) (tw_178 hw) (rm_minJ l Z a0 hw [] y (9223372036854775807 : Int64) h0 n0 Z0 hle) e12 du_10 [(.long y), (.long (9223372036854775807 : Int64))] [(.long kn), (.ref o)] (lenOf pd24 rfl) rfl rfl ?_
 rintro _ T13 Lc13 ⟨rfl, N13q, q13⟩ X13
 have N13 := Fr.app N0 N13q
 refine c_stat 1 X13 hx hby hml hZ hown (tw_179 hw) (tw_180 hw) (tw_177 hw) (tw_181 hw) (rm_maxJ l Z a0 hw [] kn y h0 n0 Z0 hlt) q13 du_13 [(.long kn), (.long y)] [(.ref o)] (lenOf pd24 rfl) rfl rfl ?_
 rintro _ T14 Lc14 ⟨rfl, N14q, q14⟩ X14
 have N14 := Fr.app N13 N14q
 obtain ⟨T15, h15, X15, e15, W15, st15⟩ := putF X14 hx hZ hown (host := "") (Or.inl (tw_173 hw)) Via.refl q14 s2 s0 (Or.inl (tw_174 hw)) (tw_33 hw) (ty := .long) (by decide) rfl rfl (g := (mkF m 16 #[(vR o), (vJ y), .second] [(.long y), (.ref o)])) rfl rfl (hb hby du_16)
 refine Go.by st15 ?_
 have N15 := Fr.snoc X15 N14 g_o
 have f15_1 := Keep.wr (Keep.refl h0 [o]) W15 (Or.inl (List.mem_of_getElem? (i := 0) rfl))
 have f15_2 := Exa.wr W15 s0
 have f15_3 := Fld.other W15 s1 (Or.inr (slot_ne (Or.inl (tw_80 hw)) (Or.inl (tw_174 hw)) (by decide) (t := .long) (t' := .long) (by decide) (by decide)))
 have f15_4 := Fld.same W15 s2
 have f15_5 := Fld.other W15 s3 (Or.inr (slot_ne (Or.inl (tw_41 hw)) (Or.inl (tw_174 hw)) (by decide) (t := .long) (t' := .long) (by decide) (by decide)))
 have f15_6 := Fld.other W15 s4 (Or.inr (slot_ne (Or.inr (tw_62 hw)) (Or.inl (tw_174 hw)) (by decide) (t := (.object q_2)) (t' := .long) (by decide) (by decide)))
 show oG p e below P m T15 19 #[(vR o), (vJ y), .second] []
 refine own_fin hP hlk X15 (v := none) (fun _ => rfl) (by decide) (by decide) ?_ (fun fs hr => X15.returnOut hx hret (hb hby du_19) hr)
 rw [e15]
 exact ⟨rfl, N15, f15_1, f15_2, f15_3, f15_4, f15_5, f15_6⟩
def Q_send0 (Z : State) (rm arr out o mp x : Addr) (ka ko : ClassId) (z si : Int32) (vs us : List Value) (vx : Addr) (sz mc : Int32) (ca : Addr) (cc : Cell) (h0 : Heap) (n0 : Nat) (v : Option Value) (h : Heap) (L : List Loc) : Prop := v = some (.long (0 : Int64)) ∧ Fr n0 L ∧ Keep h0 h [o, mp, x] ∧ ∃ en, h0.size ≤ en ∧ Exa Z h o q_3 ∧ Fld Z h o q_3 "held" "J" (.long (1 : Int64)) ∧ Fld Z h o q_3 "known" "J" (.long (0 : Int64)) ∧ Fld Z h o q_3 "limit" "J" (.long (9223372036854775807 : Int64)) ∧ Fld Z h o q_3 q_18 q_19 (.ref mp) ∧ Exa Z h mp q_2 ∧ Fld Z h mp q_2 q_12 q_1 (.ref en) ∧ Fld Z h mp q_2 q_13 "I" (.int 1) ∧ Fld Z h mp q_2 q_14 "I" (.int (mc + (1 : Int32))) ∧ Fld Z h mp q_2 q_10 q_11 .null ∧ Exa Z h en q_0 ∧ Fld Z h en q_0 q_8 q_4 (.ref (own_bx cc 128)) ∧ Fld Z h en q_0 q_6 q_1 .null ∧ Fld Z h en q_0 q_9 q_1 .null ∧ Fld Z h en q_0 q_5 q_1 .null ∧ Fld Z h en q_0 q_7 "Z" (.int 1)
theorem rm_send0 (l : Launch) (Z : State) (a0 : Array Value) (hw : oW a0 Z) (ws : List Jvm.Cond) (rm arr out o mp x : Addr) (ka ko : ClassId) (z si : Int32) (vs us : List Value) (vx : Addr) (sz mc : Int32) (ca : Addr) (cc : Cell) (h0 : Heap) (n0 : Nat) (Z0 : n0 ≤ h0.size) (O0 : Old Z n0 h0) (Sca : Sta Z Z.heap q_22 "cache" q_23 (.ref ca)) (BX : Bxs Z ca cc q_17 "J" (256 : Int32) own_val) (Var : Arv Z h0 arr ka (.object q_3) z vs .null) (Vou : Arv Z h0 out ko (.array .long) z us .null) (hsi : ¬ si < 0 ∧ si < z) (hux : us.getD si.toNatClampNeg .null = .ref x) (LAx : own_LA Z h0 x z) (nax : arr ≠ x) (nox : out ≠ x) (hvo : vs.getD si.toNatClampNeg .null = .ref o) (s0 : Exa Z h0 rm q_15) (s1 : Fld Z h0 rm q_15 "self" "I" (.int si)) (s2 : Fld Z h0 rm q_15 "origins" q_20 (.ref arr)) (s3 : Fld Z h0 rm q_15 "reported" "[[J" (.ref out)) (s4 : Exa Z h0 o q_3) (s5 : Fld Z h0 o q_3 "held" "J" (.long (0 : Int64))) (s6 : Fld Z h0 o q_3 "known" "J" (.long (0 : Int64))) (s7 : Fld Z h0 o q_3 "limit" "J" (.long (9223372036854775807 : Int64))) (s8 : Fld Z h0 o q_3 q_18 q_19 (.ref mp)) (s9 : Exa Z h0 mp q_2) (s10 : Fld Z h0 mp q_2 q_12 q_1 .null) (s11 : Fld Z h0 mp q_2 q_13 "I" (.int sz)) (s12 : Fld Z h0 mp q_2 q_14 "I" (.int mc)) (s13 : Fld Z h0 mp q_2 q_10 q_11 .null) (g_o : n0 ≤ o) (g_mp : n0 ≤ mp) (g_x : n0 ≤ x) :
   oM l oY11 p68_3 5 (some .long) ws (own_R 7 1 6 170) #[(.ref rm), (.ref vx)] Z h0 (Q_send0 Z rm arr out o mp x ka ko z si vs us vx sz mc ca cc h0 n0) := by
 refine own_open (n0 := n0) (cn := q_15) rfl (plainFor_of_name pn1) (L0 := #[(vR rm), (vR vx), .unset, .unset, .unset]) ?_
 intro p e s m below meth c s₁ P hx hby hml hown hnm X0 e0 N0 hlk hret hZ hP
 have ne_rm_o : rm ≠ o := ne_exa s0 s4 (by decide)
 have ne_rm_mp : rm ≠ mp := ne_exa s0 s9 (by decide)
 have ne_o_mp : o ≠ mp := ne_exa s4 s9 (by decide)
 have ne_o_out : o ≠ out := fun q => by obtain ⟨_, Ar, -⟩ := Vou; exact ne_arr s4 (tw_33 hw) Ar q
 have ne_o_x : o ≠ x := fun q => by obtain ⟨_, Ar, -⟩ := LAx; exact ne_arr s4 (tw_33 hw) Ar q
 have ne_mp_out : mp ≠ out := fun q => by obtain ⟨_, Ar, -⟩ := Vou; exact ne_arr s9 (tw_43 hw) Ar q
 have ne_mp_x : mp ≠ x := fun q => by obtain ⟨_, Ar, -⟩ := LAx; exact ne_arr s9 (tw_43 hw) Ar q
 show oG p e below P m s₁ 0 #[(vR rm), (vR vx), .unset, .unset, .unset] []
 refine aA X0 hx hby de_0 rfl rfl ?_
 refine gF X0 hx hby hZ hown (tw_15 hw) Via.refl e0 s2 de_1 ?_
 intro T1 X1 e1
 refine aA X1 hx hby de_4 rfl rfl ?_
 refine gF X1 hx hby hZ hown (tw_11 hw) Via.refl e1 s1 de_5 ?_
 intro T2 X2 e2
 have av3 := Var
 obtain ⟨cl3, Ar3, -, Sz3, Nn3, Ha3, Gf3⟩ := av3
 have hin3 : ¬ (si < 0 ∨ cl3.slots.size ≤ (si).toNatClampNeg) := inb_of Sz3 hsi
 have hat3 : cl3.slots[(si).toNatClampNeg]? = some (.ref o) := Ha3.at hin3 hvo
 refine Go.by (X2.aaload hx (j := si) (v := (.ref o)) (by rw [e2]; exact Ar3.1) (State.isArrayOf_alike hZ.alike Ar3.2.1) rfl Ar3.2.2 hin3 hat3 (g := (mkF m 8 #[(vR rm), (vR vx), .unset, .unset, .unset] [(.int si), (.ref arr)])) rfl rfl (hb hby de_8)) ?_
 show oG p e below P m T2 9 #[(vR rm), (vR vx), .unset, .unset, .unset] [(.ref o)]
 refine aS X2 hx hby de_9 rfl rfl ?_
 refine aA X2 hx hby de_10 rfl rfl ?_
 refine gR X2 hx hby hZ hown (tw_79 hw) Via.refl e2 s5 de_11 ?_
 intro T4 X4 e4
 refine w_lstoreN X4 hx hby de_14 rfl ?_
 refine aA X4 hx hby de_15 rfl rfl ?_
 refine gR X4 hx hby hZ hown (tw_81 hw) Via.refl e4 s8 de_16 ?_
 intro T5 X5 e5
 refine lA X5 hx hby de_19 rfl ?_
 refine c_stat 1 X5 hx hby hml hZ hown (tw_82 hw) (tw_83 hw) (tw_84 hw) (tw_85 hw) (rm_valueOf0 l Z a0 hw [] ca cc h0 n0 Z0 O0 Sca BX) e5 de_20 [(.long (0 : Int64))] [(.ref mp)] (lenOf pd1 rfl) rfl rfl ?_
 rintro _ T6 Lc6 ⟨rfl, N6q, q6⟩ X6
 have N6 := Fr.app N0 N6q
 refine aA X6 hx hby de_23 rfl rfl ?_
 refine c_virt 0 X6 hx hby hml hZ hown (tw_90 hw) (tw_91 hw) (tw_93 hw) (tw_92 hw) (tw_94 hw) (tw_44 hw) (rm_put2_0 l Z a0 hw [] mp (own_bx cc 128) vx sz mc h0 n0 Z0 O0 s9 s10 s11 s12 s13 g_mp (own_box BX (128 : Int32) ⟨by decide, by decide⟩).2) q6 s9 de_24 [(.ref (own_bx cc 128)), (.ref vx)] [] (lenOf pd8 rfl) rfl rfl ?_
 rintro _ T7 Lc7 ⟨rfl, N7q, K7, en7, zn7, G7_0, G7_1, G7_2, G7_3, G7_4, G7_5, G7_6, G7_7, G7_8, G7_9, G7_10⟩ X7
 have N7 := Fr.app N6 N7q
 have u7_0 := ninS ne_o_mp nin0
 have f7_1 := Keep.trans (Keep.refl h0 [o, mp, x]) K7 (allS (Or.inl (List.mem_of_getElem? (i := 1) rfl)) all0)
 have f7_4 := Fld.keep s1 K7 (ninS ne_rm_mp nin0)
 have f7_6 := Fld.keep s3 K7 (ninS ne_rm_mp nin0)
 have f7_7 := Exa.keep s4 K7
 have f7_8 := Fld.keep s5 K7 u7_0
 have f7_9 := Fld.keep s6 K7 u7_0
 have f7_10 := Fld.keep s7 K7 u7_0
 have f7_11 := Fld.keep s8 K7 u7_0
 have f7_12 := Exa.keep s9 K7
 have f7_14 := Arv.keep Vou K7 (ninS (Ne.symm ne_mp_out) nin0)
 have f7_15 : own_LA Z T7.heap x z := (own_LA.keep LAx K7)
 have g_en7 : n0 ≤ en7 := Nat.le_trans Z0 zn7
 have sz_en7 : h0.size ≤ en7 := Nat.le_trans (Keep.refl h0 [o, mp, x]).1 zn7
 have ne_o_en7 : o ≠ en7 := Nat.ne_of_lt (Nat.lt_of_lt_of_le (s4.lt) zn7)
 have ne_x_en7 : x ≠ en7 := Nat.ne_of_lt (Nat.lt_of_lt_of_le ((own_LA.lt LAx)) zn7)
 refine pO X7 hx hby de_27 rfl ?_
 refine aA X7 hx hby de_28 rfl rfl ?_
 refine dU X7 hx hby de_29 rfl ?_
 refine gR X7 hx hby hZ hown (tw_79 hw) Via.refl rfl f7_8 de_30 ?_
 intro T8 X8 e8
 refine lC X8 hx hby de_33 (v := (1 : Int64)) rfl ?_
 refine lP X8 hx hby de_34 (v := (1 : Int64)) rfl ?_
 obtain ⟨T9, h9, X9, e9, W9, st9⟩ := own_putR X8 hx hZ hown (tw_79 hw) Via.refl e8 f7_8 f7_7 (tw_80 hw) (tw_33 hw) (ty := .long) (by decide) rfl rfl (g := (mkF m 35 #[(vR rm), (vR vx), (vR o), (vJ (0 : Int64)), .second] [(.long (1 : Int64)), (.ref o)])) rfl rfl (hb hby de_35)
 refine Go.by st9 ?_
 have N9 := Fr.snoc X9 N7 g_o
 have f9_1 := Keep.wr f7_1 W9 (Or.inl (List.mem_of_getElem? (i := 0) rfl))
 have f9_4 := Fld.other W9 f7_4 (Or.inl ne_rm_o)
 have f9_6 := Fld.other W9 f7_6 (Or.inl ne_rm_o)
 have f9_7 := Exa.wr W9 f7_7
 have f9_8 := Fld.same W9 f7_8
 have f9_9 := Fld.other W9 f7_9 (Or.inr (slot_ne (Or.inl (tw_174 hw)) (Or.inl (tw_80 hw)) (by decide) (t := .long) (t' := .long) (by decide) (by decide)))
 have f9_10 := Fld.other W9 f7_10 (Or.inr (slot_ne (Or.inl (tw_41 hw)) (Or.inl (tw_80 hw)) (by decide) (t := .long) (t' := .long) (by decide) (by decide)))
 have f9_11 := Fld.other W9 f7_11 (Or.inr (slot_ne (Or.inr (tw_62 hw)) (Or.inl (tw_80 hw)) (by decide) (t := (.object q_2)) (t' := .long) (by decide) (by decide)))
 have f9_12 := Exa.wr W9 f7_12
 have f9_14 := Arv.other f7_14 W9 (Ne.symm ne_o_out)
 have f9_15 : own_LA Z h9 x z := (own_LA.wr f7_15 W9)
 have f9_16 := Fld.other W9 G7_1 (Or.inl (Ne.symm ne_o_mp))
 have f9_17 := Fld.other W9 G7_2 (Or.inl (Ne.symm ne_o_mp))
 have f9_18 := Fld.other W9 G7_3 (Or.inl (Ne.symm ne_o_mp))
 have f9_19 := Fld.other W9 G7_4 (Or.inl (Ne.symm ne_o_mp))
 have f9_20 := Exa.wr W9 G7_5
 have f9_21 := Fld.other W9 G7_6 (Or.inl (Ne.symm ne_o_en7))
 have f9_22 := Fld.other W9 G7_7 (Or.inl (Ne.symm ne_o_en7))
 have f9_23 := Fld.other W9 G7_8 (Or.inl (Ne.symm ne_o_en7))
 have f9_24 := Fld.other W9 G7_9 (Or.inl (Ne.symm ne_o_en7))
 have f9_25 := Fld.other W9 G7_10 (Or.inl (Ne.symm ne_o_en7))
 refine aA X9 hx hby de_38 rfl rfl ?_
 refine gF X9 hx hby hZ hown (tw_72 hw) Via.refl e9 f9_6 de_39 ?_
 intro T10 X10 e10
 refine aA X10 hx hby de_42 rfl rfl ?_
 refine gF X10 hx hby hZ hown (tw_11 hw) Via.refl e10 f9_4 de_43 ?_
 intro T11 X11 e11
 have av12 := f9_14
 obtain ⟨cl12, Ar12, -, Sz12, Nn12, Ha12, Gf12⟩ := av12
 have hin12 : ¬ (si < 0 ∨ cl12.slots.size ≤ (si).toNatClampNeg) := inb_of Sz12 hsi
 have hat12 : cl12.slots[(si).toNatClampNeg]? = some (.ref x) := Ha12.at hin12 hux
 refine Go.by (X11.aaload hx (j := si) (v := (.ref x)) (by rw [e11]; exact Ar12.1) (State.isArrayOf_alike hZ.alike Ar12.2.1) rfl Ar12.2.2 hin12 hat12 (g := (mkF m 46 #[(vR rm), (vR vx), (vR o), (vJ (0 : Int64)), .second] [(.int si), (.ref out)])) rfl rfl (hb hby de_46)) ?_
 show oG p e below P m T11 47 #[(vR rm), (vR vx), (vR o), (vJ (0 : Int64)), .second] [(.ref x)]
 refine aA X11 hx hby de_47 rfl rfl ?_
 refine gF X11 hx hby hZ hown (tw_11 hw) Via.refl e11 f9_4 de_48 ?_
 intro T13 X13 e13
 refine aA X13 hx hby de_51 rfl rfl ?_
 refine gR X13 hx hby hZ hown (tw_79 hw) Via.refl e13 f9_8 de_52 ?_
 intro T14 X14 e14
 have av15 := f9_15
 obtain ⟨cl15, Ar15, Sz15, Nn15⟩ := av15
 have hin15 : ¬ (si < 0 ∨ cl15.slots.size ≤ (si).toNatClampNeg) := inb_of Sz15 hsi
 obtain ⟨T16, h16, X16, e16, W16, st16⟩ := stJ X14 hx hZ e14 Ar15 (j := si) hin15 (g := (mkF m 55 #[(vR rm), (vR vx), (vR o), (vJ (0 : Int64)), .second] [(.long (1 : Int64)), (.int si), (.ref x)])) rfl rfl (hb hby de_55)
 have N16 := Fr.snoc X16 N9 g_x
 have f16_1 := Keep.wr f9_1 W16 (Or.inl (List.mem_of_getElem? (i := 2) rfl))
 have f16_7 := Exa.wr W16 f9_7
 have f16_8 := Fld.other W16 f9_8 (Or.inl ne_o_x)
 have f16_9 := Fld.other W16 f9_9 (Or.inl ne_o_x)
 have f16_10 := Fld.other W16 f9_10 (Or.inl ne_o_x)
 have f16_11 := Fld.other W16 f9_11 (Or.inl ne_o_x)
 have f16_12 := Exa.wr W16 f9_12
 have f16_16 := Fld.other W16 f9_16 (Or.inl ne_mp_x)
 have f16_17 := Fld.other W16 f9_17 (Or.inl ne_mp_x)
 have f16_18 := Fld.other W16 f9_18 (Or.inl ne_mp_x)
 have f16_19 := Fld.other W16 f9_19 (Or.inl ne_mp_x)
 have f16_20 := Exa.wr W16 f9_20
 have f16_21 := Fld.other W16 f9_21 (Or.inl (Ne.symm ne_x_en7))
 have f16_22 := Fld.other W16 f9_22 (Or.inl (Ne.symm ne_x_en7))
 have f16_23 := Fld.other W16 f9_23 (Or.inl (Ne.symm ne_x_en7))
 have f16_24 := Fld.other W16 f9_24 (Or.inl (Ne.symm ne_x_en7))
 have f16_25 := Fld.other W16 f9_25 (Or.inl (Ne.symm ne_x_en7))
 refine Go.by st16 ?_
 refine lA X16 hx hby de_56 rfl ?_
 refine r_val hP hlk hret X16 hx hby de_57 rfl (Or.inr (Or.inl ⟨rfl, rfl, _, rfl⟩)) (by decide) ?_
 rw [e16]
 exact ⟨rfl, N16, f16_1, en7, sz_en7, f16_7, f16_8, f16_9, f16_10, f16_11, f16_12, f16_16, f16_17, f16_18, f16_19, f16_20, f16_21, f16_22, f16_23, f16_24, f16_25⟩
def Q_send1 (Z : State) (rm arr out o mp x : Addr) (ka ko : ClassId) (z si : Int32) (vs us : List Value) (nd0 vx : Addr) (sz mc : Int32) (ca : Addr) (cc : Cell) (h0 : Heap) (n0 : Nat) (v : Option Value) (h : Heap) (L : List Loc) : Prop := v = some (.long (1 : Int64)) ∧ Fr n0 L ∧ Keep h0 h [o, mp, nd0, x] ∧ ∃ en, h0.size ≤ en ∧ Exa Z h o q_3 ∧ Fld Z h o q_3 "held" "J" (.long (2 : Int64)) ∧ Fld Z h o q_3 "known" "J" (.long (0 : Int64)) ∧ Fld Z h o q_3 "limit" "J" (.long (9223372036854775807 : Int64)) ∧ Fld Z h o q_3 q_18 q_19 (.ref mp) ∧ Exa Z h mp q_2 ∧ Fld Z h mp q_2 q_12 q_1 (.ref nd0) ∧ Fld Z h mp q_2 q_13 "I" (.int (sz + (1 : Int32))) ∧ Fld Z h mp q_2 q_14 "I" (.int (mc + (1 : Int32))) ∧ Fld Z h mp q_2 q_10 q_11 .null ∧ Exa Z h nd0 q_0 ∧ Fld Z h nd0 q_0 q_8 q_4 (.ref (own_bx cc 128)) ∧ Fld Z h nd0 q_0 q_6 q_1 .null ∧ Fld Z h nd0 q_0 q_9 q_1 (.ref en) ∧ Fld Z h nd0 q_0 q_5 q_1 .null ∧ Fld Z h nd0 q_0 q_7 "Z" (.int 1) ∧ Exa Z h en q_0 ∧ Fld Z h en q_0 q_8 q_4 (.ref (own_bx cc 129)) ∧ Fld Z h en q_0 q_6 q_1 .null ∧ Fld Z h en q_0 q_9 q_1 .null ∧ Fld Z h en q_0 q_5 q_1 (.ref nd0) ∧ Fld Z h en q_0 q_7 "Z" (.int 0)
theorem rm_send1 (l : Launch) (Z : State) (a0 : Array Value) (hw : oW a0 Z) (ws : List Jvm.Cond) (rm arr out o mp x : Addr) (ka ko : ClassId) (z si : Int32) (vs us : List Value) (nd0 vx : Addr) (sz mc : Int32) (ca : Addr) (cc : Cell) (h0 : Heap) (n0 : Nat) (Z0 : n0 ≤ h0.size) (O0 : Old Z n0 h0) (Sca : Sta Z Z.heap q_22 "cache" q_23 (.ref ca)) (BX : Bxs Z ca cc q_17 "J" (256 : Int32) own_val) (Var : Arv Z h0 arr ka (.object q_3) z vs .null) (Vou : Arv Z h0 out ko (.array .long) z us .null) (hsi : ¬ si < 0 ∧ si < z) (hux : us.getD si.toNatClampNeg .null = .ref x) (LAx : own_LA Z h0 x z) (nax : arr ≠ x) (nox : out ≠ x) (hvo : vs.getD si.toNatClampNeg .null = .ref o) (s0 : Exa Z h0 rm q_15) (s1 : Fld Z h0 rm q_15 "self" "I" (.int si)) (s2 : Fld Z h0 rm q_15 "origins" q_20 (.ref arr)) (s3 : Fld Z h0 rm q_15 "reported" "[[J" (.ref out)) (s4 : Exa Z h0 o q_3) (s5 : Fld Z h0 o q_3 "held" "J" (.long (1 : Int64))) (s6 : Fld Z h0 o q_3 "known" "J" (.long (0 : Int64))) (s7 : Fld Z h0 o q_3 "limit" "J" (.long (9223372036854775807 : Int64))) (s8 : Fld Z h0 o q_3 q_18 q_19 (.ref mp)) (s9 : Exa Z h0 mp q_2) (s10 : Fld Z h0 mp q_2 q_12 q_1 (.ref nd0)) (s11 : Fld Z h0 mp q_2 q_13 "I" (.int sz)) (s12 : Fld Z h0 mp q_2 q_14 "I" (.int mc)) (s13 : Fld Z h0 mp q_2 q_10 q_11 .null) (s14 : Exa Z h0 nd0 q_0) (s15 : Fld Z h0 nd0 q_0 q_8 q_4 (.ref (own_bx cc 128))) (s16 : Fld Z h0 nd0 q_0 q_6 q_1 .null) (s17 : Fld Z h0 nd0 q_0 q_9 q_1 .null) (s18 : Fld Z h0 nd0 q_0 q_5 q_1 .null) (s19 : Fld Z h0 nd0 q_0 q_7 "Z" (.int 1)) (g_o : n0 ≤ o) (g_mp : n0 ≤ mp) (g_nd0 : n0 ≤ nd0) (g_x : n0 ≤ x) :
   oM l oY11 p68_3 5 (some .long) ws (own_R 7 1 6 170) #[(.ref rm), (.ref vx)] Z h0 (Q_send1 Z rm arr out o mp x ka ko z si vs us nd0 vx sz mc ca cc h0 n0) := by
 refine own_open (n0 := n0) (cn := q_15) rfl (plainFor_of_name pn1) (L0 := #[(vR rm), (vR vx), .unset, .unset, .unset]) ?_
 intro p e s m below meth c s₁ P hx hby hml hown hnm X0 e0 N0 hlk hret hZ hP
 have ne_rm_o : rm ≠ o := ne_exa s0 s4 (by decide)
 have ne_rm_mp : rm ≠ mp := ne_exa s0 s9 (by decide)
 have ne_rm_nd0 : rm ≠ nd0 := ne_exa s0 s14 (by decide)
 have ne_o_mp : o ≠ mp := ne_exa s4 s9 (by decide)
 have ne_o_nd0 : o ≠ nd0 := ne_exa s4 s14 (by decide)
 have ne_o_out : o ≠ out := fun q => by obtain ⟨_, Ar, -⟩ := Vou; exact ne_arr s4 (tw_33 hw) Ar q
 have ne_o_x : o ≠ x := fun q => by obtain ⟨_, Ar, -⟩ := LAx; exact ne_arr s4 (tw_33 hw) Ar q
 have ne_mp_out : mp ≠ out := fun q => by obtain ⟨_, Ar, -⟩ := Vou; exact ne_arr s9 (tw_43 hw) Ar q
 have ne_mp_x : mp ≠ x := fun q => by obtain ⟨_, Ar, -⟩ := LAx; exact ne_arr s9 (tw_43 hw) Ar q
 have ne_nd0_out : nd0 ≠ out := fun q => by obtain ⟨_, Ar, -⟩ := Vou; exact ne_arr s14 (tw_135 hw) Ar q
 have ne_nd0_x : nd0 ≠ x := fun q => by obtain ⟨_, Ar, -⟩ := LAx; exact ne_arr s14 (tw_135 hw) Ar q
 show oG p e below P m s₁ 0 #[(vR rm), (vR vx), .unset, .unset, .unset] []
 refine aA X0 hx hby de_0 rfl rfl ?_
 refine gF X0 hx hby hZ hown (tw_15 hw) Via.refl e0 s2 de_1 ?_
 intro T2 X2 e2
 refine aA X2 hx hby de_4 rfl rfl ?_
 refine gF X2 hx hby hZ hown (tw_11 hw) Via.refl e2 s1 de_5 ?_
 intro T3 X3 e3
 have av4 := Var
 obtain ⟨cl4, Ar4, -, Sz4, Nn4, Ha4, Gf4⟩ := av4
 have hin4 : ¬ (si < 0 ∨ cl4.slots.size ≤ (si).toNatClampNeg) := inb_of Sz4 hsi
 have hat4 : cl4.slots[(si).toNatClampNeg]? = some (.ref o) := Ha4.at hin4 hvo
 refine Go.by (X3.aaload hx (j := si) (v := (.ref o)) (by rw [e3]; exact Ar4.1) (State.isArrayOf_alike hZ.alike Ar4.2.1) rfl Ar4.2.2 hin4 hat4 (g := (mkF m 8 #[(vR rm), (vR vx), .unset, .unset, .unset] [(.int si), (.ref arr)])) rfl rfl (hb hby de_8)) ?_
 show oG p e below P m T3 9 #[(vR rm), (vR vx), .unset, .unset, .unset] [(.ref o)]
 refine aS X3 hx hby de_9 rfl rfl ?_
 refine aA X3 hx hby de_10 rfl rfl ?_
 refine gR X3 hx hby hZ hown (tw_79 hw) Via.refl e3 s5 de_11 ?_
 intro T5 X5 e5
 refine w_lstoreN X5 hx hby de_14 rfl ?_
 refine aA X5 hx hby de_15 rfl rfl ?_
 refine gR X5 hx hby hZ hown (tw_81 hw) Via.refl e5 s8 de_16 ?_
 intro T6 X6 e6
 refine lA X6 hx hby de_19 rfl ?_
 refine c_stat 1 X6 hx hby hml hZ hown (tw_82 hw) (tw_83 hw) (tw_84 hw) (tw_85 hw) (rm_valueOf1 l Z a0 hw [] ca cc h0 n0 Z0 O0 Sca BX) e6 de_20 [(.long (1 : Int64))] [(.ref mp)] (lenOf pd1 rfl) rfl rfl ?_
 rintro _ T7 Lc7 ⟨rfl, N7q, q7⟩ X7
 have N7 := Fr.app N0 N7q
 refine aA X7 hx hby de_23 rfl rfl ?_
 refine c_virt 0 X7 hx hby hml hZ hown (tw_90 hw) (tw_91 hw) (tw_93 hw) (tw_92 hw) (tw_94 hw) (tw_44 hw) (rm_put2_01 l Z a0 hw [] mp nd0 (own_bx cc 128) (own_bx cc 129) vx sz mc h0 n0 Z0 O0 s9 s10 s11 s12 s13 s14 s15 s16 s17 s18 s19 g_mp g_nd0 (own_box BX (128 : Int32) ⟨by decide, by decide⟩).2 (own_box BX (129 : Int32) ⟨by decide, by decide⟩).2) q7 s9 de_24 [(.ref (own_bx cc 129)), (.ref vx)] [] (lenOf pd8 rfl) rfl rfl ?_
 rintro _ T8 Lc8 ⟨rfl, N8q, K8, en8, zn8, G8_0, G8_1, G8_2, G8_3, G8_4, G8_5, G8_6, G8_7, G8_8, G8_9, G8_10, G8_11, G8_12, G8_13, G8_14, G8_15, G8_16⟩ X8
 have N8 := Fr.app N7 N8q
 have u8_0 := ninS ne_rm_mp (ninS ne_rm_nd0 nin0)
 have u8_1 := ninS ne_o_mp (ninS ne_o_nd0 nin0)
 have f8_1 := Keep.trans (Keep.refl h0 [o, mp, nd0, x]) K8 (allS (Or.inl (List.mem_of_getElem? (i := 1) rfl)) (allS (Or.inl (List.mem_of_getElem? (i := 2) rfl)) all0))
 have f8_4 := Fld.keep s1 K8 u8_0
 have f8_6 := Fld.keep s3 K8 u8_0
 have f8_7 := Exa.keep s4 K8
 have f8_8 := Fld.keep s5 K8 u8_1
 have f8_9 := Fld.keep s6 K8 u8_1
 have f8_10 := Fld.keep s7 K8 u8_1
 have f8_11 := Fld.keep s8 K8 u8_1
 have f8_12 := Exa.keep s9 K8
 have f8_13 := Exa.keep s14 K8
 have f8_15 := Arv.keep Vou K8 (ninS (Ne.symm ne_mp_out) (ninS (Ne.symm ne_nd0_out) nin0))
 have f8_16 : own_LA Z T8.heap x z := (own_LA.keep LAx K8)
 have g_en8 : n0 ≤ en8 := Nat.le_trans Z0 zn8
 have sz_en8 : h0.size ≤ en8 := Nat.le_trans (Keep.refl h0 [o, mp, nd0, x]).1 zn8
 have ne_o_en8 : o ≠ en8 := Nat.ne_of_lt (Nat.lt_of_lt_of_le (s4.lt) zn8)
 have ne_x_en8 : x ≠ en8 := Nat.ne_of_lt (Nat.lt_of_lt_of_le ((own_LA.lt LAx)) zn8)
 refine pO X8 hx hby de_27 rfl ?_
 refine aA X8 hx hby de_28 rfl rfl ?_
 refine dU X8 hx hby de_29 rfl ?_
 refine gR X8 hx hby hZ hown (tw_79 hw) Via.refl rfl f8_8 de_30 ?_
 intro T9 X9 e9
 refine lC X9 hx hby de_33 (v := (1 : Int64)) rfl ?_
 refine lP X9 hx hby de_34 (v := (2 : Int64)) rfl ?_
 obtain ⟨T10, h10, X10, e10, W10, st10⟩ := own_putR X9 hx hZ hown (tw_79 hw) Via.refl e9 f8_8 f8_7 (tw_80 hw) (tw_33 hw) (ty := .long) (by decide) rfl rfl (g := (mkF m 35 #[(vR rm), (vR vx), (vR o), (vJ (1 : Int64)), .second] [(.long (2 : Int64)), (.ref o)])) rfl rfl (hb hby de_35)
 refine Go.by st10 ?_
 have N10 := Fr.snoc X10 N8 g_o
 have f10_1 := Keep.wr f8_1 W10 (Or.inl (List.mem_of_getElem? (i := 0) rfl))
 have f10_4 := Fld.other W10 f8_4 (Or.inl ne_rm_o)
 have f10_6 := Fld.other W10 f8_6 (Or.inl ne_rm_o)
 have f10_7 := Exa.wr W10 f8_7
 have f10_8 := Fld.same W10 f8_8
 have f10_9 := Fld.other W10 f8_9 (Or.inr (slot_ne (Or.inl (tw_174 hw)) (Or.inl (tw_80 hw)) (by decide) (t := .long) (t' := .long) (by decide) (by decide)))
 have f10_10 := Fld.other W10 f8_10 (Or.inr (slot_ne (Or.inl (tw_41 hw)) (Or.inl (tw_80 hw)) (by decide) (t := .long) (t' := .long) (by decide) (by decide)))
 have f10_11 := Fld.other W10 f8_11 (Or.inr (slot_ne (Or.inr (tw_62 hw)) (Or.inl (tw_80 hw)) (by decide) (t := (.object q_2)) (t' := .long) (by decide) (by decide)))
 have f10_12 := Exa.wr W10 f8_12
 have f10_13 := Exa.wr W10 f8_13
 have f10_15 := Arv.other f8_15 W10 (Ne.symm ne_o_out)
 have f10_16 : own_LA Z h10 x z := (own_LA.wr f8_16 W10)
 have f10_17 := Fld.other W10 G8_1 (Or.inl (Ne.symm ne_o_mp))
 have f10_18 := Fld.other W10 G8_2 (Or.inl (Ne.symm ne_o_mp))
 have f10_19 := Fld.other W10 G8_3 (Or.inl (Ne.symm ne_o_mp))
 have f10_20 := Fld.other W10 G8_4 (Or.inl (Ne.symm ne_o_mp))
 have f10_21 := Fld.other W10 G8_6 (Or.inl (Ne.symm ne_o_nd0))
 have f10_22 := Fld.other W10 G8_7 (Or.inl (Ne.symm ne_o_nd0))
 have f10_23 := Fld.other W10 G8_8 (Or.inl (Ne.symm ne_o_nd0))
 have f10_24 := Fld.other W10 G8_9 (Or.inl (Ne.symm ne_o_nd0))
 have f10_25 := Fld.other W10 G8_10 (Or.inl (Ne.symm ne_o_nd0))
 have f10_26 := Exa.wr W10 G8_11
 have f10_27 := Fld.other W10 G8_12 (Or.inl (Ne.symm ne_o_en8))
 have f10_28 := Fld.other W10 G8_13 (Or.inl (Ne.symm ne_o_en8))
 have f10_29 := Fld.other W10 G8_14 (Or.inl (Ne.symm ne_o_en8))
 have f10_30 := Fld.other W10 G8_15 (Or.inl (Ne.symm ne_o_en8))
 have f10_31 := Fld.other W10 G8_16 (Or.inl (Ne.symm ne_o_en8))
 refine aA X10 hx hby de_38 rfl rfl ?_
 refine gF X10 hx hby hZ hown (tw_72 hw) Via.refl e10 f10_6 de_39 ?_
 intro T11 X11 e11
 refine aA X11 hx hby de_42 rfl rfl ?_
 refine gF X11 hx hby hZ hown (tw_11 hw) Via.refl e11 f10_4 de_43 ?_
 intro T12 X12 e12
 have av13 := f10_15
 obtain ⟨cl13, Ar13, -, Sz13, Nn13, Ha13, Gf13⟩ := av13
 have hin13 : ¬ (si < 0 ∨ cl13.slots.size ≤ (si).toNatClampNeg) := inb_of Sz13 hsi
 have hat13 : cl13.slots[(si).toNatClampNeg]? = some (.ref x) := Ha13.at hin13 hux
 refine Go.by (X12.aaload hx (j := si) (v := (.ref x)) (by rw [e12]; exact Ar13.1) (State.isArrayOf_alike hZ.alike Ar13.2.1) rfl Ar13.2.2 hin13 hat13 (g := (mkF m 46 #[(vR rm), (vR vx), (vR o), (vJ (1 : Int64)), .second] [(.int si), (.ref out)])) rfl rfl (hb hby de_46)) ?_
 show oG p e below P m T12 47 #[(vR rm), (vR vx), (vR o), (vJ (1 : Int64)), .second] [(.ref x)]
 refine aA X12 hx hby de_47 rfl rfl ?_
 refine gF X12 hx hby hZ hown (tw_11 hw) Via.refl e12 f10_4 de_48 ?_
 intro T14 X14 e14
 refine aA X14 hx hby de_51 rfl rfl ?_
 refine gR X14 hx hby hZ hown (tw_79 hw) Via.refl e14 f10_8 de_52 ?_
 intro T15 X15 e15
 have av16 := f10_16
 obtain ⟨cl16, Ar16, Sz16, Nn16⟩ := av16
 have hin16 : ¬ (si < 0 ∨ cl16.slots.size ≤ (si).toNatClampNeg) := inb_of Sz16 hsi
 obtain ⟨T17, h17, X17, e17, W17, st17⟩ := stJ X15 hx hZ e15 Ar16 (j := si) hin16 (g := (mkF m 55 #[(vR rm), (vR vx), (vR o), (vJ (1 : Int64)), .second] [(.long (2 : Int64)), (.int si), (.ref x)])) rfl rfl (hb hby de_55)
 have N17 := Fr.snoc X17 N10 g_x
 have f17_1 := Keep.wr f10_1 W17 (Or.inl (List.mem_of_getElem? (i := 3) rfl))
 have f17_7 := Exa.wr W17 f10_7
 have f17_8 := Fld.other W17 f10_8 (Or.inl ne_o_x)
 have f17_9 := Fld.other W17 f10_9 (Or.inl ne_o_x)
 have f17_10 := Fld.other W17 f10_10 (Or.inl ne_o_x)
 have f17_11 := Fld.other W17 f10_11 (Or.inl ne_o_x)
 have f17_12 := Exa.wr W17 f10_12
 have f17_13 := Exa.wr W17 f10_13
 have f17_17 := Fld.other W17 f10_17 (Or.inl ne_mp_x)
 have f17_18 := Fld.other W17 f10_18 (Or.inl ne_mp_x)
 have f17_19 := Fld.other W17 f10_19 (Or.inl ne_mp_x)
 have f17_20 := Fld.other W17 f10_20 (Or.inl ne_mp_x)
 have f17_21 := Fld.other W17 f10_21 (Or.inl ne_nd0_x)
 have f17_22 := Fld.other W17 f10_22 (Or.inl ne_nd0_x)
 have f17_23 := Fld.other W17 f10_23 (Or.inl ne_nd0_x)
 have f17_24 := Fld.other W17 f10_24 (Or.inl ne_nd0_x)
 have f17_25 := Fld.other W17 f10_25 (Or.inl ne_nd0_x)
 have f17_26 := Exa.wr W17 f10_26
 have f17_27 := Fld.other W17 f10_27 (Or.inl (Ne.symm ne_x_en8))
 have f17_28 := Fld.other W17 f10_28 (Or.inl (Ne.symm ne_x_en8))
 have f17_29 := Fld.other W17 f10_29 (Or.inl (Ne.symm ne_x_en8))
 have f17_30 := Fld.other W17 f10_30 (Or.inl (Ne.symm ne_x_en8))
 have f17_31 := Fld.other W17 f10_31 (Or.inl (Ne.symm ne_x_en8))
 refine Go.by st17 ?_
 refine lA X17 hx hby de_56 rfl ?_
 refine r_val hP hlk hret X17 hx hby de_57 rfl (Or.inr (Or.inl ⟨rfl, rfl, _, rfl⟩)) (by decide) ?_
 rw [e17]
 exact ⟨rfl, N17, f17_1, en8, sz_en8, f17_7, f17_8, f17_9, f17_10, f17_11, f17_12, f17_17, f17_18, f17_19, f17_20, f17_13, f17_21, f17_22, f17_23, f17_24, f17_25, f17_26, f17_27, f17_28, f17_29, f17_30, f17_31⟩
def Q_send2 (Z : State) (rm arr out o mp x : Addr) (ka ko : ClassId) (z si : Int32) (vs us : List Value) (nd0 nd1 vx : Addr) (sz mc : Int32) (ca : Addr) (cc : Cell) (h0 : Heap) (n0 : Nat) (v : Option Value) (h : Heap) (L : List Loc) : Prop := v = some (.long (2 : Int64)) ∧ Fr n0 L ∧ Keep h0 h [o, mp, nd0, nd1, x] ∧ ∃ en, h0.size ≤ en ∧ Exa Z h o q_3 ∧ Fld Z h o q_3 "held" "J" (.long (3 : Int64)) ∧ Fld Z h o q_3 "known" "J" (.long (0 : Int64)) ∧ Fld Z h o q_3 "limit" "J" (.long (9223372036854775807 : Int64)) ∧ Fld Z h o q_3 q_18 q_19 (.ref mp) ∧ Exa Z h mp q_2 ∧ Fld Z h mp q_2 q_12 q_1 (.ref nd1) ∧ Fld Z h mp q_2 q_13 "I" (.int (sz + (1 : Int32))) ∧ Fld Z h mp q_2 q_14 "I" (.int (mc + (1 : Int32))) ∧ Fld Z h mp q_2 q_10 q_11 .null ∧ Exa Z h nd0 q_0 ∧ Fld Z h nd0 q_0 q_8 q_4 (.ref (own_bx cc 128)) ∧ Fld Z h nd0 q_0 q_6 q_1 .null ∧ Fld Z h nd0 q_0 q_9 q_1 .null ∧ Fld Z h nd0 q_0 q_5 q_1 (.ref nd1) ∧ Fld Z h nd0 q_0 q_7 "Z" (.int 0) ∧ Exa Z h nd1 q_0 ∧ Fld Z h nd1 q_0 q_8 q_4 (.ref (own_bx cc 129)) ∧ Fld Z h nd1 q_0 q_6 q_1 (.ref nd0) ∧ Fld Z h nd1 q_0 q_9 q_1 (.ref en) ∧ Fld Z h nd1 q_0 q_5 q_1 .null ∧ Fld Z h nd1 q_0 q_7 "Z" (.int 1) ∧ Exa Z h en q_0 ∧ Fld Z h en q_0 q_8 q_4 (.ref (own_bx cc 130)) ∧ Fld Z h en q_0 q_6 q_1 .null ∧ Fld Z h en q_0 q_9 q_1 .null ∧ Fld Z h en q_0 q_5 q_1 (.ref nd1) ∧ Fld Z h en q_0 q_7 "Z" (.int 0)
theorem rm_send2 (l : Launch) (Z : State) (a0 : Array Value) (hw : oW a0 Z) (ws : List Jvm.Cond) (rm arr out o mp x : Addr) (ka ko : ClassId) (z si : Int32) (vs us : List Value) (nd0 nd1 vx : Addr) (sz mc : Int32) (ca : Addr) (cc : Cell) (h0 : Heap) (n0 : Nat) (Z0 : n0 ≤ h0.size) (O0 : Old Z n0 h0) (Sca : Sta Z Z.heap q_22 "cache" q_23 (.ref ca)) (BX : Bxs Z ca cc q_17 "J" (256 : Int32) own_val) (Var : Arv Z h0 arr ka (.object q_3) z vs .null) (Vou : Arv Z h0 out ko (.array .long) z us .null) (hsi : ¬ si < 0 ∧ si < z) (hux : us.getD si.toNatClampNeg .null = .ref x) (LAx : own_LA Z h0 x z) (nax : arr ≠ x) (nox : out ≠ x) (hvo : vs.getD si.toNatClampNeg .null = .ref o) (s0 : Exa Z h0 rm q_15) (s1 : Fld Z h0 rm q_15 "self" "I" (.int si)) (s2 : Fld Z h0 rm q_15 "origins" q_20 (.ref arr)) (s3 : Fld Z h0 rm q_15 "reported" "[[J" (.ref out)) (s4 : Exa Z h0 o q_3) (s5 : Fld Z h0 o q_3 "held" "J" (.long (2 : Int64))) (s6 : Fld Z h0 o q_3 "known" "J" (.long (0 : Int64))) (s7 : Fld Z h0 o q_3 "limit" "J" (.long (9223372036854775807 : Int64))) (s8 : Fld Z h0 o q_3 q_18 q_19 (.ref mp)) (s9 : Exa Z h0 mp q_2) (s10 : Fld Z h0 mp q_2 q_12 q_1 (.ref nd0)) (s11 : Fld Z h0 mp q_2 q_13 "I" (.int sz)) (s12 : Fld Z h0 mp q_2 q_14 "I" (.int mc)) (s13 : Fld Z h0 mp q_2 q_10 q_11 .null) (s14 : Exa Z h0 nd0 q_0) (s15 : Fld Z h0 nd0 q_0 q_8 q_4 (.ref (own_bx cc 128))) (s16 : Fld Z h0 nd0 q_0 q_6 q_1 .null) (s17 : Fld Z h0 nd0 q_0 q_9 q_1 (.ref nd1)) (s18 : Fld Z h0 nd0 q_0 q_5 q_1 .null) (s19 : Fld Z h0 nd0 q_0 q_7 "Z" (.int 1)) (s20 : Exa Z h0 nd1 q_0) (s21 : Fld Z h0 nd1 q_0 q_8 q_4 (.ref (own_bx cc 129))) (s22 : Fld Z h0 nd1 q_0 q_6 q_1 .null) (s23 : Fld Z h0 nd1 q_0 q_9 q_1 .null) (s24 : Fld Z h0 nd1 q_0 q_5 q_1 (.ref nd0)) (s25 : Fld Z h0 nd1 q_0 q_7 "Z" (.int 0)) (g_o : n0 ≤ o) (g_mp : n0 ≤ mp) (g_nd0 : n0 ≤ nd0) (g_nd1 : n0 ≤ nd1) (g_x : n0 ≤ x) (ne_nd0_nd1 : nd0 ≠ nd1) :
   oM l oY11 p68_3 5 (some .long) ws (own_R 7 1 6 170) #[(.ref rm), (.ref vx)] Z h0 (Q_send2 Z rm arr out o mp x ka ko z si vs us nd0 nd1 vx sz mc ca cc h0 n0) := by
 refine own_open (n0 := n0) (cn := q_15) rfl (plainFor_of_name pn1) (L0 := #[(vR rm), (vR vx), .unset, .unset, .unset]) ?_
 intro p e s m below meth c s₁ P hx hby hml hown hnm X0 e0 N0 hlk hret hZ hP
 have ne_rm_o : rm ≠ o := ne_exa s0 s4 (by decide)
 have ne_rm_mp : rm ≠ mp := ne_exa s0 s9 (by decide)
 have ne_rm_nd0 : rm ≠ nd0 := ne_exa s0 s14 (by decide)
 have ne_rm_nd1 : rm ≠ nd1 := ne_exa s0 s20 (by decide)
 have ne_o_mp : o ≠ mp := ne_exa s4 s9 (by decide)
 have ne_o_nd0 : o ≠ nd0 := ne_exa s4 s14 (by decide)
 have ne_o_nd1 : o ≠ nd1 := ne_exa s4 s20 (by decide)
 have ne_o_out : o ≠ out := fun q => by obtain ⟨_, Ar, -⟩ := Vou; exact ne_arr s4 (tw_33 hw) Ar q
 have ne_o_x : o ≠ x := fun q => by obtain ⟨_, Ar, -⟩ := LAx; exact ne_arr s4 (tw_33 hw) Ar q
 have ne_mp_out : mp ≠ out := fun q => by obtain ⟨_, Ar, -⟩ := Vou; exact ne_arr s9 (tw_43 hw) Ar q
 have ne_mp_x : mp ≠ x := fun q => by obtain ⟨_, Ar, -⟩ := LAx; exact ne_arr s9 (tw_43 hw) Ar q
 have ne_nd0_out : nd0 ≠ out := fun q => by obtain ⟨_, Ar, -⟩ := Vou; exact ne_arr s14 (tw_135 hw) Ar q
 have ne_nd0_x : nd0 ≠ x := fun q => by obtain ⟨_, Ar, -⟩ := LAx; exact ne_arr s14 (tw_135 hw) Ar q
 have ne_nd1_out : nd1 ≠ out := fun q => by obtain ⟨_, Ar, -⟩ := Vou; exact ne_arr s20 (tw_135 hw) Ar q
 have ne_nd1_x : nd1 ≠ x := fun q => by obtain ⟨_, Ar, -⟩ := LAx; exact ne_arr s20 (tw_135 hw) Ar q
 show oG p e below P m s₁ 0 #[(vR rm), (vR vx), .unset, .unset, .unset] []
 refine aA X0 hx hby de_0 rfl rfl ?_
 refine gF X0 hx hby hZ hown (tw_15 hw) Via.refl e0 s2 de_1 ?_
 intro T3 X3 e3
 refine aA X3 hx hby de_4 rfl rfl ?_
 refine gF X3 hx hby hZ hown (tw_11 hw) Via.refl e3 s1 de_5 ?_
 intro T4 X4 e4
 have av5 := Var
 obtain ⟨cl5, Ar5, -, Sz5, Nn5, Ha5, Gf5⟩ := av5
 have hin5 : ¬ (si < 0 ∨ cl5.slots.size ≤ (si).toNatClampNeg) := inb_of Sz5 hsi
 have hat5 : cl5.slots[(si).toNatClampNeg]? = some (.ref o) := Ha5.at hin5 hvo
 refine Go.by (X4.aaload hx (j := si) (v := (.ref o)) (by rw [e4]; exact Ar5.1) (State.isArrayOf_alike hZ.alike Ar5.2.1) rfl Ar5.2.2 hin5 hat5 (g := (mkF m 8 #[(vR rm), (vR vx), .unset, .unset, .unset] [(.int si), (.ref arr)])) rfl rfl (hb hby de_8)) ?_
 show oG p e below P m T4 9 #[(vR rm), (vR vx), .unset, .unset, .unset] [(.ref o)]
 refine aS X4 hx hby de_9 rfl rfl ?_
 refine aA X4 hx hby de_10 rfl rfl ?_
 refine gR X4 hx hby hZ hown (tw_79 hw) Via.refl e4 s5 de_11 ?_
 intro T6 X6 e6
 refine w_lstoreN X6 hx hby de_14 rfl ?_
 refine aA X6 hx hby de_15 rfl rfl ?_
 refine gR X6 hx hby hZ hown (tw_81 hw) Via.refl e6 s8 de_16 ?_
 intro T7 X7 e7
 refine lA X7 hx hby de_19 rfl ?_
 refine c_stat 1 X7 hx hby hml hZ hown (tw_82 hw) (tw_83 hw) (tw_84 hw) (tw_85 hw) (rm_valueOf2 l Z a0 hw [] ca cc h0 n0 Z0 O0 Sca BX) e7 de_20 [(.long (2 : Int64))] [(.ref mp)] (lenOf pd1 rfl) rfl rfl ?_
 rintro _ T8 Lc8 ⟨rfl, N8q, q8⟩ X8
 have N8 := Fr.app N0 N8q
 refine aA X8 hx hby de_23 rfl rfl ?_
 refine c_virt 0 X8 hx hby hml hZ hown (tw_90 hw) (tw_91 hw) (tw_93 hw) (tw_92 hw) (tw_94 hw) (tw_44 hw) (rm_put2_012 l Z a0 hw [] mp nd0 nd1 (own_bx cc 128) (own_bx cc 129) (own_bx cc 130) vx sz mc h0 n0 Z0 O0 s9 s10 s11 s12 s13 s14 s15 s16 s17 s18 s19 s20 s21 s22 s23 s24 s25 g_mp g_nd0 g_nd1 ne_nd0_nd1 (own_box BX (128 : Int32) ⟨by decide, by decide⟩).2 (own_box BX (129 : Int32) ⟨by decide, by decide⟩).2 (own_box BX (130 : Int32) ⟨by decide, by decide⟩).2) q8 s9 de_24 [(.ref (own_bx cc 130)), (.ref vx)] [] (lenOf pd8 rfl) rfl rfl ?_
 rintro _ T9 Lc9 ⟨rfl, N9q, K9, en9, zn9, G9_0, G9_1, G9_2, G9_3, G9_4, G9_5, G9_6, G9_7, G9_8, G9_9, G9_10, G9_11, G9_12, G9_13, G9_14, G9_15, G9_16, G9_17, G9_18, G9_19, G9_20, G9_21, G9_22⟩ X9
 have N9 := Fr.app N8 N9q
 have u9_0 := ninS ne_rm_mp (ninS ne_rm_nd0 (ninS ne_rm_nd1 nin0))
 have u9_1 := ninS ne_o_mp (ninS ne_o_nd0 (ninS ne_o_nd1 nin0))
 have f9_1 := Keep.trans (Keep.refl h0 [o, mp, nd0, nd1, x]) K9 (allS (Or.inl (List.mem_of_getElem? (i := 1) rfl)) (allS (Or.inl (List.mem_of_getElem? (i := 2) rfl)) (allS (Or.inl (List.mem_of_getElem? (i := 3) rfl)) all0)))
 have f9_4 := Fld.keep s1 K9 u9_0
 have f9_6 := Fld.keep s3 K9 u9_0
 have f9_7 := Exa.keep s4 K9
 have f9_8 := Fld.keep s5 K9 u9_1
 have f9_9 := Fld.keep s6 K9 u9_1
 have f9_10 := Fld.keep s7 K9 u9_1
 have f9_11 := Fld.keep s8 K9 u9_1
 have f9_12 := Exa.keep s9 K9
 have f9_13 := Exa.keep s14 K9
 have f9_14 := Exa.keep s20 K9
 have f9_16 := Arv.keep Vou K9 (ninS (Ne.symm ne_mp_out) (ninS (Ne.symm ne_nd0_out) (ninS (Ne.symm ne_nd1_out) nin0)))
 have f9_17 : own_LA Z T9.heap x z := (own_LA.keep LAx K9)
 have g_en9 : n0 ≤ en9 := Nat.le_trans Z0 zn9
 have sz_en9 : h0.size ≤ en9 := Nat.le_trans (Keep.refl h0 [o, mp, nd0, nd1, x]).1 zn9
 have ne_o_en9 : o ≠ en9 := Nat.ne_of_lt (Nat.lt_of_lt_of_le (s4.lt) zn9)
 have ne_x_en9 : x ≠ en9 := Nat.ne_of_lt (Nat.lt_of_lt_of_le ((own_LA.lt LAx)) zn9)
 refine pO X9 hx hby de_27 rfl ?_
 refine aA X9 hx hby de_28 rfl rfl ?_
 refine dU X9 hx hby de_29 rfl ?_
 refine gR X9 hx hby hZ hown (tw_79 hw) Via.refl rfl f9_8 de_30 ?_
 intro T10 X10 e10
 refine lC X10 hx hby de_33 (v := (1 : Int64)) rfl ?_
 refine lP X10 hx hby de_34 (v := (3 : Int64)) rfl ?_
 obtain ⟨T11, h11, X11, e11, W11, st11⟩ := own_putR X10 hx hZ hown (tw_79 hw) Via.refl e10 f9_8 f9_7 (tw_80 hw) (tw_33 hw) (ty := .long) (by decide) rfl rfl (g := (mkF m 35 #[(vR rm), (vR vx), (vR o), (vJ (2 : Int64)), .second] [(.long (3 : Int64)), (.ref o)])) rfl rfl (hb hby de_35)
 refine Go.by st11 ?_
 have N11 := Fr.snoc X11 N9 g_o
 have f11_1 := Keep.wr f9_1 W11 (Or.inl (List.mem_of_getElem? (i := 0) rfl))
 have f11_4 := Fld.other W11 f9_4 (Or.inl ne_rm_o)
 have f11_6 := Fld.other W11 f9_6 (Or.inl ne_rm_o)
 have f11_7 := Exa.wr W11 f9_7
 have f11_8 := Fld.same W11 f9_8
 have f11_9 := Fld.other W11 f9_9 (Or.inr (slot_ne (Or.inl (tw_174 hw)) (Or.inl (tw_80 hw)) (by decide) (t := .long) (t' := .long) (by decide) (by decide)))
 have f11_10 := Fld.other W11 f9_10 (Or.inr (slot_ne (Or.inl (tw_41 hw)) (Or.inl (tw_80 hw)) (by decide) (t := .long) (t' := .long) (by decide) (by decide)))
 have f11_11 := Fld.other W11 f9_11 (Or.inr (slot_ne (Or.inr (tw_62 hw)) (Or.inl (tw_80 hw)) (by decide) (t := (.object q_2)) (t' := .long) (by decide) (by decide)))
 have f11_12 := Exa.wr W11 f9_12
 have f11_13 := Exa.wr W11 f9_13
 have f11_14 := Exa.wr W11 f9_14
 have f11_16 := Arv.other f9_16 W11 (Ne.symm ne_o_out)
 have f11_17 : own_LA Z h11 x z := (own_LA.wr f9_17 W11)
 have f11_18 := Fld.other W11 G9_1 (Or.inl (Ne.symm ne_o_mp))
 have f11_19 := Fld.other W11 G9_2 (Or.inl (Ne.symm ne_o_mp))
 have f11_20 := Fld.other W11 G9_3 (Or.inl (Ne.symm ne_o_mp))
 have f11_21 := Fld.other W11 G9_4 (Or.inl (Ne.symm ne_o_mp))
 have f11_22 := Fld.other W11 G9_6 (Or.inl (Ne.symm ne_o_nd0))
 have f11_23 := Fld.other W11 G9_7 (Or.inl (Ne.symm ne_o_nd0))
 have f11_24 := Fld.other W11 G9_8 (Or.inl (Ne.symm ne_o_nd0))
 have f11_25 := Fld.other W11 G9_9 (Or.inl (Ne.symm ne_o_nd0))
 have f11_26 := Fld.other W11 G9_10 (Or.inl (Ne.symm ne_o_nd0))
 have f11_27 := Fld.other W11 G9_12 (Or.inl (Ne.symm ne_o_nd1))
 have f11_28 := Fld.other W11 G9_13 (Or.inl (Ne.symm ne_o_nd1))
 have f11_29 := Fld.other W11 G9_14 (Or.inl (Ne.symm ne_o_nd1))
 have f11_30 := Fld.other W11 G9_15 (Or.inl (Ne.symm ne_o_nd1))
 have f11_31 := Fld.other W11 G9_16 (Or.inl (Ne.symm ne_o_nd1))
 have f11_32 := Exa.wr W11 G9_17
 have f11_33 := Fld.other W11 G9_18 (Or.inl (Ne.symm ne_o_en9))
 have f11_34 := Fld.other W11 G9_19 (Or.inl (Ne.symm ne_o_en9))
 have f11_35 := Fld.other W11 G9_20 (Or.inl (Ne.symm ne_o_en9))
 have f11_36 := Fld.other W11 G9_21 (Or.inl (Ne.symm ne_o_en9))
 have f11_37 := Fld.other W11 G9_22 (Or.inl (Ne.symm ne_o_en9))
 refine aA X11 hx hby de_38 rfl rfl ?_
 refine gF X11 hx hby hZ hown (tw_72 hw) Via.refl e11 f11_6 de_39 ?_
 intro T12 X12 e12
 refine aA X12 hx hby de_42 rfl rfl ?_
 refine gF X12 hx hby hZ hown (tw_11 hw) Via.refl e12 f11_4 de_43 ?_
 intro T13 X13 e13
 have av14 := f11_16
 obtain ⟨cl14, Ar14, -, Sz14, Nn14, Ha14, Gf14⟩ := av14
 have hin14 : ¬ (si < 0 ∨ cl14.slots.size ≤ (si).toNatClampNeg) := inb_of Sz14 hsi
 have hat14 : cl14.slots[(si).toNatClampNeg]? = some (.ref x) := Ha14.at hin14 hux
 refine Go.by (X13.aaload hx (j := si) (v := (.ref x)) (by rw [e13]; exact Ar14.1) (State.isArrayOf_alike hZ.alike Ar14.2.1) rfl Ar14.2.2 hin14 hat14 (g := (mkF m 46 #[(vR rm), (vR vx), (vR o), (vJ (2 : Int64)), .second] [(.int si), (.ref out)])) rfl rfl (hb hby de_46)) ?_
 show oG p e below P m T13 47 #[(vR rm), (vR vx), (vR o), (vJ (2 : Int64)), .second] [(.ref x)]
 refine aA X13 hx hby de_47 rfl rfl ?_
 refine gF X13 hx hby hZ hown (tw_11 hw) Via.refl e13 f11_4 de_48 ?_
 intro T15 X15 e15
 refine aA X15 hx hby de_51 rfl rfl ?_
 refine gR X15 hx hby hZ hown (tw_79 hw) Via.refl e15 f11_8 de_52 ?_
 intro T16 X16 e16
 have av17 := f11_17
 obtain ⟨cl17, Ar17, Sz17, Nn17⟩ := av17
 have hin17 : ¬ (si < 0 ∨ cl17.slots.size ≤ (si).toNatClampNeg) := inb_of Sz17 hsi
 obtain ⟨T18, h18, X18, e18, W18, st18⟩ := stJ X16 hx hZ e16 Ar17 (j := si) hin17 (g := (mkF m 55 #[(vR rm), (vR vx), (vR o), (vJ (2 : Int64)), .second] [(.long (3 : Int64)), (.int si), (.ref x)])) rfl rfl (hb hby de_55)
 have N18 := Fr.snoc X18 N11 g_x
 have f18_1 := Keep.wr f11_1 W18 (Or.inl (List.mem_of_getElem? (i := 4) rfl))
 have f18_7 := Exa.wr W18 f11_7
 have f18_8 := Fld.other W18 f11_8 (Or.inl ne_o_x)
 have f18_9 := Fld.other W18 f11_9 (Or.inl ne_o_x)
 have f18_10 := Fld.other W18 f11_10 (Or.inl ne_o_x)
 have f18_11 := Fld.other W18 f11_11 (Or.inl ne_o_x)
 have f18_12 := Exa.wr W18 f11_12
 have f18_13 := Exa.wr W18 f11_13
 have f18_14 := Exa.wr W18 f11_14
 have f18_18 := Fld.other W18 f11_18 (Or.inl ne_mp_x)
 have f18_19 := Fld.other W18 f11_19 (Or.inl ne_mp_x)
 have f18_20 := Fld.other W18 f11_20 (Or.inl ne_mp_x)
 have f18_21 := Fld.other W18 f11_21 (Or.inl ne_mp_x)
 have f18_22 := Fld.other W18 f11_22 (Or.inl ne_nd0_x)
 have f18_23 := Fld.other W18 f11_23 (Or.inl ne_nd0_x)
 have f18_24 := Fld.other W18 f11_24 (Or.inl ne_nd0_x)
 have f18_25 := Fld.other W18 f11_25 (Or.inl ne_nd0_x)
 have f18_26 := Fld.other W18 f11_26 (Or.inl ne_nd0_x)
 have f18_27 := Fld.other W18 f11_27 (Or.inl ne_nd1_x)
 have f18_28 := Fld.other W18 f11_28 (Or.inl ne_nd1_x)
 have f18_29 := Fld.other W18 f11_29 (Or.inl ne_nd1_x)
 have f18_30 := Fld.other W18 f11_30 (Or.inl ne_nd1_x)
 have f18_31 := Fld.other W18 f11_31 (Or.inl ne_nd1_x)
 have f18_32 := Exa.wr W18 f11_32
 have f18_33 := Fld.other W18 f11_33 (Or.inl (Ne.symm ne_x_en9))
 have f18_34 := Fld.other W18 f11_34 (Or.inl (Ne.symm ne_x_en9))
 have f18_35 := Fld.other W18 f11_35 (Or.inl (Ne.symm ne_x_en9))
 have f18_36 := Fld.other W18 f11_36 (Or.inl (Ne.symm ne_x_en9))
 have f18_37 := Fld.other W18 f11_37 (Or.inl (Ne.symm ne_x_en9))
 refine Go.by st18 ?_
 refine lA X18 hx hby de_56 rfl ?_
 refine r_val hP hlk hret X18 hx hby de_57 rfl (Or.inr (Or.inl ⟨rfl, rfl, _, rfl⟩)) (by decide) ?_
 rw [e18]
 exact ⟨rfl, N18, f18_1, en9, sz_en9, f18_7, f18_8, f18_9, f18_10, f18_11, f18_12, f18_18, f18_19, f18_20, f18_21, f18_13, f18_22, f18_23, f18_24, f18_25, f18_26, f18_14, f18_27, f18_28, f18_29, f18_30, f18_31, f18_32, f18_33, f18_34, f18_35, f18_36, f18_37⟩
def Q_recv0 (Z : State) (rm arr out o mp x : Addr) (ka ko : ClassId) (z si : Int32) (vs us : List Value) (vx : Addr) (sz mc : Int32) (ca : Addr) (cc : Cell) (j : Int32) (h0 : Heap) (n0 : Nat) (v : Option Value) (h : Heap) (L : List Loc) : Prop := v = some (.int 1) ∧ Fr n0 L ∧ Keep h0 h [o, mp, x] ∧ ∃ en, h0.size ≤ en ∧ Exa Z h o q_3 ∧ Fld Z h o q_3 "held" "J" (.long (1 : Int64)) ∧ Fld Z h o q_3 "known" "J" (.long (1 : Int64)) ∧ Fld Z h o q_3 "limit" "J" (.long (9223372036854775807 : Int64)) ∧ Fld Z h o q_3 q_18 q_19 (.ref mp) ∧ Exa Z h mp q_2 ∧ Fld Z h mp q_2 q_12 q_1 (.ref en) ∧ Fld Z h mp q_2 q_13 "I" (.int 1) ∧ Fld Z h mp q_2 q_14 "I" (.int (mc + (1 : Int32))) ∧ Fld Z h mp q_2 q_10 q_11 .null ∧ Exa Z h en q_0 ∧ Fld Z h en q_0 q_8 q_4 (.ref (own_bx cc 128)) ∧ Fld Z h en q_0 q_6 q_1 .null ∧ Fld Z h en q_0 q_9 q_1 .null ∧ Fld Z h en q_0 q_5 q_1 .null ∧ Fld Z h en q_0 q_7 "Z" (.int 1)
theorem rm_recv0 (l : Launch) (Z : State) (a0 : Array Value) (hw : oW a0 Z) (ws : List Jvm.Cond) (rm arr out o mp x : Addr) (ka ko : ClassId) (z si : Int32) (vs us : List Value) (vx : Addr) (sz mc : Int32) (ca : Addr) (cc : Cell) (j : Int32) (h0 : Heap) (n0 : Nat) (Z0 : n0 ≤ h0.size) (O0 : Old Z n0 h0) (Sca : Sta Z Z.heap q_22 "cache" q_23 (.ref ca)) (BX : Bxs Z ca cc q_17 "J" (256 : Int32) own_val) (Var : Arv Z h0 arr ka (.object q_3) z vs .null) (Vou : Arv Z h0 out ko (.array .long) z us .null) (hsi : ¬ si < 0 ∧ si < z) (hux : us.getD si.toNatClampNeg .null = .ref x) (LAx : own_LA Z h0 x z) (nax : arr ≠ x) (nox : out ≠ x) (hj : ¬ j < 0 ∧ j < z) (hvo : vs.getD j.toNatClampNeg .null = .ref o) (hne : ¬ j = si) (s0 : Exa Z h0 rm q_15) (s1 : Fld Z h0 rm q_15 "self" "I" (.int si)) (s2 : Fld Z h0 rm q_15 "origins" q_20 (.ref arr)) (s3 : Fld Z h0 rm q_15 "reported" "[[J" (.ref out)) (s4 : Exa Z h0 o q_3) (s5 : Fld Z h0 o q_3 "held" "J" (.long (0 : Int64))) (s6 : Fld Z h0 o q_3 "known" "J" (.long (0 : Int64))) (s7 : Fld Z h0 o q_3 "limit" "J" (.long (9223372036854775807 : Int64))) (s8 : Fld Z h0 o q_3 q_18 q_19 (.ref mp)) (s9 : Exa Z h0 mp q_2) (s10 : Fld Z h0 mp q_2 q_12 q_1 .null) (s11 : Fld Z h0 mp q_2 q_13 "I" (.int sz)) (s12 : Fld Z h0 mp q_2 q_14 "I" (.int mc)) (s13 : Fld Z h0 mp q_2 q_10 q_11 .null) (g_o : n0 ≤ o) (g_mp : n0 ≤ mp) (g_x : n0 ≤ x) :
   oM l oY2 p68_4 6 (some .boolean) ws (own_R 7 1 6 170) #[(.ref rm), (.int j), (.long (0 : Int64)), (.ref vx)] Z h0 (Q_recv0 Z rm arr out o mp x ka ko z si vs us vx sz mc ca cc j h0 n0) := by
 refine own_open (n0 := n0) (cn := q_15) rfl (plainFor_of_name pn1) (L0 := #[(vR rm), (vI j), (vJ (0 : Int64)), .second, (vR vx), .unset]) ?_
 intro p e s m below meth c s₁ P hx hby hml hown hnm X0 e0 N0 hlk hret hZ hP
 have ne_rm_o : rm ≠ o := ne_exa s0 s4 (by decide)
 have ne_rm_mp : rm ≠ mp := ne_exa s0 s9 (by decide)
 have ne_o_mp : o ≠ mp := ne_exa s4 s9 (by decide)
 have ne_o_out : o ≠ out := fun q => by obtain ⟨_, Ar, -⟩ := Vou; exact ne_arr s4 (tw_33 hw) Ar q
 have ne_o_x : o ≠ x := fun q => by obtain ⟨_, Ar, -⟩ := LAx; exact ne_arr s4 (tw_33 hw) Ar q
 have ne_mp_out : mp ≠ out := fun q => by obtain ⟨_, Ar, -⟩ := Vou; exact ne_arr s9 (tw_43 hw) Ar q
 have ne_mp_x : mp ≠ x := fun q => by obtain ⟨_, Ar, -⟩ := LAx; exact ne_arr s9 (tw_43 hw) Ar q
 show oG p e below P m s₁ 0 #[(vR rm), (vI j), (vJ (0 : Int64)), .second, (vR vx), .unset] []
 refine aA X0 hx hby db_0 rfl rfl ?_
 refine gF X0 hx hby hZ hown (tw_15 hw) Via.refl e0 s2 db_1 ?_
 intro T1 X1 e1
 refine iA X1 hx hby db_4 rfl ?_
 have av2 := Var
 obtain ⟨cl2, Ar2, -, Sz2, Nn2, Ha2, Gf2⟩ := av2
 have hin2 : ¬ (j < 0 ∨ cl2.slots.size ≤ (j).toNatClampNeg) := inb_of Sz2 hj
 have hat2 : cl2.slots[(j).toNatClampNeg]? = some (.ref o) := Ha2.at hin2 hvo
 refine Go.by (X1.aaload hx (j := j) (v := (.ref o)) (by rw [e1]; exact Ar2.1) (State.isArrayOf_alike hZ.alike Ar2.2.1) rfl Ar2.2.2 hin2 hat2 (g := (mkF m 5 #[(vR rm), (vI j), (vJ (0 : Int64)), .second, (vR vx), .unset] [(.int j), (.ref arr)])) rfl rfl (hb hby db_5)) ?_
 show oG p e below P m T1 6 #[(vR rm), (vI j), (vJ (0 : Int64)), .second, (vR vx), .unset] [(.ref o)]
 refine aT X1 hx hby db_6 rfl rfl ?_
 refine iA X1 hx hby db_8 rfl ?_
 refine aA X1 hx hby db_9 rfl rfl ?_
 refine gF X1 hx hby hZ hown (tw_11 hw) Via.refl e1 s1 db_10 ?_
 intro T3 X3 e3
 refine cN X3 hx hby db_13 (XT.ii_eq_f hne) ?_
 refine lA X3 hx hby db_16 rfl ?_
 refine aB X3 hx hby db_17 rfl rfl ?_
 refine gR X3 hx hby hZ hown (tw_79 hw) Via.refl e3 s5 db_19 ?_
 intro T4 X4 e4
 refine lK X4 hx hby db_22 ?_
 refine fN X4 hx hby db_23 (XT.ll_lt_f (by decide : ¬ (0 : Int64) < (0 : Int64))) ?_
 refine aB X4 hx hby db_26 rfl rfl ?_
 refine gR X4 hx hby hZ hown (tw_81 hw) Via.refl e4 s8 db_28 ?_
 intro T5 X5 e5
 refine lA X5 hx hby db_31 rfl ?_
 refine c_stat 1 X5 hx hby hml hZ hown (tw_82 hw) (tw_83 hw) (tw_84 hw) (tw_85 hw) (rm_valueOf0 l Z a0 hw [] ca cc h0 n0 Z0 O0 Sca BX) e5 db_32 [(.long (0 : Int64))] [(.ref mp)] (lenOf pd1 rfl) rfl rfl ?_
 rintro _ T6 Lc6 ⟨rfl, N6q, q6⟩ X6
 have N6 := Fr.app N0 N6q
 refine c_virt 0 X6 hx hby hml hZ hown (tw_155 hw) (tw_156 hw) (tw_158 hw) (tw_157 hw) (tw_159 hw) (tw_44 hw) (rm_hasK__0 l Z a0 hw [] mp (own_bx cc 128) sz mc h0 n0 Z0 O0 s9 s10 s11 s12 s13 (own_box BX (128 : Int32) ⟨by decide, by decide⟩).2) q6 s9 db_35 [(.ref (own_bx cc 128))] [] (lenOf pd5 rfl) rfl rfl ?_
 rintro _ T7 Lc7 ⟨rfl, N7q, q7⟩ X7
 have N7 := Fr.app N6 N7q
 refine fY X7 hx hby db_38 (pc' := 43) (XT.i0_eq_t (by decide : (0 : Int32) = (0 : Int32))) ?_
 refine aB X7 hx hby db_43 rfl rfl ?_
 refine gR X7 hx hby hZ hown (tw_81 hw) Via.refl q7 s8 db_45 ?_
 intro T8 X8 e8
 refine lA X8 hx hby db_48 rfl ?_
 refine c_stat 1 X8 hx hby hml hZ hown (tw_82 hw) (tw_83 hw) (tw_84 hw) (tw_85 hw) (rm_valueOf0 l Z a0 hw [] ca cc h0 n0 Z0 O0 Sca BX) e8 db_49 [(.long (0 : Int64))] [(.ref mp)] (lenOf pd1 rfl) rfl rfl ?_
 rintro _ T9 Lc9 ⟨rfl, N9q, q9⟩ X9
 have N9 := Fr.app N7 N9q
 refine aB X9 hx hby db_52 rfl rfl ?_
 refine c_virt 0 X9 hx hby hml hZ hown (tw_90 hw) (tw_91 hw) (tw_93 hw) (tw_92 hw) (tw_94 hw) (tw_44 hw) (rm_put2_0 l Z a0 hw [] mp (own_bx cc 128) vx sz mc h0 n0 Z0 O0 s9 s10 s11 s12 s13 g_mp (own_box BX (128 : Int32) ⟨by decide, by decide⟩).2) q9 s9 db_54 [(.ref (own_bx cc 128)), (.ref vx)] [] (lenOf pd8 rfl) rfl rfl ?_
 rintro _ T10 Lc10 ⟨rfl, N10q, K10, en10, zn10, G10_0, G10_1, G10_2, G10_3, G10_4, G10_5, G10_6, G10_7, G10_8, G10_9, G10_10⟩ X10
 have N10 := Fr.app N9 N10q
 have u10_0 := ninS ne_o_mp nin0
 have f10_0 := Nat.le_trans Z0 K10.1
 have f10_1 := Keep.trans (Keep.refl h0 [o, mp, x]) K10 (allS (Or.inl (List.mem_of_getElem? (i := 1) rfl)) all0)
 have f10_2 := Old.keep O0 K10 (allS g_mp all0)
 have f10_4 := Fld.keep s1 K10 (ninS ne_rm_mp nin0)
 have f10_6 := Fld.keep s3 K10 (ninS ne_rm_mp nin0)
 have f10_7 := Exa.keep s4 K10
 have f10_8 := Fld.keep s5 K10 u10_0
 have f10_9 := Fld.keep s6 K10 u10_0
 have f10_10 := Fld.keep s7 K10 u10_0
 have f10_11 := Fld.keep s8 K10 u10_0
 have f10_12 := Exa.keep s9 K10
 have f10_14 := Arv.keep Vou K10 (ninS (Ne.symm ne_mp_out) nin0)
 have f10_15 : own_LA Z T10.heap x z := (own_LA.keep LAx K10)
 have g_en10 : n0 ≤ en10 := Nat.le_trans Z0 zn10
 have sz_en10 : h0.size ≤ en10 := Nat.le_trans (Keep.refl h0 [o, mp, x]).1 zn10
 have ne_o_en10 : o ≠ en10 := Nat.ne_of_lt (Nat.lt_of_lt_of_le (s4.lt) zn10)
 have ne_x_en10 : x ≠ en10 := Nat.ne_of_lt (Nat.lt_of_lt_of_le ((own_LA.lt LAx)) zn10)
 refine pO X10 hx hby db_57 rfl ?_
 refine aB X10 hx hby db_58 rfl rfl ?_
 refine gR X10 hx hby hZ hown (tw_81 hw) Via.refl rfl f10_11 db_60 ?_
 intro T11 X11 e11
 refine aB X11 hx hby db_63 rfl rfl ?_
 refine gR X11 hx hby hZ hown (tw_79 hw) Via.refl e11 f10_8 db_65 ?_
 intro T12 X12 e12
 refine c_stat 1 X12 hx hby hml hZ hown (tw_82 hw) (tw_83 hw) (tw_84 hw) (tw_85 hw) (rm_valueOf0 l Z a0 hw [] ca cc T10.heap n0 f10_0 f10_2 Sca BX) e12 db_68 [(.long (0 : Int64))] [(.ref mp)] (lenOf pd1 rfl) rfl rfl ?_
 rintro _ T13 Lc13 ⟨rfl, N13q, q13⟩ X13
 have N13 := Fr.app N10 N13q
 refine c_virt 0 X13 hx hby hml hZ hown (tw_155 hw) (tw_156 hw) (tw_158 hw) (tw_157 hw) (tw_159 hw) (tw_44 hw) (rm_hasK_0_0 l Z a0 hw [] mp en10 (own_bx cc 128) (own_bx cc 128) (1 : Int32) (mc + (1 : Int32)) T10.heap n0 f10_0 f10_2 f10_12 G10_1 G10_2 G10_3 G10_4 G10_5 G10_6 G10_7 G10_8 G10_9 G10_10 (own_box BX (128 : Int32) ⟨by decide, by decide⟩).2 (own_box BX (128 : Int32) ⟨by decide, by decide⟩).2) q13 f10_12 db_71 [(.ref (own_bx cc 128))] [] (lenOf pd5 rfl) rfl rfl ?_
 rintro _ T14 Lc14 ⟨rfl, N14q, q14⟩ X14
 have N14 := Fr.app N13 N14q
 refine fN X14 hx hby db_74 (XT.i0_eq_f (by decide : ¬ (1 : Int32) = (0 : Int32))) ?_
 refine aB X14 hx hby db_77 rfl rfl ?_
 refine dU X14 hx hby db_79 rfl ?_
 refine gR X14 hx hby hZ hown (tw_79 hw) Via.refl q14 f10_8 db_80 ?_
 intro T15 X15 e15
 refine lC X15 hx hby db_83 (v := (1 : Int64)) rfl ?_
 refine lP X15 hx hby db_84 (v := (1 : Int64)) rfl ?_
 obtain ⟨T16, h16, X16, e16, W16, st16⟩ := own_putR X15 hx hZ hown (tw_79 hw) Via.refl e15 f10_8 f10_7 (tw_80 hw) (tw_33 hw) (ty := .long) (by decide) rfl rfl (g := (mkF m 85 #[(vR rm), (vI j), (vJ (0 : Int64)), .second, (vR vx), (vR o)] [(.long (1 : Int64)), (.ref o)])) rfl rfl (hb hby db_85)
 refine Go.by st16 ?_
 have N16 := Fr.snoc X16 N14 g_o
 have f16_0 := Nat.le_trans f10_0 (Keep.of_wr W16).1
 have f16_1 := Keep.wr f10_1 W16 (Or.inl (List.mem_of_getElem? (i := 0) rfl))
 have f16_2 := Old.wr f10_2 W16 g_o
 have f16_4 := Fld.other W16 f10_4 (Or.inl ne_rm_o)
 have f16_6 := Fld.other W16 f10_6 (Or.inl ne_rm_o)
 have f16_7 := Exa.wr W16 f10_7
 have f16_8 := Fld.same W16 f10_8
 have f16_9 := Fld.other W16 f10_9 (Or.inr (slot_ne (Or.inl (tw_174 hw)) (Or.inl (tw_80 hw)) (by decide) (t := .long) (t' := .long) (by decide) (by decide)))
 have f16_10 := Fld.other W16 f10_10 (Or.inr (slot_ne (Or.inl (tw_41 hw)) (Or.inl (tw_80 hw)) (by decide) (t := .long) (t' := .long) (by decide) (by decide)))
 have f16_11 := Fld.other W16 f10_11 (Or.inr (slot_ne (Or.inr (tw_62 hw)) (Or.inl (tw_80 hw)) (by decide) (t := (.object q_2)) (t' := .long) (by decide) (by decide)))
 have f16_12 := Exa.wr W16 f10_12
 have f16_14 := Arv.other f10_14 W16 (Ne.symm ne_o_out)
 have f16_15 : own_LA Z h16 x z := (own_LA.wr f10_15 W16)
 have f16_16 := Fld.other W16 G10_1 (Or.inl (Ne.symm ne_o_mp))
 have f16_17 := Fld.other W16 G10_2 (Or.inl (Ne.symm ne_o_mp))
 have f16_18 := Fld.other W16 G10_3 (Or.inl (Ne.symm ne_o_mp))
 have f16_19 := Fld.other W16 G10_4 (Or.inl (Ne.symm ne_o_mp))
 have f16_20 := Exa.wr W16 G10_5
 have f16_21 := Fld.other W16 G10_6 (Or.inl (Ne.symm ne_o_en10))
 have f16_22 := Fld.other W16 G10_7 (Or.inl (Ne.symm ne_o_en10))
 have f16_23 := Fld.other W16 G10_8 (Or.inl (Ne.symm ne_o_en10))
 have f16_24 := Fld.other W16 G10_9 (Or.inl (Ne.symm ne_o_en10))
 have f16_25 := Fld.other W16 G10_10 (Or.inl (Ne.symm ne_o_en10))
 refine gO X16 hx hby db_88 (pc' := 58) ?_
 refine aB X16 hx hby db_58 rfl rfl ?_
 refine gR X16 hx hby hZ hown (tw_81 hw) Via.refl e16 f16_11 db_60 ?_
 intro T17 X17 e17
 refine aB X17 hx hby db_63 rfl rfl ?_
 refine gR X17 hx hby hZ hown (tw_79 hw) Via.refl e17 f16_8 db_65 ?_
 intro T18 X18 e18
 refine c_stat 1 X18 hx hby hml hZ hown (tw_82 hw) (tw_83 hw) (tw_84 hw) (tw_85 hw) (rm_valueOf1 l Z a0 hw [] ca cc h16 n0 f16_0 f16_2 Sca BX) e18 db_68 [(.long (1 : Int64))] [(.ref mp)] (lenOf pd1 rfl) rfl rfl ?_
 rintro _ T19 Lc19 ⟨rfl, N19q, q19⟩ X19
 have N19 := Fr.app N16 N19q
 refine c_virt 0 X19 hx hby hml hZ hown (tw_155 hw) (tw_156 hw) (tw_158 hw) (tw_157 hw) (tw_159 hw) (tw_44 hw) (rm_hasK_0_1 l Z a0 hw [] mp en10 (own_bx cc 128) (own_bx cc 129) (1 : Int32) (mc + (1 : Int32)) h16 n0 f16_0 f16_2 f16_12 f16_16 f16_17 f16_18 f16_19 f16_20 f16_21 f16_22 f16_23 f16_24 f16_25 (own_box BX (128 : Int32) ⟨by decide, by decide⟩).2 (own_box BX (129 : Int32) ⟨by decide, by decide⟩).2) q19 f16_12 db_71 [(.ref (own_bx cc 129))] [] (lenOf pd5 rfl) rfl rfl ?_
 rintro _ T20 Lc20 ⟨rfl, N20q, q20⟩ X20
 have N20 := Fr.app N19 N20q
 refine fY X20 hx hby db_74 (pc' := 91) (XT.i0_eq_t (by decide : (0 : Int32) = (0 : Int32))) ?_
 refine aA X20 hx hby db_91 rfl rfl ?_
 refine gF X20 hx hby hZ hown (tw_72 hw) Via.refl q20 f16_6 db_92 ?_
 intro T21 X21 e21
 refine aA X21 hx hby db_95 rfl rfl ?_
 refine gF X21 hx hby hZ hown (tw_11 hw) Via.refl e21 f16_4 db_96 ?_
 intro T22 X22 e22
 have av23 := f16_14
 obtain ⟨cl23, Ar23, -, Sz23, Nn23, Ha23, Gf23⟩ := av23
 have hin23 : ¬ (si < 0 ∨ cl23.slots.size ≤ (si).toNatClampNeg) := inb_of Sz23 hsi
 have hat23 : cl23.slots[(si).toNatClampNeg]? = some (.ref x) := Ha23.at hin23 hux
 refine Go.by (X22.aaload hx (j := si) (v := (.ref x)) (by rw [e22]; exact Ar23.1) (State.isArrayOf_alike hZ.alike Ar23.2.1) rfl Ar23.2.2 hin23 hat23 (g := (mkF m 99 #[(vR rm), (vI j), (vJ (0 : Int64)), .second, (vR vx), (vR o)] [(.int si), (.ref out)])) rfl rfl (hb hby db_99)) ?_
 show oG p e below P m T22 100 #[(vR rm), (vI j), (vJ (0 : Int64)), .second, (vR vx), (vR o)] [(.ref x)]
 refine iA X22 hx hby db_100 rfl ?_
 refine aB X22 hx hby db_101 rfl rfl ?_
 refine gR X22 hx hby hZ hown (tw_79 hw) Via.refl e22 f16_8 db_103 ?_
 intro T24 X24 e24
 have av25 := f16_15
 obtain ⟨cl25, Ar25, Sz25, Nn25⟩ := av25
 have hin25 : ¬ (j < 0 ∨ cl25.slots.size ≤ (j).toNatClampNeg) := inb_of Sz25 hj
 obtain ⟨T26, h26, X26, e26, W26, st26⟩ := stJ X24 hx hZ e24 Ar25 (j := j) hin25 (g := (mkF m 106 #[(vR rm), (vI j), (vJ (0 : Int64)), .second, (vR vx), (vR o)] [(.long (1 : Int64)), (.int j), (.ref x)])) rfl rfl (hb hby db_106)
 have N26 := Fr.snoc X26 N20 g_x
 have f26_0 := Nat.le_trans f16_0 (Keep.of_wr W26).1
 have f26_1 := Keep.wr f16_1 W26 (Or.inl (List.mem_of_getElem? (i := 2) rfl))
 have f26_7 := Exa.wr W26 f16_7
 have f26_8 := Fld.other W26 f16_8 (Or.inl ne_o_x)
 have f26_9 := Fld.other W26 f16_9 (Or.inl ne_o_x)
 have f26_10 := Fld.other W26 f16_10 (Or.inl ne_o_x)
 have f26_11 := Fld.other W26 f16_11 (Or.inl ne_o_x)
 have f26_12 := Exa.wr W26 f16_12
 have f26_16 := Fld.other W26 f16_16 (Or.inl ne_mp_x)
 have f26_17 := Fld.other W26 f16_17 (Or.inl ne_mp_x)
 have f26_18 := Fld.other W26 f16_18 (Or.inl ne_mp_x)
 have f26_19 := Fld.other W26 f16_19 (Or.inl ne_mp_x)
 have f26_20 := Exa.wr W26 f16_20
 have f26_21 := Fld.other W26 f16_21 (Or.inl (Ne.symm ne_x_en10))
 have f26_22 := Fld.other W26 f16_22 (Or.inl (Ne.symm ne_x_en10))
 have f26_23 := Fld.other W26 f16_23 (Or.inl (Ne.symm ne_x_en10))
 have f26_24 := Fld.other W26 f16_24 (Or.inl (Ne.symm ne_x_en10))
 have f26_25 := Fld.other W26 f16_25 (Or.inl (Ne.symm ne_x_en10))
 refine Go.by st26 ?_
 refine aB X26 hx hby db_107 rfl rfl ?_
 refine lA X26 hx hby db_109 rfl ?_
 refine lC X26 hx hby db_110 (v := (1 : Int64)) rfl ?_
 refine lP X26 hx hby db_111 (v := (1 : Int64)) rfl ?_
 obtain ⟨cq27, q27a, q27b⟩ := Exa.cell f26_7
 obtain ⟨_, _, ⟨T27, L27, k27, n27⟩, -, X27, ⟨Lc27, hQ27, l27, y27, z27⟩, st27⟩ := own_privateRef X26 hx hZ (y := oY18) hown (tw_169 hw) (tw_170 hw) (tw_171 hw) (tw_172 hw) (tw_33 hw) (by decide) (backOf (W := 0) (rm_know l Z a0 hw [] o mp (1 : Int64) (0 : Int64) (1 : Int64) h26 n0 f26_0 f26_7 f26_8 f26_9 f26_10 f26_11 g_o (by decide) (by decide)) hZ (tw_172 hw) (tw_34 hw) (by decide) (by decide)) (g := (mkF m 112 #[(vR rm), (vI j), (vJ (0 : Int64)), .second, (vR vx), (vR o)] [(.long (1 : Int64)), (.ref o)])) rfl (by rw [hml]; rfl) (a := o) (by rw [e26]; exact q27a) q27b (argsL := [(.long (1 : Int64))]) (rest := []) (lenOf pd10 rfl) rfl (by show 2 * 0 + _ ≤ _; exact Nat.le_of_eq rfl) (hb hby db_112) (fun _ _ => ⟨rfl, e26, (by decide : 1 + 0 ≤ _), (by decide : 6 + 0 ≤ _)⟩)
 dsimp only [Pt.U, Pt.locs, Pt.cells, Pt.slots] at X27 l27 y27 z27 st27 hQ27
 subst l27 y27 z27
 obtain ⟨rfl, N27q, K27, G27_0, G27_1, G27_2, G27_3, G27_4⟩ := hQ27
 have N27 := Fr.app N26 N27q
 refine Go.by (fun t k => st27.trans k) ?_
 have u27_0 := ninS (Ne.symm ne_o_en10) nin0
 have u27_1 := ninS (Ne.symm ne_o_mp) nin0
 have f27_1 := Keep.trans f26_1 K27 (allS (Or.inl (List.mem_of_getElem? (i := 0) rfl)) all0)
 have f27_7 := Exa.keep f26_7 K27
 have f27_8 := Exa.keep f26_12 K27
 have f27_12 := Fld.keep f26_16 K27 u27_1
 have f27_13 := Fld.keep f26_17 K27 u27_1
 have f27_14 := Fld.keep f26_18 K27 u27_1
 have f27_15 := Fld.keep f26_19 K27 u27_1
 have f27_16 := Exa.keep f26_20 K27
 have f27_17 := Fld.keep f26_21 K27 u27_0
 have f27_18 := Fld.keep f26_22 K27 u27_0
 have f27_19 := Fld.keep f26_23 K27 u27_0
 have f27_20 := Fld.keep f26_24 K27 u27_0
 have f27_21 := Fld.keep f26_25 K27 u27_0
 show oG p e below P m T27 115 #[(vR rm), (vI j), (vJ (0 : Int64)), .second, (vR vx), (vR o)] []
 refine iC X27 hx hby db_115 (v := 1) rfl ?_
 refine r_val hP hlk hret X27 hx hby db_116 rfl (Or.inl ⟨rfl, Or.inr (Or.inl rfl), _, rfl⟩) (by decide) ?_
 exact ⟨rfl, N27, f27_1, en10, sz_en10, f27_7, G27_1, G27_2, G27_3, G27_4, f27_8, f27_12, f27_13, f27_14, f27_15, f27_16, f27_17, f27_18, f27_19, f27_20, f27_21⟩
def Q_recv1 (Z : State) (rm arr out o mp x : Addr) (ka ko : ClassId) (z si : Int32) (vs us : List Value) (nd0 vx : Addr) (sz mc : Int32) (ca : Addr) (cc : Cell) (j : Int32) (h0 : Heap) (n0 : Nat) (v : Option Value) (h : Heap) (L : List Loc) : Prop := v = some (.int 1) ∧ Fr n0 L ∧ Keep h0 h [o, mp, nd0, x] ∧ ∃ en, h0.size ≤ en ∧ Exa Z h o q_3 ∧ Fld Z h o q_3 "held" "J" (.long (2 : Int64)) ∧ Fld Z h o q_3 "known" "J" (.long (2 : Int64)) ∧ Fld Z h o q_3 "limit" "J" (.long (9223372036854775807 : Int64)) ∧ Fld Z h o q_3 q_18 q_19 (.ref mp) ∧ Exa Z h mp q_2 ∧ Fld Z h mp q_2 q_12 q_1 (.ref nd0) ∧ Fld Z h mp q_2 q_13 "I" (.int (sz + (1 : Int32))) ∧ Fld Z h mp q_2 q_14 "I" (.int (mc + (1 : Int32))) ∧ Fld Z h mp q_2 q_10 q_11 .null ∧ Exa Z h nd0 q_0 ∧ Fld Z h nd0 q_0 q_8 q_4 (.ref (own_bx cc 128)) ∧ Fld Z h nd0 q_0 q_6 q_1 .null ∧ Fld Z h nd0 q_0 q_9 q_1 (.ref en) ∧ Fld Z h nd0 q_0 q_5 q_1 .null ∧ Fld Z h nd0 q_0 q_7 "Z" (.int 1) ∧ Exa Z h en q_0 ∧ Fld Z h en q_0 q_8 q_4 (.ref (own_bx cc 129)) ∧ Fld Z h en q_0 q_6 q_1 .null ∧ Fld Z h en q_0 q_9 q_1 .null ∧ Fld Z h en q_0 q_5 q_1 (.ref nd0) ∧ Fld Z h en q_0 q_7 "Z" (.int 0)
theorem rm_recv1 (l : Launch) (Z : State) (a0 : Array Value) (hw : oW a0 Z) (ws : List Jvm.Cond) (rm arr out o mp x : Addr) (ka ko : ClassId) (z si : Int32) (vs us : List Value) (nd0 vx : Addr) (sz mc : Int32) (ca : Addr) (cc : Cell) (j : Int32) (h0 : Heap) (n0 : Nat) (Z0 : n0 ≤ h0.size) (O0 : Old Z n0 h0) (Sca : Sta Z Z.heap q_22 "cache" q_23 (.ref ca)) (BX : Bxs Z ca cc q_17 "J" (256 : Int32) own_val) (Var : Arv Z h0 arr ka (.object q_3) z vs .null) (Vou : Arv Z h0 out ko (.array .long) z us .null) (hsi : ¬ si < 0 ∧ si < z) (hux : us.getD si.toNatClampNeg .null = .ref x) (LAx : own_LA Z h0 x z) (nax : arr ≠ x) (nox : out ≠ x) (hj : ¬ j < 0 ∧ j < z) (hvo : vs.getD j.toNatClampNeg .null = .ref o) (hne : ¬ j = si) (s0 : Exa Z h0 rm q_15) (s1 : Fld Z h0 rm q_15 "self" "I" (.int si)) (s2 : Fld Z h0 rm q_15 "origins" q_20 (.ref arr)) (s3 : Fld Z h0 rm q_15 "reported" "[[J" (.ref out)) (s4 : Exa Z h0 o q_3) (s5 : Fld Z h0 o q_3 "held" "J" (.long (1 : Int64))) (s6 : Fld Z h0 o q_3 "known" "J" (.long (1 : Int64))) (s7 : Fld Z h0 o q_3 "limit" "J" (.long (9223372036854775807 : Int64))) (s8 : Fld Z h0 o q_3 q_18 q_19 (.ref mp)) (s9 : Exa Z h0 mp q_2) (s10 : Fld Z h0 mp q_2 q_12 q_1 (.ref nd0)) (s11 : Fld Z h0 mp q_2 q_13 "I" (.int sz)) (s12 : Fld Z h0 mp q_2 q_14 "I" (.int mc)) (s13 : Fld Z h0 mp q_2 q_10 q_11 .null) (s14 : Exa Z h0 nd0 q_0) (s15 : Fld Z h0 nd0 q_0 q_8 q_4 (.ref (own_bx cc 128))) (s16 : Fld Z h0 nd0 q_0 q_6 q_1 .null) (s17 : Fld Z h0 nd0 q_0 q_9 q_1 .null) (s18 : Fld Z h0 nd0 q_0 q_5 q_1 .null) (s19 : Fld Z h0 nd0 q_0 q_7 "Z" (.int 1)) (g_o : n0 ≤ o) (g_mp : n0 ≤ mp) (g_nd0 : n0 ≤ nd0) (g_x : n0 ≤ x) :
   oM l oY2 p68_4 6 (some .boolean) ws (own_R 7 1 6 170) #[(.ref rm), (.int j), (.long (1 : Int64)), (.ref vx)] Z h0 (Q_recv1 Z rm arr out o mp x ka ko z si vs us nd0 vx sz mc ca cc j h0 n0) := by
 refine own_open (n0 := n0) (cn := q_15) rfl (plainFor_of_name pn1) (L0 := #[(vR rm), (vI j), (vJ (1 : Int64)), .second, (vR vx), .unset]) ?_
 intro p e s m below meth c s₁ P hx hby hml hown hnm X0 e0 N0 hlk hret hZ hP
 have ne_rm_o : rm ≠ o := ne_exa s0 s4 (by decide)
 have ne_rm_mp : rm ≠ mp := ne_exa s0 s9 (by decide)
 have ne_rm_nd0 : rm ≠ nd0 := ne_exa s0 s14 (by decide)
 have ne_o_mp : o ≠ mp := ne_exa s4 s9 (by decide)
 have ne_o_nd0 : o ≠ nd0 := ne_exa s4 s14 (by decide)
 have ne_o_out : o ≠ out := fun q => by obtain ⟨_, Ar, -⟩ := Vou; exact ne_arr s4 (tw_33 hw) Ar q
 have ne_o_x : o ≠ x := fun q => by obtain ⟨_, Ar, -⟩ := LAx; exact ne_arr s4 (tw_33 hw) Ar q
 have ne_mp_out : mp ≠ out := fun q => by obtain ⟨_, Ar, -⟩ := Vou; exact ne_arr s9 (tw_43 hw) Ar q
 have ne_mp_x : mp ≠ x := fun q => by obtain ⟨_, Ar, -⟩ := LAx; exact ne_arr s9 (tw_43 hw) Ar q
 have ne_nd0_out : nd0 ≠ out := fun q => by obtain ⟨_, Ar, -⟩ := Vou; exact ne_arr s14 (tw_135 hw) Ar q
 have ne_nd0_x : nd0 ≠ x := fun q => by obtain ⟨_, Ar, -⟩ := LAx; exact ne_arr s14 (tw_135 hw) Ar q
 show oG p e below P m s₁ 0 #[(vR rm), (vI j), (vJ (1 : Int64)), .second, (vR vx), .unset] []
 refine aA X0 hx hby db_0 rfl rfl ?_
 refine gF X0 hx hby hZ hown (tw_15 hw) Via.refl e0 s2 db_1 ?_
 intro T2 X2 e2
 refine iA X2 hx hby db_4 rfl ?_
 have av3 := Var
 obtain ⟨cl3, Ar3, -, Sz3, Nn3, Ha3, Gf3⟩ := av3
 have hin3 : ¬ (j < 0 ∨ cl3.slots.size ≤ (j).toNatClampNeg) := inb_of Sz3 hj
 have hat3 : cl3.slots[(j).toNatClampNeg]? = some (.ref o) := Ha3.at hin3 hvo
 refine Go.by (X2.aaload hx (j := j) (v := (.ref o)) (by rw [e2]; exact Ar3.1) (State.isArrayOf_alike hZ.alike Ar3.2.1) rfl Ar3.2.2 hin3 hat3 (g := (mkF m 5 #[(vR rm), (vI j), (vJ (1 : Int64)), .second, (vR vx), .unset] [(.int j), (.ref arr)])) rfl rfl (hb hby db_5)) ?_
 show oG p e below P m T2 6 #[(vR rm), (vI j), (vJ (1 : Int64)), .second, (vR vx), .unset] [(.ref o)]
 refine aT X2 hx hby db_6 rfl rfl ?_
 refine iA X2 hx hby db_8 rfl ?_
 refine aA X2 hx hby db_9 rfl rfl ?_
 refine gF X2 hx hby hZ hown (tw_11 hw) Via.refl e2 s1 db_10 ?_
 intro T4 X4 e4
 refine cN X4 hx hby db_13 (XT.ii_eq_f hne) ?_
 refine lA X4 hx hby db_16 rfl ?_
 refine aB X4 hx hby db_17 rfl rfl ?_
 refine gR X4 hx hby hZ hown (tw_79 hw) Via.refl e4 s5 db_19 ?_
 intro T5 X5 e5
 refine lK X5 hx hby db_22 ?_
 refine fN X5 hx hby db_23 (XT.ll_lt_f (by decide : ¬ (1 : Int64) < (1 : Int64))) ?_
 refine aB X5 hx hby db_26 rfl rfl ?_
 refine gR X5 hx hby hZ hown (tw_81 hw) Via.refl e5 s8 db_28 ?_
 intro T6 X6 e6
 refine lA X6 hx hby db_31 rfl ?_
 refine c_stat 1 X6 hx hby hml hZ hown (tw_82 hw) (tw_83 hw) (tw_84 hw) (tw_85 hw) (rm_valueOf1 l Z a0 hw [] ca cc h0 n0 Z0 O0 Sca BX) e6 db_32 [(.long (1 : Int64))] [(.ref mp)] (lenOf pd1 rfl) rfl rfl ?_
 rintro _ T7 Lc7 ⟨rfl, N7q, q7⟩ X7
 have N7 := Fr.app N0 N7q
 refine c_virt 0 X7 hx hby hml hZ hown (tw_155 hw) (tw_156 hw) (tw_158 hw) (tw_157 hw) (tw_159 hw) (tw_44 hw) (rm_hasK_0_1 l Z a0 hw [] mp nd0 (own_bx cc 128) (own_bx cc 129) sz mc h0 n0 Z0 O0 s9 s10 s11 s12 s13 s14 s15 s16 s17 s18 s19 (own_box BX (128 : Int32) ⟨by decide, by decide⟩).2 (own_box BX (129 : Int32) ⟨by decide, by decide⟩).2) q7 s9 db_35 [(.ref (own_bx cc 129))] [] (lenOf pd5 rfl) rfl rfl ?_
 rintro _ T8 Lc8 ⟨rfl, N8q, q8⟩ X8
 have N8 := Fr.app N7 N8q
 refine fY X8 hx hby db_38 (pc' := 43) (XT.i0_eq_t (by decide : (0 : Int32) = (0 : Int32))) ?_
 refine aB X8 hx hby db_43 rfl rfl ?_
 refine gR X8 hx hby hZ hown (tw_81 hw) Via.refl q8 s8 db_45 ?_
 intro T9 X9 e9
 refine lA X9 hx hby db_48 rfl ?_
 refine c_stat 1 X9 hx hby hml hZ hown (tw_82 hw) (tw_83 hw) (tw_84 hw) (tw_85 hw) (rm_valueOf1 l Z a0 hw [] ca cc h0 n0 Z0 O0 Sca BX) e9 db_49 [(.long (1 : Int64))] [(.ref mp)] (lenOf pd1 rfl) rfl rfl ?_
 rintro _ T10 Lc10 ⟨rfl, N10q, q10⟩ X10
 have N10 := Fr.app N8 N10q
 refine aB X10 hx hby db_52 rfl rfl ?_
 refine c_virt 0 X10 hx hby hml hZ hown (tw_90 hw) (tw_91 hw) (tw_93 hw) (tw_92 hw) (tw_94 hw) (tw_44 hw) (rm_put2_01 l Z a0 hw [] mp nd0 (own_bx cc 128) (own_bx cc 129) vx sz mc h0 n0 Z0 O0 s9 s10 s11 s12 s13 s14 s15 s16 s17 s18 s19 g_mp g_nd0 (own_box BX (128 : Int32) ⟨by decide, by decide⟩).2 (own_box BX (129 : Int32) ⟨by decide, by decide⟩).2) q10 s9 db_54 [(.ref (own_bx cc 129)), (.ref vx)] [] (lenOf pd8 rfl) rfl rfl ?_
 rintro _ T11 Lc11 ⟨rfl, N11q, K11, en11, zn11, G11_0, G11_1, G11_2, G11_3, G11_4, G11_5, G11_6, G11_7, G11_8, G11_9, G11_10, G11_11, G11_12, G11_13, G11_14, G11_15, G11_16⟩ X11
 have N11 := Fr.app N10 N11q
 have u11_0 := ninS ne_rm_mp (ninS ne_rm_nd0 nin0)
 have u11_1 := ninS ne_o_mp (ninS ne_o_nd0 nin0)
 have f11_0 := Nat.le_trans Z0 K11.1
 have f11_1 := Keep.trans (Keep.refl h0 [o, mp, nd0, x]) K11 (allS (Or.inl (List.mem_of_getElem? (i := 1) rfl)) (allS (Or.inl (List.mem_of_getElem? (i := 2) rfl)) all0))
 have f11_2 := Old.keep O0 K11 (allS g_mp (allS g_nd0 all0))
 have f11_4 := Fld.keep s1 K11 u11_0
 have f11_6 := Fld.keep s3 K11 u11_0
 have f11_7 := Exa.keep s4 K11
 have f11_8 := Fld.keep s5 K11 u11_1
 have f11_9 := Fld.keep s6 K11 u11_1
 have f11_10 := Fld.keep s7 K11 u11_1
 have f11_11 := Fld.keep s8 K11 u11_1
 have f11_12 := Exa.keep s9 K11
 have f11_13 := Exa.keep s14 K11
 have f11_15 := Arv.keep Vou K11 (ninS (Ne.symm ne_mp_out) (ninS (Ne.symm ne_nd0_out) nin0))
 have f11_16 : own_LA Z T11.heap x z := (own_LA.keep LAx K11)
 have g_en11 : n0 ≤ en11 := Nat.le_trans Z0 zn11
 have sz_en11 : h0.size ≤ en11 := Nat.le_trans (Keep.refl h0 [o, mp, nd0, x]).1 zn11
 have ne_o_en11 : o ≠ en11 := Nat.ne_of_lt (Nat.lt_of_lt_of_le (s4.lt) zn11)
 have ne_x_en11 : x ≠ en11 := Nat.ne_of_lt (Nat.lt_of_lt_of_le ((own_LA.lt LAx)) zn11)
 refine pO X11 hx hby db_57 rfl ?_
 refine aB X11 hx hby db_58 rfl rfl ?_
 refine gR X11 hx hby hZ hown (tw_81 hw) Via.refl rfl f11_11 db_60 ?_
 intro T12 X12 e12
 refine aB X12 hx hby db_63 rfl rfl ?_
 refine gR X12 hx hby hZ hown (tw_79 hw) Via.refl e12 f11_8 db_65 ?_
 intro T13 X13 e13
 refine c_stat 1 X13 hx hby hml hZ hown (tw_82 hw) (tw_83 hw) (tw_84 hw) (tw_85 hw) (rm_valueOf1 l Z a0 hw [] ca cc T11.heap n0 f11_0 f11_2 Sca BX) e13 db_68 [(.long (1 : Int64))] [(.ref mp)] (lenOf pd1 rfl) rfl rfl ?_
 rintro _ T14 Lc14 ⟨rfl, N14q, q14⟩ X14
 have N14 := Fr.app N11 N14q
 refine c_virt 0 X14 hx hby hml hZ hown (tw_155 hw) (tw_156 hw) (tw_158 hw) (tw_157 hw) (tw_159 hw) (tw_44 hw) (rm_hasK_01_1 l Z a0 hw [] mp nd0 en11 (own_bx cc 128) (own_bx cc 129) (own_bx cc 129) (sz + (1 : Int32)) (mc + (1 : Int32)) T11.heap n0 f11_0 f11_2 f11_12 G11_1 G11_2 G11_3 G11_4 f11_13 G11_6 G11_7 G11_8 G11_9 G11_10 G11_11 G11_12 G11_13 G11_14 G11_15 G11_16 (own_box BX (128 : Int32) ⟨by decide, by decide⟩).2 (own_box BX (129 : Int32) ⟨by decide, by decide⟩).2 (own_box BX (129 : Int32) ⟨by decide, by decide⟩).2) q14 f11_12 db_71 [(.ref (own_bx cc 129))] [] (lenOf pd5 rfl) rfl rfl ?_
 rintro _ T15 Lc15 ⟨rfl, N15q, q15⟩ X15
 have N15 := Fr.app N14 N15q
 refine fN X15 hx hby db_74 (XT.i0_eq_f (by decide : ¬ (1 : Int32) = (0 : Int32))) ?_
 refine aB X15 hx hby db_77 rfl rfl ?_
 refine dU X15 hx hby db_79 rfl ?_
 refine gR X15 hx hby hZ hown (tw_79 hw) Via.refl q15 f11_8 db_80 ?_
 intro T16 X16 e16
 refine lC X16 hx hby db_83 (v := (1 : Int64)) rfl ?_
 refine lP X16 hx hby db_84 (v := (2 : Int64)) rfl ?_
 obtain ⟨T17, h17, X17, e17, W17, st17⟩ := own_putR X16 hx hZ hown (tw_79 hw) Via.refl e16 f11_8 f11_7 (tw_80 hw) (tw_33 hw) (ty := .long) (by decide) rfl rfl (g := (mkF m 85 #[(vR rm), (vI j), (vJ (1 : Int64)), .second, (vR vx), (vR o)] [(.long (2 : Int64)), (.ref o)])) rfl rfl (hb hby db_85)
 refine Go.by st17 ?_
 have N17 := Fr.snoc X17 N15 g_o
 have f17_0 := Nat.le_trans f11_0 (Keep.of_wr W17).1
 have f17_1 := Keep.wr f11_1 W17 (Or.inl (List.mem_of_getElem? (i := 0) rfl))
 have f17_2 := Old.wr f11_2 W17 g_o
 have f17_4 := Fld.other W17 f11_4 (Or.inl ne_rm_o)
 have f17_6 := Fld.other W17 f11_6 (Or.inl ne_rm_o)
 have f17_7 := Exa.wr W17 f11_7
 have f17_8 := Fld.same W17 f11_8
 have f17_9 := Fld.other W17 f11_9 (Or.inr (slot_ne (Or.inl (tw_174 hw)) (Or.inl (tw_80 hw)) (by decide) (t := .long) (t' := .long) (by decide) (by decide)))
 have f17_10 := Fld.other W17 f11_10 (Or.inr (slot_ne (Or.inl (tw_41 hw)) (Or.inl (tw_80 hw)) (by decide) (t := .long) (t' := .long) (by decide) (by decide)))
 have f17_11 := Fld.other W17 f11_11 (Or.inr (slot_ne (Or.inr (tw_62 hw)) (Or.inl (tw_80 hw)) (by decide) (t := (.object q_2)) (t' := .long) (by decide) (by decide)))
 have f17_12 := Exa.wr W17 f11_12
 have f17_13 := Exa.wr W17 f11_13
 have f17_15 := Arv.other f11_15 W17 (Ne.symm ne_o_out)
 have f17_16 : own_LA Z h17 x z := (own_LA.wr f11_16 W17)
 have f17_17 := Fld.other W17 G11_1 (Or.inl (Ne.symm ne_o_mp))
 have f17_18 := Fld.other W17 G11_2 (Or.inl (Ne.symm ne_o_mp))
 have f17_19 := Fld.other W17 G11_3 (Or.inl (Ne.symm ne_o_mp))
 have f17_20 := Fld.other W17 G11_4 (Or.inl (Ne.symm ne_o_mp))
 have f17_21 := Fld.other W17 G11_6 (Or.inl (Ne.symm ne_o_nd0))
 have f17_22 := Fld.other W17 G11_7 (Or.inl (Ne.symm ne_o_nd0))
 have f17_23 := Fld.other W17 G11_8 (Or.inl (Ne.symm ne_o_nd0))
 have f17_24 := Fld.other W17 G11_9 (Or.inl (Ne.symm ne_o_nd0))
 have f17_25 := Fld.other W17 G11_10 (Or.inl (Ne.symm ne_o_nd0))
 have f17_26 := Exa.wr W17 G11_11
 have f17_27 := Fld.other W17 G11_12 (Or.inl (Ne.symm ne_o_en11))
 have f17_28 := Fld.other W17 G11_13 (Or.inl (Ne.symm ne_o_en11))
 have f17_29 := Fld.other W17 G11_14 (Or.inl (Ne.symm ne_o_en11))
 have f17_30 := Fld.other W17 G11_15 (Or.inl (Ne.symm ne_o_en11))
 have f17_31 := Fld.other W17 G11_16 (Or.inl (Ne.symm ne_o_en11))
 refine gO X17 hx hby db_88 (pc' := 58) ?_
 refine aB X17 hx hby db_58 rfl rfl ?_
 refine gR X17 hx hby hZ hown (tw_81 hw) Via.refl e17 f17_11 db_60 ?_
 intro T18 X18 e18
 refine aB X18 hx hby db_63 rfl rfl ?_
 refine gR X18 hx hby hZ hown (tw_79 hw) Via.refl e18 f17_8 db_65 ?_
 intro T19 X19 e19
 refine c_stat 1 X19 hx hby hml hZ hown (tw_82 hw) (tw_83 hw) (tw_84 hw) (tw_85 hw) (rm_valueOf2 l Z a0 hw [] ca cc h17 n0 f17_0 f17_2 Sca BX) e19 db_68 [(.long (2 : Int64))] [(.ref mp)] (lenOf pd1 rfl) rfl rfl ?_
 rintro _ T20 Lc20 ⟨rfl, N20q, q20⟩ X20
 have N20 := Fr.app N17 N20q
 refine c_virt 0 X20 hx hby hml hZ hown (tw_155 hw) (tw_156 hw) (tw_158 hw) (tw_157 hw) (tw_159 hw) (tw_44 hw) (rm_hasK_01_2 l Z a0 hw [] mp nd0 en11 (own_bx cc 128) (own_bx cc 129) (own_bx cc 130) (sz + (1 : Int32)) (mc + (1 : Int32)) h17 n0 f17_0 f17_2 f17_12 f17_17 f17_18 f17_19 f17_20 f17_13 f17_21 f17_22 f17_23 f17_24 f17_25 f17_26 f17_27 f17_28 f17_29 f17_30 f17_31 (own_box BX (128 : Int32) ⟨by decide, by decide⟩).2 (own_box BX (129 : Int32) ⟨by decide, by decide⟩).2 (own_box BX (130 : Int32) ⟨by decide, by decide⟩).2) q20 f17_12 db_71 [(.ref (own_bx cc 130))] [] (lenOf pd5 rfl) rfl rfl ?_
 rintro _ T21 Lc21 ⟨rfl, N21q, q21⟩ X21
 have N21 := Fr.app N20 N21q
 refine fY X21 hx hby db_74 (pc' := 91) (XT.i0_eq_t (by decide : (0 : Int32) = (0 : Int32))) ?_
 refine aA X21 hx hby db_91 rfl rfl ?_
 refine gF X21 hx hby hZ hown (tw_72 hw) Via.refl q21 f17_6 db_92 ?_
 intro T22 X22 e22
 refine aA X22 hx hby db_95 rfl rfl ?_
 refine gF X22 hx hby hZ hown (tw_11 hw) Via.refl e22 f17_4 db_96 ?_
 intro T23 X23 e23
 have av24 := f17_15
 obtain ⟨cl24, Ar24, -, Sz24, Nn24, Ha24, Gf24⟩ := av24
 have hin24 : ¬ (si < 0 ∨ cl24.slots.size ≤ (si).toNatClampNeg) := inb_of Sz24 hsi
 have hat24 : cl24.slots[(si).toNatClampNeg]? = some (.ref x) := Ha24.at hin24 hux
 refine Go.by (X23.aaload hx (j := si) (v := (.ref x)) (by rw [e23]; exact Ar24.1) (State.isArrayOf_alike hZ.alike Ar24.2.1) rfl Ar24.2.2 hin24 hat24 (g := (mkF m 99 #[(vR rm), (vI j), (vJ (1 : Int64)), .second, (vR vx), (vR o)] [(.int si), (.ref out)])) rfl rfl (hb hby db_99)) ?_
 show oG p e below P m T23 100 #[(vR rm), (vI j), (vJ (1 : Int64)), .second, (vR vx), (vR o)] [(.ref x)]
 refine iA X23 hx hby db_100 rfl ?_
 refine aB X23 hx hby db_101 rfl rfl ?_
 refine gR X23 hx hby hZ hown (tw_79 hw) Via.refl e23 f17_8 db_103 ?_
 intro T25 X25 e25
 have av26 := f17_16
 obtain ⟨cl26, Ar26, Sz26, Nn26⟩ := av26
 have hin26 : ¬ (j < 0 ∨ cl26.slots.size ≤ (j).toNatClampNeg) := inb_of Sz26 hj
 obtain ⟨T27, h27, X27, e27, W27, st27⟩ := stJ X25 hx hZ e25 Ar26 (j := j) hin26 (g := (mkF m 106 #[(vR rm), (vI j), (vJ (1 : Int64)), .second, (vR vx), (vR o)] [(.long (2 : Int64)), (.int j), (.ref x)])) rfl rfl (hb hby db_106)
 have N27 := Fr.snoc X27 N21 g_x
 have f27_0 := Nat.le_trans f17_0 (Keep.of_wr W27).1
 have f27_1 := Keep.wr f17_1 W27 (Or.inl (List.mem_of_getElem? (i := 3) rfl))
 have f27_7 := Exa.wr W27 f17_7
 have f27_8 := Fld.other W27 f17_8 (Or.inl ne_o_x)
 have f27_9 := Fld.other W27 f17_9 (Or.inl ne_o_x)
 have f27_10 := Fld.other W27 f17_10 (Or.inl ne_o_x)
 have f27_11 := Fld.other W27 f17_11 (Or.inl ne_o_x)
 have f27_12 := Exa.wr W27 f17_12
 have f27_13 := Exa.wr W27 f17_13
 have f27_17 := Fld.other W27 f17_17 (Or.inl ne_mp_x)
 have f27_18 := Fld.other W27 f17_18 (Or.inl ne_mp_x)
 have f27_19 := Fld.other W27 f17_19 (Or.inl ne_mp_x)
 have f27_20 := Fld.other W27 f17_20 (Or.inl ne_mp_x)
 have f27_21 := Fld.other W27 f17_21 (Or.inl ne_nd0_x)
 have f27_22 := Fld.other W27 f17_22 (Or.inl ne_nd0_x)
 have f27_23 := Fld.other W27 f17_23 (Or.inl ne_nd0_x)
 have f27_24 := Fld.other W27 f17_24 (Or.inl ne_nd0_x)
 have f27_25 := Fld.other W27 f17_25 (Or.inl ne_nd0_x)
 have f27_26 := Exa.wr W27 f17_26
 have f27_27 := Fld.other W27 f17_27 (Or.inl (Ne.symm ne_x_en11))
 have f27_28 := Fld.other W27 f17_28 (Or.inl (Ne.symm ne_x_en11))
 have f27_29 := Fld.other W27 f17_29 (Or.inl (Ne.symm ne_x_en11))
 have f27_30 := Fld.other W27 f17_30 (Or.inl (Ne.symm ne_x_en11))
 have f27_31 := Fld.other W27 f17_31 (Or.inl (Ne.symm ne_x_en11))
 refine Go.by st27 ?_
 refine aB X27 hx hby db_107 rfl rfl ?_
 refine lA X27 hx hby db_109 rfl ?_
 refine lC X27 hx hby db_110 (v := (1 : Int64)) rfl ?_
 refine lP X27 hx hby db_111 (v := (2 : Int64)) rfl ?_
 obtain ⟨cq28, q28a, q28b⟩ := Exa.cell f27_7
 obtain ⟨_, _, ⟨T28, L28, k28, n28⟩, -, X28, ⟨Lc28, hQ28, l28, y28, z28⟩, st28⟩ := own_privateRef X27 hx hZ (y := oY18) hown (tw_169 hw) (tw_170 hw) (tw_171 hw) (tw_172 hw) (tw_33 hw) (by decide) (backOf (W := 0) (rm_know l Z a0 hw [] o mp (2 : Int64) (1 : Int64) (2 : Int64) h27 n0 f27_0 f27_7 f27_8 f27_9 f27_10 f27_11 g_o (by decide) (by decide)) hZ (tw_172 hw) (tw_34 hw) (by decide) (by decide)) (g := (mkF m 112 #[(vR rm), (vI j), (vJ (1 : Int64)), .second, (vR vx), (vR o)] [(.long (2 : Int64)), (.ref o)])) rfl (by rw [hml]; rfl) (a := o) (by rw [e27]; exact q28a) q28b (argsL := [(.long (2 : Int64))]) (rest := []) (lenOf pd10 rfl) rfl (by show 2 * 0 + _ ≤ _; exact Nat.le_of_eq rfl) (hb hby db_112) (fun _ _ => ⟨rfl, e27, (by decide : 1 + 0 ≤ _), (by decide : 6 + 0 ≤ _)⟩)
 dsimp only [Pt.U, Pt.locs, Pt.cells, Pt.slots] at X28 l28 y28 z28 st28 hQ28
 subst l28 y28 z28
 obtain ⟨rfl, N28q, K28, G28_0, G28_1, G28_2, G28_3, G28_4⟩ := hQ28
 have N28 := Fr.app N27 N28q
 refine Go.by (fun t k => st28.trans k) ?_
 have u28_0 := ninS (Ne.symm ne_o_en11) nin0
 have u28_1 := ninS (Ne.symm ne_o_nd0) nin0
 have u28_2 := ninS (Ne.symm ne_o_mp) nin0
 have f28_1 := Keep.trans f27_1 K28 (allS (Or.inl (List.mem_of_getElem? (i := 0) rfl)) all0)
 have f28_7 := Exa.keep f27_7 K28
 have f28_8 := Exa.keep f27_12 K28
 have f28_9 := Exa.keep f27_13 K28
 have f28_13 := Fld.keep f27_17 K28 u28_2
 have f28_14 := Fld.keep f27_18 K28 u28_2
 have f28_15 := Fld.keep f27_19 K28 u28_2
 have f28_16 := Fld.keep f27_20 K28 u28_2
 have f28_17 := Fld.keep f27_21 K28 u28_1
 have f28_18 := Fld.keep f27_22 K28 u28_1
 have f28_19 := Fld.keep f27_23 K28 u28_1
 have f28_20 := Fld.keep f27_24 K28 u28_1
 have f28_21 := Fld.keep f27_25 K28 u28_1
 have f28_22 := Exa.keep f27_26 K28
 have f28_23 := Fld.keep f27_27 K28 u28_0
 have f28_24 := Fld.keep f27_28 K28 u28_0
 have f28_25 := Fld.keep f27_29 K28 u28_0
 have f28_26 := Fld.keep f27_30 K28 u28_0
 have f28_27 := Fld.keep f27_31 K28 u28_0
 show oG p e below P m T28 115 #[(vR rm), (vI j), (vJ (1 : Int64)), .second, (vR vx), (vR o)] []
 refine iC X28 hx hby db_115 (v := 1) rfl ?_
 refine r_val hP hlk hret X28 hx hby db_116 rfl (Or.inl ⟨rfl, Or.inr (Or.inl rfl), _, rfl⟩) (by decide) ?_
 exact ⟨rfl, N28, f28_1, en11, sz_en11, f28_7, G28_1, G28_2, G28_3, G28_4, f28_8, f28_13, f28_14, f28_15, f28_16, f28_9, f28_17, f28_18, f28_19, f28_20, f28_21, f28_22, f28_23, f28_24, f28_25, f28_26, f28_27⟩
def Q_recv2 (Z : State) (rm arr out o mp x : Addr) (ka ko : ClassId) (z si : Int32) (vs us : List Value) (nd0 nd1 vx : Addr) (sz mc : Int32) (ca : Addr) (cc : Cell) (j : Int32) (h0 : Heap) (n0 : Nat) (v : Option Value) (h : Heap) (L : List Loc) : Prop := v = some (.int 1) ∧ Fr n0 L ∧ Keep h0 h [o, mp, nd0, nd1, x] ∧ ∃ en, h0.size ≤ en ∧ Exa Z h o q_3 ∧ Fld Z h o q_3 "held" "J" (.long (3 : Int64)) ∧ Fld Z h o q_3 "known" "J" (.long (3 : Int64)) ∧ Fld Z h o q_3 "limit" "J" (.long (9223372036854775807 : Int64)) ∧ Fld Z h o q_3 q_18 q_19 (.ref mp) ∧ Exa Z h mp q_2 ∧ Fld Z h mp q_2 q_12 q_1 (.ref nd1) ∧ Fld Z h mp q_2 q_13 "I" (.int (sz + (1 : Int32))) ∧ Fld Z h mp q_2 q_14 "I" (.int (mc + (1 : Int32))) ∧ Fld Z h mp q_2 q_10 q_11 .null ∧ Exa Z h nd0 q_0 ∧ Fld Z h nd0 q_0 q_8 q_4 (.ref (own_bx cc 128)) ∧ Fld Z h nd0 q_0 q_6 q_1 .null ∧ Fld Z h nd0 q_0 q_9 q_1 .null ∧ Fld Z h nd0 q_0 q_5 q_1 (.ref nd1) ∧ Fld Z h nd0 q_0 q_7 "Z" (.int 0) ∧ Exa Z h nd1 q_0 ∧ Fld Z h nd1 q_0 q_8 q_4 (.ref (own_bx cc 129)) ∧ Fld Z h nd1 q_0 q_6 q_1 (.ref nd0) ∧ Fld Z h nd1 q_0 q_9 q_1 (.ref en) ∧ Fld Z h nd1 q_0 q_5 q_1 .null ∧ Fld Z h nd1 q_0 q_7 "Z" (.int 1) ∧ Exa Z h en q_0 ∧ Fld Z h en q_0 q_8 q_4 (.ref (own_bx cc 130)) ∧ Fld Z h en q_0 q_6 q_1 .null ∧ Fld Z h en q_0 q_9 q_1 .null ∧ Fld Z h en q_0 q_5 q_1 (.ref nd1) ∧ Fld Z h en q_0 q_7 "Z" (.int 0)
theorem rm_recv2 (l : Launch) (Z : State) (a0 : Array Value) (hw : oW a0 Z) (ws : List Jvm.Cond) (rm arr out o mp x : Addr) (ka ko : ClassId) (z si : Int32) (vs us : List Value) (nd0 nd1 vx : Addr) (sz mc : Int32) (ca : Addr) (cc : Cell) (j : Int32) (h0 : Heap) (n0 : Nat) (Z0 : n0 ≤ h0.size) (O0 : Old Z n0 h0) (Sca : Sta Z Z.heap q_22 "cache" q_23 (.ref ca)) (BX : Bxs Z ca cc q_17 "J" (256 : Int32) own_val) (Var : Arv Z h0 arr ka (.object q_3) z vs .null) (Vou : Arv Z h0 out ko (.array .long) z us .null) (hsi : ¬ si < 0 ∧ si < z) (hux : us.getD si.toNatClampNeg .null = .ref x) (LAx : own_LA Z h0 x z) (nax : arr ≠ x) (nox : out ≠ x) (hj : ¬ j < 0 ∧ j < z) (hvo : vs.getD j.toNatClampNeg .null = .ref o) (hne : ¬ j = si) (s0 : Exa Z h0 rm q_15) (s1 : Fld Z h0 rm q_15 "self" "I" (.int si)) (s2 : Fld Z h0 rm q_15 "origins" q_20 (.ref arr)) (s3 : Fld Z h0 rm q_15 "reported" "[[J" (.ref out)) (s4 : Exa Z h0 o q_3) (s5 : Fld Z h0 o q_3 "held" "J" (.long (2 : Int64))) (s6 : Fld Z h0 o q_3 "known" "J" (.long (2 : Int64))) (s7 : Fld Z h0 o q_3 "limit" "J" (.long (9223372036854775807 : Int64))) (s8 : Fld Z h0 o q_3 q_18 q_19 (.ref mp)) (s9 : Exa Z h0 mp q_2) (s10 : Fld Z h0 mp q_2 q_12 q_1 (.ref nd0)) (s11 : Fld Z h0 mp q_2 q_13 "I" (.int sz)) (s12 : Fld Z h0 mp q_2 q_14 "I" (.int mc)) (s13 : Fld Z h0 mp q_2 q_10 q_11 .null) (s14 : Exa Z h0 nd0 q_0) (s15 : Fld Z h0 nd0 q_0 q_8 q_4 (.ref (own_bx cc 128))) (s16 : Fld Z h0 nd0 q_0 q_6 q_1 .null) (s17 : Fld Z h0 nd0 q_0 q_9 q_1 (.ref nd1)) (s18 : Fld Z h0 nd0 q_0 q_5 q_1 .null) (s19 : Fld Z h0 nd0 q_0 q_7 "Z" (.int 1)) (s20 : Exa Z h0 nd1 q_0) (s21 : Fld Z h0 nd1 q_0 q_8 q_4 (.ref (own_bx cc 129))) (s22 : Fld Z h0 nd1 q_0 q_6 q_1 .null) (s23 : Fld Z h0 nd1 q_0 q_9 q_1 .null) (s24 : Fld Z h0 nd1 q_0 q_5 q_1 (.ref nd0)) (s25 : Fld Z h0 nd1 q_0 q_7 "Z" (.int 0)) (g_o : n0 ≤ o) (g_mp : n0 ≤ mp) (g_nd0 : n0 ≤ nd0) (g_nd1 : n0 ≤ nd1) (g_x : n0 ≤ x) (ne_nd0_nd1 : nd0 ≠ nd1) :
   oM l oY2 p68_4 6 (some .boolean) ws (own_R 7 1 6 170) #[(.ref rm), (.int j), (.long (2 : Int64)), (.ref vx)] Z h0 (Q_recv2 Z rm arr out o mp x ka ko z si vs us nd0 nd1 vx sz mc ca cc j h0 n0) := by
 refine own_open (n0 := n0) (cn := q_15) rfl (plainFor_of_name pn1) (L0 := #[(vR rm), (vI j), (vJ (2 : Int64)), .second, (vR vx), .unset]) ?_
 intro p e s m below meth c s₁ P hx hby hml hown hnm X0 e0 N0 hlk hret hZ hP
 have ne_rm_o : rm ≠ o := ne_exa s0 s4 (by decide)
 have ne_rm_mp : rm ≠ mp := ne_exa s0 s9 (by decide)
 have ne_rm_nd0 : rm ≠ nd0 := ne_exa s0 s14 (by decide)
 have ne_rm_nd1 : rm ≠ nd1 := ne_exa s0 s20 (by decide)
 have ne_o_mp : o ≠ mp := ne_exa s4 s9 (by decide)
 have ne_o_nd0 : o ≠ nd0 := ne_exa s4 s14 (by decide)
 have ne_o_nd1 : o ≠ nd1 := ne_exa s4 s20 (by decide)
 have ne_o_out : o ≠ out := fun q => by obtain ⟨_, Ar, -⟩ := Vou; exact ne_arr s4 (tw_33 hw) Ar q
 have ne_o_x : o ≠ x := fun q => by obtain ⟨_, Ar, -⟩ := LAx; exact ne_arr s4 (tw_33 hw) Ar q
 have ne_mp_out : mp ≠ out := fun q => by obtain ⟨_, Ar, -⟩ := Vou; exact ne_arr s9 (tw_43 hw) Ar q
 have ne_mp_x : mp ≠ x := fun q => by obtain ⟨_, Ar, -⟩ := LAx; exact ne_arr s9 (tw_43 hw) Ar q
 have ne_nd0_out : nd0 ≠ out := fun q => by obtain ⟨_, Ar, -⟩ := Vou; exact ne_arr s14 (tw_135 hw) Ar q
 have ne_nd0_x : nd0 ≠ x := fun q => by obtain ⟨_, Ar, -⟩ := LAx; exact ne_arr s14 (tw_135 hw) Ar q
 have ne_nd1_out : nd1 ≠ out := fun q => by obtain ⟨_, Ar, -⟩ := Vou; exact ne_arr s20 (tw_135 hw) Ar q
 have ne_nd1_x : nd1 ≠ x := fun q => by obtain ⟨_, Ar, -⟩ := LAx; exact ne_arr s20 (tw_135 hw) Ar q
 show oG p e below P m s₁ 0 #[(vR rm), (vI j), (vJ (2 : Int64)), .second, (vR vx), .unset] []
 refine aA X0 hx hby db_0 rfl rfl ?_
 refine gF X0 hx hby hZ hown (tw_15 hw) Via.refl e0 s2 db_1 ?_
 intro T3 X3 e3
 refine iA X3 hx hby db_4 rfl ?_
 have av4 := Var
 obtain ⟨cl4, Ar4, -, Sz4, Nn4, Ha4, Gf4⟩ := av4
 have hin4 : ¬ (j < 0 ∨ cl4.slots.size ≤ (j).toNatClampNeg) := inb_of Sz4 hj
 have hat4 : cl4.slots[(j).toNatClampNeg]? = some (.ref o) := Ha4.at hin4 hvo
 refine Go.by (X3.aaload hx (j := j) (v := (.ref o)) (by rw [e3]; exact Ar4.1) (State.isArrayOf_alike hZ.alike Ar4.2.1) rfl Ar4.2.2 hin4 hat4 (g := (mkF m 5 #[(vR rm), (vI j), (vJ (2 : Int64)), .second, (vR vx), .unset] [(.int j), (.ref arr)])) rfl rfl (hb hby db_5)) ?_
 show oG p e below P m T3 6 #[(vR rm), (vI j), (vJ (2 : Int64)), .second, (vR vx), .unset] [(.ref o)]
 refine aT X3 hx hby db_6 rfl rfl ?_
 refine iA X3 hx hby db_8 rfl ?_
 refine aA X3 hx hby db_9 rfl rfl ?_
 refine gF X3 hx hby hZ hown (tw_11 hw) Via.refl e3 s1 db_10 ?_
 intro T5 X5 e5
 refine cN X5 hx hby db_13 (XT.ii_eq_f hne) ?_
 refine lA X5 hx hby db_16 rfl ?_
 refine aB X5 hx hby db_17 rfl rfl ?_
 refine gR X5 hx hby hZ hown (tw_79 hw) Via.refl e5 s5 db_19 ?_
 intro T6 X6 e6
 refine lK X6 hx hby db_22 ?_
 refine fN X6 hx hby db_23 (XT.ll_lt_f (by decide : ¬ (2 : Int64) < (2 : Int64))) ?_
 refine aB X6 hx hby db_26 rfl rfl ?_
 refine gR X6 hx hby hZ hown (tw_81 hw) Via.refl e6 s8 db_28 ?_
 intro T7 X7 e7
 refine lA X7 hx hby db_31 rfl ?_
 refine c_stat 1 X7 hx hby hml hZ hown (tw_82 hw) (tw_83 hw) (tw_84 hw) (tw_85 hw) (rm_valueOf2 l Z a0 hw [] ca cc h0 n0 Z0 O0 Sca BX) e7 db_32 [(.long (2 : Int64))] [(.ref mp)] (lenOf pd1 rfl) rfl rfl ?_
 rintro _ T8 Lc8 ⟨rfl, N8q, q8⟩ X8
 have N8 := Fr.app N0 N8q
 refine c_virt 0 X8 hx hby hml hZ hown (tw_155 hw) (tw_156 hw) (tw_158 hw) (tw_157 hw) (tw_159 hw) (tw_44 hw) (rm_hasK_01_2 l Z a0 hw [] mp nd0 nd1 (own_bx cc 128) (own_bx cc 129) (own_bx cc 130) sz mc h0 n0 Z0 O0 s9 s10 s11 s12 s13 s14 s15 s16 s17 s18 s19 s20 s21 s22 s23 s24 s25 (own_box BX (128 : Int32) ⟨by decide, by decide⟩).2 (own_box BX (129 : Int32) ⟨by decide, by decide⟩).2 (own_box BX (130 : Int32) ⟨by decide, by decide⟩).2) q8 s9 db_35 [(.ref (own_bx cc 130))] [] (lenOf pd5 rfl) rfl rfl ?_
 rintro _ T9 Lc9 ⟨rfl, N9q, q9⟩ X9
 have N9 := Fr.app N8 N9q
 refine fY X9 hx hby db_38 (pc' := 43) (XT.i0_eq_t (by decide : (0 : Int32) = (0 : Int32))) ?_
 refine aB X9 hx hby db_43 rfl rfl ?_
 refine gR X9 hx hby hZ hown (tw_81 hw) Via.refl q9 s8 db_45 ?_
 intro T10 X10 e10
 refine lA X10 hx hby db_48 rfl ?_
 refine c_stat 1 X10 hx hby hml hZ hown (tw_82 hw) (tw_83 hw) (tw_84 hw) (tw_85 hw) (rm_valueOf2 l Z a0 hw [] ca cc h0 n0 Z0 O0 Sca BX) e10 db_49 [(.long (2 : Int64))] [(.ref mp)] (lenOf pd1 rfl) rfl rfl ?_
 rintro _ T11 Lc11 ⟨rfl, N11q, q11⟩ X11
 have N11 := Fr.app N9 N11q
 refine aB X11 hx hby db_52 rfl rfl ?_
 refine c_virt 0 X11 hx hby hml hZ hown (tw_90 hw) (tw_91 hw) (tw_93 hw) (tw_92 hw) (tw_94 hw) (tw_44 hw) (rm_put2_012 l Z a0 hw [] mp nd0 nd1 (own_bx cc 128) (own_bx cc 129) (own_bx cc 130) vx sz mc h0 n0 Z0 O0 s9 s10 s11 s12 s13 s14 s15 s16 s17 s18 s19 s20 s21 s22 s23 s24 s25 g_mp g_nd0 g_nd1 ne_nd0_nd1 (own_box BX (128 : Int32) ⟨by decide, by decide⟩).2 (own_box BX (129 : Int32) ⟨by decide, by decide⟩).2 (own_box BX (130 : Int32) ⟨by decide, by decide⟩).2) q11 s9 db_54 [(.ref (own_bx cc 130)), (.ref vx)] [] (lenOf pd8 rfl) rfl rfl ?_
 rintro _ T12 Lc12 ⟨rfl, N12q, K12, en12, zn12, G12_0, G12_1, G12_2, G12_3, G12_4, G12_5, G12_6, G12_7, G12_8, G12_9, G12_10, G12_11, G12_12, G12_13, G12_14, G12_15, G12_16, G12_17, G12_18, G12_19, G12_20, G12_21, G12_22⟩ X12
 have N12 := Fr.app N11 N12q
 have u12_0 := ninS ne_rm_mp (ninS ne_rm_nd0 (ninS ne_rm_nd1 nin0))
 have u12_1 := ninS ne_o_mp (ninS ne_o_nd0 (ninS ne_o_nd1 nin0))
 have f12_0 := Nat.le_trans Z0 K12.1
 have f12_1 := Keep.trans (Keep.refl h0 [o, mp, nd0, nd1, x]) K12 (allS (Or.inl (List.mem_of_getElem? (i := 1) rfl)) (allS (Or.inl (List.mem_of_getElem? (i := 2) rfl)) (allS (Or.inl (List.mem_of_getElem? (i := 3) rfl)) all0)))
 have f12_2 := Old.keep O0 K12 (allS g_mp (allS g_nd0 (allS g_nd1 all0)))
 have f12_4 := Fld.keep s1 K12 u12_0
 have f12_6 := Fld.keep s3 K12 u12_0
 have f12_7 := Exa.keep s4 K12
 have f12_8 := Fld.keep s5 K12 u12_1
 have f12_9 := Fld.keep s6 K12 u12_1
 have f12_10 := Fld.keep s7 K12 u12_1
 have f12_11 := Fld.keep s8 K12 u12_1
 have f12_12 := Exa.keep s9 K12
 have f12_13 := Exa.keep s14 K12
 have f12_14 := Exa.keep s20 K12
 have f12_16 := Arv.keep Vou K12 (ninS (Ne.symm ne_mp_out) (ninS (Ne.symm ne_nd0_out) (ninS (Ne.symm ne_nd1_out) nin0)))
 have f12_17 : own_LA Z T12.heap x z := (own_LA.keep LAx K12)
 have g_en12 : n0 ≤ en12 := Nat.le_trans Z0 zn12
 have sz_en12 : h0.size ≤ en12 := Nat.le_trans (Keep.refl h0 [o, mp, nd0, nd1, x]).1 zn12
 have ne_o_en12 : o ≠ en12 := Nat.ne_of_lt (Nat.lt_of_lt_of_le (s4.lt) zn12)
 have ne_x_en12 : x ≠ en12 := Nat.ne_of_lt (Nat.lt_of_lt_of_le ((own_LA.lt LAx)) zn12)
 refine pO X12 hx hby db_57 rfl ?_
 refine aB X12 hx hby db_58 rfl rfl ?_
 refine gR X12 hx hby hZ hown (tw_81 hw) Via.refl rfl f12_11 db_60 ?_
 intro T13 X13 e13
 refine aB X13 hx hby db_63 rfl rfl ?_
 refine gR X13 hx hby hZ hown (tw_79 hw) Via.refl e13 f12_8 db_65 ?_
 intro T14 X14 e14
 refine c_stat 1 X14 hx hby hml hZ hown (tw_82 hw) (tw_83 hw) (tw_84 hw) (tw_85 hw) (rm_valueOf2 l Z a0 hw [] ca cc T12.heap n0 f12_0 f12_2 Sca BX) e14 db_68 [(.long (2 : Int64))] [(.ref mp)] (lenOf pd1 rfl) rfl rfl ?_
 rintro _ T15 Lc15 ⟨rfl, N15q, q15⟩ X15
 have N15 := Fr.app N12 N15q
 refine c_virt 0 X15 hx hby hml hZ hown (tw_155 hw) (tw_156 hw) (tw_158 hw) (tw_157 hw) (tw_159 hw) (tw_44 hw) (rm_hasK_012_2 l Z a0 hw [] mp nd0 nd1 en12 (own_bx cc 128) (own_bx cc 129) (own_bx cc 130) (own_bx cc 130) (sz + (1 : Int32)) (mc + (1 : Int32)) T12.heap n0 f12_0 f12_2 f12_12 G12_1 G12_2 G12_3 G12_4 f12_13 G12_6 G12_7 G12_8 G12_9 G12_10 f12_14 G12_12 G12_13 G12_14 G12_15 G12_16 G12_17 G12_18 G12_19 G12_20 G12_21 G12_22 (own_box BX (128 : Int32) ⟨by decide, by decide⟩).2 (own_box BX (129 : Int32) ⟨by decide, by decide⟩).2 (own_box BX (130 : Int32) ⟨by decide, by decide⟩).2 (own_box BX (130 : Int32) ⟨by decide, by decide⟩).2) q15 f12_12 db_71 [(.ref (own_bx cc 130))] [] (lenOf pd5 rfl) rfl rfl ?_
 rintro _ T16 Lc16 ⟨rfl, N16q, q16⟩ X16
 have N16 := Fr.app N15 N16q
 refine fN X16 hx hby db_74 (XT.i0_eq_f (by decide : ¬ (1 : Int32) = (0 : Int32))) ?_
 refine aB X16 hx hby db_77 rfl rfl ?_
 refine dU X16 hx hby db_79 rfl ?_
 refine gR X16 hx hby hZ hown (tw_79 hw) Via.refl q16 f12_8 db_80 ?_
 intro T17 X17 e17
 refine lC X17 hx hby db_83 (v := (1 : Int64)) rfl ?_
 refine lP X17 hx hby db_84 (v := (3 : Int64)) rfl ?_
 obtain ⟨T18, h18, X18, e18, W18, st18⟩ := own_putR X17 hx hZ hown (tw_79 hw) Via.refl e17 f12_8 f12_7 (tw_80 hw) (tw_33 hw) (ty := .long) (by decide) rfl rfl (g := (mkF m 85 #[(vR rm), (vI j), (vJ (2 : Int64)), .second, (vR vx), (vR o)] [(.long (3 : Int64)), (.ref o)])) rfl rfl (hb hby db_85)
 refine Go.by st18 ?_
 have N18 := Fr.snoc X18 N16 g_o
 have f18_0 := Nat.le_trans f12_0 (Keep.of_wr W18).1
 have f18_1 := Keep.wr f12_1 W18 (Or.inl (List.mem_of_getElem? (i := 0) rfl))
 have f18_2 := Old.wr f12_2 W18 g_o
 have f18_4 := Fld.other W18 f12_4 (Or.inl ne_rm_o)
 have f18_6 := Fld.other W18 f12_6 (Or.inl ne_rm_o)
 have f18_7 := Exa.wr W18 f12_7
 have f18_8 := Fld.same W18 f12_8
 have f18_9 := Fld.other W18 f12_9 (Or.inr (slot_ne (Or.inl (tw_174 hw)) (Or.inl (tw_80 hw)) (by decide) (t := .long) (t' := .long) (by decide) (by decide)))
 have f18_10 := Fld.other W18 f12_10 (Or.inr (slot_ne (Or.inl (tw_41 hw)) (Or.inl (tw_80 hw)) (by decide) (t := .long) (t' := .long) (by decide) (by decide)))
 have f18_11 := Fld.other W18 f12_11 (Or.inr (slot_ne (Or.inr (tw_62 hw)) (Or.inl (tw_80 hw)) (by decide) (t := (.object q_2)) (t' := .long) (by decide) (by decide)))
 have f18_12 := Exa.wr W18 f12_12
 have f18_13 := Exa.wr W18 f12_13
 have f18_14 := Exa.wr W18 f12_14
 have f18_16 := Arv.other f12_16 W18 (Ne.symm ne_o_out)
 have f18_17 : own_LA Z h18 x z := (own_LA.wr f12_17 W18)
 have f18_18 := Fld.other W18 G12_1 (Or.inl (Ne.symm ne_o_mp))
 have f18_19 := Fld.other W18 G12_2 (Or.inl (Ne.symm ne_o_mp))
 have f18_20 := Fld.other W18 G12_3 (Or.inl (Ne.symm ne_o_mp))
 have f18_21 := Fld.other W18 G12_4 (Or.inl (Ne.symm ne_o_mp))
 have f18_22 := Fld.other W18 G12_6 (Or.inl (Ne.symm ne_o_nd0))
 have f18_23 := Fld.other W18 G12_7 (Or.inl (Ne.symm ne_o_nd0))
 have f18_24 := Fld.other W18 G12_8 (Or.inl (Ne.symm ne_o_nd0))
 have f18_25 := Fld.other W18 G12_9 (Or.inl (Ne.symm ne_o_nd0))
 have f18_26 := Fld.other W18 G12_10 (Or.inl (Ne.symm ne_o_nd0))
 have f18_27 := Fld.other W18 G12_12 (Or.inl (Ne.symm ne_o_nd1))
 have f18_28 := Fld.other W18 G12_13 (Or.inl (Ne.symm ne_o_nd1))
 have f18_29 := Fld.other W18 G12_14 (Or.inl (Ne.symm ne_o_nd1))
 have f18_30 := Fld.other W18 G12_15 (Or.inl (Ne.symm ne_o_nd1))
 have f18_31 := Fld.other W18 G12_16 (Or.inl (Ne.symm ne_o_nd1))
 have f18_32 := Exa.wr W18 G12_17
 have f18_33 := Fld.other W18 G12_18 (Or.inl (Ne.symm ne_o_en12))
 have f18_34 := Fld.other W18 G12_19 (Or.inl (Ne.symm ne_o_en12))
 have f18_35 := Fld.other W18 G12_20 (Or.inl (Ne.symm ne_o_en12))
 have f18_36 := Fld.other W18 G12_21 (Or.inl (Ne.symm ne_o_en12))
 have f18_37 := Fld.other W18 G12_22 (Or.inl (Ne.symm ne_o_en12))
 refine gO X18 hx hby db_88 (pc' := 58) ?_
 refine aB X18 hx hby db_58 rfl rfl ?_
 refine gR X18 hx hby hZ hown (tw_81 hw) Via.refl e18 f18_11 db_60 ?_
 intro T19 X19 e19
 refine aB X19 hx hby db_63 rfl rfl ?_
 refine gR X19 hx hby hZ hown (tw_79 hw) Via.refl e19 f18_8 db_65 ?_
 intro T20 X20 e20
 refine c_stat 1 X20 hx hby hml hZ hown (tw_82 hw) (tw_83 hw) (tw_84 hw) (tw_85 hw) (rm_valueOf3 l Z a0 hw [] ca cc h18 n0 f18_0 f18_2 Sca BX) e20 db_68 [(.long (3 : Int64))] [(.ref mp)] (lenOf pd1 rfl) rfl rfl ?_
 rintro _ T21 Lc21 ⟨rfl, N21q, q21⟩ X21
 have N21 := Fr.app N18 N21q
 refine c_virt 0 X21 hx hby hml hZ hown (tw_155 hw) (tw_156 hw) (tw_158 hw) (tw_157 hw) (tw_159 hw) (tw_44 hw) (rm_hasK_012_3 l Z a0 hw [] mp nd0 nd1 en12 (own_bx cc 128) (own_bx cc 129) (own_bx cc 130) (own_bx cc 131) (sz + (1 : Int32)) (mc + (1 : Int32)) h18 n0 f18_0 f18_2 f18_12 f18_18 f18_19 f18_20 f18_21 f18_13 f18_22 f18_23 f18_24 f18_25 f18_26 f18_14 f18_27 f18_28 f18_29 f18_30 f18_31 f18_32 f18_33 f18_34 f18_35 f18_36 f18_37 (own_box BX (128 : Int32) ⟨by decide, by decide⟩).2 (own_box BX (129 : Int32) ⟨by decide, by decide⟩).2 (own_box BX (130 : Int32) ⟨by decide, by decide⟩).2 (own_box BX (131 : Int32) ⟨by decide, by decide⟩).2) q21 f18_12 db_71 [(.ref (own_bx cc 131))] [] (lenOf pd5 rfl) rfl rfl ?_
 rintro _ T22 Lc22 ⟨rfl, N22q, q22⟩ X22
 have N22 := Fr.app N21 N22q
 refine fY X22 hx hby db_74 (pc' := 91) (XT.i0_eq_t (by decide : (0 : Int32) = (0 : Int32))) ?_
 refine aA X22 hx hby db_91 rfl rfl ?_
 refine gF X22 hx hby hZ hown (tw_72 hw) Via.refl q22 f18_6 db_92 ?_
 intro T23 X23 e23
 refine aA X23 hx hby db_95 rfl rfl ?_
 refine gF X23 hx hby hZ hown (tw_11 hw) Via.refl e23 f18_4 db_96 ?_
 intro T24 X24 e24
 have av25 := f18_16
 obtain ⟨cl25, Ar25, -, Sz25, Nn25, Ha25, Gf25⟩ := av25
 have hin25 : ¬ (si < 0 ∨ cl25.slots.size ≤ (si).toNatClampNeg) := inb_of Sz25 hsi
 have hat25 : cl25.slots[(si).toNatClampNeg]? = some (.ref x) := Ha25.at hin25 hux
 refine Go.by (X24.aaload hx (j := si) (v := (.ref x)) (by rw [e24]; exact Ar25.1) (State.isArrayOf_alike hZ.alike Ar25.2.1) rfl Ar25.2.2 hin25 hat25 (g := (mkF m 99 #[(vR rm), (vI j), (vJ (2 : Int64)), .second, (vR vx), (vR o)] [(.int si), (.ref out)])) rfl rfl (hb hby db_99)) ?_
 show oG p e below P m T24 100 #[(vR rm), (vI j), (vJ (2 : Int64)), .second, (vR vx), (vR o)] [(.ref x)]
 refine iA X24 hx hby db_100 rfl ?_
 refine aB X24 hx hby db_101 rfl rfl ?_
 refine gR X24 hx hby hZ hown (tw_79 hw) Via.refl e24 f18_8 db_103 ?_
 intro T26 X26 e26
 have av27 := f18_17
 obtain ⟨cl27, Ar27, Sz27, Nn27⟩ := av27
 have hin27 : ¬ (j < 0 ∨ cl27.slots.size ≤ (j).toNatClampNeg) := inb_of Sz27 hj
 obtain ⟨T28, h28, X28, e28, W28, st28⟩ := stJ X26 hx hZ e26 Ar27 (j := j) hin27 (g := (mkF m 106 #[(vR rm), (vI j), (vJ (2 : Int64)), .second, (vR vx), (vR o)] [(.long (3 : Int64)), (.int j), (.ref x)])) rfl rfl (hb hby db_106)
 have N28 := Fr.snoc X28 N22 g_x
 have f28_0 := Nat.le_trans f18_0 (Keep.of_wr W28).1
 have f28_1 := Keep.wr f18_1 W28 (Or.inl (List.mem_of_getElem? (i := 4) rfl))
 have f28_7 := Exa.wr W28 f18_7
 have f28_8 := Fld.other W28 f18_8 (Or.inl ne_o_x)
 have f28_9 := Fld.other W28 f18_9 (Or.inl ne_o_x)
 have f28_10 := Fld.other W28 f18_10 (Or.inl ne_o_x)
 have f28_11 := Fld.other W28 f18_11 (Or.inl ne_o_x)
 have f28_12 := Exa.wr W28 f18_12
 have f28_13 := Exa.wr W28 f18_13
 have f28_14 := Exa.wr W28 f18_14
 have f28_18 := Fld.other W28 f18_18 (Or.inl ne_mp_x)
 have f28_19 := Fld.other W28 f18_19 (Or.inl ne_mp_x)
 have f28_20 := Fld.other W28 f18_20 (Or.inl ne_mp_x)
 have f28_21 := Fld.other W28 f18_21 (Or.inl ne_mp_x)
 have f28_22 := Fld.other W28 f18_22 (Or.inl ne_nd0_x)
 have f28_23 := Fld.other W28 f18_23 (Or.inl ne_nd0_x)
 have f28_24 := Fld.other W28 f18_24 (Or.inl ne_nd0_x)
 have f28_25 := Fld.other W28 f18_25 (Or.inl ne_nd0_x)
 have f28_26 := Fld.other W28 f18_26 (Or.inl ne_nd0_x)
 have f28_27 := Fld.other W28 f18_27 (Or.inl ne_nd1_x)
 have f28_28 := Fld.other W28 f18_28 (Or.inl ne_nd1_x)
 have f28_29 := Fld.other W28 f18_29 (Or.inl ne_nd1_x)
 have f28_30 := Fld.other W28 f18_30 (Or.inl ne_nd1_x)
 have f28_31 := Fld.other W28 f18_31 (Or.inl ne_nd1_x)
 have f28_32 := Exa.wr W28 f18_32
 have f28_33 := Fld.other W28 f18_33 (Or.inl (Ne.symm ne_x_en12))
 have f28_34 := Fld.other W28 f18_34 (Or.inl (Ne.symm ne_x_en12))
 have f28_35 := Fld.other W28 f18_35 (Or.inl (Ne.symm ne_x_en12))
 have f28_36 := Fld.other W28 f18_36 (Or.inl (Ne.symm ne_x_en12))
 have f28_37 := Fld.other W28 f18_37 (Or.inl (Ne.symm ne_x_en12))
 refine Go.by st28 ?_
 refine aB X28 hx hby db_107 rfl rfl ?_
 refine lA X28 hx hby db_109 rfl ?_
 refine lC X28 hx hby db_110 (v := (1 : Int64)) rfl ?_
 refine lP X28 hx hby db_111 (v := (3 : Int64)) rfl ?_
 obtain ⟨cq29, q29a, q29b⟩ := Exa.cell f28_7
 obtain ⟨_, _, ⟨T29, L29, k29, n29⟩, -, X29, ⟨Lc29, hQ29, l29, y29, z29⟩, st29⟩ := own_privateRef X28 hx hZ (y := oY18) hown (tw_169 hw) (tw_170 hw) (tw_171 hw) (tw_172 hw) (tw_33 hw) (by decide) (backOf (W := 0) (rm_know l Z a0 hw [] o mp (3 : Int64) (2 : Int64) (3 : Int64) h28 n0 f28_0 f28_7 f28_8 f28_9 f28_10 f28_11 g_o (by decide) (by decide)) hZ (tw_172 hw) (tw_34 hw) (by decide) (by decide)) (g := (mkF m 112 #[(vR rm), (vI j), (vJ (2 : Int64)), .second, (vR vx), (vR o)] [(.long (3 : Int64)), (.ref o)])) rfl (by rw [hml]; rfl) (a := o) (by rw [e28]; exact q29a) q29b (argsL := [(.long (3 : Int64))]) (rest := []) (lenOf pd10 rfl) rfl (by show 2 * 0 + _ ≤ _; exact Nat.le_of_eq rfl) (hb hby db_112) (fun _ _ => ⟨rfl, e28, (by decide : 1 + 0 ≤ _), (by decide : 6 + 0 ≤ _)⟩)
 dsimp only [Pt.U, Pt.locs, Pt.cells, Pt.slots] at X29 l29 y29 z29 st29 hQ29
 subst l29 y29 z29
 obtain ⟨rfl, N29q, K29, G29_0, G29_1, G29_2, G29_3, G29_4⟩ := hQ29
 have N29 := Fr.app N28 N29q
 refine Go.by (fun t k => st29.trans k) ?_
 have u29_0 := ninS (Ne.symm ne_o_en12) nin0
 have u29_1 := ninS (Ne.symm ne_o_nd0) nin0
 have u29_2 := ninS (Ne.symm ne_o_nd1) nin0
 have u29_3 := ninS (Ne.symm ne_o_mp) nin0
 have f29_1 := Keep.trans f28_1 K29 (allS (Or.inl (List.mem_of_getElem? (i := 0) rfl)) all0)
 have f29_7 := Exa.keep f28_7 K29
 have f29_8 := Exa.keep f28_12 K29
 have f29_9 := Exa.keep f28_13 K29
 have f29_10 := Exa.keep f28_14 K29
 have f29_14 := Fld.keep f28_18 K29 u29_3
 have f29_15 := Fld.keep f28_19 K29 u29_3
 have f29_16 := Fld.keep f28_20 K29 u29_3
 have f29_17 := Fld.keep f28_21 K29 u29_3
 have f29_18 := Fld.keep f28_22 K29 u29_1
 have f29_19 := Fld.keep f28_23 K29 u29_1
 have f29_20 := Fld.keep f28_24 K29 u29_1
 have f29_21 := Fld.keep f28_25 K29 u29_1
 have f29_22 := Fld.keep f28_26 K29 u29_1
 have f29_23 := Fld.keep f28_27 K29 u29_2
 have f29_24 := Fld.keep f28_28 K29 u29_2
 have f29_25 := Fld.keep f28_29 K29 u29_2
 have f29_26 := Fld.keep f28_30 K29 u29_2
 have f29_27 := Fld.keep f28_31 K29 u29_2
 have f29_28 := Exa.keep f28_32 K29
 have f29_29 := Fld.keep f28_33 K29 u29_0
 have f29_30 := Fld.keep f28_34 K29 u29_0
 have f29_31 := Fld.keep f28_35 K29 u29_0
 have f29_32 := Fld.keep f28_36 K29 u29_0
 have f29_33 := Fld.keep f28_37 K29 u29_0
 show oG p e below P m T29 115 #[(vR rm), (vI j), (vJ (2 : Int64)), .second, (vR vx), (vR o)] []
 refine iC X29 hx hby db_115 (v := 1) rfl ?_
 refine r_val hP hlk hret X29 hx hby db_116 rfl (Or.inl ⟨rfl, Or.inr (Or.inl rfl), _, rfl⟩) (by decide) ?_
 exact ⟨rfl, N29, f29_1, en12, sz_en12, f29_7, G29_1, G29_2, G29_3, G29_4, f29_8, f29_14, f29_15, f29_16, f29_17, f29_9, f29_18, f29_19, f29_20, f29_21, f29_22, f29_10, f29_23, f29_24, f29_25, f29_26, f29_27, f29_28, f29_29, f29_30, f29_31, f29_32, f29_33⟩
def Q_recvG0 (Z : State) (rm arr out o mp x : Addr) (ka ko : ClassId) (z si : Int32) (vs us : List Value) (vx : Addr) (sz mc : Int32) (ca : Addr) (cc : Cell) (j : Int32) (h0 : Heap) (n0 : Nat) (v : Option Value) (h : Heap) (L : List Loc) : Prop := v = some (.int 1) ∧ Fr n0 L ∧ Keep h0 h [o, mp, x] ∧ ∃ en, h0.size ≤ en ∧ Exa Z h o q_3 ∧ Fld Z h o q_3 "held" "J" (.long (0 : Int64)) ∧ Fld Z h o q_3 "known" "J" (.long (2 : Int64)) ∧ Fld Z h o q_3 "limit" "J" (.long (9223372036854775807 : Int64)) ∧ Fld Z h o q_3 q_18 q_19 (.ref mp) ∧ Exa Z h mp q_2 ∧ Fld Z h mp q_2 q_12 q_1 (.ref en) ∧ Fld Z h mp q_2 q_13 "I" (.int 1) ∧ Fld Z h mp q_2 q_14 "I" (.int (mc + (1 : Int32))) ∧ Fld Z h mp q_2 q_10 q_11 .null ∧ Exa Z h en q_0 ∧ Fld Z h en q_0 q_8 q_4 (.ref (own_bx cc 129)) ∧ Fld Z h en q_0 q_6 q_1 .null ∧ Fld Z h en q_0 q_9 q_1 .null ∧ Fld Z h en q_0 q_5 q_1 .null ∧ Fld Z h en q_0 q_7 "Z" (.int 1)
theorem rm_recvG0 (l : Launch) (Z : State) (a0 : Array Value) (hw : oW a0 Z) (ws : List Jvm.Cond) (rm arr out o mp x : Addr) (ka ko : ClassId) (z si : Int32) (vs us : List Value) (vx : Addr) (sz mc : Int32) (ca : Addr) (cc : Cell) (j : Int32) (h0 : Heap) (n0 : Nat) (Z0 : n0 ≤ h0.size) (O0 : Old Z n0 h0) (Sca : Sta Z Z.heap q_22 "cache" q_23 (.ref ca)) (BX : Bxs Z ca cc q_17 "J" (256 : Int32) own_val) (Var : Arv Z h0 arr ka (.object q_3) z vs .null) (Vou : Arv Z h0 out ko (.array .long) z us .null) (hsi : ¬ si < 0 ∧ si < z) (hux : us.getD si.toNatClampNeg .null = .ref x) (LAx : own_LA Z h0 x z) (nax : arr ≠ x) (nox : out ≠ x) (hj : ¬ j < 0 ∧ j < z) (hvo : vs.getD j.toNatClampNeg .null = .ref o) (hne : ¬ j = si) (s0 : Exa Z h0 rm q_15) (s1 : Fld Z h0 rm q_15 "self" "I" (.int si)) (s2 : Fld Z h0 rm q_15 "origins" q_20 (.ref arr)) (s3 : Fld Z h0 rm q_15 "reported" "[[J" (.ref out)) (s4 : Exa Z h0 o q_3) (s5 : Fld Z h0 o q_3 "held" "J" (.long (0 : Int64))) (s6 : Fld Z h0 o q_3 "known" "J" (.long (0 : Int64))) (s7 : Fld Z h0 o q_3 "limit" "J" (.long (9223372036854775807 : Int64))) (s8 : Fld Z h0 o q_3 q_18 q_19 (.ref mp)) (s9 : Exa Z h0 mp q_2) (s10 : Fld Z h0 mp q_2 q_12 q_1 .null) (s11 : Fld Z h0 mp q_2 q_13 "I" (.int sz)) (s12 : Fld Z h0 mp q_2 q_14 "I" (.int mc)) (s13 : Fld Z h0 mp q_2 q_10 q_11 .null) (g_o : n0 ≤ o) (g_mp : n0 ≤ mp) (g_x : n0 ≤ x) :
   oM l oY2 p68_4 6 (some .boolean) ws (own_R 7 1 6 170) #[(.ref rm), (.int j), (.long (1 : Int64)), (.ref vx)] Z h0 (Q_recvG0 Z rm arr out o mp x ka ko z si vs us vx sz mc ca cc j h0 n0) := by
 refine own_open (n0 := n0) (cn := q_15) rfl (plainFor_of_name pn1) (L0 := #[(vR rm), (vI j), (vJ (1 : Int64)), .second, (vR vx), .unset]) ?_
 intro p e s m below meth c s₁ P hx hby hml hown hnm X0 e0 N0 hlk hret hZ hP
 have ne_rm_mp : rm ≠ mp := ne_exa s0 s9 (by decide)
 have ne_o_mp : o ≠ mp := ne_exa s4 s9 (by decide)
 have ne_o_x : o ≠ x := fun q => by obtain ⟨_, Ar, -⟩ := LAx; exact ne_arr s4 (tw_33 hw) Ar q
 have ne_mp_out : mp ≠ out := fun q => by obtain ⟨_, Ar, -⟩ := Vou; exact ne_arr s9 (tw_43 hw) Ar q
 have ne_mp_x : mp ≠ x := fun q => by obtain ⟨_, Ar, -⟩ := LAx; exact ne_arr s9 (tw_43 hw) Ar q
 show oG p e below P m s₁ 0 #[(vR rm), (vI j), (vJ (1 : Int64)), .second, (vR vx), .unset] []
 refine aA X0 hx hby db_0 rfl rfl ?_
 refine gF X0 hx hby hZ hown (tw_15 hw) Via.refl e0 s2 db_1 ?_
 intro T1 X1 e1
 refine iA X1 hx hby db_4 rfl ?_
 have av2 := Var
 obtain ⟨cl2, Ar2, -, Sz2, Nn2, Ha2, Gf2⟩ := av2
 have hin2 : ¬ (j < 0 ∨ cl2.slots.size ≤ (j).toNatClampNeg) := inb_of Sz2 hj
 have hat2 : cl2.slots[(j).toNatClampNeg]? = some (.ref o) := Ha2.at hin2 hvo
 refine Go.by (X1.aaload hx (j := j) (v := (.ref o)) (by rw [e1]; exact Ar2.1) (State.isArrayOf_alike hZ.alike Ar2.2.1) rfl Ar2.2.2 hin2 hat2 (g := (mkF m 5 #[(vR rm), (vI j), (vJ (1 : Int64)), .second, (vR vx), .unset] [(.int j), (.ref arr)])) rfl rfl (hb hby db_5)) ?_
 show oG p e below P m T1 6 #[(vR rm), (vI j), (vJ (1 : Int64)), .second, (vR vx), .unset] [(.ref o)]
 refine aT X1 hx hby db_6 rfl rfl ?_
 refine iA X1 hx hby db_8 rfl ?_
 refine aA X1 hx hby db_9 rfl rfl ?_
 refine gF X1 hx hby hZ hown (tw_11 hw) Via.refl e1 s1 db_10 ?_
 intro T3 X3 e3
 refine cN X3 hx hby db_13 (XT.ii_eq_f hne) ?_
 refine lA X3 hx hby db_16 rfl ?_
 refine aB X3 hx hby db_17 rfl rfl ?_
 refine gR X3 hx hby hZ hown (tw_79 hw) Via.refl e3 s5 db_19 ?_
 intro T4 X4 e4
 refine lK X4 hx hby db_22 ?_
 refine fN X4 hx hby db_23 (XT.ll_lt_f (by decide : ¬ (1 : Int64) < (0 : Int64))) ?_
 refine aB X4 hx hby db_26 rfl rfl ?_
 refine gR X4 hx hby hZ hown (tw_81 hw) Via.refl e4 s8 db_28 ?_
 intro T5 X5 e5
 refine lA X5 hx hby db_31 rfl ?_
 refine c_stat 1 X5 hx hby hml hZ hown (tw_82 hw) (tw_83 hw) (tw_84 hw) (tw_85 hw) (rm_valueOf1 l Z a0 hw [] ca cc h0 n0 Z0 O0 Sca BX) e5 db_32 [(.long (1 : Int64))] [(.ref mp)] (lenOf pd1 rfl) rfl rfl ?_
 rintro _ T6 Lc6 ⟨rfl, N6q, q6⟩ X6
 have N6 := Fr.app N0 N6q
 refine c_virt 0 X6 hx hby hml hZ hown (tw_155 hw) (tw_156 hw) (tw_158 hw) (tw_157 hw) (tw_159 hw) (tw_44 hw) (rm_hasK__1 l Z a0 hw [] mp (own_bx cc 129) sz mc h0 n0 Z0 O0 s9 s10 s11 s12 s13 (own_box BX (129 : Int32) ⟨by decide, by decide⟩).2) q6 s9 db_35 [(.ref (own_bx cc 129))] [] (lenOf pd5 rfl) rfl rfl ?_
 rintro _ T7 Lc7 ⟨rfl, N7q, q7⟩ X7
 have N7 := Fr.app N6 N7q
 refine fY X7 hx hby db_38 (pc' := 43) (XT.i0_eq_t (by decide : (0 : Int32) = (0 : Int32))) ?_
 refine aB X7 hx hby db_43 rfl rfl ?_
 refine gR X7 hx hby hZ hown (tw_81 hw) Via.refl q7 s8 db_45 ?_
 intro T8 X8 e8
 refine lA X8 hx hby db_48 rfl ?_
 refine c_stat 1 X8 hx hby hml hZ hown (tw_82 hw) (tw_83 hw) (tw_84 hw) (tw_85 hw) (rm_valueOf1 l Z a0 hw [] ca cc h0 n0 Z0 O0 Sca BX) e8 db_49 [(.long (1 : Int64))] [(.ref mp)] (lenOf pd1 rfl) rfl rfl ?_
 rintro _ T9 Lc9 ⟨rfl, N9q, q9⟩ X9
 have N9 := Fr.app N7 N9q
 refine aB X9 hx hby db_52 rfl rfl ?_
 refine c_virt 0 X9 hx hby hml hZ hown (tw_90 hw) (tw_91 hw) (tw_93 hw) (tw_92 hw) (tw_94 hw) (tw_44 hw) (rm_put2_1 l Z a0 hw [] mp (own_bx cc 129) vx sz mc h0 n0 Z0 O0 s9 s10 s11 s12 s13 g_mp (own_box BX (129 : Int32) ⟨by decide, by decide⟩).2) q9 s9 db_54 [(.ref (own_bx cc 129)), (.ref vx)] [] (lenOf pd8 rfl) rfl rfl ?_
 rintro _ T10 Lc10 ⟨rfl, N10q, K10, en10, zn10, G10_0, G10_1, G10_2, G10_3, G10_4, G10_5, G10_6, G10_7, G10_8, G10_9, G10_10⟩ X10
 have N10 := Fr.app N9 N10q
 have u10_0 := ninS ne_o_mp nin0
 have f10_0 := Nat.le_trans Z0 K10.1
 have f10_1 := Keep.trans (Keep.refl h0 [o, mp, x]) K10 (allS (Or.inl (List.mem_of_getElem? (i := 1) rfl)) all0)
 have f10_2 := Old.keep O0 K10 (allS g_mp all0)
 have f10_4 := Fld.keep s1 K10 (ninS ne_rm_mp nin0)
 have f10_6 := Fld.keep s3 K10 (ninS ne_rm_mp nin0)
 have f10_7 := Exa.keep s4 K10
 have f10_8 := Fld.keep s5 K10 u10_0
 have f10_9 := Fld.keep s6 K10 u10_0
 have f10_10 := Fld.keep s7 K10 u10_0
 have f10_11 := Fld.keep s8 K10 u10_0
 have f10_12 := Exa.keep s9 K10
 have f10_14 := Arv.keep Vou K10 (ninS (Ne.symm ne_mp_out) nin0)
 have f10_15 : own_LA Z T10.heap x z := (own_LA.keep LAx K10)
 have g_en10 : n0 ≤ en10 := Nat.le_trans Z0 zn10
 have sz_en10 : h0.size ≤ en10 := Nat.le_trans (Keep.refl h0 [o, mp, x]).1 zn10
 have ne_o_en10 : o ≠ en10 := Nat.ne_of_lt (Nat.lt_of_lt_of_le (s4.lt) zn10)
 have ne_x_en10 : x ≠ en10 := Nat.ne_of_lt (Nat.lt_of_lt_of_le ((own_LA.lt LAx)) zn10)
 refine pO X10 hx hby db_57 rfl ?_
 refine aB X10 hx hby db_58 rfl rfl ?_
 refine gR X10 hx hby hZ hown (tw_81 hw) Via.refl rfl f10_11 db_60 ?_
 intro T11 X11 e11
 refine aB X11 hx hby db_63 rfl rfl ?_
 refine gR X11 hx hby hZ hown (tw_79 hw) Via.refl e11 f10_8 db_65 ?_
 intro T12 X12 e12
 refine c_stat 1 X12 hx hby hml hZ hown (tw_82 hw) (tw_83 hw) (tw_84 hw) (tw_85 hw) (rm_valueOf0 l Z a0 hw [] ca cc T10.heap n0 f10_0 f10_2 Sca BX) e12 db_68 [(.long (0 : Int64))] [(.ref mp)] (lenOf pd1 rfl) rfl rfl ?_
 rintro _ T13 Lc13 ⟨rfl, N13q, q13⟩ X13
 have N13 := Fr.app N10 N13q
 refine c_virt 0 X13 hx hby hml hZ hown (tw_155 hw) (tw_156 hw) (tw_158 hw) (tw_157 hw) (tw_159 hw) (tw_44 hw) (rm_hasK_1_0 l Z a0 hw [] mp en10 (own_bx cc 129) (own_bx cc 128) (1 : Int32) (mc + (1 : Int32)) T10.heap n0 f10_0 f10_2 f10_12 G10_1 G10_2 G10_3 G10_4 G10_5 G10_6 G10_7 G10_8 G10_9 G10_10 (own_box BX (129 : Int32) ⟨by decide, by decide⟩).2 (own_box BX (128 : Int32) ⟨by decide, by decide⟩).2) q13 f10_12 db_71 [(.ref (own_bx cc 128))] [] (lenOf pd5 rfl) rfl rfl ?_
 rintro _ T14 Lc14 ⟨rfl, N14q, q14⟩ X14
 have N14 := Fr.app N13 N14q
 refine fY X14 hx hby db_74 (pc' := 91) (XT.i0_eq_t (by decide : (0 : Int32) = (0 : Int32))) ?_
 refine aA X14 hx hby db_91 rfl rfl ?_
 refine gF X14 hx hby hZ hown (tw_72 hw) Via.refl q14 f10_6 db_92 ?_
 intro T15 X15 e15
 refine aA X15 hx hby db_95 rfl rfl ?_
 refine gF X15 hx hby hZ hown (tw_11 hw) Via.refl e15 f10_4 db_96 ?_
 intro T16 X16 e16
 have av17 := f10_14
 obtain ⟨cl17, Ar17, -, Sz17, Nn17, Ha17, Gf17⟩ := av17
 have hin17 : ¬ (si < 0 ∨ cl17.slots.size ≤ (si).toNatClampNeg) := inb_of Sz17 hsi
 have hat17 : cl17.slots[(si).toNatClampNeg]? = some (.ref x) := Ha17.at hin17 hux
 refine Go.by (X16.aaload hx (j := si) (v := (.ref x)) (by rw [e16]; exact Ar17.1) (State.isArrayOf_alike hZ.alike Ar17.2.1) rfl Ar17.2.2 hin17 hat17 (g := (mkF m 99 #[(vR rm), (vI j), (vJ (1 : Int64)), .second, (vR vx), (vR o)] [(.int si), (.ref out)])) rfl rfl (hb hby db_99)) ?_
 show oG p e below P m T16 100 #[(vR rm), (vI j), (vJ (1 : Int64)), .second, (vR vx), (vR o)] [(.ref x)]
 refine iA X16 hx hby db_100 rfl ?_
 refine aB X16 hx hby db_101 rfl rfl ?_
 refine gR X16 hx hby hZ hown (tw_79 hw) Via.refl e16 f10_8 db_103 ?_
 intro T18 X18 e18
 have av19 := f10_15
 obtain ⟨cl19, Ar19, Sz19, Nn19⟩ := av19
 have hin19 : ¬ (j < 0 ∨ cl19.slots.size ≤ (j).toNatClampNeg) := inb_of Sz19 hj
 obtain ⟨T20, h20, X20, e20, W20, st20⟩ := stJ X18 hx hZ e18 Ar19 (j := j) hin19 (g := (mkF m 106 #[(vR rm), (vI j), (vJ (1 : Int64)), .second, (vR vx), (vR o)] [(.long (0 : Int64)), (.int j), (.ref x)])) rfl rfl (hb hby db_106)
 have N20 := Fr.snoc X20 N14 g_x
 have f20_0 := Nat.le_trans f10_0 (Keep.of_wr W20).1
 have f20_1 := Keep.wr f10_1 W20 (Or.inl (List.mem_of_getElem? (i := 2) rfl))
 have f20_7 := Exa.wr W20 f10_7
 have f20_8 := Fld.other W20 f10_8 (Or.inl ne_o_x)
 have f20_9 := Fld.other W20 f10_9 (Or.inl ne_o_x)
 have f20_10 := Fld.other W20 f10_10 (Or.inl ne_o_x)
 have f20_11 := Fld.other W20 f10_11 (Or.inl ne_o_x)
 have f20_12 := Exa.wr W20 f10_12
 have f20_16 := Fld.other W20 G10_1 (Or.inl ne_mp_x)
 have f20_17 := Fld.other W20 G10_2 (Or.inl ne_mp_x)
 have f20_18 := Fld.other W20 G10_3 (Or.inl ne_mp_x)
 have f20_19 := Fld.other W20 G10_4 (Or.inl ne_mp_x)
 have f20_20 := Exa.wr W20 G10_5
 have f20_21 := Fld.other W20 G10_6 (Or.inl (Ne.symm ne_x_en10))
 have f20_22 := Fld.other W20 G10_7 (Or.inl (Ne.symm ne_x_en10))
 have f20_23 := Fld.other W20 G10_8 (Or.inl (Ne.symm ne_x_en10))
 have f20_24 := Fld.other W20 G10_9 (Or.inl (Ne.symm ne_x_en10))
 have f20_25 := Fld.other W20 G10_10 (Or.inl (Ne.symm ne_x_en10))
 refine Go.by st20 ?_
 refine aB X20 hx hby db_107 rfl rfl ?_
 refine lA X20 hx hby db_109 rfl ?_
 refine lC X20 hx hby db_110 (v := (1 : Int64)) rfl ?_
 refine lP X20 hx hby db_111 (v := (2 : Int64)) rfl ?_
 obtain ⟨cq21, q21a, q21b⟩ := Exa.cell f20_7
 obtain ⟨_, _, ⟨T21, L21, k21, n21⟩, -, X21, ⟨Lc21, hQ21, l21, y21, z21⟩, st21⟩ := own_privateRef X20 hx hZ (y := oY18) hown (tw_169 hw) (tw_170 hw) (tw_171 hw) (tw_172 hw) (tw_33 hw) (by decide) (backOf (W := 0) (rm_know l Z a0 hw [] o mp (0 : Int64) (0 : Int64) (2 : Int64) h20 n0 f20_0 f20_7 f20_8 f20_9 f20_10 f20_11 g_o (by decide) (by decide)) hZ (tw_172 hw) (tw_34 hw) (by decide) (by decide)) (g := (mkF m 112 #[(vR rm), (vI j), (vJ (1 : Int64)), .second, (vR vx), (vR o)] [(.long (2 : Int64)), (.ref o)])) rfl (by rw [hml]; rfl) (a := o) (by rw [e20]; exact q21a) q21b (argsL := [(.long (2 : Int64))]) (rest := []) (lenOf pd10 rfl) rfl (by show 2 * 0 + _ ≤ _; exact Nat.le_of_eq rfl) (hb hby db_112) (fun _ _ => ⟨rfl, e20, (by decide : 1 + 0 ≤ _), (by decide : 6 + 0 ≤ _)⟩)
 dsimp only [Pt.U, Pt.locs, Pt.cells, Pt.slots] at X21 l21 y21 z21 st21 hQ21
 subst l21 y21 z21
 obtain ⟨rfl, N21q, K21, G21_0, G21_1, G21_2, G21_3, G21_4⟩ := hQ21
 have N21 := Fr.app N20 N21q
 refine Go.by (fun t k => st21.trans k) ?_
 have u21_0 := ninS (Ne.symm ne_o_en10) nin0
 have u21_1 := ninS (Ne.symm ne_o_mp) nin0
 have f21_1 := Keep.trans f20_1 K21 (allS (Or.inl (List.mem_of_getElem? (i := 0) rfl)) all0)
 have f21_7 := Exa.keep f20_7 K21
 have f21_8 := Exa.keep f20_12 K21
 have f21_12 := Fld.keep f20_16 K21 u21_1
 have f21_13 := Fld.keep f20_17 K21 u21_1
 have f21_14 := Fld.keep f20_18 K21 u21_1
 have f21_15 := Fld.keep f20_19 K21 u21_1
 have f21_16 := Exa.keep f20_20 K21
 have f21_17 := Fld.keep f20_21 K21 u21_0
 have f21_18 := Fld.keep f20_22 K21 u21_0
 have f21_19 := Fld.keep f20_23 K21 u21_0
 have f21_20 := Fld.keep f20_24 K21 u21_0
 have f21_21 := Fld.keep f20_25 K21 u21_0
 show oG p e below P m T21 115 #[(vR rm), (vI j), (vJ (1 : Int64)), .second, (vR vx), (vR o)] []
 refine iC X21 hx hby db_115 (v := 1) rfl ?_
 refine r_val hP hlk hret X21 hx hby db_116 rfl (Or.inl ⟨rfl, Or.inr (Or.inl rfl), _, rfl⟩) (by decide) ?_
 exact ⟨rfl, N21, f21_1, en10, sz_en10, f21_7, G21_1, G21_2, G21_3, G21_4, f21_8, f21_12, f21_13, f21_14, f21_15, f21_16, f21_17, f21_18, f21_19, f21_20, f21_21⟩
def Q_recvG1 (Z : State) (rm arr out o mp x : Addr) (ka ko : ClassId) (z si : Int32) (vs us : List Value) (nd0 vx : Addr) (sz mc : Int32) (ca : Addr) (cc : Cell) (j : Int32) (h0 : Heap) (n0 : Nat) (v : Option Value) (h : Heap) (L : List Loc) : Prop := v = some (.int 1) ∧ Fr n0 L ∧ Keep h0 h [o, mp, nd0, x] ∧ ∃ en, h0.size ≤ en ∧ Exa Z h o q_3 ∧ Fld Z h o q_3 "held" "J" (.long (1 : Int64)) ∧ Fld Z h o q_3 "known" "J" (.long (3 : Int64)) ∧ Fld Z h o q_3 "limit" "J" (.long (9223372036854775807 : Int64)) ∧ Fld Z h o q_3 q_18 q_19 (.ref mp) ∧ Exa Z h mp q_2 ∧ Fld Z h mp q_2 q_12 q_1 (.ref nd0) ∧ Fld Z h mp q_2 q_13 "I" (.int (sz + (1 : Int32))) ∧ Fld Z h mp q_2 q_14 "I" (.int (mc + (1 : Int32))) ∧ Fld Z h mp q_2 q_10 q_11 .null ∧ Exa Z h nd0 q_0 ∧ Fld Z h nd0 q_0 q_8 q_4 (.ref (own_bx cc 128)) ∧ Fld Z h nd0 q_0 q_6 q_1 .null ∧ Fld Z h nd0 q_0 q_9 q_1 (.ref en) ∧ Fld Z h nd0 q_0 q_5 q_1 .null ∧ Fld Z h nd0 q_0 q_7 "Z" (.int 1) ∧ Exa Z h en q_0 ∧ Fld Z h en q_0 q_8 q_4 (.ref (own_bx cc 130)) ∧ Fld Z h en q_0 q_6 q_1 .null ∧ Fld Z h en q_0 q_9 q_1 .null ∧ Fld Z h en q_0 q_5 q_1 (.ref nd0) ∧ Fld Z h en q_0 q_7 "Z" (.int 0)
theorem rm_recvG1 (l : Launch) (Z : State) (a0 : Array Value) (hw : oW a0 Z) (ws : List Jvm.Cond) (rm arr out o mp x : Addr) (ka ko : ClassId) (z si : Int32) (vs us : List Value) (nd0 vx : Addr) (sz mc : Int32) (ca : Addr) (cc : Cell) (j : Int32) (h0 : Heap) (n0 : Nat) (Z0 : n0 ≤ h0.size) (O0 : Old Z n0 h0) (Sca : Sta Z Z.heap q_22 "cache" q_23 (.ref ca)) (BX : Bxs Z ca cc q_17 "J" (256 : Int32) own_val) (Var : Arv Z h0 arr ka (.object q_3) z vs .null) (Vou : Arv Z h0 out ko (.array .long) z us .null) (hsi : ¬ si < 0 ∧ si < z) (hux : us.getD si.toNatClampNeg .null = .ref x) (LAx : own_LA Z h0 x z) (nax : arr ≠ x) (nox : out ≠ x) (hj : ¬ j < 0 ∧ j < z) (hvo : vs.getD j.toNatClampNeg .null = .ref o) (hne : ¬ j = si) (s0 : Exa Z h0 rm q_15) (s1 : Fld Z h0 rm q_15 "self" "I" (.int si)) (s2 : Fld Z h0 rm q_15 "origins" q_20 (.ref arr)) (s3 : Fld Z h0 rm q_15 "reported" "[[J" (.ref out)) (s4 : Exa Z h0 o q_3) (s5 : Fld Z h0 o q_3 "held" "J" (.long (1 : Int64))) (s6 : Fld Z h0 o q_3 "known" "J" (.long (1 : Int64))) (s7 : Fld Z h0 o q_3 "limit" "J" (.long (9223372036854775807 : Int64))) (s8 : Fld Z h0 o q_3 q_18 q_19 (.ref mp)) (s9 : Exa Z h0 mp q_2) (s10 : Fld Z h0 mp q_2 q_12 q_1 (.ref nd0)) (s11 : Fld Z h0 mp q_2 q_13 "I" (.int sz)) (s12 : Fld Z h0 mp q_2 q_14 "I" (.int mc)) (s13 : Fld Z h0 mp q_2 q_10 q_11 .null) (s14 : Exa Z h0 nd0 q_0) (s15 : Fld Z h0 nd0 q_0 q_8 q_4 (.ref (own_bx cc 128))) (s16 : Fld Z h0 nd0 q_0 q_6 q_1 .null) (s17 : Fld Z h0 nd0 q_0 q_9 q_1 .null) (s18 : Fld Z h0 nd0 q_0 q_5 q_1 .null) (s19 : Fld Z h0 nd0 q_0 q_7 "Z" (.int 1)) (g_o : n0 ≤ o) (g_mp : n0 ≤ mp) (g_nd0 : n0 ≤ nd0) (g_x : n0 ≤ x) :
   oM l oY2 p68_4 6 (some .boolean) ws (own_R 7 1 6 170) #[(.ref rm), (.int j), (.long (2 : Int64)), (.ref vx)] Z h0 (Q_recvG1 Z rm arr out o mp x ka ko z si vs us nd0 vx sz mc ca cc j h0 n0) := by
 refine own_open (n0 := n0) (cn := q_15) rfl (plainFor_of_name pn1) (L0 := #[(vR rm), (vI j), (vJ (2 : Int64)), .second, (vR vx), .unset]) ?_
 intro p e s m below meth c s₁ P hx hby hml hown hnm X0 e0 N0 hlk hret hZ hP
 have ne_rm_mp : rm ≠ mp := ne_exa s0 s9 (by decide)
 have ne_rm_nd0 : rm ≠ nd0 := ne_exa s0 s14 (by decide)
 have ne_o_mp : o ≠ mp := ne_exa s4 s9 (by decide)
 have ne_o_nd0 : o ≠ nd0 := ne_exa s4 s14 (by decide)
 have ne_o_x : o ≠ x := fun q => by obtain ⟨_, Ar, -⟩ := LAx; exact ne_arr s4 (tw_33 hw) Ar q
 have ne_mp_out : mp ≠ out := fun q => by obtain ⟨_, Ar, -⟩ := Vou; exact ne_arr s9 (tw_43 hw) Ar q
 have ne_mp_x : mp ≠ x := fun q => by obtain ⟨_, Ar, -⟩ := LAx; exact ne_arr s9 (tw_43 hw) Ar q
 have ne_nd0_out : nd0 ≠ out := fun q => by obtain ⟨_, Ar, -⟩ := Vou; exact ne_arr s14 (tw_135 hw) Ar q
 have ne_nd0_x : nd0 ≠ x := fun q => by obtain ⟨_, Ar, -⟩ := LAx; exact ne_arr s14 (tw_135 hw) Ar q
 show oG p e below P m s₁ 0 #[(vR rm), (vI j), (vJ (2 : Int64)), .second, (vR vx), .unset] []
 refine aA X0 hx hby db_0 rfl rfl ?_
 refine gF X0 hx hby hZ hown (tw_15 hw) Via.refl e0 s2 db_1 ?_
 intro T2 X2 e2
 refine iA X2 hx hby db_4 rfl ?_
 have av3 := Var
 obtain ⟨cl3, Ar3, -, Sz3, Nn3, Ha3, Gf3⟩ := av3
 have hin3 : ¬ (j < 0 ∨ cl3.slots.size ≤ (j).toNatClampNeg) := inb_of Sz3 hj
 have hat3 : cl3.slots[(j).toNatClampNeg]? = some (.ref o) := Ha3.at hin3 hvo
 refine Go.by (X2.aaload hx (j := j) (v := (.ref o)) (by rw [e2]; exact Ar3.1) (State.isArrayOf_alike hZ.alike Ar3.2.1) rfl Ar3.2.2 hin3 hat3 (g := (mkF m 5 #[(vR rm), (vI j), (vJ (2 : Int64)), .second, (vR vx), .unset] [(.int j), (.ref arr)])) rfl rfl (hb hby db_5)) ?_
 show oG p e below P m T2 6 #[(vR rm), (vI j), (vJ (2 : Int64)), .second, (vR vx), .unset] [(.ref o)]
 refine aT X2 hx hby db_6 rfl rfl ?_
 refine iA X2 hx hby db_8 rfl ?_
 refine aA X2 hx hby db_9 rfl rfl ?_
 refine gF X2 hx hby hZ hown (tw_11 hw) Via.refl e2 s1 db_10 ?_
 intro T4 X4 e4
 refine cN X4 hx hby db_13 (XT.ii_eq_f hne) ?_
 refine lA X4 hx hby db_16 rfl ?_
 refine aB X4 hx hby db_17 rfl rfl ?_
 refine gR X4 hx hby hZ hown (tw_79 hw) Via.refl e4 s5 db_19 ?_
 intro T5 X5 e5
 refine lK X5 hx hby db_22 ?_
 refine fN X5 hx hby db_23 (XT.ll_lt_f (by decide : ¬ (2 : Int64) < (1 : Int64))) ?_
 refine aB X5 hx hby db_26 rfl rfl ?_
 refine gR X5 hx hby hZ hown (tw_81 hw) Via.refl e5 s8 db_28 ?_
 intro T6 X6 e6
 refine lA X6 hx hby db_31 rfl ?_
 refine c_stat 1 X6 hx hby hml hZ hown (tw_82 hw) (tw_83 hw) (tw_84 hw) (tw_85 hw) (rm_valueOf2 l Z a0 hw [] ca cc h0 n0 Z0 O0 Sca BX) e6 db_32 [(.long (2 : Int64))] [(.ref mp)] (lenOf pd1 rfl) rfl rfl ?_
 rintro _ T7 Lc7 ⟨rfl, N7q, q7⟩ X7
 have N7 := Fr.app N0 N7q
 refine c_virt 0 X7 hx hby hml hZ hown (tw_155 hw) (tw_156 hw) (tw_158 hw) (tw_157 hw) (tw_159 hw) (tw_44 hw) (rm_hasK_0_2 l Z a0 hw [] mp nd0 (own_bx cc 128) (own_bx cc 130) sz mc h0 n0 Z0 O0 s9 s10 s11 s12 s13 s14 s15 s16 s17 s18 s19 (own_box BX (128 : Int32) ⟨by decide, by decide⟩).2 (own_box BX (130 : Int32) ⟨by decide, by decide⟩).2) q7 s9 db_35 [(.ref (own_bx cc 130))] [] (lenOf pd5 rfl) rfl rfl ?_
 rintro _ T8 Lc8 ⟨rfl, N8q, q8⟩ X8
 have N8 := Fr.app N7 N8q
 refine fY X8 hx hby db_38 (pc' := 43) (XT.i0_eq_t (by decide : (0 : Int32) = (0 : Int32))) ?_
 refine aB X8 hx hby db_43 rfl rfl ?_
 refine gR X8 hx hby hZ hown (tw_81 hw) Via.refl q8 s8 db_45 ?_
 intro T9 X9 e9
 refine lA X9 hx hby db_48 rfl ?_
 refine c_stat 1 X9 hx hby hml hZ hown (tw_82 hw) (tw_83 hw) (tw_84 hw) (tw_85 hw) (rm_valueOf2 l Z a0 hw [] ca cc h0 n0 Z0 O0 Sca BX) e9 db_49 [(.long (2 : Int64))] [(.ref mp)] (lenOf pd1 rfl) rfl rfl ?_
 rintro _ T10 Lc10 ⟨rfl, N10q, q10⟩ X10
 have N10 := Fr.app N8 N10q
 refine aB X10 hx hby db_52 rfl rfl ?_
 refine c_virt 0 X10 hx hby hml hZ hown (tw_90 hw) (tw_91 hw) (tw_93 hw) (tw_92 hw) (tw_94 hw) (tw_44 hw) (rm_put2_02 l Z a0 hw [] mp nd0 (own_bx cc 128) (own_bx cc 130) vx sz mc h0 n0 Z0 O0 s9 s10 s11 s12 s13 s14 s15 s16 s17 s18 s19 g_mp g_nd0 (own_box BX (128 : Int32) ⟨by decide, by decide⟩).2 (own_box BX (130 : Int32) ⟨by decide, by decide⟩).2) q10 s9 db_54 [(.ref (own_bx cc 130)), (.ref vx)] [] (lenOf pd8 rfl) rfl rfl ?_
 rintro _ T11 Lc11 ⟨rfl, N11q, K11, en11, zn11, G11_0, G11_1, G11_2, G11_3, G11_4, G11_5, G11_6, G11_7, G11_8, G11_9, G11_10, G11_11, G11_12, G11_13, G11_14, G11_15, G11_16⟩ X11
 have N11 := Fr.app N10 N11q
 have u11_0 := ninS ne_rm_mp (ninS ne_rm_nd0 nin0)
 have u11_1 := ninS ne_o_mp (ninS ne_o_nd0 nin0)
 have f11_0 := Nat.le_trans Z0 K11.1
 have f11_1 := Keep.trans (Keep.refl h0 [o, mp, nd0, x]) K11 (allS (Or.inl (List.mem_of_getElem? (i := 1) rfl)) (allS (Or.inl (List.mem_of_getElem? (i := 2) rfl)) all0))
 have f11_2 := Old.keep O0 K11 (allS g_mp (allS g_nd0 all0))
 have f11_4 := Fld.keep s1 K11 u11_0
 have f11_6 := Fld.keep s3 K11 u11_0
 have f11_7 := Exa.keep s4 K11
 have f11_8 := Fld.keep s5 K11 u11_1
 have f11_9 := Fld.keep s6 K11 u11_1
 have f11_10 := Fld.keep s7 K11 u11_1
 have f11_11 := Fld.keep s8 K11 u11_1
 have f11_12 := Exa.keep s9 K11
 have f11_13 := Exa.keep s14 K11
 have f11_15 := Arv.keep Vou K11 (ninS (Ne.symm ne_mp_out) (ninS (Ne.symm ne_nd0_out) nin0))
 have f11_16 : own_LA Z T11.heap x z := (own_LA.keep LAx K11)
 have g_en11 : n0 ≤ en11 := Nat.le_trans Z0 zn11
 have sz_en11 : h0.size ≤ en11 := Nat.le_trans (Keep.refl h0 [o, mp, nd0, x]).1 zn11
 have ne_o_en11 : o ≠ en11 := Nat.ne_of_lt (Nat.lt_of_lt_of_le (s4.lt) zn11)
 have ne_x_en11 : x ≠ en11 := Nat.ne_of_lt (Nat.lt_of_lt_of_le ((own_LA.lt LAx)) zn11)
 refine pO X11 hx hby db_57 rfl ?_
 refine aB X11 hx hby db_58 rfl rfl ?_
 refine gR X11 hx hby hZ hown (tw_81 hw) Via.refl rfl f11_11 db_60 ?_
 intro T12 X12 e12
 refine aB X12 hx hby db_63 rfl rfl ?_
 refine gR X12 hx hby hZ hown (tw_79 hw) Via.refl e12 f11_8 db_65 ?_
 intro T13 X13 e13
 refine c_stat 1 X13 hx hby hml hZ hown (tw_82 hw) (tw_83 hw) (tw_84 hw) (tw_85 hw) (rm_valueOf1 l Z a0 hw [] ca cc T11.heap n0 f11_0 f11_2 Sca BX) e13 db_68 [(.long (1 : Int64))] [(.ref mp)] (lenOf pd1 rfl) rfl rfl ?_
 rintro _ T14 Lc14 ⟨rfl, N14q, q14⟩ X14
 have N14 := Fr.app N11 N14q
 refine c_virt 0 X14 hx hby hml hZ hown (tw_155 hw) (tw_156 hw) (tw_158 hw) (tw_157 hw) (tw_159 hw) (tw_44 hw) (rm_hasK_02_1 l Z a0 hw [] mp nd0 en11 (own_bx cc 128) (own_bx cc 130) (own_bx cc 129) (sz + (1 : Int32)) (mc + (1 : Int32)) T11.heap n0 f11_0 f11_2 f11_12 G11_1 G11_2 G11_3 G11_4 f11_13 G11_6 G11_7 G11_8 G11_9 G11_10 G11_11 G11_12 G11_13 G11_14 G11_15 G11_16 (own_box BX (128 : Int32) ⟨by decide, by decide⟩).2 (own_box BX (130 : Int32) ⟨by decide, by decide⟩).2 (own_box BX (129 : Int32) ⟨by decide, by decide⟩).2) q14 f11_12 db_71 [(.ref (own_bx cc 129))] [] (lenOf pd5 rfl) rfl rfl ?_
 rintro _ T15 Lc15 ⟨rfl, N15q, q15⟩ X15
 have N15 := Fr.app N14 N15q
 refine fY X15 hx hby db_74 (pc' := 91) (XT.i0_eq_t (by decide : (0 : Int32) = (0 : Int32))) ?_
 refine aA X15 hx hby db_91 rfl rfl ?_
 refine gF X15 hx hby hZ hown (tw_72 hw) Via.refl q15 f11_6 db_92 ?_
 intro T16 X16 e16
 refine aA X16 hx hby db_95 rfl rfl ?_
 refine gF X16 hx hby hZ hown (tw_11 hw) Via.refl e16 f11_4 db_96 ?_
 intro T17 X17 e17
 have av18 := f11_15
 obtain ⟨cl18, Ar18, -, Sz18, Nn18, Ha18, Gf18⟩ := av18
 have hin18 : ¬ (si < 0 ∨ cl18.slots.size ≤ (si).toNatClampNeg) := inb_of Sz18 hsi
 have hat18 : cl18.slots[(si).toNatClampNeg]? = some (.ref x) := Ha18.at hin18 hux
 refine Go.by (X17.aaload hx (j := si) (v := (.ref x)) (by rw [e17]; exact Ar18.1) (State.isArrayOf_alike hZ.alike Ar18.2.1) rfl Ar18.2.2 hin18 hat18 (g := (mkF m 99 #[(vR rm), (vI j), (vJ (2 : Int64)), .second, (vR vx), (vR o)] [(.int si), (.ref out)])) rfl rfl (hb hby db_99)) ?_
 show oG p e below P m T17 100 #[(vR rm), (vI j), (vJ (2 : Int64)), .second, (vR vx), (vR o)] [(.ref x)]
 refine iA X17 hx hby db_100 rfl ?_
 refine aB X17 hx hby db_101 rfl rfl ?_
 refine gR X17 hx hby hZ hown (tw_79 hw) Via.refl e17 f11_8 db_103 ?_
 intro T19 X19 e19
 have av20 := f11_16
 obtain ⟨cl20, Ar20, Sz20, Nn20⟩ := av20
 have hin20 : ¬ (j < 0 ∨ cl20.slots.size ≤ (j).toNatClampNeg) := inb_of Sz20 hj
 obtain ⟨T21, h21, X21, e21, W21, st21⟩ := stJ X19 hx hZ e19 Ar20 (j := j) hin20 (g := (mkF m 106 #[(vR rm), (vI j), (vJ (2 : Int64)), .second, (vR vx), (vR o)] [(.long (1 : Int64)), (.int j), (.ref x)])) rfl rfl (hb hby db_106)
 have N21 := Fr.snoc X21 N15 g_x
 have f21_0 := Nat.le_trans f11_0 (Keep.of_wr W21).1
 have f21_1 := Keep.wr f11_1 W21 (Or.inl (List.mem_of_getElem? (i := 3) rfl))
 have f21_7 := Exa.wr W21 f11_7
 have f21_8 := Fld.other W21 f11_8 (Or.inl ne_o_x)
 have f21_9 := Fld.other W21 f11_9 (Or.inl ne_o_x)
 have f21_10 := Fld.other W21 f11_10 (Or.inl ne_o_x)
 have f21_11 := Fld.other W21 f11_11 (Or.inl ne_o_x)
 have f21_12 := Exa.wr W21 f11_12
 have f21_13 := Exa.wr W21 f11_13
 have f21_17 := Fld.other W21 G11_1 (Or.inl ne_mp_x)
 have f21_18 := Fld.other W21 G11_2 (Or.inl ne_mp_x)
 have f21_19 := Fld.other W21 G11_3 (Or.inl ne_mp_x)
 have f21_20 := Fld.other W21 G11_4 (Or.inl ne_mp_x)
 have f21_21 := Fld.other W21 G11_6 (Or.inl ne_nd0_x)
 have f21_22 := Fld.other W21 G11_7 (Or.inl ne_nd0_x)
 have f21_23 := Fld.other W21 G11_8 (Or.inl ne_nd0_x)
 have f21_24 := Fld.other W21 G11_9 (Or.inl ne_nd0_x)
 have f21_25 := Fld.other W21 G11_10 (Or.inl ne_nd0_x)
 have f21_26 := Exa.wr W21 G11_11
 have f21_27 := Fld.other W21 G11_12 (Or.inl (Ne.symm ne_x_en11))
 have f21_28 := Fld.other W21 G11_13 (Or.inl (Ne.symm ne_x_en11))
 have f21_29 := Fld.other W21 G11_14 (Or.inl (Ne.symm ne_x_en11))
 have f21_30 := Fld.other W21 G11_15 (Or.inl (Ne.symm ne_x_en11))
 have f21_31 := Fld.other W21 G11_16 (Or.inl (Ne.symm ne_x_en11))
 refine Go.by st21 ?_
 refine aB X21 hx hby db_107 rfl rfl ?_
 refine lA X21 hx hby db_109 rfl ?_
 refine lC X21 hx hby db_110 (v := (1 : Int64)) rfl ?_
 refine lP X21 hx hby db_111 (v := (3 : Int64)) rfl ?_
 obtain ⟨cq22, q22a, q22b⟩ := Exa.cell f21_7
 obtain ⟨_, _, ⟨T22, L22, k22, n22⟩, -, X22, ⟨Lc22, hQ22, l22, y22, z22⟩, st22⟩ := own_privateRef X21 hx hZ (y := oY18) hown (tw_169 hw) (tw_170 hw) (tw_171 hw) (tw_172 hw) (tw_33 hw) (by decide) (backOf (W := 0) (rm_know l Z a0 hw [] o mp (1 : Int64) (1 : Int64) (3 : Int64) h21 n0 f21_0 f21_7 f21_8 f21_9 f21_10 f21_11 g_o (by decide) (by decide)) hZ (tw_172 hw) (tw_34 hw) (by decide) (by decide)) (g := (mkF m 112 #[(vR rm), (vI j), (vJ (2 : Int64)), .second, (vR vx), (vR o)] [(.long (3 : Int64)), (.ref o)])) rfl (by rw [hml]; rfl) (a := o) (by rw [e21]; exact q22a) q22b (argsL := [(.long (3 : Int64))]) (rest := []) (lenOf pd10 rfl) rfl (by show 2 * 0 + _ ≤ _; exact Nat.le_of_eq rfl) (hb hby db_112) (fun _ _ => ⟨rfl, e21, (by decide : 1 + 0 ≤ _), (by decide : 6 + 0 ≤ _)⟩)
 dsimp only [Pt.U, Pt.locs, Pt.cells, Pt.slots] at X22 l22 y22 z22 st22 hQ22
 subst l22 y22 z22
 obtain ⟨rfl, N22q, K22, G22_0, G22_1, G22_2, G22_3, G22_4⟩ := hQ22
 have N22 := Fr.app N21 N22q
 refine Go.by (fun t k => st22.trans k) ?_
 have u22_0 := ninS (Ne.symm ne_o_en11) nin0
 have u22_1 := ninS (Ne.symm ne_o_nd0) nin0
 have u22_2 := ninS (Ne.symm ne_o_mp) nin0
 have f22_1 := Keep.trans f21_1 K22 (allS (Or.inl (List.mem_of_getElem? (i := 0) rfl)) all0)
 have f22_7 := Exa.keep f21_7 K22
 have f22_8 := Exa.keep f21_12 K22
 have f22_9 := Exa.keep f21_13 K22
 have f22_13 := Fld.keep f21_17 K22 u22_2
 have f22_14 := Fld.keep f21_18 K22 u22_2
 have f22_15 := Fld.keep f21_19 K22 u22_2
 have f22_16 := Fld.keep f21_20 K22 u22_2
 have f22_17 := Fld.keep f21_21 K22 u22_1
 have f22_18 := Fld.keep f21_22 K22 u22_1
 have f22_19 := Fld.keep f21_23 K22 u22_1
 have f22_20 := Fld.keep f21_24 K22 u22_1
 have f22_21 := Fld.keep f21_25 K22 u22_1
 have f22_22 := Exa.keep f21_26 K22
 have f22_23 := Fld.keep f21_27 K22 u22_0
 have f22_24 := Fld.keep f21_28 K22 u22_0
 have f22_25 := Fld.keep f21_29 K22 u22_0
 have f22_26 := Fld.keep f21_30 K22 u22_0
 have f22_27 := Fld.keep f21_31 K22 u22_0
 show oG p e below P m T22 115 #[(vR rm), (vI j), (vJ (2 : Int64)), .second, (vR vx), (vR o)] []
 refine iC X22 hx hby db_115 (v := 1) rfl ?_
 refine r_val hP hlk hret X22 hx hby db_116 rfl (Or.inl ⟨rfl, Or.inr (Or.inl rfl), _, rfl⟩) (by decide) ?_
 exact ⟨rfl, N22, f22_1, en11, sz_en11, f22_7, G22_1, G22_2, G22_3, G22_4, f22_8, f22_13, f22_14, f22_15, f22_16, f22_9, f22_17, f22_18, f22_19, f22_20, f22_21, f22_22, f22_23, f22_24, f22_25, f22_26, f22_27⟩
def Q_recvG2 (Z : State) (rm arr out o mp x : Addr) (ka ko : ClassId) (z si : Int32) (vs us : List Value) (nd0 nd1 vx : Addr) (sz mc : Int32) (ca : Addr) (cc : Cell) (j : Int32) (h0 : Heap) (n0 : Nat) (v : Option Value) (h : Heap) (L : List Loc) : Prop := v = some (.int 1) ∧ Fr n0 L ∧ Keep h0 h [o, mp, nd0, nd1, x] ∧ ∃ en, h0.size ≤ en ∧ Exa Z h o q_3 ∧ Fld Z h o q_3 "held" "J" (.long (2 : Int64)) ∧ Fld Z h o q_3 "known" "J" (.long (4 : Int64)) ∧ Fld Z h o q_3 "limit" "J" (.long (9223372036854775807 : Int64)) ∧ Fld Z h o q_3 q_18 q_19 (.ref mp) ∧ Exa Z h mp q_2 ∧ Fld Z h mp q_2 q_12 q_1 (.ref nd1) ∧ Fld Z h mp q_2 q_13 "I" (.int (sz + (1 : Int32))) ∧ Fld Z h mp q_2 q_14 "I" (.int (mc + (1 : Int32))) ∧ Fld Z h mp q_2 q_10 q_11 .null ∧ Exa Z h nd0 q_0 ∧ Fld Z h nd0 q_0 q_8 q_4 (.ref (own_bx cc 128)) ∧ Fld Z h nd0 q_0 q_6 q_1 .null ∧ Fld Z h nd0 q_0 q_9 q_1 .null ∧ Fld Z h nd0 q_0 q_5 q_1 (.ref nd1) ∧ Fld Z h nd0 q_0 q_7 "Z" (.int 0) ∧ Exa Z h nd1 q_0 ∧ Fld Z h nd1 q_0 q_8 q_4 (.ref (own_bx cc 129)) ∧ Fld Z h nd1 q_0 q_6 q_1 (.ref nd0) ∧ Fld Z h nd1 q_0 q_9 q_1 (.ref en) ∧ Fld Z h nd1 q_0 q_5 q_1 .null ∧ Fld Z h nd1 q_0 q_7 "Z" (.int 1) ∧ Exa Z h en q_0 ∧ Fld Z h en q_0 q_8 q_4 (.ref (own_bx cc 131)) ∧ Fld Z h en q_0 q_6 q_1 .null ∧ Fld Z h en q_0 q_9 q_1 .null ∧ Fld Z h en q_0 q_5 q_1 (.ref nd1) ∧ Fld Z h en q_0 q_7 "Z" (.int 0)
theorem rm_recvG2 (l : Launch) (Z : State) (a0 : Array Value) (hw : oW a0 Z) (ws : List Jvm.Cond) (rm arr out o mp x : Addr) (ka ko : ClassId) (z si : Int32) (vs us : List Value) (nd0 nd1 vx : Addr) (sz mc : Int32) (ca : Addr) (cc : Cell) (j : Int32) (h0 : Heap) (n0 : Nat) (Z0 : n0 ≤ h0.size) (O0 : Old Z n0 h0) (Sca : Sta Z Z.heap q_22 "cache" q_23 (.ref ca)) (BX : Bxs Z ca cc q_17 "J" (256 : Int32) own_val) (Var : Arv Z h0 arr ka (.object q_3) z vs .null) (Vou : Arv Z h0 out ko (.array .long) z us .null) (hsi : ¬ si < 0 ∧ si < z) (hux : us.getD si.toNatClampNeg .null = .ref x) (LAx : own_LA Z h0 x z) (nax : arr ≠ x) (nox : out ≠ x) (hj : ¬ j < 0 ∧ j < z) (hvo : vs.getD j.toNatClampNeg .null = .ref o) (hne : ¬ j = si) (s0 : Exa Z h0 rm q_15) (s1 : Fld Z h0 rm q_15 "self" "I" (.int si)) (s2 : Fld Z h0 rm q_15 "origins" q_20 (.ref arr)) (s3 : Fld Z h0 rm q_15 "reported" "[[J" (.ref out)) (s4 : Exa Z h0 o q_3) (s5 : Fld Z h0 o q_3 "held" "J" (.long (2 : Int64))) (s6 : Fld Z h0 o q_3 "known" "J" (.long (2 : Int64))) (s7 : Fld Z h0 o q_3 "limit" "J" (.long (9223372036854775807 : Int64))) (s8 : Fld Z h0 o q_3 q_18 q_19 (.ref mp)) (s9 : Exa Z h0 mp q_2) (s10 : Fld Z h0 mp q_2 q_12 q_1 (.ref nd0)) (s11 : Fld Z h0 mp q_2 q_13 "I" (.int sz)) (s12 : Fld Z h0 mp q_2 q_14 "I" (.int mc)) (s13 : Fld Z h0 mp q_2 q_10 q_11 .null) (s14 : Exa Z h0 nd0 q_0) (s15 : Fld Z h0 nd0 q_0 q_8 q_4 (.ref (own_bx cc 128))) (s16 : Fld Z h0 nd0 q_0 q_6 q_1 .null) (s17 : Fld Z h0 nd0 q_0 q_9 q_1 (.ref nd1)) (s18 : Fld Z h0 nd0 q_0 q_5 q_1 .null) (s19 : Fld Z h0 nd0 q_0 q_7 "Z" (.int 1)) (s20 : Exa Z h0 nd1 q_0) (s21 : Fld Z h0 nd1 q_0 q_8 q_4 (.ref (own_bx cc 129))) (s22 : Fld Z h0 nd1 q_0 q_6 q_1 .null) (s23 : Fld Z h0 nd1 q_0 q_9 q_1 .null) (s24 : Fld Z h0 nd1 q_0 q_5 q_1 (.ref nd0)) (s25 : Fld Z h0 nd1 q_0 q_7 "Z" (.int 0)) (g_o : n0 ≤ o) (g_mp : n0 ≤ mp) (g_nd0 : n0 ≤ nd0) (g_nd1 : n0 ≤ nd1) (g_x : n0 ≤ x) (ne_nd0_nd1 : nd0 ≠ nd1) :
   oM l oY2 p68_4 6 (some .boolean) ws (own_R 7 1 6 170) #[(.ref rm), (.int j), (.long (3 : Int64)), (.ref vx)] Z h0 (Q_recvG2 Z rm arr out o mp x ka ko z si vs us nd0 nd1 vx sz mc ca cc j h0 n0) := by
 refine own_open (n0 := n0) (cn := q_15) rfl (plainFor_of_name pn1) (L0 := #[(vR rm), (vI j), (vJ (3 : Int64)), .second, (vR vx), .unset]) ?_
 intro p e s m below meth c s₁ P hx hby hml hown hnm X0 e0 N0 hlk hret hZ hP
 have ne_rm_mp : rm ≠ mp := ne_exa s0 s9 (by decide)
 have ne_rm_nd0 : rm ≠ nd0 := ne_exa s0 s14 (by decide)
 have ne_rm_nd1 : rm ≠ nd1 := ne_exa s0 s20 (by decide)
 have ne_o_mp : o ≠ mp := ne_exa s4 s9 (by decide)
 have ne_o_nd0 : o ≠ nd0 := ne_exa s4 s14 (by decide)
 have ne_o_nd1 : o ≠ nd1 := ne_exa s4 s20 (by decide)
 have ne_o_x : o ≠ x := fun q => by obtain ⟨_, Ar, -⟩ := LAx; exact ne_arr s4 (tw_33 hw) Ar q
 have ne_mp_out : mp ≠ out := fun q => by obtain ⟨_, Ar, -⟩ := Vou; exact ne_arr s9 (tw_43 hw) Ar q
 have ne_mp_x : mp ≠ x := fun q => by obtain ⟨_, Ar, -⟩ := LAx; exact ne_arr s9 (tw_43 hw) Ar q
 have ne_nd0_out : nd0 ≠ out := fun q => by obtain ⟨_, Ar, -⟩ := Vou; exact ne_arr s14 (tw_135 hw) Ar q
 have ne_nd0_x : nd0 ≠ x := fun q => by obtain ⟨_, Ar, -⟩ := LAx; exact ne_arr s14 (tw_135 hw) Ar q
 have ne_nd1_out : nd1 ≠ out := fun q => by obtain ⟨_, Ar, -⟩ := Vou; exact ne_arr s20 (tw_135 hw) Ar q
 have ne_nd1_x : nd1 ≠ x := fun q => by obtain ⟨_, Ar, -⟩ := LAx; exact ne_arr s20 (tw_135 hw) Ar q
 show oG p e below P m s₁ 0 #[(vR rm), (vI j), (vJ (3 : Int64)), .second, (vR vx), .unset] []
 refine aA X0 hx hby db_0 rfl rfl ?_
 refine gF X0 hx hby hZ hown (tw_15 hw) Via.refl e0 s2 db_1 ?_
 intro T3 X3 e3
 refine iA X3 hx hby db_4 rfl ?_
 have av4 := Var
 obtain ⟨cl4, Ar4, -, Sz4, Nn4, Ha4, Gf4⟩ := av4
 have hin4 : ¬ (j < 0 ∨ cl4.slots.size ≤ (j).toNatClampNeg) := inb_of Sz4 hj
 have hat4 : cl4.slots[(j).toNatClampNeg]? = some (.ref o) := Ha4.at hin4 hvo
 refine Go.by (X3.aaload hx (j := j) (v := (.ref o)) (by rw [e3]; exact Ar4.1) (State.isArrayOf_alike hZ.alike Ar4.2.1) rfl Ar4.2.2 hin4 hat4 (g := (mkF m 5 #[(vR rm), (vI j), (vJ (3 : Int64)), .second, (vR vx), .unset] [(.int j), (.ref arr)])) rfl rfl (hb hby db_5)) ?_
 show oG p e below P m T3 6 #[(vR rm), (vI j), (vJ (3 : Int64)), .second, (vR vx), .unset] [(.ref o)]
 refine aT X3 hx hby db_6 rfl rfl ?_
 refine iA X3 hx hby db_8 rfl ?_
 refine aA X3 hx hby db_9 rfl rfl ?_
 refine gF X3 hx hby hZ hown (tw_11 hw) Via.refl e3 s1 db_10 ?_
 intro T5 X5 e5
 refine cN X5 hx hby db_13 (XT.ii_eq_f hne) ?_
 refine lA X5 hx hby db_16 rfl ?_
 refine aB X5 hx hby db_17 rfl rfl ?_
 refine gR X5 hx hby hZ hown (tw_79 hw) Via.refl e5 s5 db_19 ?_
 intro T6 X6 e6
 refine lK X6 hx hby db_22 ?_
 refine fN X6 hx hby db_23 (XT.ll_lt_f (by decide : ¬ (3 : Int64) < (2 : Int64))) ?_
 refine aB X6 hx hby db_26 rfl rfl ?_
 refine gR X6 hx hby hZ hown (tw_81 hw) Via.refl e6 s8 db_28 ?_
 intro T7 X7 e7
 refine lA X7 hx hby db_31 rfl ?_
 refine c_stat 1 X7 hx hby hml hZ hown (tw_82 hw) (tw_83 hw) (tw_84 hw) (tw_85 hw) (rm_valueOf3 l Z a0 hw [] ca cc h0 n0 Z0 O0 Sca BX) e7 db_32 [(.long (3 : Int64))] [(.ref mp)] (lenOf pd1 rfl) rfl rfl ?_
 rintro _ T8 Lc8 ⟨rfl, N8q, q8⟩ X8
 have N8 := Fr.app N0 N8q
 refine c_virt 0 X8 hx hby hml hZ hown (tw_155 hw) (tw_156 hw) (tw_158 hw) (tw_157 hw) (tw_159 hw) (tw_44 hw) (rm_hasK_01_3 l Z a0 hw [] mp nd0 nd1 (own_bx cc 128) (own_bx cc 129) (own_bx cc 131) sz mc h0 n0 Z0 O0 s9 s10 s11 s12 s13 s14 s15 s16 s17 s18 s19 s20 s21 s22 s23 s24 s25 (own_box BX (128 : Int32) ⟨by decide, by decide⟩).2 (own_box BX (129 : Int32) ⟨by decide, by decide⟩).2 (own_box BX (131 : Int32) ⟨by decide, by decide⟩).2) q8 s9 db_35 [(.ref (own_bx cc 131))] [] (lenOf pd5 rfl) rfl rfl ?_
 rintro _ T9 Lc9 ⟨rfl, N9q, q9⟩ X9
 have N9 := Fr.app N8 N9q
 refine fY X9 hx hby db_38 (pc' := 43) (XT.i0_eq_t (by decide : (0 : Int32) = (0 : Int32))) ?_
 refine aB X9 hx hby db_43 rfl rfl ?_
 refine gR X9 hx hby hZ hown (tw_81 hw) Via.refl q9 s8 db_45 ?_
 intro T10 X10 e10
 refine lA X10 hx hby db_48 rfl ?_
 refine c_stat 1 X10 hx hby hml hZ hown (tw_82 hw) (tw_83 hw) (tw_84 hw) (tw_85 hw) (rm_valueOf3 l Z a0 hw [] ca cc h0 n0 Z0 O0 Sca BX) e10 db_49 [(.long (3 : Int64))] [(.ref mp)] (lenOf pd1 rfl) rfl rfl ?_
 rintro _ T11 Lc11 ⟨rfl, N11q, q11⟩ X11
 have N11 := Fr.app N9 N11q
 refine aB X11 hx hby db_52 rfl rfl ?_
 refine c_virt 0 X11 hx hby hml hZ hown (tw_90 hw) (tw_91 hw) (tw_93 hw) (tw_92 hw) (tw_94 hw) (tw_44 hw) (rm_put2_013 l Z a0 hw [] mp nd0 nd1 (own_bx cc 128) (own_bx cc 129) (own_bx cc 131) vx sz mc h0 n0 Z0 O0 s9 s10 s11 s12 s13 s14 s15 s16 s17 s18 s19 s20 s21 s22 s23 s24 s25 g_mp g_nd0 g_nd1 ne_nd0_nd1 (own_box BX (128 : Int32) ⟨by decide, by decide⟩).2 (own_box BX (129 : Int32) ⟨by decide, by decide⟩).2 (own_box BX (131 : Int32) ⟨by decide, by decide⟩).2) q11 s9 db_54 [(.ref (own_bx cc 131)), (.ref vx)] [] (lenOf pd8 rfl) rfl rfl ?_
 rintro _ T12 Lc12 ⟨rfl, N12q, K12, en12, zn12, G12_0, G12_1, G12_2, G12_3, G12_4, G12_5, G12_6, G12_7, G12_8, G12_9, G12_10, G12_11, G12_12, G12_13, G12_14, G12_15, G12_16, G12_17, G12_18, G12_19, G12_20, G12_21, G12_22⟩ X12
 have N12 := Fr.app N11 N12q
 have u12_0 := ninS ne_rm_mp (ninS ne_rm_nd0 (ninS ne_rm_nd1 nin0))
 have u12_1 := ninS ne_o_mp (ninS ne_o_nd0 (ninS ne_o_nd1 nin0))
 have f12_0 := Nat.le_trans Z0 K12.1
 have f12_1 := Keep.trans (Keep.refl h0 [o, mp, nd0, nd1, x]) K12 (allS (Or.inl (List.mem_of_getElem? (i := 1) rfl)) (allS (Or.inl (List.mem_of_getElem? (i := 2) rfl)) (allS (Or.inl (List.mem_of_getElem? (i := 3) rfl)) all0)))
 have f12_2 := Old.keep O0 K12 (allS g_mp (allS g_nd0 (allS g_nd1 all0)))
 have f12_4 := Fld.keep s1 K12 u12_0
 have f12_6 := Fld.keep s3 K12 u12_0
 have f12_7 := Exa.keep s4 K12
 have f12_8 := Fld.keep s5 K12 u12_1
 have f12_9 := Fld.keep s6 K12 u12_1
 have f12_10 := Fld.keep s7 K12 u12_1
 have f12_11 := Fld.keep s8 K12 u12_1
 have f12_12 := Exa.keep s9 K12
 have f12_13 := Exa.keep s14 K12
 have f12_14 := Exa.keep s20 K12
 have f12_16 := Arv.keep Vou K12 (ninS (Ne.symm ne_mp_out) (ninS (Ne.symm ne_nd0_out) (ninS (Ne.symm ne_nd1_out) nin0)))
 have f12_17 : own_LA Z T12.heap x z := (own_LA.keep LAx K12)
 have g_en12 : n0 ≤ en12 := Nat.le_trans Z0 zn12
 have sz_en12 : h0.size ≤ en12 := Nat.le_trans (Keep.refl h0 [o, mp, nd0, nd1, x]).1 zn12
 have ne_o_en12 : o ≠ en12 := Nat.ne_of_lt (Nat.lt_of_lt_of_le (s4.lt) zn12)
 have ne_x_en12 : x ≠ en12 := Nat.ne_of_lt (Nat.lt_of_lt_of_le ((own_LA.lt LAx)) zn12)
 refine pO X12 hx hby db_57 rfl ?_
 refine aB X12 hx hby db_58 rfl rfl ?_
 refine gR X12 hx hby hZ hown (tw_81 hw) Via.refl rfl f12_11 db_60 ?_
 intro T13 X13 e13
 refine aB X13 hx hby db_63 rfl rfl ?_
 refine gR X13 hx hby hZ hown (tw_79 hw) Via.refl e13 f12_8 db_65 ?_
 intro T14 X14 e14
 refine c_stat 1 X14 hx hby hml hZ hown (tw_82 hw) (tw_83 hw) (tw_84 hw) (tw_85 hw) (rm_valueOf2 l Z a0 hw [] ca cc T12.heap n0 f12_0 f12_2 Sca BX) e14 db_68 [(.long (2 : Int64))] [(.ref mp)] (lenOf pd1 rfl) rfl rfl ?_
 rintro _ T15 Lc15 ⟨rfl, N15q, q15⟩ X15
 have N15 := Fr.app N12 N15q
 refine c_virt 0 X15 hx hby hml hZ hown (tw_155 hw) (tw_156 hw) (tw_158 hw) (tw_157 hw) (tw_159 hw) (tw_44 hw) (rm_hasK_013_2 l Z a0 hw [] mp nd0 nd1 en12 (own_bx cc 128) (own_bx cc 129) (own_bx cc 131) (own_bx cc 130) (sz + (1 : Int32)) (mc + (1 : Int32)) T12.heap n0 f12_0 f12_2 f12_12 G12_1 G12_2 G12_3 G12_4 f12_13 G12_6 G12_7 G12_8 G12_9 G12_10 f12_14 G12_12 G12_13 G12_14 G12_15 G12_16 G12_17 G12_18 G12_19 G12_20 G12_21 G12_22 (own_box BX (128 : Int32) ⟨by decide, by decide⟩).2 (own_box BX (129 : Int32) ⟨by decide, by decide⟩).2 (own_box BX (131 : Int32) ⟨by decide, by decide⟩).2 (own_box BX (130 : Int32) ⟨by decide, by decide⟩).2) q15 f12_12 db_71 [(.ref (own_bx cc 130))] [] (lenOf pd5 rfl) rfl rfl ?_
 rintro _ T16 Lc16 ⟨rfl, N16q, q16⟩ X16
 have N16 := Fr.app N15 N16q
 refine fY X16 hx hby db_74 (pc' := 91) (XT.i0_eq_t (by decide : (0 : Int32) = (0 : Int32))) ?_
 refine aA X16 hx hby db_91 rfl rfl ?_
 refine gF X16 hx hby hZ hown (tw_72 hw) Via.refl q16 f12_6 db_92 ?_
 intro T17 X17 e17
 refine aA X17 hx hby db_95 rfl rfl ?_
 refine gF X17 hx hby hZ hown (tw_11 hw) Via.refl e17 f12_4 db_96 ?_
 intro T18 X18 e18
 have av19 := f12_16
 obtain ⟨cl19, Ar19, -, Sz19, Nn19, Ha19, Gf19⟩ := av19
 have hin19 : ¬ (si < 0 ∨ cl19.slots.size ≤ (si).toNatClampNeg) := inb_of Sz19 hsi
 have hat19 : cl19.slots[(si).toNatClampNeg]? = some (.ref x) := Ha19.at hin19 hux
 refine Go.by (X18.aaload hx (j := si) (v := (.ref x)) (by rw [e18]; exact Ar19.1) (State.isArrayOf_alike hZ.alike Ar19.2.1) rfl Ar19.2.2 hin19 hat19 (g := (mkF m 99 #[(vR rm), (vI j), (vJ (3 : Int64)), .second, (vR vx), (vR o)] [(.int si), (.ref out)])) rfl rfl (hb hby db_99)) ?_
 show oG p e below P m T18 100 #[(vR rm), (vI j), (vJ (3 : Int64)), .second, (vR vx), (vR o)] [(.ref x)]
 refine iA X18 hx hby db_100 rfl ?_
 refine aB X18 hx hby db_101 rfl rfl ?_
 refine gR X18 hx hby hZ hown (tw_79 hw) Via.refl e18 f12_8 db_103 ?_
 intro T20 X20 e20
 have av21 := f12_17
 obtain ⟨cl21, Ar21, Sz21, Nn21⟩ := av21
 have hin21 : ¬ (j < 0 ∨ cl21.slots.size ≤ (j).toNatClampNeg) := inb_of Sz21 hj
 obtain ⟨T22, h22, X22, e22, W22, st22⟩ := stJ X20 hx hZ e20 Ar21 (j := j) hin21 (g := (mkF m 106 #[(vR rm), (vI j), (vJ (3 : Int64)), .second, (vR vx), (vR o)] [(.long (2 : Int64)), (.int j), (.ref x)])) rfl rfl (hb hby db_106)
 have N22 := Fr.snoc X22 N16 g_x
 have f22_0 := Nat.le_trans f12_0 (Keep.of_wr W22).1
 have f22_1 := Keep.wr f12_1 W22 (Or.inl (List.mem_of_getElem? (i := 4) rfl))
 have f22_7 := Exa.wr W22 f12_7
 have f22_8 := Fld.other W22 f12_8 (Or.inl ne_o_x)
 have f22_9 := Fld.other W22 f12_9 (Or.inl ne_o_x)
 have f22_10 := Fld.other W22 f12_10 (Or.inl ne_o_x)
 have f22_11 := Fld.other W22 f12_11 (Or.inl ne_o_x)
 have f22_12 := Exa.wr W22 f12_12
 have f22_13 := Exa.wr W22 f12_13
 have f22_14 := Exa.wr W22 f12_14
 have f22_18 := Fld.other W22 G12_1 (Or.inl ne_mp_x)
 have f22_19 := Fld.other W22 G12_2 (Or.inl ne_mp_x)
 have f22_20 := Fld.other W22 G12_3 (Or.inl ne_mp_x)
 have f22_21 := Fld.other W22 G12_4 (Or.inl ne_mp_x)
 have f22_22 := Fld.other W22 G12_6 (Or.inl ne_nd0_x)
 have f22_23 := Fld.other W22 G12_7 (Or.inl ne_nd0_x)
 have f22_24 := Fld.other W22 G12_8 (Or.inl ne_nd0_x)
 have f22_25 := Fld.other W22 G12_9 (Or.inl ne_nd0_x)
 have f22_26 := Fld.other W22 G12_10 (Or.inl ne_nd0_x)
 have f22_27 := Fld.other W22 G12_12 (Or.inl ne_nd1_x)
 have f22_28 := Fld.other W22 G12_13 (Or.inl ne_nd1_x)
 have f22_29 := Fld.other W22 G12_14 (Or.inl ne_nd1_x)
 have f22_30 := Fld.other W22 G12_15 (Or.inl ne_nd1_x)
 have f22_31 := Fld.other W22 G12_16 (Or.inl ne_nd1_x)
 have f22_32 := Exa.wr W22 G12_17
 have f22_33 := Fld.other W22 G12_18 (Or.inl (Ne.symm ne_x_en12))
 have f22_34 := Fld.other W22 G12_19 (Or.inl (Ne.symm ne_x_en12))
 have f22_35 := Fld.other W22 G12_20 (Or.inl (Ne.symm ne_x_en12))
 have f22_36 := Fld.other W22 G12_21 (Or.inl (Ne.symm ne_x_en12))
 have f22_37 := Fld.other W22 G12_22 (Or.inl (Ne.symm ne_x_en12))
 refine Go.by st22 ?_
 refine aB X22 hx hby db_107 rfl rfl ?_
 refine lA X22 hx hby db_109 rfl ?_
 refine lC X22 hx hby db_110 (v := (1 : Int64)) rfl ?_
 refine lP X22 hx hby db_111 (v := (4 : Int64)) rfl ?_
 obtain ⟨cq23, q23a, q23b⟩ := Exa.cell f22_7
 obtain ⟨_, _, ⟨T23, L23, k23, n23⟩, -, X23, ⟨Lc23, hQ23, l23, y23, z23⟩, st23⟩ := own_privateRef X22 hx hZ (y := oY18) hown (tw_169 hw) (tw_170 hw) (tw_171 hw) (tw_172 hw) (tw_33 hw) (by decide) (backOf (W := 0) (rm_know l Z a0 hw [] o mp (2 : Int64) (2 : Int64) (4 : Int64) h22 n0 f22_0 f22_7 f22_8 f22_9 f22_10 f22_11 g_o (by decide) (by decide)) hZ (tw_172 hw) (tw_34 hw) (by decide) (by decide)) (g := (mkF m 112 #[(vR rm), (vI j), (vJ (3 : Int64)), .second, (vR vx), (vR o)] [(.long (4 : Int64)), (.ref o)])) rfl (by rw [hml]; rfl) (a := o) (by rw [e22]; exact q23a) q23b (argsL := [(.long (4 : Int64))]) (rest := []) (lenOf pd10 rfl) rfl (by show 2 * 0 + _ ≤ _; exact Nat.le_of_eq rfl) (hb hby db_112) (fun _ _ => ⟨rfl, e22, (by decide : 1 + 0 ≤ _), (by decide : 6 + 0 ≤ _)⟩)
 dsimp only [Pt.U, Pt.locs, Pt.cells, Pt.slots] at X23 l23 y23 z23 st23 hQ23
 subst l23 y23 z23
 obtain ⟨rfl, N23q, K23, G23_0, G23_1, G23_2, G23_3, G23_4⟩ := hQ23
 have N23 := Fr.app N22 N23q
 refine Go.by (fun t k => st23.trans k) ?_
 have u23_0 := ninS (Ne.symm ne_o_en12) nin0
 have u23_1 := ninS (Ne.symm ne_o_nd0) nin0
 have u23_2 := ninS (Ne.symm ne_o_nd1) nin0
 have u23_3 := ninS (Ne.symm ne_o_mp) nin0
 have f23_1 := Keep.trans f22_1 K23 (allS (Or.inl (List.mem_of_getElem? (i := 0) rfl)) all0)
 have f23_7 := Exa.keep f22_7 K23
 have f23_8 := Exa.keep f22_12 K23
 have f23_9 := Exa.keep f22_13 K23
 have f23_10 := Exa.keep f22_14 K23
 have f23_14 := Fld.keep f22_18 K23 u23_3
 have f23_15 := Fld.keep f22_19 K23 u23_3
 have f23_16 := Fld.keep f22_20 K23 u23_3
 have f23_17 := Fld.keep f22_21 K23 u23_3
 have f23_18 := Fld.keep f22_22 K23 u23_1
 have f23_19 := Fld.keep f22_23 K23 u23_1
 have f23_20 := Fld.keep f22_24 K23 u23_1
 have f23_21 := Fld.keep f22_25 K23 u23_1
 have f23_22 := Fld.keep f22_26 K23 u23_1
 have f23_23 := Fld.keep f22_27 K23 u23_2
 have f23_24 := Fld.keep f22_28 K23 u23_2
 have f23_25 := Fld.keep f22_29 K23 u23_2
 have f23_26 := Fld.keep f22_30 K23 u23_2
 have f23_27 := Fld.keep f22_31 K23 u23_2
 have f23_28 := Exa.keep f22_32 K23
 have f23_29 := Fld.keep f22_33 K23 u23_0
 have f23_30 := Fld.keep f22_34 K23 u23_0
 have f23_31 := Fld.keep f22_35 K23 u23_0
 have f23_32 := Fld.keep f22_36 K23 u23_0
 have f23_33 := Fld.keep f22_37 K23 u23_0
 show oG p e below P m T23 115 #[(vR rm), (vI j), (vJ (3 : Int64)), .second, (vR vx), (vR o)] []
 refine iC X23 hx hby db_115 (v := 1) rfl ?_
 refine r_val hP hlk hret X23 hx hby db_116 rfl (Or.inl ⟨rfl, Or.inr (Or.inl rfl), _, rfl⟩) (by decide) ?_
 exact ⟨rfl, N23, f23_1, en12, sz_en12, f23_7, G23_1, G23_2, G23_3, G23_4, f23_8, f23_14, f23_15, f23_16, f23_17, f23_9, f23_18, f23_19, f23_20, f23_21, f23_22, f23_10, f23_23, f23_24, f23_25, f23_26, f23_27, f23_28, f23_29, f23_30, f23_31, f23_32, f23_33⟩
def Q_recvG3 (Z : State) (rm arr out o mp x : Addr) (ka ko : ClassId) (z si : Int32) (vs us : List Value) (nd0 nd1 nd2 vx : Addr) (sz mc : Int32) (ca : Addr) (cc : Cell) (j : Int32) (h0 : Heap) (n0 : Nat) (v : Option Value) (h : Heap) (L : List Loc) : Prop := v = some (.int 1) ∧ Fr n0 L ∧ Keep h0 h [o, mp, nd0, nd1, nd2, x] ∧ ∃ en, h0.size ≤ en ∧ Exa Z h o q_3 ∧ Fld Z h o q_3 "held" "J" (.long (3 : Int64)) ∧ Fld Z h o q_3 "known" "J" (.long (5 : Int64)) ∧ Fld Z h o q_3 "limit" "J" (.long (9223372036854775807 : Int64)) ∧ Fld Z h o q_3 q_18 q_19 (.ref mp) ∧ Exa Z h mp q_2 ∧ Fld Z h mp q_2 q_12 q_1 (.ref nd1) ∧ Fld Z h mp q_2 q_13 "I" (.int (sz + (1 : Int32))) ∧ Fld Z h mp q_2 q_14 "I" (.int (mc + (1 : Int32))) ∧ Fld Z h mp q_2 q_10 q_11 .null ∧ Exa Z h nd0 q_0 ∧ Fld Z h nd0 q_0 q_8 q_4 (.ref (own_bx cc 128)) ∧ Fld Z h nd0 q_0 q_6 q_1 .null ∧ Fld Z h nd0 q_0 q_9 q_1 .null ∧ Fld Z h nd0 q_0 q_5 q_1 (.ref nd1) ∧ Fld Z h nd0 q_0 q_7 "Z" (.int 1) ∧ Exa Z h nd1 q_0 ∧ Fld Z h nd1 q_0 q_8 q_4 (.ref (own_bx cc 129)) ∧ Fld Z h nd1 q_0 q_6 q_1 (.ref nd0) ∧ Fld Z h nd1 q_0 q_9 q_1 (.ref nd2) ∧ Fld Z h nd1 q_0 q_5 q_1 .null ∧ Fld Z h nd1 q_0 q_7 "Z" (.int 1) ∧ Exa Z h nd2 q_0 ∧ Fld Z h nd2 q_0 q_8 q_4 (.ref (own_bx cc 130)) ∧ Fld Z h nd2 q_0 q_6 q_1 .null ∧ Fld Z h nd2 q_0 q_9 q_1 (.ref en) ∧ Fld Z h nd2 q_0 q_5 q_1 (.ref nd1) ∧ Fld Z h nd2 q_0 q_7 "Z" (.int 1) ∧ Exa Z h en q_0 ∧ Fld Z h en q_0 q_8 q_4 (.ref (own_bx cc 132)) ∧ Fld Z h en q_0 q_6 q_1 .null ∧ Fld Z h en q_0 q_9 q_1 .null ∧ Fld Z h en q_0 q_5 q_1 (.ref nd2) ∧ Fld Z h en q_0 q_7 "Z" (.int 0)
theorem rm_recvG3 (l : Launch) (Z : State) (a0 : Array Value) (hw : oW a0 Z) (ws : List Jvm.Cond) (rm arr out o mp x : Addr) (ka ko : ClassId) (z si : Int32) (vs us : List Value) (nd0 nd1 nd2 vx : Addr) (sz mc : Int32) (ca : Addr) (cc : Cell) (j : Int32) (h0 : Heap) (n0 : Nat) (Z0 : n0 ≤ h0.size) (O0 : Old Z n0 h0) (Sca : Sta Z Z.heap q_22 "cache" q_23 (.ref ca)) (BX : Bxs Z ca cc q_17 "J" (256 : Int32) own_val) (Var : Arv Z h0 arr ka (.object q_3) z vs .null) (Vou : Arv Z h0 out ko (.array .long) z us .null) (hsi : ¬ si < 0 ∧ si < z) (hux : us.getD si.toNatClampNeg .null = .ref x) (LAx : own_LA Z h0 x z) (nax : arr ≠ x) (nox : out ≠ x) (hj : ¬ j < 0 ∧ j < z) (hvo : vs.getD j.toNatClampNeg .null = .ref o) (hne : ¬ j = si) (s0 : Exa Z h0 rm q_15) (s1 : Fld Z h0 rm q_15 "self" "I" (.int si)) (s2 : Fld Z h0 rm q_15 "origins" q_20 (.ref arr)) (s3 : Fld Z h0 rm q_15 "reported" "[[J" (.ref out)) (s4 : Exa Z h0 o q_3) (s5 : Fld Z h0 o q_3 "held" "J" (.long (3 : Int64))) (s6 : Fld Z h0 o q_3 "known" "J" (.long (3 : Int64))) (s7 : Fld Z h0 o q_3 "limit" "J" (.long (9223372036854775807 : Int64))) (s8 : Fld Z h0 o q_3 q_18 q_19 (.ref mp)) (s9 : Exa Z h0 mp q_2) (s10 : Fld Z h0 mp q_2 q_12 q_1 (.ref nd1)) (s11 : Fld Z h0 mp q_2 q_13 "I" (.int sz)) (s12 : Fld Z h0 mp q_2 q_14 "I" (.int mc)) (s13 : Fld Z h0 mp q_2 q_10 q_11 .null) (s14 : Exa Z h0 nd0 q_0) (s15 : Fld Z h0 nd0 q_0 q_8 q_4 (.ref (own_bx cc 128))) (s16 : Fld Z h0 nd0 q_0 q_6 q_1 .null) (s17 : Fld Z h0 nd0 q_0 q_9 q_1 .null) (s18 : Fld Z h0 nd0 q_0 q_5 q_1 (.ref nd1)) (s19 : Fld Z h0 nd0 q_0 q_7 "Z" (.int 0)) (s20 : Exa Z h0 nd1 q_0) (s21 : Fld Z h0 nd1 q_0 q_8 q_4 (.ref (own_bx cc 129))) (s22 : Fld Z h0 nd1 q_0 q_6 q_1 (.ref nd0)) (s23 : Fld Z h0 nd1 q_0 q_9 q_1 (.ref nd2)) (s24 : Fld Z h0 nd1 q_0 q_5 q_1 .null) (s25 : Fld Z h0 nd1 q_0 q_7 "Z" (.int 1)) (s26 : Exa Z h0 nd2 q_0) (s27 : Fld Z h0 nd2 q_0 q_8 q_4 (.ref (own_bx cc 130))) (s28 : Fld Z h0 nd2 q_0 q_6 q_1 .null) (s29 : Fld Z h0 nd2 q_0 q_9 q_1 .null) (s30 : Fld Z h0 nd2 q_0 q_5 q_1 (.ref nd1)) (s31 : Fld Z h0 nd2 q_0 q_7 "Z" (.int 0)) (g_o : n0 ≤ o) (g_mp : n0 ≤ mp) (g_nd0 : n0 ≤ nd0) (g_nd1 : n0 ≤ nd1) (g_nd2 : n0 ≤ nd2) (g_x : n0 ≤ x) (ne_nd0_nd1 : nd0 ≠ nd1) (ne_nd0_nd2 : nd0 ≠ nd2) (ne_nd1_nd2 : nd1 ≠ nd2) :
   oM l oY2 p68_4 6 (some .boolean) ws (own_R 7 1 6 170) #[(.ref rm), (.int j), (.long (4 : Int64)), (.ref vx)] Z h0 (Q_recvG3 Z rm arr out o mp x ka ko z si vs us nd0 nd1 nd2 vx sz mc ca cc j h0 n0) := by
 refine own_open (n0 := n0) (cn := q_15) rfl (plainFor_of_name pn1) (L0 := #[(vR rm), (vI j), (vJ (4 : Int64)), .second, (vR vx), .unset]) ?_
 intro p e s m below meth c s₁ P hx hby hml hown hnm X0 e0 N0 hlk hret hZ hP
 have ne_rm_mp : rm ≠ mp := ne_exa s0 s9 (by decide)
 have ne_rm_nd0 : rm ≠ nd0 := ne_exa s0 s14 (by decide)
 have ne_rm_nd1 : rm ≠ nd1 := ne_exa s0 s20 (by decide)
 have ne_rm_nd2 : rm ≠ nd2 := ne_exa s0 s26 (by decide)
 have ne_o_mp : o ≠ mp := ne_exa s4 s9 (by decide)
 have ne_o_nd0 : o ≠ nd0 := ne_exa s4 s14 (by decide)
 have ne_o_nd1 : o ≠ nd1 := ne_exa s4 s20 (by decide)
 have ne_o_nd2 : o ≠ nd2 := ne_exa s4 s26 (by decide)
 have ne_o_x : o ≠ x := fun q => by obtain ⟨_, Ar, -⟩ := LAx; exact ne_arr s4 (tw_33 hw) Ar q
 have ne_mp_out : mp ≠ out := fun q => by obtain ⟨_, Ar, -⟩ := Vou; exact ne_arr s9 (tw_43 hw) Ar q
 have ne_mp_x : mp ≠ x := fun q => by obtain ⟨_, Ar, -⟩ := LAx; exact ne_arr s9 (tw_43 hw) Ar q
 have ne_nd0_out : nd0 ≠ out := fun q => by obtain ⟨_, Ar, -⟩ := Vou; exact ne_arr s14 (tw_135 hw) Ar q
 have ne_nd0_x : nd0 ≠ x := fun q => by obtain ⟨_, Ar, -⟩ := LAx; exact ne_arr s14 (tw_135 hw) Ar q
 have ne_nd1_out : nd1 ≠ out := fun q => by obtain ⟨_, Ar, -⟩ := Vou; exact ne_arr s20 (tw_135 hw) Ar q
 have ne_nd1_x : nd1 ≠ x := fun q => by obtain ⟨_, Ar, -⟩ := LAx; exact ne_arr s20 (tw_135 hw) Ar q
 have ne_nd2_out : nd2 ≠ out := fun q => by obtain ⟨_, Ar, -⟩ := Vou; exact ne_arr s26 (tw_135 hw) Ar q
 have ne_nd2_x : nd2 ≠ x := fun q => by obtain ⟨_, Ar, -⟩ := LAx; exact ne_arr s26 (tw_135 hw) Ar q
 show oG p e below P m s₁ 0 #[(vR rm), (vI j), (vJ (4 : Int64)), .second, (vR vx), .unset] []
 refine aA X0 hx hby db_0 rfl rfl ?_
 refine gF X0 hx hby hZ hown (tw_15 hw) Via.refl e0 s2 db_1 ?_
 intro T4 X4 e4
 refine iA X4 hx hby db_4 rfl ?_
 have av5 := Var
 obtain ⟨cl5, Ar5, -, Sz5, Nn5, Ha5, Gf5⟩ := av5
 have hin5 : ¬ (j < 0 ∨ cl5.slots.size ≤ (j).toNatClampNeg) := inb_of Sz5 hj
 have hat5 : cl5.slots[(j).toNatClampNeg]? = some (.ref o) := Ha5.at hin5 hvo
 refine Go.by (X4.aaload hx (j := j) (v := (.ref o)) (by rw [e4]; exact Ar5.1) (State.isArrayOf_alike hZ.alike Ar5.2.1) rfl Ar5.2.2 hin5 hat5 (g := (mkF m 5 #[(vR rm), (vI j), (vJ (4 : Int64)), .second, (vR vx), .unset] [(.int j), (.ref arr)])) rfl rfl (hb hby db_5)) ?_
 show oG p e below P m T4 6 #[(vR rm), (vI j), (vJ (4 : Int64)), .second, (vR vx), .unset] [(.ref o)]
 refine aT X4 hx hby db_6 rfl rfl ?_
 refine iA X4 hx hby db_8 rfl ?_
 refine aA X4 hx hby db_9 rfl rfl ?_
 refine gF X4 hx hby hZ hown (tw_11 hw) Via.refl e4 s1 db_10 ?_
 intro T6 X6 e6
 refine cN X6 hx hby db_13 (XT.ii_eq_f hne) ?_
 refine lA X6 hx hby db_16 rfl ?_
 refine aB X6 hx hby db_17 rfl rfl ?_
 refine gR X6 hx hby hZ hown (tw_79 hw) Via.refl e6 s5 db_19 ?_
 intro T7 X7 e7
 refine lK X7 hx hby db_22 ?_
 refine fN X7 hx hby db_23 (XT.ll_lt_f (by decide : ¬ (4 : Int64) < (3 : Int64))) ?_
 refine aB X7 hx hby db_26 rfl rfl ?_
 refine gR X7 hx hby hZ hown (tw_81 hw) Via.refl e7 s8 db_28 ?_
 intro T8 X8 e8
 refine lA X8 hx hby db_31 rfl ?_
 refine c_stat 1 X8 hx hby hml hZ hown (tw_82 hw) (tw_83 hw) (tw_84 hw) (tw_85 hw) (rm_valueOf4 l Z a0 hw [] ca cc h0 n0 Z0 O0 Sca BX) e8 db_32 [(.long (4 : Int64))] [(.ref mp)] (lenOf pd1 rfl) rfl rfl ?_
 rintro _ T9 Lc9 ⟨rfl, N9q, q9⟩ X9
 have N9 := Fr.app N0 N9q
 refine c_virt 0 X9 hx hby hml hZ hown (tw_155 hw) (tw_156 hw) (tw_158 hw) (tw_157 hw) (tw_159 hw) (tw_44 hw) (rm_hasK_012_4 l Z a0 hw [] mp nd0 nd1 nd2 (own_bx cc 128) (own_bx cc 129) (own_bx cc 130) (own_bx cc 132) sz mc h0 n0 Z0 O0 s9 s10 s11 s12 s13 s14 s15 s16 s17 s18 s19 s20 s21 s22 s23 s24 s25 s26 s27 s28 s29 s30 s31 (own_box BX (128 : Int32) ⟨by decide, by decide⟩).2 (own_box BX (129 : Int32) ⟨by decide, by decide⟩).2 (own_box BX (130 : Int32) ⟨by decide, by decide⟩).2 (own_box BX (132 : Int32) ⟨by decide, by decide⟩).2) q9 s9 db_35 [(.ref (own_bx cc 132))] [] (lenOf pd5 rfl) rfl rfl ?_
 rintro _ T10 Lc10 ⟨rfl, N10q, q10⟩ X10
 have N10 := Fr.app N9 N10q
 refine fY X10 hx hby db_38 (pc' := 43) (XT.i0_eq_t (by decide : (0 : Int32) = (0 : Int32))) ?_
 refine aB X10 hx hby db_43 rfl rfl ?_
 refine gR X10 hx hby hZ hown (tw_81 hw) Via.refl q10 s8 db_45 ?_
 intro T11 X11 e11
 refine lA X11 hx hby db_48 rfl ?_
 refine c_stat 1 X11 hx hby hml hZ hown (tw_82 hw) (tw_83 hw) (tw_84 hw) (tw_85 hw) (rm_valueOf4 l Z a0 hw [] ca cc h0 n0 Z0 O0 Sca BX) e11 db_49 [(.long (4 : Int64))] [(.ref mp)] (lenOf pd1 rfl) rfl rfl ?_
 rintro _ T12 Lc12 ⟨rfl, N12q, q12⟩ X12
 have N12 := Fr.app N10 N12q
 refine aB X12 hx hby db_52 rfl rfl ?_
 refine c_virt 0 X12 hx hby hml hZ hown (tw_90 hw) (tw_91 hw) (tw_93 hw) (tw_92 hw) (tw_94 hw) (tw_44 hw) (rm_put2_0124 l Z a0 hw [] mp nd0 nd1 nd2 (own_bx cc 128) (own_bx cc 129) (own_bx cc 130) (own_bx cc 132) vx sz mc h0 n0 Z0 O0 s9 s10 s11 s12 s13 s14 s15 s16 s17 s18 s19 s20 s21 s22 s23 s24 s25 s26 s27 s28 s29 s30 s31 g_mp g_nd0 g_nd1 g_nd2 ne_nd0_nd1 ne_nd0_nd2 ne_nd1_nd2 (own_box BX (128 : Int32) ⟨by decide, by decide⟩).2 (own_box BX (129 : Int32) ⟨by decide, by decide⟩).2 (own_box BX (130 : Int32) ⟨by decide, by decide⟩).2 (own_box BX (132 : Int32) ⟨by decide, by decide⟩).2) q12 s9 db_54 [(.ref (own_bx cc 132)), (.ref vx)] [] (lenOf pd8 rfl) rfl rfl ?_
 rintro _ T13 Lc13 ⟨rfl, N13q, K13, en13, zn13, G13_0, G13_1, G13_2, G13_3, G13_4, G13_5, G13_6, G13_7, G13_8, G13_9, G13_10, G13_11, G13_12, G13_13, G13_14, G13_15, G13_16, G13_17, G13_18, G13_19, G13_20, G13_21, G13_22, G13_23, G13_24, G13_25, G13_26, G13_27, G13_28⟩ X13
 have N13 := Fr.app N12 N13q
 have u13_0 := ninS ne_rm_mp (ninS ne_rm_nd0 (ninS ne_rm_nd1 (ninS ne_rm_nd2 nin0)))
 have u13_1 := ninS ne_o_mp (ninS ne_o_nd0 (ninS ne_o_nd1 (ninS ne_o_nd2 nin0)))
 have f13_0 := Nat.le_trans Z0 K13.1
 have f13_1 := Keep.trans (Keep.refl h0 [o, mp, nd0, nd1, nd2, x]) K13 (allS (Or.inl (List.mem_of_getElem? (i := 1) rfl)) (allS (Or.inl (List.mem_of_getElem? (i := 2) rfl)) (allS (Or.inl (List.mem_of_getElem? (i := 3) rfl)) (allS (Or.inl (List.mem_of_getElem? (i := 4) rfl)) all0))))
 have f13_2 := Old.keep O0 K13 (allS g_mp (allS g_nd0 (allS g_nd1 (allS g_nd2 all0))))
 have f13_4 := Fld.keep s1 K13 u13_0
 have f13_6 := Fld.keep s3 K13 u13_0
 have f13_7 := Exa.keep s4 K13
 have f13_8 := Fld.keep s5 K13 u13_1
 have f13_9 := Fld.keep s6 K13 u13_1
 have f13_10 := Fld.keep s7 K13 u13_1
 have f13_11 := Fld.keep s8 K13 u13_1
 have f13_12 := Exa.keep s9 K13
 have f13_13 := Exa.keep s14 K13
 have f13_14 := Exa.keep s20 K13
 have f13_15 := Exa.keep s26 K13
 have f13_17 := Arv.keep Vou K13 (ninS (Ne.symm ne_mp_out) (ninS (Ne.symm ne_nd0_out) (ninS (Ne.symm ne_nd1_out) (ninS (Ne.symm ne_nd2_out) nin0))))
 have f13_18 : own_LA Z T13.heap x z := (own_LA.keep LAx K13)
 have g_en13 : n0 ≤ en13 := Nat.le_trans Z0 zn13
 have sz_en13 : h0.size ≤ en13 := Nat.le_trans (Keep.refl h0 [o, mp, nd0, nd1, nd2, x]).1 zn13
 have ne_o_en13 : o ≠ en13 := Nat.ne_of_lt (Nat.lt_of_lt_of_le (s4.lt) zn13)
 have ne_x_en13 : x ≠ en13 := Nat.ne_of_lt (Nat.lt_of_lt_of_le ((own_LA.lt LAx)) zn13)
 refine pO X13 hx hby db_57 rfl ?_
 refine aB X13 hx hby db_58 rfl rfl ?_
 refine gR X13 hx hby hZ hown (tw_81 hw) Via.refl rfl f13_11 db_60 ?_
 intro T14 X14 e14
 refine aB X14 hx hby db_63 rfl rfl ?_
 refine gR X14 hx hby hZ hown (tw_79 hw) Via.refl e14 f13_8 db_65 ?_
 intro T15 X15 e15
 refine c_stat 1 X15 hx hby hml hZ hown (tw_82 hw) (tw_83 hw) (tw_84 hw) (tw_85 hw) (rm_valueOf3 l Z a0 hw [] ca cc T13.heap n0 f13_0 f13_2 Sca BX) e15 db_68 [(.long (3 : Int64))] [(.ref mp)] (lenOf pd1 rfl) rfl rfl ?_
 rintro _ T16 Lc16 ⟨rfl, N16q, q16⟩ X16
 have N16 := Fr.app N13 N16q
 refine c_virt 0 X16 hx hby hml hZ hown (tw_155 hw) (tw_156 hw) (tw_158 hw) (tw_157 hw) (tw_159 hw) (tw_44 hw) (rm_hasK_0124_3 l Z a0 hw [] mp nd0 nd1 nd2 en13 (own_bx cc 128) (own_bx cc 129) (own_bx cc 130) (own_bx cc 132) (own_bx cc 131) (sz + (1 : Int32)) (mc + (1 : Int32)) T13.heap n0 f13_0 f13_2 f13_12 G13_1 G13_2 G13_3 G13_4 f13_13 G13_6 G13_7 G13_8 G13_9 G13_10 f13_14 G13_12 G13_13 G13_14 G13_15 G13_16 f13_15 G13_18 G13_19 G13_20 G13_21 G13_22 G13_23 G13_24 G13_25 G13_26 G13_27 G13_28 (own_box BX (128 : Int32) ⟨by decide, by decide⟩).2 (own_box BX (129 : Int32) ⟨by decide, by decide⟩).2 (own_box BX (130 : Int32) ⟨by decide, by decide⟩).2 (own_box BX (132 : Int32) ⟨by decide, by decide⟩).2 (own_box BX (131 : Int32) ⟨by decide, by decide⟩).2) q16 f13_12 db_71 [(.ref (own_bx cc 131))] [] (lenOf pd5 rfl) rfl rfl ?_
 rintro _ T17 Lc17 ⟨rfl, N17q, q17⟩ X17
 have N17 := Fr.app N16 N17q
 refine fY X17 hx hby db_74 (pc' := 91) (XT.i0_eq_t (by decide : (0 : Int32) = (0 : Int32))) ?_
 refine aA X17 hx hby db_91 rfl rfl ?_
 refine gF X17 hx hby hZ hown (tw_72 hw) Via.refl q17 f13_6 db_92 ?_
 intro T18 X18 e18
 refine aA X18 hx hby db_95 rfl rfl ?_
 refine gF X18 hx hby hZ hown (tw_11 hw) Via.refl e18 f13_4 db_96 ?_
 intro T19 X19 e19
 have av20 := f13_17
 obtain ⟨cl20, Ar20, -, Sz20, Nn20, Ha20, Gf20⟩ := av20
 have hin20 : ¬ (si < 0 ∨ cl20.slots.size ≤ (si).toNatClampNeg) := inb_of Sz20 hsi
 have hat20 : cl20.slots[(si).toNatClampNeg]? = some (.ref x) := Ha20.at hin20 hux
 refine Go.by (X19.aaload hx (j := si) (v := (.ref x)) (by rw [e19]; exact Ar20.1) (State.isArrayOf_alike hZ.alike Ar20.2.1) rfl Ar20.2.2 hin20 hat20 (g := (mkF m 99 #[(vR rm), (vI j), (vJ (4 : Int64)), .second, (vR vx), (vR o)] [(.int si), (.ref out)])) rfl rfl (hb hby db_99)) ?_
 show oG p e below P m T19 100 #[(vR rm), (vI j), (vJ (4 : Int64)), .second, (vR vx), (vR o)] [(.ref x)]
 refine iA X19 hx hby db_100 rfl ?_
 refine aB X19 hx hby db_101 rfl rfl ?_
 refine gR X19 hx hby hZ hown (tw_79 hw) Via.refl e19 f13_8 db_103 ?_
 intro T21 X21 e21
 have av22 := f13_18
 obtain ⟨cl22, Ar22, Sz22, Nn22⟩ := av22
 have hin22 : ¬ (j < 0 ∨ cl22.slots.size ≤ (j).toNatClampNeg) := inb_of Sz22 hj
 obtain ⟨T23, h23, X23, e23, W23, st23⟩ := stJ X21 hx hZ e21 Ar22 (j := j) hin22 (g := (mkF m 106 #[(vR rm), (vI j), (vJ (4 : Int64)), .second, (vR vx), (vR o)] [(.long (3 : Int64)), (.int j), (.ref x)])) rfl rfl (hb hby db_106)
 have N23 := Fr.snoc X23 N17 g_x
 have f23_0 := Nat.le_trans f13_0 (Keep.of_wr W23).1
 have f23_1 := Keep.wr f13_1 W23 (Or.inl (List.mem_of_getElem? (i := 5) rfl))
 have f23_7 := Exa.wr W23 f13_7
 have f23_8 := Fld.other W23 f13_8 (Or.inl ne_o_x)
 have f23_9 := Fld.other W23 f13_9 (Or.inl ne_o_x)
 have f23_10 := Fld.other W23 f13_10 (Or.inl ne_o_x)
 have f23_11 := Fld.other W23 f13_11 (Or.inl ne_o_x)
 have f23_12 := Exa.wr W23 f13_12
 have f23_13 := Exa.wr W23 f13_13
 have f23_14 := Exa.wr W23 f13_14
 have f23_15 := Exa.wr W23 f13_15
 have f23_19 := Fld.other W23 G13_1 (Or.inl ne_mp_x)
 have f23_20 := Fld.other W23 G13_2 (Or.inl ne_mp_x)
 have f23_21 := Fld.other W23 G13_3 (Or.inl ne_mp_x)
 have f23_22 := Fld.other W23 G13_4 (Or.inl ne_mp_x)
 have f23_23 := Fld.other W23 G13_6 (Or.inl ne_nd0_x)
 have f23_24 := Fld.other W23 G13_7 (Or.inl ne_nd0_x)
 have f23_25 := Fld.other W23 G13_8 (Or.inl ne_nd0_x)
 have f23_26 := Fld.other W23 G13_9 (Or.inl ne_nd0_x)
 have f23_27 := Fld.other W23 G13_10 (Or.inl ne_nd0_x)
 have f23_28 := Fld.other W23 G13_12 (Or.inl ne_nd1_x)
 have f23_29 := Fld.other W23 G13_13 (Or.inl ne_nd1_x)
 have f23_30 := Fld.other W23 G13_14 (Or.inl ne_nd1_x)
 have f23_31 := Fld.other W23 G13_15 (Or.inl ne_nd1_x)
 have f23_32 := Fld.other W23 G13_16 (Or.inl ne_nd1_x)
 have f23_33 := Fld.other W23 G13_18 (Or.inl ne_nd2_x)
 have f23_34 := Fld.other W23 G13_19 (Or.inl ne_nd2_x)
 have f23_35 := Fld.other W23 G13_20 (Or.inl ne_nd2_x)
 have f23_36 := Fld.other W23 G13_21 (Or.inl ne_nd2_x)
 have f23_37 := Fld.other W23 G13_22 (Or.inl ne_nd2_x)
 have f23_38 := Exa.wr W23 G13_23
 have f23_39 := Fld.other W23 G13_24 (Or.inl (Ne.symm ne_x_en13))
 have f23_40 := Fld.other W23 G13_25 (Or.inl (Ne.symm ne_x_en13))
 have f23_41 := Fld.other W23 G13_26 (Or.inl (Ne.symm ne_x_en13))
 have f23_42 := Fld.other W23 G13_27 (Or.inl (Ne.symm ne_x_en13))
 have f23_43 := Fld.other W23 G13_28 (Or.inl (Ne.symm ne_x_en13))
 refine Go.by st23 ?_
 refine aB X23 hx hby db_107 rfl rfl ?_
 refine lA X23 hx hby db_109 rfl ?_
 refine lC X23 hx hby db_110 (v := (1 : Int64)) rfl ?_
 refine lP X23 hx hby db_111 (v := (5 : Int64)) rfl ?_
 obtain ⟨cq24, q24a, q24b⟩ := Exa.cell f23_7
 obtain ⟨_, _, ⟨T24, L24, k24, n24⟩, -, X24, ⟨Lc24, hQ24, l24, y24, z24⟩, st24⟩ := own_privateRef X23 hx hZ (y := oY18) hown (tw_169 hw) (tw_170 hw) (tw_171 hw) (tw_172 hw) (tw_33 hw) (by decide) (backOf (W := 0) (rm_know l Z a0 hw [] o mp (3 : Int64) (3 : Int64) (5 : Int64) h23 n0 f23_0 f23_7 f23_8 f23_9 f23_10 f23_11 g_o (by decide) (by decide)) hZ (tw_172 hw) (tw_34 hw) (by decide) (by decide)) (g := (mkF m 112 #[(vR rm), (vI j), (vJ (4 : Int64)), .second, (vR vx), (vR o)] [(.long (5 : Int64)), (.ref o)])) rfl (by rw [hml]; rfl) (a := o) (by rw [e23]; exact q24a) q24b (argsL := [(.long (5 : Int64))]) (rest := []) (lenOf pd10 rfl) rfl (by show 2 * 0 + _ ≤ _; exact Nat.le_of_eq rfl) (hb hby db_112) (fun _ _ => ⟨rfl, e23, (by decide : 1 + 0 ≤ _), (by decide : 6 + 0 ≤ _)⟩)
 dsimp only [Pt.U, Pt.locs, Pt.cells, Pt.slots] at X24 l24 y24 z24 st24 hQ24
 subst l24 y24 z24
 obtain ⟨rfl, N24q, K24, G24_0, G24_1, G24_2, G24_3, G24_4⟩ := hQ24
 have N24 := Fr.app N23 N24q
 refine Go.by (fun t k => st24.trans k) ?_
 have u24_0 := ninS (Ne.symm ne_o_en13) nin0
 have u24_1 := ninS (Ne.symm ne_o_nd0) nin0
 have u24_2 := ninS (Ne.symm ne_o_nd1) nin0
 have u24_3 := ninS (Ne.symm ne_o_nd2) nin0
 have u24_4 := ninS (Ne.symm ne_o_mp) nin0
 have f24_1 := Keep.trans f23_1 K24 (allS (Or.inl (List.mem_of_getElem? (i := 0) rfl)) all0)
 have f24_7 := Exa.keep f23_7 K24
 have f24_8 := Exa.keep f23_12 K24
 have f24_9 := Exa.keep f23_13 K24
 have f24_10 := Exa.keep f23_14 K24
 have f24_11 := Exa.keep f23_15 K24
 have f24_15 := Fld.keep f23_19 K24 u24_4
 have f24_16 := Fld.keep f23_20 K24 u24_4
 have f24_17 := Fld.keep f23_21 K24 u24_4
 have f24_18 := Fld.keep f23_22 K24 u24_4
 have f24_19 := Fld.keep f23_23 K24 u24_1
 have f24_20 := Fld.keep f23_24 K24 u24_1
 have f24_21 := Fld.keep f23_25 K24 u24_1
 have f24_22 := Fld.keep f23_26 K24 u24_1
 have f24_23 := Fld.keep f23_27 K24 u24_1
 have f24_24 := Fld.keep f23_28 K24 u24_2
 have f24_25 := Fld.keep f23_29 K24 u24_2
 have f24_26 := Fld.keep f23_30 K24 u24_2
 have f24_27 := Fld.keep f23_31 K24 u24_2
 have f24_28 := Fld.keep f23_32 K24 u24_2
 have f24_29 := Fld.keep f23_33 K24 u24_3
 have f24_30 := Fld.keep f23_34 K24 u24_3
 have f24_31 := Fld.keep f23_35 K24 u24_3
 have f24_32 := Fld.keep f23_36 K24 u24_3
 have f24_33 := Fld.keep f23_37 K24 u24_3
 have f24_34 := Exa.keep f23_38 K24
 have f24_35 := Fld.keep f23_39 K24 u24_0
 have f24_36 := Fld.keep f23_40 K24 u24_0
 have f24_37 := Fld.keep f23_41 K24 u24_0
 have f24_38 := Fld.keep f23_42 K24 u24_0
 have f24_39 := Fld.keep f23_43 K24 u24_0
 show oG p e below P m T24 115 #[(vR rm), (vI j), (vJ (4 : Int64)), .second, (vR vx), (vR o)] []
 refine iC X24 hx hby db_115 (v := 1) rfl ?_
 refine r_val hP hlk hret X24 hx hby db_116 rfl (Or.inl ⟨rfl, Or.inr (Or.inl rfl), _, rfl⟩) (by decide) ?_
 exact ⟨rfl, N24, f24_1, en13, sz_en13, f24_7, G24_1, G24_2, G24_3, G24_4, f24_8, f24_15, f24_16, f24_17, f24_18, f24_9, f24_19, f24_20, f24_21, f24_22, f24_23, f24_10, f24_24, f24_25, f24_26, f24_27, f24_28, f24_11, f24_29, f24_30, f24_31, f24_32, f24_33, f24_34, f24_35, f24_36, f24_37, f24_38, f24_39⟩
def Q_plaus0 (Z : State) (rm arr o : Addr) (ka : ClassId) (z : Int32) (vs : List Value) (j : Int32) (q : Int64) (h0 : Heap) (n0 : Nat) (v : Option Value) (h : Heap) (L : List Loc) : Prop := v = some (.int (if q < (256 : Int64) then (1 : Int32) else 0)) ∧ Fr n0 L ∧ h = h0
theorem rm_plaus0 (l : Launch) (Z : State) (a0 : Array Value) (hw : oW a0 Z) (ws : List Jvm.Cond) (rm arr o : Addr) (ka : ClassId) (z : Int32) (vs : List Value) (j : Int32) (q : Int64) (h0 : Heap) (n0 : Nat) (Z0 : n0 ≤ h0.size) (For : Fld Z h0 rm q_15 "origins" q_20 (.ref arr)) (Var : Arv Z h0 arr ka (.object q_3) z vs .null) (hj : ¬ j < 0 ∧ j < z) (hvo : vs.getD j.toNatClampNeg .null = .ref o) (Fh : Fld Z h0 o q_3 "held" "J" (.long (0 : Int64))) :
   oM l oY3 p68_5 4 (some .boolean) ws (own_R 0 0 0 0) #[(.ref rm), (.int j), (.long q)] Z h0 (Q_plaus0 Z rm arr o ka z vs j q h0 n0) := by
 refine own_open (n0 := n0) (cn := q_15) rfl (plainFor_of_name pn1) (L0 := #[(vR rm), (vI j), (vJ q), .second]) ?_
 intro p e s m below meth c s₁ P hx hby hml hown hnm X0 e0 N0 hlk hret hZ hP
 refine lA X0 hx hby dj_0 rfl ?_
 refine aA X0 hx hby dj_1 rfl rfl ?_
 refine gF X0 hx hby hZ hown (tw_15 hw) Via.refl e0 For dj_2 ?_
 intro T11 X11 e11
 show oG p e below P m T11 5 #[(vR rm), (vI j), (vJ q), .second] [(.ref arr), (.long q)]
 refine iA X11 hx hby dj_5 rfl ?_
 have av12 := Var
 obtain ⟨cl12, Ar12, -, Sz12, Nn12, Ha12, Gf12⟩ := av12
 have hin12 : ¬ (j < 0 ∨ cl12.slots.size ≤ (j).toNatClampNeg) := inb_of Sz12 hj
 have hat12 : cl12.slots[(j).toNatClampNeg]? = some (.ref o) := Ha12.at hin12 hvo
 refine Go.by (X11.aaload hx (j := j) (v := (.ref o)) (by rw [e11]; exact Ar12.1) (State.isArrayOf_alike hZ.alike Ar12.2.1) rfl Ar12.2.2 hin12 hat12 (g := (mkF m 6 #[(vR rm), (vI j), (vJ q), .second] [(.int j), (.ref arr), (.long q)])) rfl rfl (hb hby dj_6)) ?_
 show oG p e below P m T11 7 #[(vR rm), (vI j), (vJ q), .second] [(.ref o), (.long q)]
 refine gR X11 hx hby hZ hown (tw_79 hw) Via.refl e11 Fh dj_7 ?_
 intro T13 X13 e13
 show oG p e below P m T13 10 #[(vR rm), (vI j), (vJ q), .second] [(.long (0 : Int64)), (.long q)]
 refine lD X13 hx hby hown hZ (tw_188 hw) dj_10 (v' := (256 : Int64)) rfl ?_
 refine lP X13 hx hby dj_13 (v := (256 : Int64)) rfl ?_
 refine lK X13 hx hby dj_14 ?_
 by_cases hc15_14 : q < (256 : Int64)
 · refine fN X13 hx hby dj_15 (XT.ll_ge_f hc15_14) ?_
   refine iC X13 hx hby dj_18 (v := 1) rfl ?_
   refine gO X13 hx hby dj_19 (pc' := 23) ?_
   refine r_val hP hlk hret X13 hx hby dj_23 rfl (Or.inl ⟨rfl, Or.inr (Or.inl rfl), _, rfl⟩) (by decide) ?_
   rw [e13]
   exact ⟨by rw [if_pos hc15_14], N0, rfl⟩
 · refine fY X13 hx hby dj_15 (pc' := 22) (XT.ll_ge_t hc15_14) ?_
   refine iC X13 hx hby dj_22 (v := 0) rfl ?_
   refine r_val hP hlk hret X13 hx hby dj_23 rfl (Or.inl ⟨rfl, Or.inr (Or.inl rfl), _, rfl⟩) (by decide) ?_
   rw [e13]
   exact ⟨by rw [if_neg hc15_14], N0, rfl⟩
def Q_plaus1 (Z : State) (rm arr o : Addr) (ka : ClassId) (z : Int32) (vs : List Value) (j : Int32) (q : Int64) (h0 : Heap) (n0 : Nat) (v : Option Value) (h : Heap) (L : List Loc) : Prop := v = some (.int (if q < (257 : Int64) then (1 : Int32) else 0)) ∧ Fr n0 L ∧ h = h0
theorem rm_plaus1 (l : Launch) (Z : State) (a0 : Array Value) (hw : oW a0 Z) (ws : List Jvm.Cond) (rm arr o : Addr) (ka : ClassId) (z : Int32) (vs : List Value) (j : Int32) (q : Int64) (h0 : Heap) (n0 : Nat) (Z0 : n0 ≤ h0.size) (For : Fld Z h0 rm q_15 "origins" q_20 (.ref arr)) (Var : Arv Z h0 arr ka (.object q_3) z vs .null) (hj : ¬ j < 0 ∧ j < z) (hvo : vs.getD j.toNatClampNeg .null = .ref o) (Fh : Fld Z h0 o q_3 "held" "J" (.long (1 : Int64))) :
   oM l oY3 p68_5 4 (some .boolean) ws (own_R 0 0 0 0) #[(.ref rm), (.int j), (.long q)] Z h0 (Q_plaus1 Z rm arr o ka z vs j q h0 n0) := by
 refine own_open (n0 := n0) (cn := q_15) rfl (plainFor_of_name pn1) (L0 := #[(vR rm), (vI j), (vJ q), .second]) ?_
 intro p e s m below meth c s₁ P hx hby hml hown hnm X0 e0 N0 hlk hret hZ hP
 refine lA X0 hx hby dj_0 rfl ?_
 refine aA X0 hx hby dj_1 rfl rfl ?_
 refine gF X0 hx hby hZ hown (tw_15 hw) Via.refl e0 For dj_2 ?_
 intro T11 X11 e11
 show oG p e below P m T11 5 #[(vR rm), (vI j), (vJ q), .second] [(.ref arr), (.long q)]
 refine iA X11 hx hby dj_5 rfl ?_
 have av12 := Var
 obtain ⟨cl12, Ar12, -, Sz12, Nn12, Ha12, Gf12⟩ := av12
 have hin12 : ¬ (j < 0 ∨ cl12.slots.size ≤ (j).toNatClampNeg) := inb_of Sz12 hj
 have hat12 : cl12.slots[(j).toNatClampNeg]? = some (.ref o) := Ha12.at hin12 hvo
 refine Go.by (X11.aaload hx (j := j) (v := (.ref o)) (by rw [e11]; exact Ar12.1) (State.isArrayOf_alike hZ.alike Ar12.2.1) rfl Ar12.2.2 hin12 hat12 (g := (mkF m 6 #[(vR rm), (vI j), (vJ q), .second] [(.int j), (.ref arr), (.long q)])) rfl rfl (hb hby dj_6)) ?_
 show oG p e below P m T11 7 #[(vR rm), (vI j), (vJ q), .second] [(.ref o), (.long q)]
 refine gR X11 hx hby hZ hown (tw_79 hw) Via.refl e11 Fh dj_7 ?_
 intro T13 X13 e13
 show oG p e below P m T13 10 #[(vR rm), (vI j), (vJ q), .second] [(.long (1 : Int64)), (.long q)]
 refine lD X13 hx hby hown hZ (tw_188 hw) dj_10 (v' := (256 : Int64)) rfl ?_
 refine lP X13 hx hby dj_13 (v := (257 : Int64)) rfl ?_
 refine lK X13 hx hby dj_14 ?_
 by_cases hc15_14 : q < (257 : Int64)
 · refine fN X13 hx hby dj_15 (XT.ll_ge_f hc15_14) ?_
   refine iC X13 hx hby dj_18 (v := 1) rfl ?_
   refine gO X13 hx hby dj_19 (pc' := 23) ?_
   refine r_val hP hlk hret X13 hx hby dj_23 rfl (Or.inl ⟨rfl, Or.inr (Or.inl rfl), _, rfl⟩) (by decide) ?_
   rw [e13]
   exact ⟨by rw [if_pos hc15_14], N0, rfl⟩
 · refine fY X13 hx hby dj_15 (pc' := 22) (XT.ll_ge_t hc15_14) ?_
   refine iC X13 hx hby dj_22 (v := 0) rfl ?_
   refine r_val hP hlk hret X13 hx hby dj_23 rfl (Or.inl ⟨rfl, Or.inr (Or.inl rfl), _, rfl⟩) (by decide) ?_
   rw [e13]
   exact ⟨by rw [if_neg hc15_14], N0, rfl⟩
def Q_plaus2 (Z : State) (rm arr o : Addr) (ka : ClassId) (z : Int32) (vs : List Value) (j : Int32) (q : Int64) (h0 : Heap) (n0 : Nat) (v : Option Value) (h : Heap) (L : List Loc) : Prop := v = some (.int (if q < (258 : Int64) then (1 : Int32) else 0)) ∧ Fr n0 L ∧ h = h0
theorem rm_plaus2 (l : Launch) (Z : State) (a0 : Array Value) (hw : oW a0 Z) (ws : List Jvm.Cond) (rm arr o : Addr) (ka : ClassId) (z : Int32) (vs : List Value) (j : Int32) (q : Int64) (h0 : Heap) (n0 : Nat) (Z0 : n0 ≤ h0.size) (For : Fld Z h0 rm q_15 "origins" q_20 (.ref arr)) (Var : Arv Z h0 arr ka (.object q_3) z vs .null) (hj : ¬ j < 0 ∧ j < z) (hvo : vs.getD j.toNatClampNeg .null = .ref o) (Fh : Fld Z h0 o q_3 "held" "J" (.long (2 : Int64))) :
   oM l oY3 p68_5 4 (some .boolean) ws (own_R 0 0 0 0) #[(.ref rm), (.int j), (.long q)] Z h0 (Q_plaus2 Z rm arr o ka z vs j q h0 n0) := by
 refine own_open (n0 := n0) (cn := q_15) rfl (plainFor_of_name pn1) (L0 := #[(vR rm), (vI j), (vJ q), .second]) ?_
 intro p e s m below meth c s₁ P hx hby hml hown hnm X0 e0 N0 hlk hret hZ hP
 refine lA X0 hx hby dj_0 rfl ?_
 refine aA X0 hx hby dj_1 rfl rfl ?_
 refine gF X0 hx hby hZ hown (tw_15 hw) Via.refl e0 For dj_2 ?_
 intro T11 X11 e11
 show oG p e below P m T11 5 #[(vR rm), (vI j), (vJ q), .second] [(.ref arr), (.long q)]
 refine iA X11 hx hby dj_5 rfl ?_
 have av12 := Var
 obtain ⟨cl12, Ar12, -, Sz12, Nn12, Ha12, Gf12⟩ := av12
 have hin12 : ¬ (j < 0 ∨ cl12.slots.size ≤ (j).toNatClampNeg) := inb_of Sz12 hj
 have hat12 : cl12.slots[(j).toNatClampNeg]? = some (.ref o) := Ha12.at hin12 hvo
 refine Go.by (X11.aaload hx (j := j) (v := (.ref o)) (by rw [e11]; exact Ar12.1) (State.isArrayOf_alike hZ.alike Ar12.2.1) rfl Ar12.2.2 hin12 hat12 (g := (mkF m 6 #[(vR rm), (vI j), (vJ q), .second] [(.int j), (.ref arr), (.long q)])) rfl rfl (hb hby dj_6)) ?_
 show oG p e below P m T11 7 #[(vR rm), (vI j), (vJ q), .second] [(.ref o), (.long q)]
 refine gR X11 hx hby hZ hown (tw_79 hw) Via.refl e11 Fh dj_7 ?_
 intro T13 X13 e13
 show oG p e below P m T13 10 #[(vR rm), (vI j), (vJ q), .second] [(.long (2 : Int64)), (.long q)]
 refine lD X13 hx hby hown hZ (tw_188 hw) dj_10 (v' := (256 : Int64)) rfl ?_
 refine lP X13 hx hby dj_13 (v := (258 : Int64)) rfl ?_
 refine lK X13 hx hby dj_14 ?_
 by_cases hc15_14 : q < (258 : Int64)
 · refine fN X13 hx hby dj_15 (XT.ll_ge_f hc15_14) ?_
   refine iC X13 hx hby dj_18 (v := 1) rfl ?_
   refine gO X13 hx hby dj_19 (pc' := 23) ?_
   refine r_val hP hlk hret X13 hx hby dj_23 rfl (Or.inl ⟨rfl, Or.inr (Or.inl rfl), _, rfl⟩) (by decide) ?_
   rw [e13]
   exact ⟨by rw [if_pos hc15_14], N0, rfl⟩
 · refine fY X13 hx hby dj_15 (pc' := 22) (XT.ll_ge_t hc15_14) ?_
   refine iC X13 hx hby dj_22 (v := 0) rfl ?_
   refine r_val hP hlk hret X13 hx hby dj_23 rfl (Or.inl ⟨rfl, Or.inr (Or.inl rfl), _, rfl⟩) (by decide) ?_
   rw [e13]
   exact ⟨by rw [if_neg hc15_14], N0, rfl⟩
def Q_plaus3 (Z : State) (rm arr o : Addr) (ka : ClassId) (z : Int32) (vs : List Value) (j : Int32) (q : Int64) (h0 : Heap) (n0 : Nat) (v : Option Value) (h : Heap) (L : List Loc) : Prop := v = some (.int (if q < (259 : Int64) then (1 : Int32) else 0)) ∧ Fr n0 L ∧ h = h0
theorem rm_plaus3 (l : Launch) (Z : State) (a0 : Array Value) (hw : oW a0 Z) (ws : List Jvm.Cond) (rm arr o : Addr) (ka : ClassId) (z : Int32) (vs : List Value) (j : Int32) (q : Int64) (h0 : Heap) (n0 : Nat) (Z0 : n0 ≤ h0.size) (For : Fld Z h0 rm q_15 "origins" q_20 (.ref arr)) (Var : Arv Z h0 arr ka (.object q_3) z vs .null) (hj : ¬ j < 0 ∧ j < z) (hvo : vs.getD j.toNatClampNeg .null = .ref o) (Fh : Fld Z h0 o q_3 "held" "J" (.long (3 : Int64))) :
   oM l oY3 p68_5 4 (some .boolean) ws (own_R 0 0 0 0) #[(.ref rm), (.int j), (.long q)] Z h0 (Q_plaus3 Z rm arr o ka z vs j q h0 n0) := by
 refine own_open (n0 := n0) (cn := q_15) rfl (plainFor_of_name pn1) (L0 := #[(vR rm), (vI j), (vJ q), .second]) ?_
 intro p e s m below meth c s₁ P hx hby hml hown hnm X0 e0 N0 hlk hret hZ hP
 refine lA X0 hx hby dj_0 rfl ?_
 refine aA X0 hx hby dj_1 rfl rfl ?_
 refine gF X0 hx hby hZ hown (tw_15 hw) Via.refl e0 For dj_2 ?_
 intro T11 X11 e11
 show oG p e below P m T11 5 #[(vR rm), (vI j), (vJ q), .second] [(.ref arr), (.long q)]
 refine iA X11 hx hby dj_5 rfl ?_
 have av12 := Var
 obtain ⟨cl12, Ar12, -, Sz12, Nn12, Ha12, Gf12⟩ := av12
 have hin12 : ¬ (j < 0 ∨ cl12.slots.size ≤ (j).toNatClampNeg) := inb_of Sz12 hj
 have hat12 : cl12.slots[(j).toNatClampNeg]? = some (.ref o) := Ha12.at hin12 hvo
 refine Go.by (X11.aaload hx (j := j) (v := (.ref o)) (by rw [e11]; exact Ar12.1) (State.isArrayOf_alike hZ.alike Ar12.2.1) rfl Ar12.2.2 hin12 hat12 (g := (mkF m 6 #[(vR rm), (vI j), (vJ q), .second] [(.int j), (.ref arr), (.long q)])) rfl rfl (hb hby dj_6)) ?_
 show oG p e below P m T11 7 #[(vR rm), (vI j), (vJ q), .second] [(.ref o), (.long q)]
 refine gR X11 hx hby hZ hown (tw_79 hw) Via.refl e11 Fh dj_7 ?_
 intro T13 X13 e13
 show oG p e below P m T13 10 #[(vR rm), (vI j), (vJ q), .second] [(.long (3 : Int64)), (.long q)]
 refine lD X13 hx hby hown hZ (tw_188 hw) dj_10 (v' := (256 : Int64)) rfl ?_
 refine lP X13 hx hby dj_13 (v := (259 : Int64)) rfl ?_
 refine lK X13 hx hby dj_14 ?_
 by_cases hc15_14 : q < (259 : Int64)
 · refine fN X13 hx hby dj_15 (XT.ll_ge_f hc15_14) ?_
   refine iC X13 hx hby dj_18 (v := 1) rfl ?_
   refine gO X13 hx hby dj_19 (pc' := 23) ?_
   refine r_val hP hlk hret X13 hx hby dj_23 rfl (Or.inl ⟨rfl, Or.inr (Or.inl rfl), _, rfl⟩) (by decide) ?_
   rw [e13]
   exact ⟨by rw [if_pos hc15_14], N0, rfl⟩
 · refine fY X13 hx hby dj_15 (pc' := 22) (XT.ll_ge_t hc15_14) ?_
   refine iC X13 hx hby dj_22 (v := 0) rfl ?_
   refine r_val hP hlk hret X13 hx hby dj_23 rfl (Or.inl ⟨rfl, Or.inr (Or.inl rfl), _, rfl⟩) (by decide) ?_
   rw [e13]
   exact ⟨by rw [if_neg hc15_14], N0, rfl⟩
def Q_law (Z : State) (p0 p1 p2 p3 : Int32) (p4 : Int64) (p5 : Int32) (ca : Addr) (cc : Cell) (h0 : Heap) (n0 : Nat) (v : Option Value) (h : Heap) (L : List Loc) : Prop := v = some (.int 1) ∧ Fr n0 L
theorem ef_law (m : MethodId) (p0 p1 p2 p3 : Int32) (p4 : Int64) (p5 : Int32) (ca : Addr) (cc : Cell) : entryFrame m #[(.int p0), (.int p1), (.int p2), (.int p3), (.long p4), (.int p5)] maxLocals = mkF m 0 #[(vI p0), (vI p1), (vI p2), (vI p3), (vJ p4), .second, (vI p5), .unset, .unset, .unset, .unset, .unset, .unset, .unset, .unset, .unset, .unset, .unset, .unset, .unset] [] := by first | (simp [entryFrame, mkF, argsToLocals, Value.category, maxLocals]; done) | rfl
theorem rm_law (l : Launch) (Z : State) (a0 : Array Value) (hw : oW a0 Z) (ws : List Jvm.Cond) (p0 p1 p2 p3 : Int32) (p4 : Int64) (p5 : Int32) (ca : Addr) (cc : Cell) (h0 : Heap) (n0 : Nat) (Z0 : n0 ≤ h0.size) (O0 : Old Z n0 h0) (Sca : Sta Z Z.heap q_22 "cache" q_23 (.ref ca)) (BX : Bxs Z ca cc q_17 "J" (256 : Int32) own_val) :
   MetFree l x (head1 (Jvm.Cond.code x code maxLocals ret :: ws) room_1) (fun a U => a = #[(.int p0), (.int p1), (.int p2), (.int p3), (.long p4), (.int p5)] ∧ Z.Warmed39 U.vm ∧ U.heap = h0) (fun _ _ _ _ _ => True) (fun _ U o U' => ∃ v L, o = .returned v ∧ Q_law Z p0 p1 p2 p3 p4 p5 ca cc h0 n0 v U'.heap L ∧ FrameEnd U o U' L room_1.cells room_1.slots) := by
 refine MetFree.of_bodySF (plainFor_of_name pn8) hisR ?_
 intro p e s m args below meth c s₁ Bd hml0 hP hK
 obtain ⟨rfl, hZ, hh⟩ := hP
 have hx := Bd.exec
 have hby := Bd.bytes
 have hml : c.maxLocals = 20 := hml0
 have hown : s.vm.findClass "com/example/chorale/chorale/core/ReliableMulticastPlausible166PinLaw" = some m.cls := findClass_of_methodNamed Bd.named
 have hnm := (name_of_methodNamed Bd.named Bd.method).1
 have X0 : Stand p l e room_1 s m #[(.int p0), (.int p1), (.int p2), (.int p3), (.long p4), (.int p5)] below meth c s₁ [] 0 0 := Stand.of_body Bd
 have e0 : s₁.heap = h0 := by rw [← hh, Bd.state]; rfl
 have N0 := Fr.nil n0
 have hlk : meth.locks = false := Bd.notSynchronized
 obtain ⟨P, hP⟩ : ∃ P : Outcome → State → Prop, P = PQ s (Q_law Z p0 p1 p2 p3 p4 p5 ca cc h0 n0) room_1.cells room_1.slots := ⟨_, rfl⟩
 suffices hgo : Go p e below P (s₁.setTop (mkF m 0 #[(vI p0), (vI p1), (vI p2), (vI p3), (vJ p4), .second, (vI p5), .unset, .unset, .unset, .unset, .unset, .unset, .unset, .unset, .unset, .unset, .unset, .unset, .unset] [])) by
   rw [hP] at hgo
   exact Go.by (fun t k => castTop (ef_law m p0 p1 p2 p3 p4 p5 ca cc) k) hgo
 have tail0 : ∀ {Tt : State} {locs : List Loc} {Ht : Heap} (zz si og gp ot : Int32) (pa rm arr oj : Addr) (ka : ClassId) (vs : List Value), Stand p l e room_1 s m #[(.int p0), (.int p1), (.int p2), (.int p3), (.long p4), (.int p5)] below meth c Tt locs 24 160 → Tt.heap = Ht → Fr n0 locs → n0 ≤ Ht.size → Exa Z Ht rm q_15 → Fld Z Ht rm q_15 "origins" q_20 (.ref arr) → Arv Z Ht arr ka (.object q_3) zz vs .null → (¬ og < 0 ∧ og < zz) → vs.getD og.toNatClampNeg .null = .ref oj → Fld Z Ht oj q_3 "held" "J" (.long (0 : Int64)) → Go p e below P (Tt.setTop (mkF m 230 #[(vI p0), (vI p1), (vI p2), (vI p3), (vJ p4), .second, (vI p5), (vI zz), (vI si), (vI og), (vI 0), (vI gp), (vR pa), (vR rm), (vI ot), (vJ (0 : Int64)), .second, .unset, .unset, .unset] [])) := by
   intro Tt locs Ht zz si og gp ot pa rm arr oj ka vs Xt et Nt Zt Et Ft Vt hog hvo Fh
   show oG p e below P m Tt 230 #[(vI p0), (vI p1), (vI p2), (vI p3), (vJ p4), .second, (vI p5), (vI zz), (vI si), (vI og), (vI 0), (vI gp), (vR pa), (vR rm), (vI ot), (vJ (0 : Int64)), .second, .unset, .unset, .unset] []
   refine iB Xt hx hby at_230 rfl ?_
   refine iC Xt hx hby at_232 (v := 1) rfl ?_
   refine w_iand Xt hx hby at_233 (v := (p5 &&& (1 : Int32))) rfl ?_
   by_cases hc234_11 : (p5 &&& (1 : Int32)) = (0 : Int32)
   · refine fN Xt hx hby at_234 (XT.i0_ne_f hc234_11) ?_
     refine lB Xt hx hby at_237 rfl ?_
     refine w_lstore Xt hx hby at_239 rfl ?_
     refine gO Xt hx hby at_241 (pc' := 259) ?_
     refine lB Xt hx hby at_259 rfl ?_
     refine lB Xt hx hby at_261 rfl ?_
     refine lD Xt hx hby hown hZ (tw_182 hw) at_263 (v' := (256 : Int64)) rfl ?_
     refine lP Xt hx hby at_266 (v := (256 : Int64)) rfl ?_
     refine lK Xt hx hby at_267 ?_
     by_cases hc268_12 : p4 < (256 : Int64)
     · refine fN Xt hx hby at_268 (XT.ll_ge_f hc268_12) ?_
       refine iC Xt hx hby at_271 (v := 1) rfl ?_
       refine gO Xt hx hby at_272 (pc' := 276) ?_
       refine iT Xt hx hby at_276 rfl ?_
       refine aB Xt hx hby at_278 rfl rfl ?_
       refine iB Xt hx hby at_280 rfl ?_
       refine lB Xt hx hby at_282 rfl ?_
       refine c_virt 0 Xt hx hby hml hZ hown (tw_183 hw) (tw_184 hw) (tw_186 hw) (tw_185 hw) (tw_187 hw) (tw_4 hw) (rm_plaus0 l Z a0 hw [] rm arr oj ka zz vs og p4 Ht n0 Zt Ft Vt hog hvo Fh) et Et at_284 [(.int og), (.long p4)] [] (lenOf pd6 rfl) rfl rfl ?_
       rintro _ T13 Lc13 ⟨rfl, N13q, q13⟩ X13
       have N13 := Fr.app Nt N13q
       show oG p e below P m T13 287 #[(vI p0), (vI p1), (vI p2), (vI p3), (vJ p4), .second, (vI p5), (vI zz), (vI si), (vI og), (vI 0), (vI gp), (vR pa), (vR rm), (vI ot), (vJ (0 : Int64)), .second, (vJ p4), .second, (vI 1)] [(.int (if p4 < (256 : Int64) then (1 : Int32) else 0))]
       rw [if_pos hc268_12]
       show oG p e below P m T13 287 #[(vI p0), (vI p1), (vI p2), (vI p3), (vJ p4), .second, (vI p5), (vI zz), (vI si), (vI og), (vI 0), (vI gp), (vR pa), (vR rm), (vI ot), (vJ (0 : Int64)), .second, (vJ p4), .second, (vI 1)] [(.int 1)]
       refine iB X13 hx hby at_287 rfl ?_
       refine cN X13 hx hby at_289 (XT.ii_ne_f (by decide : (1 : Int32) = (1 : Int32))) ?_
       refine iC X13 hx hby at_292 (v := 1) rfl ?_
       refine gO X13 hx hby at_293 (pc' := 297) ?_
       refine own_fin hP hlk X13 (v := some (.int 1)) (fun h => by rw [Bd.returns] at h; cases h) (by decide) (by decide) ?_ (fun fs hr => retOut X13 hx Bd.returns rfl (Or.inl ⟨rfl, Or.inr (Or.inl rfl), _, rfl⟩) (hb hby at_297) hr)
       rw [q13]
       exact ⟨rfl, N13⟩
     · refine fY Xt hx hby at_268 (pc' := 275) (XT.ll_ge_t hc268_12) ?_
       refine iC Xt hx hby at_275 (v := 0) rfl ?_
       refine iT Xt hx hby at_276 rfl ?_
       refine aB Xt hx hby at_278 rfl rfl ?_
       refine iB Xt hx hby at_280 rfl ?_
       refine lB Xt hx hby at_282 rfl ?_
       refine c_virt 0 Xt hx hby hml hZ hown (tw_183 hw) (tw_184 hw) (tw_186 hw) (tw_185 hw) (tw_187 hw) (tw_4 hw) (rm_plaus0 l Z a0 hw [] rm arr oj ka zz vs og p4 Ht n0 Zt Ft Vt hog hvo Fh) et Et at_284 [(.int og), (.long p4)] [] (lenOf pd6 rfl) rfl rfl ?_
       rintro _ T14 Lc14 ⟨rfl, N14q, q14⟩ X14
       have N14 := Fr.app Nt N14q
       show oG p e below P m T14 287 #[(vI p0), (vI p1), (vI p2), (vI p3), (vJ p4), .second, (vI p5), (vI zz), (vI si), (vI og), (vI 0), (vI gp), (vR pa), (vR rm), (vI ot), (vJ (0 : Int64)), .second, (vJ p4), .second, (vI 0)] [(.int (if p4 < (256 : Int64) then (1 : Int32) else 0))]
       rw [if_neg hc268_12]
       show oG p e below P m T14 287 #[(vI p0), (vI p1), (vI p2), (vI p3), (vJ p4), .second, (vI p5), (vI zz), (vI si), (vI og), (vI 0), (vI gp), (vR pa), (vR rm), (vI ot), (vJ (0 : Int64)), .second, (vJ p4), .second, (vI 0)] [(.int 0)]
       refine iB X14 hx hby at_287 rfl ?_
       refine cN X14 hx hby at_289 (XT.ii_ne_f (by decide : (0 : Int32) = (0 : Int32))) ?_
       refine iC X14 hx hby at_292 (v := 1) rfl ?_
       refine gO X14 hx hby at_293 (pc' := 297) ?_
       refine own_fin hP hlk X14 (v := some (.int 1)) (fun h => by rw [Bd.returns] at h; cases h) (by decide) (by decide) ?_ (fun fs hr => retOut X14 hx Bd.returns rfl (Or.inl ⟨rfl, Or.inr (Or.inl rfl), _, rfl⟩) (hb hby at_297) hr)
       rw [q14]
       exact ⟨rfl, N14⟩
   · refine fY Xt hx hby at_234 (pc' := 244) (XT.i0_ne_t hc234_11) ?_
     refine lB Xt hx hby at_244 rfl ?_
     refine lD Xt hx hby hown hZ (tw_201 hw) at_246 (v' := (254 : Int64)) rfl ?_
     refine lP Xt hx hby at_249 (v := (254 : Int64)) rfl ?_
     refine lB Xt hx hby at_250 rfl ?_
     refine lD Xt hx hby hown hZ (tw_202 hw) at_252 (v' := (3 : Int64)) rfl ?_
     refine w_land Xt hx hby at_255 (v := (p4 &&& (3 : Int64))) rfl ?_
     refine lP Xt hx hby at_256 (v := ((254 : Int64) + (p4 &&& (3 : Int64)))) rfl ?_
     refine w_lstore Xt hx hby at_257 rfl ?_
     refine lB Xt hx hby at_259 rfl ?_
     refine lB Xt hx hby at_261 rfl ?_
     refine lD Xt hx hby hown hZ (tw_182 hw) at_263 (v' := (256 : Int64)) rfl ?_
     refine lP Xt hx hby at_266 (v := (256 : Int64)) rfl ?_
     refine lK Xt hx hby at_267 ?_
     by_cases hc268_15 : ((254 : Int64) + (p4 &&& (3 : Int64))) < (256 : Int64)
     · refine fN Xt hx hby at_268 (XT.ll_ge_f hc268_15) ?_
       refine iC Xt hx hby at_271 (v := 1) rfl ?_
       refine gO Xt hx hby at_272 (pc' := 276) ?_
       refine iT Xt hx hby at_276 rfl ?_
       refine aB Xt hx hby at_278 rfl rfl ?_
       refine iB Xt hx hby at_280 rfl ?_
       refine lB Xt hx hby at_282 rfl ?_
       refine c_virt 0 Xt hx hby hml hZ hown (tw_183 hw) (tw_184 hw) (tw_186 hw) (tw_185 hw) (tw_187 hw) (tw_4 hw) (rm_plaus0 l Z a0 hw [] rm arr oj ka zz vs og ((254 : Int64) + (p4 &&& (3 : Int64))) Ht n0 Zt Ft Vt hog hvo Fh) et Et at_284 [(.int og), (.long ((254 : Int64) + (p4 &&& (3 : Int64))))] [] (lenOf pd6 rfl) rfl rfl ?_
       rintro _ T16 Lc16 ⟨rfl, N16q, q16⟩ X16
       have N16 := Fr.app Nt N16q
       show oG p e below P m T16 287 #[(vI p0), (vI p1), (vI p2), (vI p3), (vJ p4), .second, (vI p5), (vI zz), (vI si), (vI og), (vI 0), (vI gp), (vR pa), (vR rm), (vI ot), (vJ (0 : Int64)), .second, (vJ ((254 : Int64) + (p4 &&& (3 : Int64)))), .second, (vI 1)] [(.int (if ((254 : Int64) + (p4 &&& (3 : Int64))) < (256 : Int64) then (1 : Int32) else 0))]
       rw [if_pos hc268_15]
       show oG p e below P m T16 287 #[(vI p0), (vI p1), (vI p2), (vI p3), (vJ p4), .second, (vI p5), (vI zz), (vI si), (vI og), (vI 0), (vI gp), (vR pa), (vR rm), (vI ot), (vJ (0 : Int64)), .second, (vJ ((254 : Int64) + (p4 &&& (3 : Int64)))), .second, (vI 1)] [(.int 1)]
       refine iB X16 hx hby at_287 rfl ?_
       refine cN X16 hx hby at_289 (XT.ii_ne_f (by decide : (1 : Int32) = (1 : Int32))) ?_
       refine iC X16 hx hby at_292 (v := 1) rfl ?_
       refine gO X16 hx hby at_293 (pc' := 297) ?_
       refine own_fin hP hlk X16 (v := some (.int 1)) (fun h => by rw [Bd.returns] at h; cases h) (by decide) (by decide) ?_ (fun fs hr => retOut X16 hx Bd.returns rfl (Or.inl ⟨rfl, Or.inr (Or.inl rfl), _, rfl⟩) (hb hby at_297) hr)
       rw [q16]
       exact ⟨rfl, N16⟩
     · refine fY Xt hx hby at_268 (pc' := 275) (XT.ll_ge_t hc268_15) ?_
       refine iC Xt hx hby at_275 (v := 0) rfl ?_
       refine iT Xt hx hby at_276 rfl ?_
       refine aB Xt hx hby at_278 rfl rfl ?_
       refine iB Xt hx hby at_280 rfl ?_
       refine lB Xt hx hby at_282 rfl ?_
       refine c_virt 0 Xt hx hby hml hZ hown (tw_183 hw) (tw_184 hw) (tw_186 hw) (tw_185 hw) (tw_187 hw) (tw_4 hw) (rm_plaus0 l Z a0 hw [] rm arr oj ka zz vs og ((254 : Int64) + (p4 &&& (3 : Int64))) Ht n0 Zt Ft Vt hog hvo Fh) et Et at_284 [(.int og), (.long ((254 : Int64) + (p4 &&& (3 : Int64))))] [] (lenOf pd6 rfl) rfl rfl ?_
       rintro _ T17 Lc17 ⟨rfl, N17q, q17⟩ X17
       have N17 := Fr.app Nt N17q
       show oG p e below P m T17 287 #[(vI p0), (vI p1), (vI p2), (vI p3), (vJ p4), .second, (vI p5), (vI zz), (vI si), (vI og), (vI 0), (vI gp), (vR pa), (vR rm), (vI ot), (vJ (0 : Int64)), .second, (vJ ((254 : Int64) + (p4 &&& (3 : Int64)))), .second, (vI 0)] [(.int (if ((254 : Int64) + (p4 &&& (3 : Int64))) < (256 : Int64) then (1 : Int32) else 0))]
       rw [if_neg hc268_15]
       show oG p e below P m T17 287 #[(vI p0), (vI p1), (vI p2), (vI p3), (vJ p4), .second, (vI p5), (vI zz), (vI si), (vI og), (vI 0), (vI gp), (vR pa), (vR rm), (vI ot), (vJ (0 : Int64)), .second, (vJ ((254 : Int64) + (p4 &&& (3 : Int64)))), .second, (vI 0)] [(.int 0)]
       refine iB X17 hx hby at_287 rfl ?_
       refine cN X17 hx hby at_289 (XT.ii_ne_f (by decide : (0 : Int32) = (0 : Int32))) ?_
       refine iC X17 hx hby at_292 (v := 1) rfl ?_
       refine gO X17 hx hby at_293 (pc' := 297) ?_
       refine own_fin hP hlk X17 (v := some (.int 1)) (fun h => by rw [Bd.returns] at h; cases h) (by decide) (by decide) ?_ (fun fs hr => retOut X17 hx Bd.returns rfl (Or.inl ⟨rfl, Or.inr (Or.inl rfl), _, rfl⟩) (hb hby at_297) hr)
       rw [q17]
       exact ⟨rfl, N17⟩
 have tail1 : ∀ {Tt : State} {locs : List Loc} {Ht : Heap} (zz si og gp ot : Int32) (pa rm arr oj : Addr) (ka : ClassId) (vs : List Value), Stand p l e room_1 s m #[(.int p0), (.int p1), (.int p2), (.int p3), (.long p4), (.int p5)] below meth c Tt locs 24 160 → Tt.heap = Ht → Fr n0 locs → n0 ≤ Ht.size → Exa Z Ht rm q_15 → Fld Z Ht rm q_15 "origins" q_20 (.ref arr) → Arv Z Ht arr ka (.object q_3) zz vs .null → (¬ og < 0 ∧ og < zz) → vs.getD og.toNatClampNeg .null = .ref oj → Fld Z Ht oj q_3 "held" "J" (.long (1 : Int64)) → Go p e below P (Tt.setTop (mkF m 230 #[(vI p0), (vI p1), (vI p2), (vI p3), (vJ p4), .second, (vI p5), (vI zz), (vI si), (vI og), (vI 1), (vI gp), (vR pa), (vR rm), (vI ot), (vJ (1 : Int64)), .second, .unset, .unset, .unset] [])) := by
   intro Tt locs Ht zz si og gp ot pa rm arr oj ka vs Xt et Nt Zt Et Ft Vt hog hvo Fh
   show oG p e below P m Tt 230 #[(vI p0), (vI p1), (vI p2), (vI p3), (vJ p4), .second, (vI p5), (vI zz), (vI si), (vI og), (vI 1), (vI gp), (vR pa), (vR rm), (vI ot), (vJ (1 : Int64)), .second, .unset, .unset, .unset] []
   refine iB Xt hx hby at_230 rfl ?_
   refine iC Xt hx hby at_232 (v := 1) rfl ?_
   refine w_iand Xt hx hby at_233 (v := (p5 &&& (1 : Int32))) rfl ?_
   by_cases hc234_18 : (p5 &&& (1 : Int32)) = (0 : Int32)
   · refine fN Xt hx hby at_234 (XT.i0_ne_f hc234_18) ?_
     refine lB Xt hx hby at_237 rfl ?_
     refine w_lstore Xt hx hby at_239 rfl ?_
     refine gO Xt hx hby at_241 (pc' := 259) ?_
     refine lB Xt hx hby at_259 rfl ?_
     refine lB Xt hx hby at_261 rfl ?_
     refine lD Xt hx hby hown hZ (tw_182 hw) at_263 (v' := (256 : Int64)) rfl ?_
     refine lP Xt hx hby at_266 (v := (257 : Int64)) rfl ?_
     refine lK Xt hx hby at_267 ?_
     by_cases hc268_19 : p4 < (257 : Int64)
     · refine fN Xt hx hby at_268 (XT.ll_ge_f hc268_19) ?_
       refine iC Xt hx hby at_271 (v := 1) rfl ?_
       refine gO Xt hx hby at_272 (pc' := 276) ?_
       refine iT Xt hx hby at_276 rfl ?_
       refine aB Xt hx hby at_278 rfl rfl ?_
       refine iB Xt hx hby at_280 rfl ?_
       refine lB Xt hx hby at_282 rfl ?_
       refine c_virt 0 Xt hx hby hml hZ hown (tw_183 hw) (tw_184 hw) (tw_186 hw) (tw_185 hw) (tw_187 hw) (tw_4 hw) (rm_plaus1 l Z a0 hw [] rm arr oj ka zz vs og p4 Ht n0 Zt Ft Vt hog hvo Fh) et Et at_284 [(.int og), (.long p4)] [] (lenOf pd6 rfl) rfl rfl ?_
       rintro _ T20 Lc20 ⟨rfl, N20q, q20⟩ X20
       have N20 := Fr.app Nt N20q
       show oG p e below P m T20 287 #[(vI p0), (vI p1), (vI p2), (vI p3), (vJ p4), .second, (vI p5), (vI zz), (vI si), (vI og), (vI 1), (vI gp), (vR pa), (vR rm), (vI ot), (vJ (1 : Int64)), .second, (vJ p4), .second, (vI 1)] [(.int (if p4 < (257 : Int64) then (1 : Int32) else 0))]
       rw [if_pos hc268_19]
       show oG p e below P m T20 287 #[(vI p0), (vI p1), (vI p2), (vI p3), (vJ p4), .second, (vI p5), (vI zz), (vI si), (vI og), (vI 1), (vI gp), (vR pa), (vR rm), (vI ot), (vJ (1 : Int64)), .second, (vJ p4), .second, (vI 1)] [(.int 1)]
       refine iB X20 hx hby at_287 rfl ?_
       refine cN X20 hx hby at_289 (XT.ii_ne_f (by decide : (1 : Int32) = (1 : Int32))) ?_
       refine iC X20 hx hby at_292 (v := 1) rfl ?_
       refine gO X20 hx hby at_293 (pc' := 297) ?_
       refine own_fin hP hlk X20 (v := some (.int 1)) (fun h => by rw [Bd.returns] at h; cases h) (by decide) (by decide) ?_ (fun fs hr => retOut X20 hx Bd.returns rfl (Or.inl ⟨rfl, Or.inr (Or.inl rfl), _, rfl⟩) (hb hby at_297) hr)
       rw [q20]
       exact ⟨rfl, N20⟩
     · refine fY Xt hx hby at_268 (pc' := 275) (XT.ll_ge_t hc268_19) ?_
       refine iC Xt hx hby at_275 (v := 0) rfl ?_
       refine iT Xt hx hby at_276 rfl ?_
       refine aB Xt hx hby at_278 rfl rfl ?_
       refine iB Xt hx hby at_280 rfl ?_
       refine lB Xt hx hby at_282 rfl ?_
       refine c_virt 0 Xt hx hby hml hZ hown (tw_183 hw) (tw_184 hw) (tw_186 hw) (tw_185 hw) (tw_187 hw) (tw_4 hw) (rm_plaus1 l Z a0 hw [] rm arr oj ka zz vs og p4 Ht n0 Zt Ft Vt hog hvo Fh) et Et at_284 [(.int og), (.long p4)] [] (lenOf pd6 rfl) rfl rfl ?_
       rintro _ T21 Lc21 ⟨rfl, N21q, q21⟩ X21
       have N21 := Fr.app Nt N21q
       show oG p e below P m T21 287 #[(vI p0), (vI p1), (vI p2), (vI p3), (vJ p4), .second, (vI p5), (vI zz), (vI si), (vI og), (vI 1), (vI gp), (vR pa), (vR rm), (vI ot), (vJ (1 : Int64)), .second, (vJ p4), .second, (vI 0)] [(.int (if p4 < (257 : Int64) then (1 : Int32) else 0))]
       rw [if_neg hc268_19]
       show oG p e below P m T21 287 #[(vI p0), (vI p1), (vI p2), (vI p3), (vJ p4), .second, (vI p5), (vI zz), (vI si), (vI og), (vI 1), (vI gp), (vR pa), (vR rm), (vI ot), (vJ (1 : Int64)), .second, (vJ p4), .second, (vI 0)] [(.int 0)]
       refine iB X21 hx hby at_287 rfl ?_
       refine cN X21 hx hby at_289 (XT.ii_ne_f (by decide : (0 : Int32) = (0 : Int32))) ?_
       refine iC X21 hx hby at_292 (v := 1) rfl ?_
       refine gO X21 hx hby at_293 (pc' := 297) ?_
       refine own_fin hP hlk X21 (v := some (.int 1)) (fun h => by rw [Bd.returns] at h; cases h) (by decide) (by decide) ?_ (fun fs hr => retOut X21 hx Bd.returns rfl (Or.inl ⟨rfl, Or.inr (Or.inl rfl), _, rfl⟩) (hb hby at_297) hr)
       rw [q21]
       exact ⟨rfl, N21⟩
   · refine fY Xt hx hby at_234 (pc' := 244) (XT.i0_ne_t hc234_18) ?_
     refine lB Xt hx hby at_244 rfl ?_
     refine lD Xt hx hby hown hZ (tw_201 hw) at_246 (v' := (254 : Int64)) rfl ?_
     refine lP Xt hx hby at_249 (v := (255 : Int64)) rfl ?_
     refine lB Xt hx hby at_250 rfl ?_
     refine lD Xt hx hby hown hZ (tw_202 hw) at_252 (v' := (3 : Int64)) rfl ?_
     refine w_land Xt hx hby at_255 (v := (p4 &&& (3 : Int64))) rfl ?_
     refine lP Xt hx hby at_256 (v := ((255 : Int64) + (p4 &&& (3 : Int64)))) rfl ?_
     refine w_lstore Xt hx hby at_257 rfl ?_
     refine lB Xt hx hby at_259 rfl ?_
     refine lB Xt hx hby at_261 rfl ?_
     refine lD Xt hx hby hown hZ (tw_182 hw) at_263 (v' := (256 : Int64)) rfl ?_
     refine lP Xt hx hby at_266 (v := (257 : Int64)) rfl ?_
     refine lK Xt hx hby at_267 ?_
     by_cases hc268_22 : ((255 : Int64) + (p4 &&& (3 : Int64))) < (257 : Int64)
     · refine fN Xt hx hby at_268 (XT.ll_ge_f hc268_22) ?_
       refine iC Xt hx hby at_271 (v := 1) rfl ?_
       refine gO Xt hx hby at_272 (pc' := 276) ?_
       refine iT Xt hx hby at_276 rfl ?_
       refine aB Xt hx hby at_278 rfl rfl ?_
       refine iB Xt hx hby at_280 rfl ?_
       refine lB Xt hx hby at_282 rfl ?_
       refine c_virt 0 Xt hx hby hml hZ hown (tw_183 hw) (tw_184 hw) (tw_186 hw) (tw_185 hw) (tw_187 hw) (tw_4 hw) (rm_plaus1 l Z a0 hw [] rm arr oj ka zz vs og ((255 : Int64) + (p4 &&& (3 : Int64))) Ht n0 Zt Ft Vt hog hvo Fh) et Et at_284 [(.int og), (.long ((255 : Int64) + (p4 &&& (3 : Int64))))] [] (lenOf pd6 rfl) rfl rfl ?_
       rintro _ T23 Lc23 ⟨rfl, N23q, q23⟩ X23
       have N23 := Fr.app Nt N23q
       show oG p e below P m T23 287 #[(vI p0), (vI p1), (vI p2), (vI p3), (vJ p4), .second, (vI p5), (vI zz), (vI si), (vI og), (vI 1), (vI gp), (vR pa), (vR rm), (vI ot), (vJ (1 : Int64)), .second, (vJ ((255 : Int64) + (p4 &&& (3 : Int64)))), .second, (vI 1)] [(.int (if ((255 : Int64) + (p4 &&& (3 : Int64))) < (257 : Int64) then (1 : Int32) else 0))]
       rw [if_pos hc268_22]
       show oG p e below P m T23 287 #[(vI p0), (vI p1), (vI p2), (vI p3), (vJ p4), .second, (vI p5), (vI zz), (vI si), (vI og), (vI 1), (vI gp), (vR pa), (vR rm), (vI ot), (vJ (1 : Int64)), .second, (vJ ((255 : Int64) + (p4 &&& (3 : Int64)))), .second, (vI 1)] [(.int 1)]
       refine iB X23 hx hby at_287 rfl ?_
       refine cN X23 hx hby at_289 (XT.ii_ne_f (by decide : (1 : Int32) = (1 : Int32))) ?_
       refine iC X23 hx hby at_292 (v := 1) rfl ?_
       refine gO X23 hx hby at_293 (pc' := 297) ?_
       refine own_fin hP hlk X23 (v := some (.int 1)) (fun h => by rw [Bd.returns] at h; cases h) (by decide) (by decide) ?_ (fun fs hr => retOut X23 hx Bd.returns rfl (Or.inl ⟨rfl, Or.inr (Or.inl rfl), _, rfl⟩) (hb hby at_297) hr)
       rw [q23]
       exact ⟨rfl, N23⟩
     · refine fY Xt hx hby at_268 (pc' := 275) (XT.ll_ge_t hc268_22) ?_
       refine iC Xt hx hby at_275 (v := 0) rfl ?_
       refine iT Xt hx hby at_276 rfl ?_
       refine aB Xt hx hby at_278 rfl rfl ?_
       refine iB Xt hx hby at_280 rfl ?_
       refine lB Xt hx hby at_282 rfl ?_
       refine c_virt 0 Xt hx hby hml hZ hown (tw_183 hw) (tw_184 hw) (tw_186 hw) (tw_185 hw) (tw_187 hw) (tw_4 hw) (rm_plaus1 l Z a0 hw [] rm arr oj ka zz vs og ((255 : Int64) + (p4 &&& (3 : Int64))) Ht n0 Zt Ft Vt hog hvo Fh) et Et at_284 [(.int og), (.long ((255 : Int64) + (p4 &&& (3 : Int64))))] [] (lenOf pd6 rfl) rfl rfl ?_
       rintro _ T24 Lc24 ⟨rfl, N24q, q24⟩ X24
       have N24 := Fr.app Nt N24q
       show oG p e below P m T24 287 #[(vI p0), (vI p1), (vI p2), (vI p3), (vJ p4), .second, (vI p5), (vI zz), (vI si), (vI og), (vI 1), (vI gp), (vR pa), (vR rm), (vI ot), (vJ (1 : Int64)), .second, (vJ ((255 : Int64) + (p4 &&& (3 : Int64)))), .second, (vI 0)] [(.int (if ((255 : Int64) + (p4 &&& (3 : Int64))) < (257 : Int64) then (1 : Int32) else 0))]
       rw [if_neg hc268_22]
       show oG p e below P m T24 287 #[(vI p0), (vI p1), (vI p2), (vI p3), (vJ p4), .second, (vI p5), (vI zz), (vI si), (vI og), (vI 1), (vI gp), (vR pa), (vR rm), (vI ot), (vJ (1 : Int64)), .second, (vJ ((255 : Int64) + (p4 &&& (3 : Int64)))), .second, (vI 0)] [(.int 0)]
       refine iB X24 hx hby at_287 rfl ?_
       refine cN X24 hx hby at_289 (XT.ii_ne_f (by decide : (0 : Int32) = (0 : Int32))) ?_
       refine iC X24 hx hby at_292 (v := 1) rfl ?_
       refine gO X24 hx hby at_293 (pc' := 297) ?_
       refine own_fin hP hlk X24 (v := some (.int 1)) (fun h => by rw [Bd.returns] at h; cases h) (by decide) (by decide) ?_ (fun fs hr => retOut X24 hx Bd.returns rfl (Or.inl ⟨rfl, Or.inr (Or.inl rfl), _, rfl⟩) (hb hby at_297) hr)
       rw [q24]
       exact ⟨rfl, N24⟩
 have tail2 : ∀ {Tt : State} {locs : List Loc} {Ht : Heap} (zz si og gp ot : Int32) (pa rm arr oj : Addr) (ka : ClassId) (vs : List Value), Stand p l e room_1 s m #[(.int p0), (.int p1), (.int p2), (.int p3), (.long p4), (.int p5)] below meth c Tt locs 24 160 → Tt.heap = Ht → Fr n0 locs → n0 ≤ Ht.size → Exa Z Ht rm q_15 → Fld Z Ht rm q_15 "origins" q_20 (.ref arr) → Arv Z Ht arr ka (.object q_3) zz vs .null → (¬ og < 0 ∧ og < zz) → vs.getD og.toNatClampNeg .null = .ref oj → Fld Z Ht oj q_3 "held" "J" (.long (2 : Int64)) → Go p e below P (Tt.setTop (mkF m 230 #[(vI p0), (vI p1), (vI p2), (vI p3), (vJ p4), .second, (vI p5), (vI zz), (vI si), (vI og), (vI 2), (vI gp), (vR pa), (vR rm), (vI ot), (vJ (2 : Int64)), .second, .unset, .unset, .unset] [])) := by
   intro Tt locs Ht zz si og gp ot pa rm arr oj ka vs Xt et Nt Zt Et Ft Vt hog hvo Fh
   show oG p e below P m Tt 230 #[(vI p0), (vI p1), (vI p2), (vI p3), (vJ p4), .second, (vI p5), (vI zz), (vI si), (vI og), (vI 2), (vI gp), (vR pa), (vR rm), (vI ot), (vJ (2 : Int64)), .second, .unset, .unset, .unset] []
   refine iB Xt hx hby at_230 rfl ?_
   refine iC Xt hx hby at_232 (v := 1) rfl ?_
   refine w_iand Xt hx hby at_233 (v := (p5 &&& (1 : Int32))) rfl ?_
   by_cases hc234_25 : (p5 &&& (1 : Int32)) = (0 : Int32)
   · refine fN Xt hx hby at_234 (XT.i0_ne_f hc234_25) ?_
     refine lB Xt hx hby at_237 rfl ?_
     refine w_lstore Xt hx hby at_239 rfl ?_
     refine gO Xt hx hby at_241 (pc' := 259) ?_
     refine lB Xt hx hby at_259 rfl ?_
     refine lB Xt hx hby at_261 rfl ?_
     refine lD Xt hx hby hown hZ (tw_182 hw) at_263 (v' := (256 : Int64)) rfl ?_
     refine lP Xt hx hby at_266 (v := (258 : Int64)) rfl ?_
     refine lK Xt hx hby at_267 ?_
     by_cases hc268_26 : p4 < (258 : Int64)
     · refine fN Xt hx hby at_268 (XT.ll_ge_f hc268_26) ?_
       refine iC Xt hx hby at_271 (v := 1) rfl ?_
       refine gO Xt hx hby at_272 (pc' := 276) ?_
       refine iT Xt hx hby at_276 rfl ?_
       refine aB Xt hx hby at_278 rfl rfl ?_
       refine iB Xt hx hby at_280 rfl ?_
       refine lB Xt hx hby at_282 rfl ?_
       refine c_virt 0 Xt hx hby hml hZ hown (tw_183 hw) (tw_184 hw) (tw_186 hw) (tw_185 hw) (tw_187 hw) (tw_4 hw) (rm_plaus2 l Z a0 hw [] rm arr oj ka zz vs og p4 Ht n0 Zt Ft Vt hog hvo Fh) et Et at_284 [(.int og), (.long p4)] [] (lenOf pd6 rfl) rfl rfl ?_
       rintro _ T27 Lc27 ⟨rfl, N27q, q27⟩ X27
       have N27 := Fr.app Nt N27q
       show oG p e below P m T27 287 #[(vI p0), (vI p1), (vI p2), (vI p3), (vJ p4), .second, (vI p5), (vI zz), (vI si), (vI og), (vI 2), (vI gp), (vR pa), (vR rm), (vI ot), (vJ (2 : Int64)), .second, (vJ p4), .second, (vI 1)] [(.int (if p4 < (258 : Int64) then (1 : Int32) else 0))]
       rw [if_pos hc268_26]
       show oG p e below P m T27 287 #[(vI p0), (vI p1), (vI p2), (vI p3), (vJ p4), .second, (vI p5), (vI zz), (vI si), (vI og), (vI 2), (vI gp), (vR pa), (vR rm), (vI ot), (vJ (2 : Int64)), .second, (vJ p4), .second, (vI 1)] [(.int 1)]
       refine iB X27 hx hby at_287 rfl ?_
       refine cN X27 hx hby at_289 (XT.ii_ne_f (by decide : (1 : Int32) = (1 : Int32))) ?_
       refine iC X27 hx hby at_292 (v := 1) rfl ?_
       refine gO X27 hx hby at_293 (pc' := 297) ?_
       refine own_fin hP hlk X27 (v := some (.int 1)) (fun h => by rw [Bd.returns] at h; cases h) (by decide) (by decide) ?_ (fun fs hr => retOut X27 hx Bd.returns rfl (Or.inl ⟨rfl, Or.inr (Or.inl rfl), _, rfl⟩) (hb hby at_297) hr)
       rw [q27]
       exact ⟨rfl, N27⟩
     · refine fY Xt hx hby at_268 (pc' := 275) (XT.ll_ge_t hc268_26) ?_
       refine iC Xt hx hby at_275 (v := 0) rfl ?_
       refine iT Xt hx hby at_276 rfl ?_
       refine aB Xt hx hby at_278 rfl rfl ?_
       refine iB Xt hx hby at_280 rfl ?_
       refine lB Xt hx hby at_282 rfl ?_
       refine c_virt 0 Xt hx hby hml hZ hown (tw_183 hw) (tw_184 hw) (tw_186 hw) (tw_185 hw) (tw_187 hw) (tw_4 hw) (rm_plaus2 l Z a0 hw [] rm arr oj ka zz vs og p4 Ht n0 Zt Ft Vt hog hvo Fh) et Et at_284 [(.int og), (.long p4)] [] (lenOf pd6 rfl) rfl rfl ?_
       rintro _ T28 Lc28 ⟨rfl, N28q, q28⟩ X28
       have N28 := Fr.app Nt N28q
       show oG p e below P m T28 287 #[(vI p0), (vI p1), (vI p2), (vI p3), (vJ p4), .second, (vI p5), (vI zz), (vI si), (vI og), (vI 2), (vI gp), (vR pa), (vR rm), (vI ot), (vJ (2 : Int64)), .second, (vJ p4), .second, (vI 0)] [(.int (if p4 < (258 : Int64) then (1 : Int32) else 0))]
       rw [if_neg hc268_26]
       show oG p e below P m T28 287 #[(vI p0), (vI p1), (vI p2), (vI p3), (vJ p4), .second, (vI p5), (vI zz), (vI si), (vI og), (vI 2), (vI gp), (vR pa), (vR rm), (vI ot), (vJ (2 : Int64)), .second, (vJ p4), .second, (vI 0)] [(.int 0)]
       refine iB X28 hx hby at_287 rfl ?_
       refine cN X28 hx hby at_289 (XT.ii_ne_f (by decide : (0 : Int32) = (0 : Int32))) ?_
       refine iC X28 hx hby at_292 (v := 1) rfl ?_
       refine gO X28 hx hby at_293 (pc' := 297) ?_
       refine own_fin hP hlk X28 (v := some (.int 1)) (fun h => by rw [Bd.returns] at h; cases h) (by decide) (by decide) ?_ (fun fs hr => retOut X28 hx Bd.returns rfl (Or.inl ⟨rfl, Or.inr (Or.inl rfl), _, rfl⟩) (hb hby at_297) hr)
       rw [q28]
       exact ⟨rfl, N28⟩
   · refine fY Xt hx hby at_234 (pc' := 244) (XT.i0_ne_t hc234_25) ?_
     refine lB Xt hx hby at_244 rfl ?_
     refine lD Xt hx hby hown hZ (tw_201 hw) at_246 (v' := (254 : Int64)) rfl ?_
     refine lP Xt hx hby at_249 (v := (256 : Int64)) rfl ?_
     refine lB Xt hx hby at_250 rfl ?_
     refine lD Xt hx hby hown hZ (tw_202 hw) at_252 (v' := (3 : Int64)) rfl ?_
     refine w_land Xt hx hby at_255 (v := (p4 &&& (3 : Int64))) rfl ?_
     refine lP Xt hx hby at_256 (v := ((256 : Int64) + (p4 &&& (3 : Int64)))) rfl ?_
     refine w_lstore Xt hx hby at_257 rfl ?_
     refine lB Xt hx hby at_259 rfl ?_
     refine lB Xt hx hby at_261 rfl ?_
     refine lD Xt hx hby hown hZ (tw_182 hw) at_263 (v' := (256 : Int64)) rfl ?_
     refine lP Xt hx hby at_266 (v := (258 : Int64)) rfl ?_
     refine lK Xt hx hby at_267 ?_
     by_cases hc268_29 : ((256 : Int64) + (p4 &&& (3 : Int64))) < (258 : Int64)
     · refine fN Xt hx hby at_268 (XT.ll_ge_f hc268_29) ?_
       refine iC Xt hx hby at_271 (v := 1) rfl ?_
       refine gO Xt hx hby at_272 (pc' := 276) ?_
       refine iT Xt hx hby at_276 rfl ?_
       refine aB Xt hx hby at_278 rfl rfl ?_
       refine iB Xt hx hby at_280 rfl ?_
       refine lB Xt hx hby at_282 rfl ?_
       refine c_virt 0 Xt hx hby hml hZ hown (tw_183 hw) (tw_184 hw) (tw_186 hw) (tw_185 hw) (tw_187 hw) (tw_4 hw) (rm_plaus2 l Z a0 hw [] rm arr oj ka zz vs og ((256 : Int64) + (p4 &&& (3 : Int64))) Ht n0 Zt Ft Vt hog hvo Fh) et Et at_284 [(.int og), (.long ((256 : Int64) + (p4 &&& (3 : Int64))))] [] (lenOf pd6 rfl) rfl rfl ?_
       rintro _ T30 Lc30 ⟨rfl, N30q, q30⟩ X30
       have N30 := Fr.app Nt N30q
       show oG p e below P m T30 287 #[(vI p0), (vI p1), (vI p2), (vI p3), (vJ p4), .second, (vI p5), (vI zz), (vI si), (vI og), (vI 2), (vI gp), (vR pa), (vR rm), (vI ot), (vJ (2 : Int64)), .second, (vJ ((256 : Int64) + (p4 &&& (3 : Int64)))), .second, (vI 1)] [(.int (if ((256 : Int64) + (p4 &&& (3 : Int64))) < (258 : Int64) then (1 : Int32) else 0))]
       rw [if_pos hc268_29]
       show oG p e below P m T30 287 #[(vI p0), (vI p1), (vI p2), (vI p3), (vJ p4), .second, (vI p5), (vI zz), (vI si), (vI og), (vI 2), (vI gp), (vR pa), (vR rm), (vI ot), (vJ (2 : Int64)), .second, (vJ ((256 : Int64) + (p4 &&& (3 : Int64)))), .second, (vI 1)] [(.int 1)]
       refine iB X30 hx hby at_287 rfl ?_
       refine cN X30 hx hby at_289 (XT.ii_ne_f (by decide : (1 : Int32) = (1 : Int32))) ?_
       refine iC X30 hx hby at_292 (v := 1) rfl ?_
       refine gO X30 hx hby at_293 (pc' := 297) ?_
       refine own_fin hP hlk X30 (v := some (.int 1)) (fun h => by rw [Bd.returns] at h; cases h) (by decide) (by decide) ?_ (fun fs hr => retOut X30 hx Bd.returns rfl (Or.inl ⟨rfl, Or.inr (Or.inl rfl), _, rfl⟩) (hb hby at_297) hr)
       rw [q30]
       exact ⟨rfl, N30⟩
     · refine fY Xt hx hby at_268 (pc' := 275) (XT.ll_ge_t hc268_29) ?_
       refine iC Xt hx hby at_275 (v := 0) rfl ?_
       refine iT Xt hx hby at_276 rfl ?_
       refine aB Xt hx hby at_278 rfl rfl ?_
       refine iB Xt hx hby at_280 rfl ?_
       refine lB Xt hx hby at_282 rfl ?_
       refine c_virt 0 Xt hx hby hml hZ hown (tw_183 hw) (tw_184 hw) (tw_186 hw) (tw_185 hw) (tw_187 hw) (tw_4 hw) (rm_plaus2 l Z a0 hw [] rm arr oj ka zz vs og ((256 : Int64) + (p4 &&& (3 : Int64))) Ht n0 Zt Ft Vt hog hvo Fh) et Et at_284 [(.int og), (.long ((256 : Int64) + (p4 &&& (3 : Int64))))] [] (lenOf pd6 rfl) rfl rfl ?_
       rintro _ T31 Lc31 ⟨rfl, N31q, q31⟩ X31
       have N31 := Fr.app Nt N31q
       show oG p e below P m T31 287 #[(vI p0), (vI p1), (vI p2), (vI p3), (vJ p4), .second, (vI p5), (vI zz), (vI si), (vI og), (vI 2), (vI gp), (vR pa), (vR rm), (vI ot), (vJ (2 : Int64)), .second, (vJ ((256 : Int64) + (p4 &&& (3 : Int64)))), .second, (vI 0)] [(.int (if ((256 : Int64) + (p4 &&& (3 : Int64))) < (258 : Int64) then (1 : Int32) else 0))]
       rw [if_neg hc268_29]
       show oG p e below P m T31 287 #[(vI p0), (vI p1), (vI p2), (vI p3), (vJ p4), .second, (vI p5), (vI zz), (vI si), (vI og), (vI 2), (vI gp), (vR pa), (vR rm), (vI ot), (vJ (2 : Int64)), .second, (vJ ((256 : Int64) + (p4 &&& (3 : Int64)))), .second, (vI 0)] [(.int 0)]
       refine iB X31 hx hby at_287 rfl ?_
       refine cN X31 hx hby at_289 (XT.ii_ne_f (by decide : (0 : Int32) = (0 : Int32))) ?_
       refine iC X31 hx hby at_292 (v := 1) rfl ?_
       refine gO X31 hx hby at_293 (pc' := 297) ?_
       refine own_fin hP hlk X31 (v := some (.int 1)) (fun h => by rw [Bd.returns] at h; cases h) (by decide) (by decide) ?_ (fun fs hr => retOut X31 hx Bd.returns rfl (Or.inl ⟨rfl, Or.inr (Or.inl rfl), _, rfl⟩) (hb hby at_297) hr)
       rw [q31]
       exact ⟨rfl, N31⟩
 have tail3 : ∀ {Tt : State} {locs : List Loc} {Ht : Heap} (zz si og gp ot : Int32) (pa rm arr oj : Addr) (ka : ClassId) (vs : List Value), Stand p l e room_1 s m #[(.int p0), (.int p1), (.int p2), (.int p3), (.long p4), (.int p5)] below meth c Tt locs 24 160 → Tt.heap = Ht → Fr n0 locs → n0 ≤ Ht.size → Exa Z Ht rm q_15 → Fld Z Ht rm q_15 "origins" q_20 (.ref arr) → Arv Z Ht arr ka (.object q_3) zz vs .null → (¬ og < 0 ∧ og < zz) → vs.getD og.toNatClampNeg .null = .ref oj → Fld Z Ht oj q_3 "held" "J" (.long (3 : Int64)) → Go p e below P (Tt.setTop (mkF m 230 #[(vI p0), (vI p1), (vI p2), (vI p3), (vJ p4), .second, (vI p5), (vI zz), (vI si), (vI og), (vI 3), (vI gp), (vR pa), (vR rm), (vI ot), (vJ (3 : Int64)), .second, .unset, .unset, .unset] [])) := by
   intro Tt locs Ht zz si og gp ot pa rm arr oj ka vs Xt et Nt Zt Et Ft Vt hog hvo Fh
   show oG p e below P m Tt 230 #[(vI p0), (vI p1), (vI p2), (vI p3), (vJ p4), .second, (vI p5), (vI zz), (vI si), (vI og), (vI 3), (vI gp), (vR pa), (vR rm), (vI ot), (vJ (3 : Int64)), .second, .unset, .unset, .unset] []
   refine iB Xt hx hby at_230 rfl ?_
   refine iC Xt hx hby at_232 (v := 1) rfl ?_
   refine w_iand Xt hx hby at_233 (v := (p5 &&& (1 : Int32))) rfl ?_
   by_cases hc234_32 : (p5 &&& (1 : Int32)) = (0 : Int32)
   · refine fN Xt hx hby at_234 (XT.i0_ne_f hc234_32) ?_
     refine lB Xt hx hby at_237 rfl ?_
     refine w_lstore Xt hx hby at_239 rfl ?_
     refine gO Xt hx hby at_241 (pc' := 259) ?_
     refine lB Xt hx hby at_259 rfl ?_
     refine lB Xt hx hby at_261 rfl ?_
     refine lD Xt hx hby hown hZ (tw_182 hw) at_263 (v' := (256 : Int64)) rfl ?_
     refine lP Xt hx hby at_266 (v := (259 : Int64)) rfl ?_
     refine lK Xt hx hby at_267 ?_
     by_cases hc268_33 : p4 < (259 : Int64)
     · refine fN Xt hx hby at_268 (XT.ll_ge_f hc268_33) ?_
       refine iC Xt hx hby at_271 (v := 1) rfl ?_
       refine gO Xt hx hby at_272 (pc' := 276) ?_
       refine iT Xt hx hby at_276 rfl ?_
       refine aB Xt hx hby at_278 rfl rfl ?_
       refine iB Xt hx hby at_280 rfl ?_
       refine lB Xt hx hby at_282 rfl ?_
       refine c_virt 0 Xt hx hby hml hZ hown (tw_183 hw) (tw_184 hw) (tw_186 hw) (tw_185 hw) (tw_187 hw) (tw_4 hw) (rm_plaus3 l Z a0 hw [] rm arr oj ka zz vs og p4 Ht n0 Zt Ft Vt hog hvo Fh) et Et at_284 [(.int og), (.long p4)] [] (lenOf pd6 rfl) rfl rfl ?_
       rintro _ T34 Lc34 ⟨rfl, N34q, q34⟩ X34
       have N34 := Fr.app Nt N34q
       show oG p e below P m T34 287 #[(vI p0), (vI p1), (vI p2), (vI p3), (vJ p4), .second, (vI p5), (vI zz), (vI si), (vI og), (vI 3), (vI gp), (vR pa), (vR rm), (vI ot), (vJ (3 : Int64)), .second, (vJ p4), .second, (vI 1)] [(.int (if p4 < (259 : Int64) then (1 : Int32) else 0))]
       rw [if_pos hc268_33]
       show oG p e below P m T34 287 #[(vI p0), (vI p1), (vI p2), (vI p3), (vJ p4), .second, (vI p5), (vI zz), (vI si), (vI og), (vI 3), (vI gp), (vR pa), (vR rm), (vI ot), (vJ (3 : Int64)), .second, (vJ p4), .second, (vI 1)] [(.int 1)]
       refine iB X34 hx hby at_287 rfl ?_
       refine cN X34 hx hby at_289 (XT.ii_ne_f (by decide : (1 : Int32) = (1 : Int32))) ?_
       refine iC X34 hx hby at_292 (v := 1) rfl ?_
       refine gO X34 hx hby at_293 (pc' := 297) ?_
       refine own_fin hP hlk X34 (v := some (.int 1)) (fun h => by rw [Bd.returns] at h; cases h) (by decide) (by decide) ?_ (fun fs hr => retOut X34 hx Bd.returns rfl (Or.inl ⟨rfl, Or.inr (Or.inl rfl), _, rfl⟩) (hb hby at_297) hr)
       rw [q34]
       exact ⟨rfl, N34⟩
     · refine fY Xt hx hby at_268 (pc' := 275) (XT.ll_ge_t hc268_33) ?_
       refine iC Xt hx hby at_275 (v := 0) rfl ?_
       refine iT Xt hx hby at_276 rfl ?_
       refine aB Xt hx hby at_278 rfl rfl ?_
       refine iB Xt hx hby at_280 rfl ?_
       refine lB Xt hx hby at_282 rfl ?_
       refine c_virt 0 Xt hx hby hml hZ hown (tw_183 hw) (tw_184 hw) (tw_186 hw) (tw_185 hw) (tw_187 hw) (tw_4 hw) (rm_plaus3 l Z a0 hw [] rm arr oj ka zz vs og p4 Ht n0 Zt Ft Vt hog hvo Fh) et Et at_284 [(.int og), (.long p4)] [] (lenOf pd6 rfl) rfl rfl ?_
       rintro _ T35 Lc35 ⟨rfl, N35q, q35⟩ X35
       have N35 := Fr.app Nt N35q
       show oG p e below P m T35 287 #[(vI p0), (vI p1), (vI p2), (vI p3), (vJ p4), .second, (vI p5), (vI zz), (vI si), (vI og), (vI 3), (vI gp), (vR pa), (vR rm), (vI ot), (vJ (3 : Int64)), .second, (vJ p4), .second, (vI 0)] [(.int (if p4 < (259 : Int64) then (1 : Int32) else 0))]
       rw [if_neg hc268_33]
       show oG p e below P m T35 287 #[(vI p0), (vI p1), (vI p2), (vI p3), (vJ p4), .second, (vI p5), (vI zz), (vI si), (vI og), (vI 3), (vI gp), (vR pa), (vR rm), (vI ot), (vJ (3 : Int64)), .second, (vJ p4), .second, (vI 0)] [(.int 0)]
       refine iB X35 hx hby at_287 rfl ?_
       refine cN X35 hx hby at_289 (XT.ii_ne_f (by decide : (0 : Int32) = (0 : Int32))) ?_
       refine iC X35 hx hby at_292 (v := 1) rfl ?_
       refine gO X35 hx hby at_293 (pc' := 297) ?_
       refine own_fin hP hlk X35 (v := some (.int 1)) (fun h => by rw [Bd.returns] at h; cases h) (by decide) (by decide) ?_ (fun fs hr => retOut X35 hx Bd.returns rfl (Or.inl ⟨rfl, Or.inr (Or.inl rfl), _, rfl⟩) (hb hby at_297) hr)
       rw [q35]
       exact ⟨rfl, N35⟩
   · refine fY Xt hx hby at_234 (pc' := 244) (XT.i0_ne_t hc234_32) ?_
     refine lB Xt hx hby at_244 rfl ?_
     refine lD Xt hx hby hown hZ (tw_201 hw) at_246 (v' := (254 : Int64)) rfl ?_
     refine lP Xt hx hby at_249 (v := (257 : Int64)) rfl ?_
     refine lB Xt hx hby at_250 rfl ?_
     refine lD Xt hx hby hown hZ (tw_202 hw) at_252 (v' := (3 : Int64)) rfl ?_
     refine w_land Xt hx hby at_255 (v := (p4 &&& (3 : Int64))) rfl ?_
     refine lP Xt hx hby at_256 (v := ((257 : Int64) + (p4 &&& (3 : Int64)))) rfl ?_
     refine w_lstore Xt hx hby at_257 rfl ?_
     refine lB Xt hx hby at_259 rfl ?_
     refine lB Xt hx hby at_261 rfl ?_
     refine lD Xt hx hby hown hZ (tw_182 hw) at_263 (v' := (256 : Int64)) rfl ?_
     refine lP Xt hx hby at_266 (v := (259 : Int64)) rfl ?_
     refine lK Xt hx hby at_267 ?_
     by_cases hc268_36 : ((257 : Int64) + (p4 &&& (3 : Int64))) < (259 : Int64)
     · refine fN Xt hx hby at_268 (XT.ll_ge_f hc268_36) ?_
       refine iC Xt hx hby at_271 (v := 1) rfl ?_
       refine gO Xt hx hby at_272 (pc' := 276) ?_
       refine iT Xt hx hby at_276 rfl ?_
       refine aB Xt hx hby at_278 rfl rfl ?_
       refine iB Xt hx hby at_280 rfl ?_
       refine lB Xt hx hby at_282 rfl ?_
       refine c_virt 0 Xt hx hby hml hZ hown (tw_183 hw) (tw_184 hw) (tw_186 hw) (tw_185 hw) (tw_187 hw) (tw_4 hw) (rm_plaus3 l Z a0 hw [] rm arr oj ka zz vs og ((257 : Int64) + (p4 &&& (3 : Int64))) Ht n0 Zt Ft Vt hog hvo Fh) et Et at_284 [(.int og), (.long ((257 : Int64) + (p4 &&& (3 : Int64))))] [] (lenOf pd6 rfl) rfl rfl ?_
       rintro _ T37 Lc37 ⟨rfl, N37q, q37⟩ X37
       have N37 := Fr.app Nt N37q
       show oG p e below P m T37 287 #[(vI p0), (vI p1), (vI p2), (vI p3), (vJ p4), .second, (vI p5), (vI zz), (vI si), (vI og), (vI 3), (vI gp), (vR pa), (vR rm), (vI ot), (vJ (3 : Int64)), .second, (vJ ((257 : Int64) + (p4 &&& (3 : Int64)))), .second, (vI 1)] [(.int (if ((257 : Int64) + (p4 &&& (3 : Int64))) < (259 : Int64) then (1 : Int32) else 0))]
       rw [if_pos hc268_36]
       show oG p e below P m T37 287 #[(vI p0), (vI p1), (vI p2), (vI p3), (vJ p4), .second, (vI p5), (vI zz), (vI si), (vI og), (vI 3), (vI gp), (vR pa), (vR rm), (vI ot), (vJ (3 : Int64)), .second, (vJ ((257 : Int64) + (p4 &&& (3 : Int64)))), .second, (vI 1)] [(.int 1)]
       refine iB X37 hx hby at_287 rfl ?_
       refine cN X37 hx hby at_289 (XT.ii_ne_f (by decide : (1 : Int32) = (1 : Int32))) ?_
       refine iC X37 hx hby at_292 (v := 1) rfl ?_
       refine gO X37 hx hby at_293 (pc' := 297) ?_
       refine own_fin hP hlk X37 (v := some (.int 1)) (fun h => by rw [Bd.returns] at h; cases h) (by decide) (by decide) ?_ (fun fs hr => retOut X37 hx Bd.returns rfl (Or.inl ⟨rfl, Or.inr (Or.inl rfl), _, rfl⟩) (hb hby at_297) hr)
       rw [q37]
       exact ⟨rfl, N37⟩
     · refine fY Xt hx hby at_268 (pc' := 275) (XT.ll_ge_t hc268_36) ?_
       refine iC Xt hx hby at_275 (v := 0) rfl ?_
       refine iT Xt hx hby at_276 rfl ?_
       refine aB Xt hx hby at_278 rfl rfl ?_
       refine iB Xt hx hby at_280 rfl ?_
       refine lB Xt hx hby at_282 rfl ?_
       refine c_virt 0 Xt hx hby hml hZ hown (tw_183 hw) (tw_184 hw) (tw_186 hw) (tw_185 hw) (tw_187 hw) (tw_4 hw) (rm_plaus3 l Z a0 hw [] rm arr oj ka zz vs og ((257 : Int64) + (p4 &&& (3 : Int64))) Ht n0 Zt Ft Vt hog hvo Fh) et Et at_284 [(.int og), (.long ((257 : Int64) + (p4 &&& (3 : Int64))))] [] (lenOf pd6 rfl) rfl rfl ?_
       rintro _ T38 Lc38 ⟨rfl, N38q, q38⟩ X38
       have N38 := Fr.app Nt N38q
       show oG p e below P m T38 287 #[(vI p0), (vI p1), (vI p2), (vI p3), (vJ p4), .second, (vI p5), (vI zz), (vI si), (vI og), (vI 3), (vI gp), (vR pa), (vR rm), (vI ot), (vJ (3 : Int64)), .second, (vJ ((257 : Int64) + (p4 &&& (3 : Int64)))), .second, (vI 0)] [(.int (if ((257 : Int64) + (p4 &&& (3 : Int64))) < (259 : Int64) then (1 : Int32) else 0))]
       rw [if_neg hc268_36]
       show oG p e below P m T38 287 #[(vI p0), (vI p1), (vI p2), (vI p3), (vJ p4), .second, (vI p5), (vI zz), (vI si), (vI og), (vI 3), (vI gp), (vR pa), (vR rm), (vI ot), (vJ (3 : Int64)), .second, (vJ ((257 : Int64) + (p4 &&& (3 : Int64)))), .second, (vI 0)] [(.int 0)]
       refine iB X38 hx hby at_287 rfl ?_
       refine cN X38 hx hby at_289 (XT.ii_ne_f (by decide : (0 : Int32) = (0 : Int32))) ?_
       refine iC X38 hx hby at_292 (v := 1) rfl ?_
       refine gO X38 hx hby at_293 (pc' := 297) ?_
       refine own_fin hP hlk X38 (v := some (.int 1)) (fun h => by rw [Bd.returns] at h; cases h) (by decide) (by decide) ?_ (fun fs hr => retOut X38 hx Bd.returns rfl (Or.inl ⟨rfl, Or.inr (Or.inl rfl), _, rfl⟩) (hb hby at_297) hr)
       rw [q38]
       exact ⟨rfl, N38⟩
 show oG p e below P m s₁ 0 #[(vI p0), (vI p1), (vI p2), (vI p3), (vJ p4), .second, (vI p5), .unset, .unset, .unset, .unset, .unset, .unset, .unset, .unset, .unset, .unset, .unset, .unset, .unset] []
 refine iC X0 hx hby at_0 (v := 2) rfl ?_
 refine iA X0 hx hby at_1 rfl ?_
 refine iC X0 hx hby at_2 (v := 1) rfl ?_
 refine w_iand X0 hx hby at_3 (v := (p0 &&& (1 : Int32))) rfl ?_
 refine iP X0 hx hby at_4 (v := ((2 : Int32) + (p0 &&& (1 : Int32)))) rfl ?_
 obtain ⟨zz, ezz⟩ : ∃ z, z = ((2 : Int32) + (p0 &&& (1 : Int32))) := ⟨_, rfl⟩
 rw [← ezz]
 have hz := own_sz p0
 rw [← ezz] at hz
 show oG p e below P m s₁ 5 #[(vI p0), (vI p1), (vI p2), (vI p3), (vJ p4), .second, (vI p5), .unset, .unset, .unset, .unset, .unset, .unset, .unset, .unset, .unset, .unset, .unset, .unset, .unset] [(.int zz)]
 refine iT X0 hx hby at_5 rfl ?_
 refine iA X0 hx hby at_7 rfl ?_
 refine Go.by (fun _ => Jvm.Stand.ldcI X0 hx hown (mvT hZ (tw_0 hw)) rfl (hb hby at_8)) ?_
 show oG p e below P m s₁ 10 #[(vI p0), (vI p1), (vI p2), (vI p3), (vJ p4), .second, (vI p5), (vI zz), .unset, .unset, .unset, .unset, .unset, .unset, .unset, .unset, .unset, .unset, .unset, .unset] [(.int 2147483647), (.int p1)]
 refine w_iand X0 hx hby at_10 (v := (p1 &&& (2147483647 : Int32))) rfl ?_
 refine iB X0 hx hby at_11 rfl ?_
 refine Go.by (fun _ => iremM X0 hx rfl (hb hby at_13) rfl (own_nz hz)) ?_
 show oG p e below P m s₁ 14 #[(vI p0), (vI p1), (vI p2), (vI p3), (vJ p4), .second, (vI p5), (vI zz), .unset, .unset, .unset, .unset, .unset, .unset, .unset, .unset, .unset, .unset, .unset, .unset] [(.int ((p1 &&& (2147483647 : Int32)) % zz))]
 obtain ⟨si, esi⟩ : ∃ z, z = ((p1 &&& (2147483647 : Int32)) % zz) := ⟨_, rfl⟩
 rw [← esi]
 have hsi := own_md p1 hz
 rw [← esi] at hsi
 show oG p e below P m s₁ 14 #[(vI p0), (vI p1), (vI p2), (vI p3), (vJ p4), .second, (vI p5), (vI zz), .unset, .unset, .unset, .unset, .unset, .unset, .unset, .unset, .unset, .unset, .unset, .unset] [(.int si)]
 refine iT X0 hx hby at_14 rfl ?_
 refine iA X0 hx hby at_16 rfl ?_
 refine Go.by (fun _ => Jvm.Stand.ldcI X0 hx hown (mvT hZ (tw_0 hw)) rfl (hb hby at_17)) ?_
 show oG p e below P m s₁ 19 #[(vI p0), (vI p1), (vI p2), (vI p3), (vJ p4), .second, (vI p5), (vI zz), (vI si), .unset, .unset, .unset, .unset, .unset, .unset, .unset, .unset, .unset, .unset, .unset] [(.int 2147483647), (.int p2)]
 refine w_iand X0 hx hby at_19 (v := (p2 &&& (2147483647 : Int32))) rfl ?_
 refine iB X0 hx hby at_20 rfl ?_
 refine Go.by (fun _ => iremM X0 hx rfl (hb hby at_22) rfl (own_nz hz)) ?_
 show oG p e below P m s₁ 23 #[(vI p0), (vI p1), (vI p2), (vI p3), (vJ p4), .second, (vI p5), (vI zz), (vI si), .unset, .unset, .unset, .unset, .unset, .unset, .unset, .unset, .unset, .unset, .unset] [(.int ((p2 &&& (2147483647 : Int32)) % zz))]
 obtain ⟨og, eog⟩ : ∃ z, z = ((p2 &&& (2147483647 : Int32)) % zz) := ⟨_, rfl⟩
 rw [← eog]
 have hog := own_md p2 hz
 rw [← eog] at hog
 show oG p e below P m s₁ 23 #[(vI p0), (vI p1), (vI p2), (vI p3), (vJ p4), .second, (vI p5), (vI zz), (vI si), .unset, .unset, .unset, .unset, .unset, .unset, .unset, .unset, .unset, .unset, .unset] [(.int og)]
 refine iT X0 hx hby at_23 rfl ?_
 refine iA X0 hx hby at_25 rfl ?_
 refine iC X0 hx hby at_26 (v := 3) rfl ?_
 refine w_iand X0 hx hby at_27 (v := (p3 &&& (3 : Int32))) rfl ?_
 obtain ⟨kk, ekk⟩ : ∃ z, z = (p3 &&& (3 : Int32)) := ⟨_, rfl⟩
 rw [← ekk]
 have hk := own_k4 p3
 rw [← ekk] at hk
 clear ekk
 show oG p e below P m s₁ 28 #[(vI p0), (vI p1), (vI p2), (vI p3), (vJ p4), .second, (vI p5), (vI zz), (vI si), (vI og), .unset, .unset, .unset, .unset, .unset, .unset, .unset, .unset, .unset, .unset] [(.int kk)]
 refine iT X0 hx hby at_28 rfl ?_
 have t43 : ∀ gp : Int32, Go p e below P (s₁.setTop (mkF m 43 #[(vI p0), (vI p1), (vI p2), (vI p3), (vJ p4), .second, (vI p5), (vI zz), (vI si), (vI og), (vI kk), .unset, .unset, .unset, .unset, .unset, .unset, .unset, .unset, .unset] [(.int gp)])) := by
   intro gp
   refine iT X0 hx hby at_43 rfl ?_
   refine iC X0 hx hby at_45 (v := 0) rfl ?_
   obtain ⟨T39, h39, k39, X39, e39, E39, A39, st39⟩ := newP X0 hx hZ (aty := .byte) (tw_1 hw) e0 (g := (mkF m 46 #[(vI p0), (vI p1), (vI p2), (vI p3), (vJ p4), .second, (vI p5), (vI zz), (vI si), (vI og), (vI kk), (vI gp), .unset, .unset, .unset, .unset, .unset, .unset, .unset, .unset] [(.int 0)])) rfl (hb hby at_46) rfl (by decide) (cap := 0) (by decide) (by decide) (by decide) (by decide)
   obtain ⟨b39, g39⟩ : ∃ z, z = h0.size := ⟨_, rfl⟩
   rw [← g39] at A39 st39
   have g_b39 : n0 ≤ b39 := Nat.le_trans Z0 (Nat.le_of_eq g39.symm)
   have f39_0 := Nat.le_trans Z0 E39.1
   have f39_1 := Old.ext O0 E39
   refine Go.by st39 ?_
   have V39 : Arv Z h39 b39 k39 .byte (0 : Int32) [] (.int 0) := (Arv.new A39 (by decide)).pad (pad_rep [] (.int 0) 0)
   refine aT X39 hx hby at_48 rfl rfl ?_
   obtain ⟨T40, h40, X40, e40, E40, A40, D40, U40, st40⟩ := newO X39 hx hZ hown (tw_2 hw) (tw_3 hw) (tw_4 hw) e39 (g := (mkF m 50 #[(vI p0), (vI p1), (vI p2), (vI p3), (vJ p4), .second, (vI p5), (vI zz), (vI si), (vI og), (vI kk), (vI gp), (vR b39), .unset, .unset, .unset, .unset, .unset, .unset, .unset] [])) rfl (hb hby at_50) (by decide) (by decide)
   obtain ⟨b40, g40⟩ : ∃ z, z = h39.size := ⟨_, rfl⟩
   rw [← g40] at A40 D40 U40 st40
   have g_b40 : n0 ≤ b40 := Nat.le_trans f39_0 (Nat.le_of_eq g40.symm)
   have f40_0 := Nat.le_trans f39_0 E40.1
   have f40_1 := Old.ext f39_1 E40
   refine Go.by st40 ?_
   have F40_self : Fld Z h40 b40 q_15 "self" "I" (.int 0) := D40 (Or.inr (tw_12 hw)) (ty := .int) (by decide)
   have F40_origins : Fld Z h40 b40 q_15 "origins" q_20 .null := D40 (Or.inr (tw_16 hw)) (ty := (.array (.object q_3))) (by decide)
   have F40_reported : Fld Z h40 b40 q_15 "reported" "[[J" .null := D40 (Or.inr (tw_73 hw)) (ty := (.array (.array .long))) (by decide)
   refine dU X40 hx hby at_53 rfl ?_
   refine iB X40 hx hby at_54 rfl ?_
   refine iB X40 hx hby at_56 rfl ?_
   obtain ⟨_, _, ⟨T41, L41, k41, n41⟩, -, X41, ⟨Lc41, hQ41, l41, y41, z41⟩, st41⟩ := X40.specialBack hx (y := oY21) rfl hown (mvT hZ (tw_5 hw)) (mvT hZ (tw_6 hw)) (mvT hZ (tw_7 hw)) (by decide) (backOf (W := 1) (rm_rmInit l Z a0 hw [] b40 zz si h40 n0 f40_0 f40_1 A40 F40_self F40_origins F40_reported g_b40 hz) hZ (tw_7 hw) (tw_4 hw) (by decide) (by decide)) (g := (mkF m 58 #[(vI p0), (vI p1), (vI p2), (vI p3), (vJ p4), .second, (vI p5), (vI zz), (vI si), (vI og), (vI kk), (vI gp), (vR b39), .unset, .unset, .unset, .unset, .unset, .unset, .unset] [(.int si), (.int zz), (.ref b40), (.ref b40)])) rfl (by rw [hml]; rfl) (Steps.refl _) (a := b40) (argsL := [(.int zz), (.int si)]) (rest := [(.ref b40)]) (lenOf pd26 rfl) rfl (by show 2 * 0 + _ ≤ _; exact Nat.le_of_eq rfl) (hb hby at_58) (fun _ _ => ⟨rfl, e40, (by decide : 2 + 11 ≤ _), (by decide : 3 + 70 ≤ _)⟩)
   dsimp only [Pt.U, Pt.locs, Pt.cells, Pt.slots] at X41 l41 y41 z41 st41 hQ41
   subst l41 y41 z41
   obtain ⟨rfl, N41q, K41, arr, ka, out, ko, fo, fm, fx, RS41, O041, DS41⟩ := hQ41
   have N41 := Fr.app N0 N41q
   refine Go.by (fun t k => st41.trans k) ?_
   have f41_0 := Nat.le_trans f40_0 K41.1
   have f41_1 := Old.keep f40_1 K41 (allS g_b40 all0)
   have f41_2 := Exa.keep A40 K41
   obtain ⟨Erm, Fsf, For, Frp, Var, Vou, LAs⟩ := RS41
   show oG p e below P m T41 61 #[(vI p0), (vI p1), (vI p2), (vI p3), (vJ p4), .second, (vI p5), (vI zz), (vI si), (vI og), (vI kk), (vI gp), (vR b39), .unset, .unset, .unset, .unset, .unset, .unset, .unset] [(.ref b40)]
   refine aT X41 hx hby at_61 rfl rfl ?_
   refine iB X41 hx hby at_63 rfl ?_
   refine iC X41 hx hby at_65 (v := 1) rfl ?_
   refine iP X41 hx hby at_66 (v := (og + (1 : Int32))) rfl ?_
   refine iB X41 hx hby at_67 rfl ?_
   refine Go.by (fun _ => iremM X41 hx rfl (hb hby at_69) rfl (own_nz hz)) ?_
   show oG p e below P m T41 70 #[(vI p0), (vI p1), (vI p2), (vI p3), (vJ p4), .second, (vI p5), (vI zz), (vI si), (vI og), (vI kk), (vI gp), (vR b39), (vR b40), .unset, .unset, .unset, .unset, .unset, .unset] [(.int ((og + (1 : Int32)) % zz))]
   obtain ⟨ot, eot⟩ : ∃ z, z = ((og + (1 : Int32)) % zz) := ⟨_, rfl⟩
   rw [← eot]
   have hoo := own_ot hz hog
   rw [← eot] at hoo
   obtain ⟨hot, hoo⟩ := hoo
   have hJ := own_tnl hog
   have hK := own_tnl hot
   have hI := own_tnl hsi
   obtain ⟨oj, eoj⟩ : ∃ z, z = fo og.toNatClampNeg := ⟨_, rfl⟩
   obtain ⟨mj, emj⟩ : ∃ z, z = fm og.toNatClampNeg := ⟨_, rfl⟩
   obtain ⟨ok, eok⟩ : ∃ z, z = fo ot.toNatClampNeg := ⟨_, rfl⟩
   obtain ⟨mk, emk⟩ : ∃ z, z = fm ot.toNatClampNeg := ⟨_, rfl⟩
   obtain ⟨xi, exi⟩ : ∃ z, z = fx si.toNatClampNeg := ⟨_, rfl⟩
   have OOJ : own_O0 Z T41.heap oj mj := by rw [eoj, emj]; exact O041 _ hJ
   obtain ⟨GJ_0, GJ_1, GJ_2, GJ_3, GJ_4, GJ_5, GJ_6, GJ_7, GJ_8, GJ_9⟩ := OOJ
   have hvoJ : ((List.range zz.toNatClampNeg).map fun i => Value.ref (fo i)).getD og.toNatClampNeg .null = .ref oj := by rw [eoj]; exact own_vs _ hJ
   have DJ := DS41.1 _ hJ
   rw [← eoj, ← emj] at DJ
   have g_oj := DJ.1
   have g_mj := DJ.2.1
   have OOK : own_O0 Z T41.heap ok mk := by rw [eok, emk]; exact O041 _ hK
   obtain ⟨GK_0, GK_1, GK_2, GK_3, GK_4, GK_5, GK_6, GK_7, GK_8, GK_9⟩ := OOK
   have hvoK : ((List.range zz.toNatClampNeg).map fun i => Value.ref (fo i)).getD ot.toNatClampNeg .null = .ref ok := by rw [eok]; exact own_vs _ hK
   have DK := DS41.1 _ hK
   rw [← eok, ← emk] at DK
   have g_ok := DK.1
   have g_mk := DK.2.1
   have huxI : ((List.range zz.toNatClampNeg).map fun i => Value.ref (fx i)).getD si.toNatClampNeg .null = .ref xi := by rw [exi]; exact own_vs _ hI
   have LAx : own_LA Z T41.heap xi zz := by rw [exi]; exact LAs _ hI
   have DI := DS41.1 _ hI
   rw [← exi] at DI
   have g_xi := DI.2.2.1
   have nax := DI.2.2.2.1
   have nox := DI.2.2.2.2
   have DJK := DS41.2 _ _ hJ hK (fun q => hoo (own_tni hot.1 hog.1 q.symm))
   rw [← eoj, ← eok, ← emj, ← emk] at DJK
   have ne_b40_oj : b40 ≠ oj := ne_exa f41_2 GJ_0 (by decide)
   have ne_b40_ok : b40 ≠ ok := ne_exa f41_2 GK_0 (by decide)
   have ne_b40_mj : b40 ≠ mj := ne_exa f41_2 GJ_5 (by decide)
   have ne_b40_mk : b40 ≠ mk := ne_exa f41_2 GK_5 (by decide)
   have ne_b40_xi : b40 ≠ xi := fun q => by obtain ⟨_, Ar, -⟩ := LAx; exact ne_arr f41_2 (tw_3 hw) Ar q
   have ne_oj_mk : oj ≠ mk := ne_exa GJ_0 GK_5 (by decide)
   have ne_oj_arr : oj ≠ arr := fun q => by obtain ⟨_, Ar, -⟩ := Var; exact ne_arr GJ_0 (tw_33 hw) Ar q
   have ne_oj_out : oj ≠ out := fun q => by obtain ⟨_, Ar, -⟩ := Vou; exact ne_arr GJ_0 (tw_33 hw) Ar q
   have ne_oj_xi : oj ≠ xi := fun q => by obtain ⟨_, Ar, -⟩ := LAx; exact ne_arr GJ_0 (tw_33 hw) Ar q
   have ne_ok_mj : ok ≠ mj := ne_exa GK_0 GJ_5 (by decide)
   have ne_ok_arr : ok ≠ arr := fun q => by obtain ⟨_, Ar, -⟩ := Var; exact ne_arr GK_0 (tw_33 hw) Ar q
   have ne_ok_out : ok ≠ out := fun q => by obtain ⟨_, Ar, -⟩ := Vou; exact ne_arr GK_0 (tw_33 hw) Ar q
   have ne_mj_arr : mj ≠ arr := fun q => by obtain ⟨_, Ar, -⟩ := Var; exact ne_arr GJ_5 (tw_43 hw) Ar q
   have ne_mj_out : mj ≠ out := fun q => by obtain ⟨_, Ar, -⟩ := Vou; exact ne_arr GJ_5 (tw_43 hw) Ar q
   have ne_mj_xi : mj ≠ xi := fun q => by obtain ⟨_, Ar, -⟩ := LAx; exact ne_arr GJ_5 (tw_43 hw) Ar q
   have ne_mk_arr : mk ≠ arr := fun q => by obtain ⟨_, Ar, -⟩ := Var; exact ne_arr GK_5 (tw_43 hw) Ar q
   have ne_mk_out : mk ≠ out := fun q => by obtain ⟨_, Ar, -⟩ := Vou; exact ne_arr GK_5 (tw_43 hw) Ar q
   show oG p e below P m T41 70 #[(vI p0), (vI p1), (vI p2), (vI p3), (vJ p4), .second, (vI p5), (vI zz), (vI si), (vI og), (vI kk), (vI gp), (vR b39), (vR b40), .unset, .unset, .unset, .unset, .unset, .unset] [(.int ot)]
   refine iT X41 hx hby at_70 rfl ?_
   refine iB X41 hx hby at_72 rfl ?_
   refine iB X41 hx hby at_74 rfl ?_
   by_cases hc76_42 : ot = si
   · refine cN X41 hx hby at_76 (XT.ii_ne_f hc76_42) ?_
     refine aB X41 hx hby at_79 rfl rfl ?_
     refine aB X41 hx hby at_81 rfl rfl ?_
     refine c_virt 0 X41 hx hby hml hZ hown (tw_74 hw) (tw_75 hw) (tw_77 hw) (tw_76 hw) (tw_78 hw) (tw_4 hw) (rm_send0 l Z a0 hw [] b40 arr out ok mk xi ka ko zz si ((List.range zz.toNatClampNeg).map fun i => Value.ref (fo i)) ((List.range zz.toNatClampNeg).map fun i => Value.ref (fx i)) b39 (0 : Int32) (0 : Int32) ca cc T41.heap n0 f41_0 f41_1 Sca BX Var Vou hsi huxI LAx nax nox (by rw [← hc76_42]; exact hvoK) f41_2 Fsf For Frp GK_0 GK_1 GK_2 GK_3 GK_4 GK_5 GK_6 GK_7 GK_8 GK_9 g_ok g_mk g_xi) rfl f41_2 at_83 [(.ref b39)] [] (lenOf pd11 rfl) rfl rfl ?_
     rintro _ T43 Lc43 ⟨rfl, N43q, K43, en43, zn43, G43_0, G43_1, G43_2, G43_3, G43_4, G43_5, G43_6, G43_7, G43_8, G43_9, G43_10, G43_11, G43_12, G43_13, G43_14, G43_15⟩ X43
     have N43 := Fr.app N41 N43q
     have u43_0 := ninS (Ne.symm ne_ok_mj) (ninS DJK.2 (ninS ne_mj_xi nin0))
     have u43_1 := ninS ne_b40_ok (ninS ne_b40_mk (ninS ne_b40_xi nin0))
     have u43_2 := ninS DJK.1 (ninS ne_oj_mk (ninS ne_oj_xi nin0))
     have f43_0 := Nat.le_trans f41_0 K43.1
     have f43_1 := Old.keep f41_1 K43 (allS g_ok (allS g_mk (allS g_xi all0)))
     have f43_2 := Exa.keep f41_2 K43
     have f43_3 := Fld.keep Fsf K43 u43_1
     have f43_4 := Fld.keep For K43 u43_1
     have f43_5 := Fld.keep Frp K43 u43_1
     have f43_6 := Arv.keep Var K43 (ninS (Ne.symm ne_ok_arr) (ninS (Ne.symm ne_mk_arr) (ninS nax nin0)))
     have f43_7 := Arv.keep Vou K43 (ninS (Ne.symm ne_ok_out) (ninS (Ne.symm ne_mk_out) (ninS nox nin0)))
     have f43_8 := Exa.keep GJ_0 K43
     have f43_9 := Fld.keep GJ_1 K43 u43_2
     have f43_10 := Fld.keep GJ_2 K43 u43_2
     have f43_11 := Fld.keep GJ_3 K43 u43_2
     have f43_12 := Fld.keep GJ_4 K43 u43_2
     have f43_13 := Exa.keep GJ_5 K43
     have f43_14 := Fld.keep GJ_6 K43 u43_0
     have f43_15 := Fld.keep GJ_7 K43 u43_0
     have f43_16 := Fld.keep GJ_8 K43 u43_0
     have f43_17 := Fld.keep GJ_9 K43 u43_0
     have f43_20 : own_LA Z T43.heap xi zz := (own_LA.keep LAx K43)
     have g_en43 : n0 ≤ en43 := Nat.le_trans f41_0 zn43
     show oG p e below P m T43 86 #[(vI p0), (vI p1), (vI p2), (vI p3), (vJ p4), .second, (vI p5), (vI zz), (vI si), (vI og), (vI kk), (vI gp), (vR b39), (vR b40), (vI ot), .unset, .unset, .unset, .unset, .unset] [(.long (0 : Int64))]
     refine Go.by (fun _ => own_pop2 X43.here hx rfl (hb hby at_86) rfl) ?_
     show oG p e below P m T43 87 #[(vI p0), (vI p1), (vI p2), (vI p3), (vJ p4), .second, (vI p5), (vI zz), (vI si), (vI og), (vI kk), (vI gp), (vR b39), (vR b40), (vI ot), .unset, .unset, .unset, .unset, .unset] []
     refine gO X43 hx hby at_87 (pc' := 101) ?_
     rcases hk with rfl | rfl | rfl | rfl
     · show oG p e below P m T43 101 #[(vI p0), (vI p1), (vI p2), (vI p3), (vJ p4), .second, (vI p5), (vI zz), (vI si), (vI og), (vI 0), (vI gp), (vR b39), (vR b40), (vI ot), .unset, .unset, .unset, .unset, .unset] []
       refine iB X43 hx hby at_101 rfl ?_
       refine w_i2l X43 hx hby at_103 (v := (0 : Int64)) rfl ?_
       refine w_lstore X43 hx hby at_104 rfl ?_
       refine iB X43 hx hby at_106 rfl ?_
       refine iB X43 hx hby at_108 rfl ?_
       refine cY X43 hx hby at_110 (pc' := 158) (XT.ii_ne_t (fun q => hoo (hc76_42.trans q.symm))) ?_
       refine iB X43 hx hby at_158 rfl ?_
       refine iC X43 hx hby at_160 (v := 1) rfl ?_
       refine cY X43 hx hby at_161 (pc' := 175) (XT.ii_lt_t (by decide : (0 : Int32) < (1 : Int32))) ?_
       refine iB X43 hx hby at_175 rfl ?_
       refine iC X43 hx hby at_177 (v := 2) rfl ?_
       refine cY X43 hx hby at_178 (pc' := 192) (XT.ii_lt_t (by decide : (0 : Int32) < (2 : Int32))) ?_
       refine iB X43 hx hby at_192 rfl ?_
       refine iC X43 hx hby at_194 (v := 3) rfl ?_
       refine cY X43 hx hby at_195 (pc' := 211) (XT.ii_lt_t (by decide : (0 : Int32) < (3 : Int32))) ?_
       refine iB X43 hx hby at_211 rfl ?_
       by_cases hc213_44 : gp = (0 : Int32)
       · refine fY X43 hx hby at_213 (pc' := 230) (XT.i0_eq_t hc213_44) ?_
         exact tail0 zz si og gp ot b39 b40 arr oj ka ((List.range zz.toNatClampNeg).map fun i => Value.ref (fo i)) (X43.more (by decide) (by decide)) rfl N43 f43_0 f43_2 f43_4 f43_6 hog hvoJ f43_9
       · refine fN X43 hx hby at_213 (XT.i0_eq_f hc213_44) ?_
         refine aB X43 hx hby at_216 rfl rfl ?_
         refine iB X43 hx hby at_218 rfl ?_
         refine lB X43 hx hby at_220 rfl ?_
         refine lC X43 hx hby at_222 (v := (1 : Int64)) rfl ?_
         refine lP X43 hx hby at_223 (v := (1 : Int64)) rfl ?_
         refine aB X43 hx hby at_224 rfl rfl ?_
         refine c_virt 0 X43 hx hby hml hZ hown (tw_150 hw) (tw_151 hw) (tw_153 hw) (tw_152 hw) (tw_154 hw) (tw_4 hw) (rm_recvG0 l Z a0 hw [] b40 arr out oj mj xi ka ko zz si ((List.range zz.toNatClampNeg).map fun i => Value.ref (fo i)) ((List.range zz.toNatClampNeg).map fun i => Value.ref (fx i)) b39 (0 : Int32) (0 : Int32) ca cc og T43.heap n0 f43_0 f43_1 Sca BX f43_6 f43_7 hsi huxI f43_20 nax nox hog hvoJ (fun q => hoo (hc76_42.trans q.symm)) f43_2 f43_3 f43_4 f43_5 f43_8 f43_9 f43_10 f43_11 f43_12 f43_13 f43_14 f43_15 f43_16 f43_17 g_oj g_mj g_xi) rfl f43_2 at_226 [(.int og), (.long (1 : Int64)), (.ref b39)] [] (lenOf pd4 rfl) rfl rfl ?_
         rintro _ T45 Lc45 ⟨rfl, N45q, K45, en45, zn45, G45_0, G45_1, G45_2, G45_3, G45_4, G45_5, G45_6, G45_7, G45_8, G45_9, G45_10, G45_11, G45_12, G45_13, G45_14, G45_15⟩ X45
         have N45 := Fr.app N43 N45q
         have f45_0 := Nat.le_trans f43_0 K45.1
         have f45_2 := Exa.keep f43_2 K45
         have f45_4 := Fld.keep f43_4 K45 (ninS ne_b40_oj (ninS ne_b40_mj (ninS ne_b40_xi nin0)))
         have f45_6 := Arv.keep f43_6 K45 (ninS (Ne.symm ne_oj_arr) (ninS (Ne.symm ne_mj_arr) (ninS nax nin0)))
         have g_en45 : n0 ≤ en45 := Nat.le_trans f43_0 zn45
         refine pO X45 hx hby at_229 rfl ?_
         exact tail0 zz si og gp ot b39 b40 arr oj ka ((List.range zz.toNatClampNeg).map fun i => Value.ref (fo i)) (X45.more (by decide) (by decide)) rfl N45 f45_0 f45_2 f45_4 f45_6 hog hvoJ G45_1
     · show oG p e below P m T43 101 #[(vI p0), (vI p1), (vI p2), (vI p3), (vJ p4), .second, (vI p5), (vI zz), (vI si), (vI og), (vI 1), (vI gp), (vR b39), (vR b40), (vI ot), .unset, .unset, .unset, .unset, .unset] []
       refine iB X43 hx hby at_101 rfl ?_
       refine w_i2l X43 hx hby at_103 (v := (1 : Int64)) rfl ?_
       refine w_lstore X43 hx hby at_104 rfl ?_
       refine iB X43 hx hby at_106 rfl ?_
       refine iB X43 hx hby at_108 rfl ?_
       refine cY X43 hx hby at_110 (pc' := 158) (XT.ii_ne_t (fun q => hoo (hc76_42.trans q.symm))) ?_
       refine iB X43 hx hby at_158 rfl ?_
       refine iC X43 hx hby at_160 (v := 1) rfl ?_
       refine cN X43 hx hby at_161 (XT.ii_lt_f (by decide : ¬ (1 : Int32) < (1 : Int32))) ?_
       refine aB X43 hx hby at_164 rfl rfl ?_
       refine iB X43 hx hby at_166 rfl ?_
       refine lC X43 hx hby at_168 (v := (0 : Int64)) rfl ?_
       refine aB X43 hx hby at_169 rfl rfl ?_
       refine c_virt 0 X43 hx hby hml hZ hown (tw_150 hw) (tw_151 hw) (tw_153 hw) (tw_152 hw) (tw_154 hw) (tw_4 hw) (rm_recv0 l Z a0 hw [] b40 arr out oj mj xi ka ko zz si ((List.range zz.toNatClampNeg).map fun i => Value.ref (fo i)) ((List.range zz.toNatClampNeg).map fun i => Value.ref (fx i)) b39 (0 : Int32) (0 : Int32) ca cc og T43.heap n0 f43_0 f43_1 Sca BX f43_6 f43_7 hsi huxI f43_20 nax nox hog hvoJ (fun q => hoo (hc76_42.trans q.symm)) f43_2 f43_3 f43_4 f43_5 f43_8 f43_9 f43_10 f43_11 f43_12 f43_13 f43_14 f43_15 f43_16 f43_17 g_oj g_mj g_xi) rfl f43_2 at_171 [(.int og), (.long (0 : Int64)), (.ref b39)] [] (lenOf pd4 rfl) rfl rfl ?_
       rintro _ T46 Lc46 ⟨rfl, N46q, K46, en46, zn46, G46_0, G46_1, G46_2, G46_3, G46_4, G46_5, G46_6, G46_7, G46_8, G46_9, G46_10, G46_11, G46_12, G46_13, G46_14, G46_15⟩ X46
       have N46 := Fr.app N43 N46q
       have u46_0 := ninS ne_b40_oj (ninS ne_b40_mj (ninS ne_b40_xi nin0))
       have f46_0 := Nat.le_trans f43_0 K46.1
       have f46_1 := Old.keep f43_1 K46 (allS g_oj (allS g_mj (allS g_xi all0)))
       have f46_2 := Exa.keep f43_2 K46
       have f46_3 := Fld.keep f43_3 K46 u46_0
       have f46_4 := Fld.keep f43_4 K46 u46_0
       have f46_5 := Fld.keep f43_5 K46 u46_0
       have f46_6 := Arv.keep f43_6 K46 (ninS (Ne.symm ne_oj_arr) (ninS (Ne.symm ne_mj_arr) (ninS nax nin0)))
       have f46_7 := Arv.keep f43_7 K46 (ninS (Ne.symm ne_oj_out) (ninS (Ne.symm ne_mj_out) (ninS nox nin0)))
       have f46_8 := Exa.keep f43_8 K46
       have f46_9 := Exa.keep f43_13 K46
       have f46_10 : own_LA Z T46.heap xi zz := (own_LA.keep f43_20 K46)
       have g_en46 : n0 ≤ en46 := Nat.le_trans f43_0 zn46
       have ne_b40_en46 : b40 ≠ en46 := Nat.ne_of_lt (Nat.lt_of_lt_of_le (f43_2.lt) zn46)
       have ne_arr_en46 : arr ≠ en46 := Nat.ne_of_lt (Nat.lt_of_lt_of_le (f43_6.lt) zn46)
       refine pO X46 hx hby at_174 rfl ?_
       refine iB X46 hx hby at_175 rfl ?_
       refine iC X46 hx hby at_177 (v := 2) rfl ?_
       refine cY X46 hx hby at_178 (pc' := 192) (XT.ii_lt_t (by decide : (1 : Int32) < (2 : Int32))) ?_
       refine iB X46 hx hby at_192 rfl ?_
       refine iC X46 hx hby at_194 (v := 3) rfl ?_
       refine cY X46 hx hby at_195 (pc' := 211) (XT.ii_lt_t (by decide : (1 : Int32) < (3 : Int32))) ?_
       refine iB X46 hx hby at_211 rfl ?_
       by_cases hc213_47 : gp = (0 : Int32)
       · refine fY X46 hx hby at_213 (pc' := 230) (XT.i0_eq_t hc213_47) ?_
         exact tail1 zz si og gp ot b39 b40 arr oj ka ((List.range zz.toNatClampNeg).map fun i => Value.ref (fo i)) (X46.more (by decide) (by decide)) rfl N46 f46_0 f46_2 f46_4 f46_6 hog hvoJ G46_1
       · refine fN X46 hx hby at_213 (XT.i0_eq_f hc213_47) ?_
         refine aB X46 hx hby at_216 rfl rfl ?_
         refine iB X46 hx hby at_218 rfl ?_
         refine lB X46 hx hby at_220 rfl ?_
         refine lC X46 hx hby at_222 (v := (1 : Int64)) rfl ?_
         refine lP X46 hx hby at_223 (v := (2 : Int64)) rfl ?_
         refine aB X46 hx hby at_224 rfl rfl ?_
         refine c_virt 0 X46 hx hby hml hZ hown (tw_150 hw) (tw_151 hw) (tw_153 hw) (tw_152 hw) (tw_154 hw) (tw_4 hw) (rm_recvG1 l Z a0 hw [] b40 arr out oj mj xi ka ko zz si ((List.range zz.toNatClampNeg).map fun i => Value.ref (fo i)) ((List.range zz.toNatClampNeg).map fun i => Value.ref (fx i)) en46 b39 (1 : Int32) ((0 : Int32) + (1 : Int32)) ca cc og T46.heap n0 f46_0 f46_1 Sca BX f46_6 f46_7 hsi huxI f46_10 nax nox hog hvoJ (fun q => hoo (hc76_42.trans q.symm)) f46_2 f46_3 f46_4 f46_5 f46_8 G46_1 G46_2 G46_3 G46_4 f46_9 G46_6 G46_7 G46_8 G46_9 G46_10 G46_11 G46_12 G46_13 G46_14 G46_15 g_oj g_mj g_en46 g_xi) rfl f46_2 at_226 [(.int og), (.long (2 : Int64)), (.ref b39)] [] (lenOf pd4 rfl) rfl rfl ?_
         rintro _ T48 Lc48 ⟨rfl, N48q, K48, en48, zn48, G48_0, G48_1, G48_2, G48_3, G48_4, G48_5, G48_6, G48_7, G48_8, G48_9, G48_10, G48_11, G48_12, G48_13, G48_14, G48_15, G48_16, G48_17, G48_18, G48_19, G48_20, G48_21⟩ X48
         have N48 := Fr.app N46 N48q
         have f48_0 := Nat.le_trans f46_0 K48.1
         have f48_2 := Exa.keep f46_2 K48
         have f48_4 := Fld.keep f46_4 K48 (ninS ne_b40_oj (ninS ne_b40_mj (ninS ne_b40_en46 (ninS ne_b40_xi nin0))))
         have f48_6 := Arv.keep f46_6 K48 (ninS (Ne.symm ne_oj_arr) (ninS (Ne.symm ne_mj_arr) (ninS ne_arr_en46 (ninS nax nin0))))
         have g_en48 : n0 ≤ en48 := Nat.le_trans f46_0 zn48
         refine pO X48 hx hby at_229 rfl ?_
         exact tail1 zz si og gp ot b39 b40 arr oj ka ((List.range zz.toNatClampNeg).map fun i => Value.ref (fo i)) (X48.more (by decide) (by decide)) rfl N48 f48_0 f48_2 f48_4 f48_6 hog hvoJ G48_1
     · show oG p e below P m T43 101 #[(vI p0), (vI p1), (vI p2), (vI p3), (vJ p4), .second, (vI p5), (vI zz), (vI si), (vI og), (vI 2), (vI gp), (vR b39), (vR b40), (vI ot), .unset, .unset, .unset, .unset, .unset] []
       refine iB X43 hx hby at_101 rfl ?_
       refine w_i2l X43 hx hby at_103 (v := (2 : Int64)) rfl ?_
       refine w_lstore X43 hx hby at_104 rfl ?_
       refine iB X43 hx hby at_106 rfl ?_
       refine iB X43 hx hby at_108 rfl ?_
       refine cY X43 hx hby at_110 (pc' := 158) (XT.ii_ne_t (fun q => hoo (hc76_42.trans q.symm))) ?_
       refine iB X43 hx hby at_158 rfl ?_
       refine iC X43 hx hby at_160 (v := 1) rfl ?_
       refine cN X43 hx hby at_161 (XT.ii_lt_f (by decide : ¬ (2 : Int32) < (1 : Int32))) ?_
       refine aB X43 hx hby at_164 rfl rfl ?_
       refine iB X43 hx hby at_166 rfl ?_
       refine lC X43 hx hby at_168 (v := (0 : Int64)) rfl ?_
       refine aB X43 hx hby at_169 rfl rfl ?_
       refine c_virt 0 X43 hx hby hml hZ hown (tw_150 hw) (tw_151 hw) (tw_153 hw) (tw_152 hw) (tw_154 hw) (tw_4 hw) (rm_recv0 l Z a0 hw [] b40 arr out oj mj xi ka ko zz si ((List.range zz.toNatClampNeg).map fun i => Value.ref (fo i)) ((List.range zz.toNatClampNeg).map fun i => Value.ref (fx i)) b39 (0 : Int32) (0 : Int32) ca cc og T43.heap n0 f43_0 f43_1 Sca BX f43_6 f43_7 hsi huxI f43_20 nax nox hog hvoJ (fun q => hoo (hc76_42.trans q.symm)) f43_2 f43_3 f43_4 f43_5 f43_8 f43_9 f43_10 f43_11 f43_12 f43_13 f43_14 f43_15 f43_16 f43_17 g_oj g_mj g_xi) rfl f43_2 at_171 [(.int og), (.long (0 : Int64)), (.ref b39)] [] (lenOf pd4 rfl) rfl rfl ?_
       rintro _ T49 Lc49 ⟨rfl, N49q, K49, en49, zn49, G49_0, G49_1, G49_2, G49_3, G49_4, G49_5, G49_6, G49_7, G49_8, G49_9, G49_10, G49_11, G49_12, G49_13, G49_14, G49_15⟩ X49
       have N49 := Fr.app N43 N49q
       have u49_0 := ninS ne_b40_oj (ninS ne_b40_mj (ninS ne_b40_xi nin0))
       have f49_0 := Nat.le_trans f43_0 K49.1
       have f49_1 := Old.keep f43_1 K49 (allS g_oj (allS g_mj (allS g_xi all0)))
       have f49_2 := Exa.keep f43_2 K49
       have f49_3 := Fld.keep f43_3 K49 u49_0
       have f49_4 := Fld.keep f43_4 K49 u49_0
       have f49_5 := Fld.keep f43_5 K49 u49_0
       have f49_6 := Arv.keep f43_6 K49 (ninS (Ne.symm ne_oj_arr) (ninS (Ne.symm ne_mj_arr) (ninS nax nin0)))
       have f49_7 := Arv.keep f43_7 K49 (ninS (Ne.symm ne_oj_out) (ninS (Ne.symm ne_mj_out) (ninS nox nin0)))
       have f49_8 := Exa.keep f43_8 K49
       have f49_9 := Exa.keep f43_13 K49
       have f49_10 : own_LA Z T49.heap xi zz := (own_LA.keep f43_20 K49)
       have g_en49 : n0 ≤ en49 := Nat.le_trans f43_0 zn49
       have ne_b40_en49 : b40 ≠ en49 := Nat.ne_of_lt (Nat.lt_of_lt_of_le (f43_2.lt) zn49)
       have ne_arr_en49 : arr ≠ en49 := Nat.ne_of_lt (Nat.lt_of_lt_of_le (f43_6.lt) zn49)
       have ne_out_en49 : out ≠ en49 := Nat.ne_of_lt (Nat.lt_of_lt_of_le (f43_7.lt) zn49)
       refine pO X49 hx hby at_174 rfl ?_
       refine iB X49 hx hby at_175 rfl ?_
       refine iC X49 hx hby at_177 (v := 2) rfl ?_
       refine cN X49 hx hby at_178 (XT.ii_lt_f (by decide : ¬ (2 : Int32) < (2 : Int32))) ?_
       refine aB X49 hx hby at_181 rfl rfl ?_
       refine iB X49 hx hby at_183 rfl ?_
       refine lC X49 hx hby at_185 (v := (1 : Int64)) rfl ?_
       refine aB X49 hx hby at_186 rfl rfl ?_
       refine c_virt 0 X49 hx hby hml hZ hown (tw_150 hw) (tw_151 hw) (tw_153 hw) (tw_152 hw) (tw_154 hw) (tw_4 hw) (rm_recv1 l Z a0 hw [] b40 arr out oj mj xi ka ko zz si ((List.range zz.toNatClampNeg).map fun i => Value.ref (fo i)) ((List.range zz.toNatClampNeg).map fun i => Value.ref (fx i)) en49 b39 (1 : Int32) ((0 : Int32) + (1 : Int32)) ca cc og T49.heap n0 f49_0 f49_1 Sca BX f49_6 f49_7 hsi huxI f49_10 nax nox hog hvoJ (fun q => hoo (hc76_42.trans q.symm)) f49_2 f49_3 f49_4 f49_5 f49_8 G49_1 G49_2 G49_3 G49_4 f49_9 G49_6 G49_7 G49_8 G49_9 G49_10 G49_11 G49_12 G49_13 G49_14 G49_15 g_oj g_mj g_en49 g_xi) rfl f49_2 at_188 [(.int og), (.long (1 : Int64)), (.ref b39)] [] (lenOf pd4 rfl) rfl rfl ?_
       rintro _ T50 Lc50 ⟨rfl, N50q, K50, en50, zn50, G50_0, G50_1, G50_2, G50_3, G50_4, G50_5, G50_6, G50_7, G50_8, G50_9, G50_10, G50_11, G50_12, G50_13, G50_14, G50_15, G50_16, G50_17, G50_18, G50_19, G50_20, G50_21⟩ X50
       have N50 := Fr.app N49 N50q
       have u50_0 := ninS ne_b40_oj (ninS ne_b40_mj (ninS ne_b40_en49 (ninS ne_b40_xi nin0)))
       have f50_0 := Nat.le_trans f49_0 K50.1
       have f50_1 := Old.keep f49_1 K50 (allS g_oj (allS g_mj (allS g_en49 (allS g_xi all0))))
       have f50_2 := Exa.keep f49_2 K50
       have f50_3 := Fld.keep f49_3 K50 u50_0
       have f50_4 := Fld.keep f49_4 K50 u50_0
       have f50_5 := Fld.keep f49_5 K50 u50_0
       have f50_6 := Arv.keep f49_6 K50 (ninS (Ne.symm ne_oj_arr) (ninS (Ne.symm ne_mj_arr) (ninS ne_arr_en49 (ninS nax nin0))))
       have f50_7 := Arv.keep f49_7 K50 (ninS (Ne.symm ne_oj_out) (ninS (Ne.symm ne_mj_out) (ninS ne_out_en49 (ninS nox nin0))))
       have f50_8 := Exa.keep f49_8 K50
       have f50_9 := Exa.keep f49_9 K50
       have f50_10 : own_LA Z T50.heap xi zz := (own_LA.keep f49_10 K50)
       have f50_11 := Exa.keep G49_10 K50
       have g_en50 : n0 ≤ en50 := Nat.le_trans f49_0 zn50
       have ne_b40_en50 : b40 ≠ en50 := Nat.ne_of_lt (Nat.lt_of_lt_of_le (f49_2.lt) zn50)
       have ne_arr_en50 : arr ≠ en50 := Nat.ne_of_lt (Nat.lt_of_lt_of_le (f49_6.lt) zn50)
       have ne_en49_en50 : en49 ≠ en50 := Nat.ne_of_lt (Nat.lt_of_lt_of_le (G49_10.lt) zn50)
       refine pO X50 hx hby at_191 rfl ?_
       refine iB X50 hx hby at_192 rfl ?_
       refine iC X50 hx hby at_194 (v := 3) rfl ?_
       refine cY X50 hx hby at_195 (pc' := 211) (XT.ii_lt_t (by decide : (2 : Int32) < (3 : Int32))) ?_
       refine iB X50 hx hby at_211 rfl ?_
       by_cases hc213_51 : gp = (0 : Int32)
       · refine fY X50 hx hby at_213 (pc' := 230) (XT.i0_eq_t hc213_51) ?_
         exact tail2 zz si og gp ot b39 b40 arr oj ka ((List.range zz.toNatClampNeg).map fun i => Value.ref (fo i)) (X50.more (by decide) (by decide)) rfl N50 f50_0 f50_2 f50_4 f50_6 hog hvoJ G50_1
       · refine fN X50 hx hby at_213 (XT.i0_eq_f hc213_51) ?_
         refine aB X50 hx hby at_216 rfl rfl ?_
         refine iB X50 hx hby at_218 rfl ?_
         refine lB X50 hx hby at_220 rfl ?_
         refine lC X50 hx hby at_222 (v := (1 : Int64)) rfl ?_
         refine lP X50 hx hby at_223 (v := (3 : Int64)) rfl ?_
         refine aB X50 hx hby at_224 rfl rfl ?_
         refine c_virt 0 X50 hx hby hml hZ hown (tw_150 hw) (tw_151 hw) (tw_153 hw) (tw_152 hw) (tw_154 hw) (tw_4 hw) (rm_recvG2 l Z a0 hw [] b40 arr out oj mj xi ka ko zz si ((List.range zz.toNatClampNeg).map fun i => Value.ref (fo i)) ((List.range zz.toNatClampNeg).map fun i => Value.ref (fx i)) en49 en50 b39 ((1 : Int32) + (1 : Int32)) (((0 : Int32) + (1 : Int32)) + (1 : Int32)) ca cc og T50.heap n0 f50_0 f50_1 Sca BX f50_6 f50_7 hsi huxI f50_10 nax nox hog hvoJ (fun q => hoo (hc76_42.trans q.symm)) f50_2 f50_3 f50_4 f50_5 f50_8 G50_1 G50_2 G50_3 G50_4 f50_9 G50_6 G50_7 G50_8 G50_9 f50_11 G50_11 G50_12 G50_13 G50_14 G50_15 G50_16 G50_17 G50_18 G50_19 G50_20 G50_21 g_oj g_mj g_en49 g_en50 g_xi ne_en49_en50) rfl f50_2 at_226 [(.int og), (.long (3 : Int64)), (.ref b39)] [] (lenOf pd4 rfl) rfl rfl ?_
         rintro _ T52 Lc52 ⟨rfl, N52q, K52, en52, zn52, G52_0, G52_1, G52_2, G52_3, G52_4, G52_5, G52_6, G52_7, G52_8, G52_9, G52_10, G52_11, G52_12, G52_13, G52_14, G52_15, G52_16, G52_17, G52_18, G52_19, G52_20, G52_21, G52_22, G52_23, G52_24, G52_25, G52_26, G52_27⟩ X52
         have N52 := Fr.app N50 N52q
         have f52_0 := Nat.le_trans f50_0 K52.1
         have f52_2 := Exa.keep f50_2 K52
         have f52_4 := Fld.keep f50_4 K52 (ninS ne_b40_oj (ninS ne_b40_mj (ninS ne_b40_en49 (ninS ne_b40_en50 (ninS ne_b40_xi nin0)))))
         have f52_6 := Arv.keep f50_6 K52 (ninS (Ne.symm ne_oj_arr) (ninS (Ne.symm ne_mj_arr) (ninS ne_arr_en49 (ninS ne_arr_en50 (ninS nax nin0)))))
         have g_en52 : n0 ≤ en52 := Nat.le_trans f50_0 zn52
         refine pO X52 hx hby at_229 rfl ?_
         exact tail2 zz si og gp ot b39 b40 arr oj ka ((List.range zz.toNatClampNeg).map fun i => Value.ref (fo i)) (X52.more (by decide) (by decide)) rfl N52 f52_0 f52_2 f52_4 f52_6 hog hvoJ G52_1
     · show oG p e below P m T43 101 #[(vI p0), (vI p1), (vI p2), (vI p3), (vJ p4), .second, (vI p5), (vI zz), (vI si), (vI og), (vI 3), (vI gp), (vR b39), (vR b40), (vI ot), .unset, .unset, .unset, .unset, .unset] []
       refine iB X43 hx hby at_101 rfl ?_
       refine w_i2l X43 hx hby at_103 (v := (3 : Int64)) rfl ?_
       refine w_lstore X43 hx hby at_104 rfl ?_
       refine iB X43 hx hby at_106 rfl ?_
       refine iB X43 hx hby at_108 rfl ?_
       refine cY X43 hx hby at_110 (pc' := 158) (XT.ii_ne_t (fun q => hoo (hc76_42.trans q.symm))) ?_
       refine iB X43 hx hby at_158 rfl ?_
       refine iC X43 hx hby at_160 (v := 1) rfl ?_
       refine cN X43 hx hby at_161 (XT.ii_lt_f (by decide : ¬ (3 : Int32) < (1 : Int32))) ?_
       refine aB X43 hx hby at_164 rfl rfl ?_
       refine iB X43 hx hby at_166 rfl ?_
       refine lC X43 hx hby at_168 (v := (0 : Int64)) rfl ?_
       refine aB X43 hx hby at_169 rfl rfl ?_
       refine c_virt 0 X43 hx hby hml hZ hown (tw_150 hw) (tw_151 hw) (tw_153 hw) (tw_152 hw) (tw_154 hw) (tw_4 hw) (rm_recv0 l Z a0 hw [] b40 arr out oj mj xi ka ko zz si ((List.range zz.toNatClampNeg).map fun i => Value.ref (fo i)) ((List.range zz.toNatClampNeg).map fun i => Value.ref (fx i)) b39 (0 : Int32) (0 : Int32) ca cc og T43.heap n0 f43_0 f43_1 Sca BX f43_6 f43_7 hsi huxI f43_20 nax nox hog hvoJ (fun q => hoo (hc76_42.trans q.symm)) f43_2 f43_3 f43_4 f43_5 f43_8 f43_9 f43_10 f43_11 f43_12 f43_13 f43_14 f43_15 f43_16 f43_17 g_oj g_mj g_xi) rfl f43_2 at_171 [(.int og), (.long (0 : Int64)), (.ref b39)] [] (lenOf pd4 rfl) rfl rfl ?_
       rintro _ T53 Lc53 ⟨rfl, N53q, K53, en53, zn53, G53_0, G53_1, G53_2, G53_3, G53_4, G53_5, G53_6, G53_7, G53_8, G53_9, G53_10, G53_11, G53_12, G53_13, G53_14, G53_15⟩ X53
       have N53 := Fr.app N43 N53q
       have u53_0 := ninS ne_b40_oj (ninS ne_b40_mj (ninS ne_b40_xi nin0))
       have f53_0 := Nat.le_trans f43_0 K53.1
       have f53_1 := Old.keep f43_1 K53 (allS g_oj (allS g_mj (allS g_xi all0)))
       have f53_2 := Exa.keep f43_2 K53
       have f53_3 := Fld.keep f43_3 K53 u53_0
       have f53_4 := Fld.keep f43_4 K53 u53_0
       have f53_5 := Fld.keep f43_5 K53 u53_0
       have f53_6 := Arv.keep f43_6 K53 (ninS (Ne.symm ne_oj_arr) (ninS (Ne.symm ne_mj_arr) (ninS nax nin0)))
       have f53_7 := Arv.keep f43_7 K53 (ninS (Ne.symm ne_oj_out) (ninS (Ne.symm ne_mj_out) (ninS nox nin0)))
       have f53_8 := Exa.keep f43_8 K53
       have f53_9 := Exa.keep f43_13 K53
       have f53_10 : own_LA Z T53.heap xi zz := (own_LA.keep f43_20 K53)
       have g_en53 : n0 ≤ en53 := Nat.le_trans f43_0 zn53
       have ne_b40_en53 : b40 ≠ en53 := Nat.ne_of_lt (Nat.lt_of_lt_of_le (f43_2.lt) zn53)
       have ne_arr_en53 : arr ≠ en53 := Nat.ne_of_lt (Nat.lt_of_lt_of_le (f43_6.lt) zn53)
       have ne_out_en53 : out ≠ en53 := Nat.ne_of_lt (Nat.lt_of_lt_of_le (f43_7.lt) zn53)
       refine pO X53 hx hby at_174 rfl ?_
       refine iB X53 hx hby at_175 rfl ?_
       refine iC X53 hx hby at_177 (v := 2) rfl ?_
       refine cN X53 hx hby at_178 (XT.ii_lt_f (by decide : ¬ (3 : Int32) < (2 : Int32))) ?_
       refine aB X53 hx hby at_181 rfl rfl ?_
       refine iB X53 hx hby at_183 rfl ?_
       refine lC X53 hx hby at_185 (v := (1 : Int64)) rfl ?_
       refine aB X53 hx hby at_186 rfl rfl ?_
       refine c_virt 0 X53 hx hby hml hZ hown (tw_150 hw) (tw_151 hw) (tw_153 hw) (tw_152 hw) (tw_154 hw) (tw_4 hw) (rm_recv1 l Z a0 hw [] b40 arr out oj mj xi ka ko zz si ((List.range zz.toNatClampNeg).map fun i => Value.ref (fo i)) ((List.range zz.toNatClampNeg).map fun i => Value.ref (fx i)) en53 b39 (1 : Int32) ((0 : Int32) + (1 : Int32)) ca cc og T53.heap n0 f53_0 f53_1 Sca BX f53_6 f53_7 hsi huxI f53_10 nax nox hog hvoJ (fun q => hoo (hc76_42.trans q.symm)) f53_2 f53_3 f53_4 f53_5 f53_8 G53_1 G53_2 G53_3 G53_4 f53_9 G53_6 G53_7 G53_8 G53_9 G53_10 G53_11 G53_12 G53_13 G53_14 G53_15 g_oj g_mj g_en53 g_xi) rfl f53_2 at_188 [(.int og), (.long (1 : Int64)), (.ref b39)] [] (lenOf pd4 rfl) rfl rfl ?_
       rintro _ T54 Lc54 ⟨rfl, N54q, K54, en54, zn54, G54_0, G54_1, G54_2, G54_3, G54_4, G54_5, G54_6, G54_7, G54_8, G54_9, G54_10, G54_11, G54_12, G54_13, G54_14, G54_15, G54_16, G54_17, G54_18, G54_19, G54_20, G54_21⟩ X54
       have N54 := Fr.app N53 N54q
       have u54_0 := ninS ne_b40_oj (ninS ne_b40_mj (ninS ne_b40_en53 (ninS ne_b40_xi nin0)))
       have f54_0 := Nat.le_trans f53_0 K54.1
       have f54_1 := Old.keep f53_1 K54 (allS g_oj (allS g_mj (allS g_en53 (allS g_xi all0))))
       have f54_2 := Exa.keep f53_2 K54
       have f54_3 := Fld.keep f53_3 K54 u54_0
       have f54_4 := Fld.keep f53_4 K54 u54_0
       have f54_5 := Fld.keep f53_5 K54 u54_0
       have f54_6 := Arv.keep f53_6 K54 (ninS (Ne.symm ne_oj_arr) (ninS (Ne.symm ne_mj_arr) (ninS ne_arr_en53 (ninS nax nin0))))
       have f54_7 := Arv.keep f53_7 K54 (ninS (Ne.symm ne_oj_out) (ninS (Ne.symm ne_mj_out) (ninS ne_out_en53 (ninS nox nin0))))
       have f54_8 := Exa.keep f53_8 K54
       have f54_9 := Exa.keep f53_9 K54
       have f54_10 : own_LA Z T54.heap xi zz := (own_LA.keep f53_10 K54)
       have f54_11 := Exa.keep G53_10 K54
       have g_en54 : n0 ≤ en54 := Nat.le_trans f53_0 zn54
       have ne_b40_en54 : b40 ≠ en54 := Nat.ne_of_lt (Nat.lt_of_lt_of_le (f53_2.lt) zn54)
       have ne_arr_en54 : arr ≠ en54 := Nat.ne_of_lt (Nat.lt_of_lt_of_le (f53_6.lt) zn54)
       have ne_out_en54 : out ≠ en54 := Nat.ne_of_lt (Nat.lt_of_lt_of_le (f53_7.lt) zn54)
       have ne_en53_en54 : en53 ≠ en54 := Nat.ne_of_lt (Nat.lt_of_lt_of_le (G53_10.lt) zn54)
       refine pO X54 hx hby at_191 rfl ?_
       refine iB X54 hx hby at_192 rfl ?_
       refine iC X54 hx hby at_194 (v := 3) rfl ?_
       refine cN X54 hx hby at_195 (XT.ii_lt_f (by decide : ¬ (3 : Int32) < (3 : Int32))) ?_
       refine aB X54 hx hby at_198 rfl rfl ?_
       refine iB X54 hx hby at_200 rfl ?_
       refine lD X54 hx hby hown hZ (tw_222 hw) at_202 (v' := (2 : Int64)) rfl ?_
       refine aB X54 hx hby at_205 rfl rfl ?_
       refine c_virt 0 X54 hx hby hml hZ hown (tw_150 hw) (tw_151 hw) (tw_153 hw) (tw_152 hw) (tw_154 hw) (tw_4 hw) (rm_recv2 l Z a0 hw [] b40 arr out oj mj xi ka ko zz si ((List.range zz.toNatClampNeg).map fun i => Value.ref (fo i)) ((List.range zz.toNatClampNeg).map fun i => Value.ref (fx i)) en53 en54 b39 ((1 : Int32) + (1 : Int32)) (((0 : Int32) + (1 : Int32)) + (1 : Int32)) ca cc og T54.heap n0 f54_0 f54_1 Sca BX f54_6 f54_7 hsi huxI f54_10 nax nox hog hvoJ (fun q => hoo (hc76_42.trans q.symm)) f54_2 f54_3 f54_4 f54_5 f54_8 G54_1 G54_2 G54_3 G54_4 f54_9 G54_6 G54_7 G54_8 G54_9 f54_11 G54_11 G54_12 G54_13 G54_14 G54_15 G54_16 G54_17 G54_18 G54_19 G54_20 G54_21 g_oj g_mj g_en53 g_en54 g_xi ne_en53_en54) rfl f54_2 at_207 [(.int og), (.long (2 : Int64)), (.ref b39)] [] (lenOf pd4 rfl) rfl rfl ?_
       rintro _ T55 Lc55 ⟨rfl, N55q, K55, en55, zn55, G55_0, G55_1, G55_2, G55_3, G55_4, G55_5, G55_6, G55_7, G55_8, G55_9, G55_10, G55_11, G55_12, G55_13, G55_14, G55_15, G55_16, G55_17, G55_18, G55_19, G55_20, G55_21, G55_22, G55_23, G55_24, G55_25, G55_26, G55_27⟩ X55
       have N55 := Fr.app N54 N55q
       have u55_0 := ninS ne_b40_oj (ninS ne_b40_mj (ninS ne_b40_en53 (ninS ne_b40_en54 (ninS ne_b40_xi nin0))))
       have f55_0 := Nat.le_trans f54_0 K55.1
       have f55_1 := Old.keep f54_1 K55 (allS g_oj (allS g_mj (allS g_en53 (allS g_en54 (allS g_xi all0)))))
       have f55_2 := Exa.keep f54_2 K55
       have f55_3 := Fld.keep f54_3 K55 u55_0
       have f55_4 := Fld.keep f54_4 K55 u55_0
       have f55_5 := Fld.keep f54_5 K55 u55_0
       have f55_6 := Arv.keep f54_6 K55 (ninS (Ne.symm ne_oj_arr) (ninS (Ne.symm ne_mj_arr) (ninS ne_arr_en53 (ninS ne_arr_en54 (ninS nax nin0)))))
       have f55_7 := Arv.keep f54_7 K55 (ninS (Ne.symm ne_oj_out) (ninS (Ne.symm ne_mj_out) (ninS ne_out_en53 (ninS ne_out_en54 (ninS nox nin0)))))
       have f55_8 := Exa.keep f54_8 K55
       have f55_9 := Exa.keep f54_9 K55
       have f55_10 : own_LA Z T55.heap xi zz := (own_LA.keep f54_10 K55)
       have f55_11 := Exa.keep f54_11 K55
       have f55_12 := Exa.keep G54_16 K55
       have g_en55 : n0 ≤ en55 := Nat.le_trans f54_0 zn55
       have ne_b40_en55 : b40 ≠ en55 := Nat.ne_of_lt (Nat.lt_of_lt_of_le (f54_2.lt) zn55)
       have ne_arr_en55 : arr ≠ en55 := Nat.ne_of_lt (Nat.lt_of_lt_of_le (f54_6.lt) zn55)
       have ne_en53_en55 : en53 ≠ en55 := Nat.ne_of_lt (Nat.lt_of_lt_of_le (f54_11.lt) zn55)
       have ne_en54_en55 : en54 ≠ en55 := Nat.ne_of_lt (Nat.lt_of_lt_of_le (G54_16.lt) zn55)
       refine pO X55 hx hby at_210 rfl ?_
       refine iB X55 hx hby at_211 rfl ?_
       by_cases hc213_56 : gp = (0 : Int32)
       · refine fY X55 hx hby at_213 (pc' := 230) (XT.i0_eq_t hc213_56) ?_
         exact tail3 zz si og gp ot b39 b40 arr oj ka ((List.range zz.toNatClampNeg).map fun i => Value.ref (fo i)) (X55.more (by decide) (by decide)) rfl N55 f55_0 f55_2 f55_4 f55_6 hog hvoJ G55_1
       · refine fN X55 hx hby at_213 (XT.i0_eq_f hc213_56) ?_
         refine aB X55 hx hby at_216 rfl rfl ?_
         refine iB X55 hx hby at_218 rfl ?_
         refine lB X55 hx hby at_220 rfl ?_
         refine lC X55 hx hby at_222 (v := (1 : Int64)) rfl ?_
         refine lP X55 hx hby at_223 (v := (4 : Int64)) rfl ?_
         refine aB X55 hx hby at_224 rfl rfl ?_
         refine c_virt 0 X55 hx hby hml hZ hown (tw_150 hw) (tw_151 hw) (tw_153 hw) (tw_152 hw) (tw_154 hw) (tw_4 hw) (rm_recvG3 l Z a0 hw [] b40 arr out oj mj xi ka ko zz si ((List.range zz.toNatClampNeg).map fun i => Value.ref (fo i)) ((List.range zz.toNatClampNeg).map fun i => Value.ref (fx i)) en53 en54 en55 b39 (((1 : Int32) + (1 : Int32)) + (1 : Int32)) ((((0 : Int32) + (1 : Int32)) + (1 : Int32)) + (1 : Int32)) ca cc og T55.heap n0 f55_0 f55_1 Sca BX f55_6 f55_7 hsi huxI f55_10 nax nox hog hvoJ (fun q => hoo (hc76_42.trans q.symm)) f55_2 f55_3 f55_4 f55_5 f55_8 G55_1 G55_2 G55_3 G55_4 f55_9 G55_6 G55_7 G55_8 G55_9 f55_11 G55_11 G55_12 G55_13 G55_14 G55_15 f55_12 G55_17 G55_18 G55_19 G55_20 G55_21 G55_22 G55_23 G55_24 G55_25 G55_26 G55_27 g_oj g_mj g_en53 g_en54 g_en55 g_xi ne_en53_en54 ne_en53_en55 ne_en54_en55) rfl f55_2 at_226 [(.int og), (.long (4 : Int64)), (.ref b39)] [] (lenOf pd4 rfl) rfl rfl ?_
         rintro _ T57 Lc57 ⟨rfl, N57q, K57, en57, zn57, G57_0, G57_1, G57_2, G57_3, G57_4, G57_5, G57_6, G57_7, G57_8, G57_9, G57_10, G57_11, G57_12, G57_13, G57_14, G57_15, G57_16, G57_17, G57_18, G57_19, G57_20, G57_21, G57_22, G57_23, G57_24, G57_25, G57_26, G57_27, G57_28, G57_29, G57_30, G57_31, G57_32, G57_33⟩ X57
         have N57 := Fr.app N55 N57q
         have f57_0 := Nat.le_trans f55_0 K57.1
         have f57_2 := Exa.keep f55_2 K57
         have f57_4 := Fld.keep f55_4 K57 (ninS ne_b40_oj (ninS ne_b40_mj (ninS ne_b40_en53 (ninS ne_b40_en54 (ninS ne_b40_en55 (ninS ne_b40_xi nin0))))))
         have f57_6 := Arv.keep f55_6 K57 (ninS (Ne.symm ne_oj_arr) (ninS (Ne.symm ne_mj_arr) (ninS ne_arr_en53 (ninS ne_arr_en54 (ninS ne_arr_en55 (ninS nax nin0))))))
         have g_en57 : n0 ≤ en57 := Nat.le_trans f55_0 zn57
         refine pO X57 hx hby at_229 rfl ?_
         exact tail3 zz si og gp ot b39 b40 arr oj ka ((List.range zz.toNatClampNeg).map fun i => Value.ref (fo i)) (X57.more (by decide) (by decide)) rfl N57 f57_0 f57_2 f57_4 f57_6 hog hvoJ G57_1
   · refine cY X41 hx hby at_76 (pc' := 90) (XT.ii_ne_t hc76_42) ?_
     refine aB X41 hx hby at_90 rfl rfl ?_
     refine iB X41 hx hby at_92 rfl ?_
     refine lC X41 hx hby at_94 (v := (0 : Int64)) rfl ?_
     refine aB X41 hx hby at_95 rfl rfl ?_
     refine c_virt 0 X41 hx hby hml hZ hown (tw_150 hw) (tw_151 hw) (tw_153 hw) (tw_152 hw) (tw_154 hw) (tw_4 hw) (rm_recv0 l Z a0 hw [] b40 arr out ok mk xi ka ko zz si ((List.range zz.toNatClampNeg).map fun i => Value.ref (fo i)) ((List.range zz.toNatClampNeg).map fun i => Value.ref (fx i)) b39 (0 : Int32) (0 : Int32) ca cc ot T41.heap n0 f41_0 f41_1 Sca BX Var Vou hsi huxI LAx nax nox hot hvoK hc76_42 f41_2 Fsf For Frp GK_0 GK_1 GK_2 GK_3 GK_4 GK_5 GK_6 GK_7 GK_8 GK_9 g_ok g_mk g_xi) rfl f41_2 at_97 [(.int ot), (.long (0 : Int64)), (.ref b39)] [] (lenOf pd4 rfl) rfl rfl ?_
     rintro _ T58 Lc58 ⟨rfl, N58q, K58, en58, zn58, G58_0, G58_1, G58_2, G58_3, G58_4, G58_5, G58_6, G58_7, G58_8, G58_9, G58_10, G58_11, G58_12, G58_13, G58_14, G58_15⟩ X58
     have N58 := Fr.app N41 N58q
     have u58_0 := ninS (Ne.symm ne_ok_mj) (ninS DJK.2 (ninS ne_mj_xi nin0))
     have u58_1 := ninS ne_b40_ok (ninS ne_b40_mk (ninS ne_b40_xi nin0))
     have u58_2 := ninS DJK.1 (ninS ne_oj_mk (ninS ne_oj_xi nin0))
     have f58_0 := Nat.le_trans f41_0 K58.1
     have f58_1 := Old.keep f41_1 K58 (allS g_ok (allS g_mk (allS g_xi all0)))
     have f58_2 := Exa.keep f41_2 K58
     have f58_3 := Fld.keep Fsf K58 u58_1
     have f58_4 := Fld.keep For K58 u58_1
     have f58_5 := Fld.keep Frp K58 u58_1
     have f58_6 := Arv.keep Var K58 (ninS (Ne.symm ne_ok_arr) (ninS (Ne.symm ne_mk_arr) (ninS nax nin0)))
     have f58_7 := Arv.keep Vou K58 (ninS (Ne.symm ne_ok_out) (ninS (Ne.symm ne_mk_out) (ninS nox nin0)))
     have f58_8 := Exa.keep GJ_0 K58
     have f58_9 := Fld.keep GJ_1 K58 u58_2
     have f58_10 := Fld.keep GJ_2 K58 u58_2
     have f58_11 := Fld.keep GJ_3 K58 u58_2
     have f58_12 := Fld.keep GJ_4 K58 u58_2
     have f58_13 := Exa.keep GJ_5 K58
     have f58_14 := Fld.keep GJ_6 K58 u58_0
     have f58_15 := Fld.keep GJ_7 K58 u58_0
     have f58_16 := Fld.keep GJ_8 K58 u58_0
     have f58_17 := Fld.keep GJ_9 K58 u58_0
     have f58_20 : own_LA Z T58.heap xi zz := (own_LA.keep LAx K58)
     have g_en58 : n0 ≤ en58 := Nat.le_trans f41_0 zn58
     refine pO X58 hx hby at_100 rfl ?_
     rcases hk with rfl | rfl | rfl | rfl
     · show oG p e below P m T58 101 #[(vI p0), (vI p1), (vI p2), (vI p3), (vJ p4), .second, (vI p5), (vI zz), (vI si), (vI og), (vI 0), (vI gp), (vR b39), (vR b40), (vI ot), .unset, .unset, .unset, .unset, .unset] []
       refine iB X58 hx hby at_101 rfl ?_
       refine w_i2l X58 hx hby at_103 (v := (0 : Int64)) rfl ?_
       refine w_lstore X58 hx hby at_104 rfl ?_
       refine iB X58 hx hby at_106 rfl ?_
       refine iB X58 hx hby at_108 rfl ?_
       by_cases hc110_59 : og = si
       · refine cN X58 hx hby at_110 (XT.ii_ne_f hc110_59) ?_
         refine iB X58 hx hby at_113 rfl ?_
         refine iC X58 hx hby at_115 (v := 1) rfl ?_
         refine cY X58 hx hby at_116 (pc' := 127) (XT.ii_lt_t (by decide : (0 : Int32) < (1 : Int32))) ?_
         refine iB X58 hx hby at_127 rfl ?_
         refine iC X58 hx hby at_129 (v := 2) rfl ?_
         refine cY X58 hx hby at_130 (pc' := 141) (XT.ii_lt_t (by decide : (0 : Int32) < (2 : Int32))) ?_
         refine iB X58 hx hby at_141 rfl ?_
         refine iC X58 hx hby at_143 (v := 3) rfl ?_
         refine cY X58 hx hby at_144 (pc' := 230) (XT.ii_lt_t (by decide : (0 : Int32) < (3 : Int32))) ?_
         exact tail0 zz si og gp ot b39 b40 arr oj ka ((List.range zz.toNatClampNeg).map fun i => Value.ref (fo i)) (X58.more (by decide) (by decide)) rfl N58 f58_0 f58_2 f58_4 f58_6 hog hvoJ f58_9
       · refine cY X58 hx hby at_110 (pc' := 158) (XT.ii_ne_t hc110_59) ?_
         refine iB X58 hx hby at_158 rfl ?_
         refine iC X58 hx hby at_160 (v := 1) rfl ?_
         refine cY X58 hx hby at_161 (pc' := 175) (XT.ii_lt_t (by decide : (0 : Int32) < (1 : Int32))) ?_
         refine iB X58 hx hby at_175 rfl ?_
         refine iC X58 hx hby at_177 (v := 2) rfl ?_
         refine cY X58 hx hby at_178 (pc' := 192) (XT.ii_lt_t (by decide : (0 : Int32) < (2 : Int32))) ?_
         refine iB X58 hx hby at_192 rfl ?_
         refine iC X58 hx hby at_194 (v := 3) rfl ?_
         refine cY X58 hx hby at_195 (pc' := 211) (XT.ii_lt_t (by decide : (0 : Int32) < (3 : Int32))) ?_
         refine iB X58 hx hby at_211 rfl ?_
         by_cases hc213_60 : gp = (0 : Int32)
         · refine fY X58 hx hby at_213 (pc' := 230) (XT.i0_eq_t hc213_60) ?_
           exact tail0 zz si og gp ot b39 b40 arr oj ka ((List.range zz.toNatClampNeg).map fun i => Value.ref (fo i)) (X58.more (by decide) (by decide)) rfl N58 f58_0 f58_2 f58_4 f58_6 hog hvoJ f58_9
         · refine fN X58 hx hby at_213 (XT.i0_eq_f hc213_60) ?_
           refine aB X58 hx hby at_216 rfl rfl ?_
           refine iB X58 hx hby at_218 rfl ?_
           refine lB X58 hx hby at_220 rfl ?_
           refine lC X58 hx hby at_222 (v := (1 : Int64)) rfl ?_
           refine lP X58 hx hby at_223 (v := (1 : Int64)) rfl ?_
           refine aB X58 hx hby at_224 rfl rfl ?_
           refine c_virt 0 X58 hx hby hml hZ hown (tw_150 hw) (tw_151 hw) (tw_153 hw) (tw_152 hw) (tw_154 hw) (tw_4 hw) (rm_recvG0 l Z a0 hw [] b40 arr out oj mj xi ka ko zz si ((List.range zz.toNatClampNeg).map fun i => Value.ref (fo i)) ((List.range zz.toNatClampNeg).map fun i => Value.ref (fx i)) b39 (0 : Int32) (0 : Int32) ca cc og T58.heap n0 f58_0 f58_1 Sca BX f58_6 f58_7 hsi huxI f58_20 nax nox hog hvoJ hc110_59 f58_2 f58_3 f58_4 f58_5 f58_8 f58_9 f58_10 f58_11 f58_12 f58_13 f58_14 f58_15 f58_16 f58_17 g_oj g_mj g_xi) rfl f58_2 at_226 [(.int og), (.long (1 : Int64)), (.ref b39)] [] (lenOf pd4 rfl) rfl rfl ?_
           rintro _ T61 Lc61 ⟨rfl, N61q, K61, en61, zn61, G61_0, G61_1, G61_2, G61_3, G61_4, G61_5, G61_6, G61_7, G61_8, G61_9, G61_10, G61_11, G61_12, G61_13, G61_14, G61_15⟩ X61
           have N61 := Fr.app N58 N61q
           have f61_0 := Nat.le_trans f58_0 K61.1
           have f61_2 := Exa.keep f58_2 K61
           have f61_4 := Fld.keep f58_4 K61 (ninS ne_b40_oj (ninS ne_b40_mj (ninS ne_b40_xi nin0)))
           have f61_6 := Arv.keep f58_6 K61 (ninS (Ne.symm ne_oj_arr) (ninS (Ne.symm ne_mj_arr) (ninS nax nin0)))
           have g_en61 : n0 ≤ en61 := Nat.le_trans f58_0 zn61
           refine pO X61 hx hby at_229 rfl ?_
           exact tail0 zz si og gp ot b39 b40 arr oj ka ((List.range zz.toNatClampNeg).map fun i => Value.ref (fo i)) (X61.more (by decide) (by decide)) rfl N61 f61_0 f61_2 f61_4 f61_6 hog hvoJ G61_1
     · show oG p e below P m T58 101 #[(vI p0), (vI p1), (vI p2), (vI p3), (vJ p4), .second, (vI p5), (vI zz), (vI si), (vI og), (vI 1), (vI gp), (vR b39), (vR b40), (vI ot), .unset, .unset, .unset, .unset, .unset] []
       refine iB X58 hx hby at_101 rfl ?_
       refine w_i2l X58 hx hby at_103 (v := (1 : Int64)) rfl ?_
       refine w_lstore X58 hx hby at_104 rfl ?_
       refine iB X58 hx hby at_106 rfl ?_
       refine iB X58 hx hby at_108 rfl ?_
       by_cases hc110_62 : og = si
       · refine cN X58 hx hby at_110 (XT.ii_ne_f hc110_62) ?_
         refine iB X58 hx hby at_113 rfl ?_
         refine iC X58 hx hby at_115 (v := 1) rfl ?_
         refine cN X58 hx hby at_116 (XT.ii_lt_f (by decide : ¬ (1 : Int32) < (1 : Int32))) ?_
         refine aB X58 hx hby at_119 rfl rfl ?_
         refine aB X58 hx hby at_121 rfl rfl ?_
         refine c_virt 0 X58 hx hby hml hZ hown (tw_74 hw) (tw_75 hw) (tw_77 hw) (tw_76 hw) (tw_78 hw) (tw_4 hw) (rm_send0 l Z a0 hw [] b40 arr out oj mj xi ka ko zz si ((List.range zz.toNatClampNeg).map fun i => Value.ref (fo i)) ((List.range zz.toNatClampNeg).map fun i => Value.ref (fx i)) b39 (0 : Int32) (0 : Int32) ca cc T58.heap n0 f58_0 f58_1 Sca BX f58_6 f58_7 hsi huxI f58_20 nax nox (by rw [← hc110_62]; exact hvoJ) f58_2 f58_3 f58_4 f58_5 f58_8 f58_9 f58_10 f58_11 f58_12 f58_13 f58_14 f58_15 f58_16 f58_17 g_oj g_mj g_xi) rfl f58_2 at_123 [(.ref b39)] [] (lenOf pd11 rfl) rfl rfl ?_
         rintro _ T63 Lc63 ⟨rfl, N63q, K63, en63, zn63, G63_0, G63_1, G63_2, G63_3, G63_4, G63_5, G63_6, G63_7, G63_8, G63_9, G63_10, G63_11, G63_12, G63_13, G63_14, G63_15⟩ X63
         have N63 := Fr.app N58 N63q
         have f63_0 := Nat.le_trans f58_0 K63.1
         have f63_2 := Exa.keep f58_2 K63
         have f63_4 := Fld.keep f58_4 K63 (ninS ne_b40_oj (ninS ne_b40_mj (ninS ne_b40_xi nin0)))
         have f63_6 := Arv.keep f58_6 K63 (ninS (Ne.symm ne_oj_arr) (ninS (Ne.symm ne_mj_arr) (ninS nax nin0)))
         have g_en63 : n0 ≤ en63 := Nat.le_trans f58_0 zn63
         show oG p e below P m T63 126 #[(vI p0), (vI p1), (vI p2), (vI p3), (vJ p4), .second, (vI p5), (vI zz), (vI si), (vI og), (vI 1), (vI gp), (vR b39), (vR b40), (vI ot), (vJ (1 : Int64)), .second, .unset, .unset, .unset] [(.long (0 : Int64))]
         refine Go.by (fun _ => own_pop2 X63.here hx rfl (hb hby at_126) rfl) ?_
         show oG p e below P m T63 127 #[(vI p0), (vI p1), (vI p2), (vI p3), (vJ p4), .second, (vI p5), (vI zz), (vI si), (vI og), (vI 1), (vI gp), (vR b39), (vR b40), (vI ot), (vJ (1 : Int64)), .second, .unset, .unset, .unset] []
         refine iB X63 hx hby at_127 rfl ?_
         refine iC X63 hx hby at_129 (v := 2) rfl ?_
         refine cY X63 hx hby at_130 (pc' := 141) (XT.ii_lt_t (by decide : (1 : Int32) < (2 : Int32))) ?_
         refine iB X63 hx hby at_141 rfl ?_
         refine iC X63 hx hby at_143 (v := 3) rfl ?_
         refine cY X63 hx hby at_144 (pc' := 230) (XT.ii_lt_t (by decide : (1 : Int32) < (3 : Int32))) ?_
         exact tail1 zz si og gp ot b39 b40 arr oj ka ((List.range zz.toNatClampNeg).map fun i => Value.ref (fo i)) (X63.more (by decide) (by decide)) rfl N63 f63_0 f63_2 f63_4 f63_6 hog hvoJ G63_1
       · refine cY X58 hx hby at_110 (pc' := 158) (XT.ii_ne_t hc110_62) ?_
         refine iB X58 hx hby at_158 rfl ?_
         refine iC X58 hx hby at_160 (v := 1) rfl ?_
         refine cN X58 hx hby at_161 (XT.ii_lt_f (by decide : ¬ (1 : Int32) < (1 : Int32))) ?_
         refine aB X58 hx hby at_164 rfl rfl ?_
         refine iB X58 hx hby at_166 rfl ?_
         refine lC X58 hx hby at_168 (v := (0 : Int64)) rfl ?_
         refine aB X58 hx hby at_169 rfl rfl ?_
         refine c_virt 0 X58 hx hby hml hZ hown (tw_150 hw) (tw_151 hw) (tw_153 hw) (tw_152 hw) (tw_154 hw) (tw_4 hw) (rm_recv0 l Z a0 hw [] b40 arr out oj mj xi ka ko zz si ((List.range zz.toNatClampNeg).map fun i => Value.ref (fo i)) ((List.range zz.toNatClampNeg).map fun i => Value.ref (fx i)) b39 (0 : Int32) (0 : Int32) ca cc og T58.heap n0 f58_0 f58_1 Sca BX f58_6 f58_7 hsi huxI f58_20 nax nox hog hvoJ hc110_62 f58_2 f58_3 f58_4 f58_5 f58_8 f58_9 f58_10 f58_11 f58_12 f58_13 f58_14 f58_15 f58_16 f58_17 g_oj g_mj g_xi) rfl f58_2 at_171 [(.int og), (.long (0 : Int64)), (.ref b39)] [] (lenOf pd4 rfl) rfl rfl ?_
         rintro _ T64 Lc64 ⟨rfl, N64q, K64, en64, zn64, G64_0, G64_1, G64_2, G64_3, G64_4, G64_5, G64_6, G64_7, G64_8, G64_9, G64_10, G64_11, G64_12, G64_13, G64_14, G64_15⟩ X64
         have N64 := Fr.app N58 N64q
         have u64_0 := ninS ne_b40_oj (ninS ne_b40_mj (ninS ne_b40_xi nin0))
         have f64_0 := Nat.le_trans f58_0 K64.1
         have f64_1 := Old.keep f58_1 K64 (allS g_oj (allS g_mj (allS g_xi all0)))
         have f64_2 := Exa.keep f58_2 K64
         have f64_3 := Fld.keep f58_3 K64 u64_0
         have f64_4 := Fld.keep f58_4 K64 u64_0
         have f64_5 := Fld.keep f58_5 K64 u64_0
         have f64_6 := Arv.keep f58_6 K64 (ninS (Ne.symm ne_oj_arr) (ninS (Ne.symm ne_mj_arr) (ninS nax nin0)))
         have f64_7 := Arv.keep f58_7 K64 (ninS (Ne.symm ne_oj_out) (ninS (Ne.symm ne_mj_out) (ninS nox nin0)))
         have f64_8 := Exa.keep f58_8 K64
         have f64_9 := Exa.keep f58_13 K64
         have f64_10 : own_LA Z T64.heap xi zz := (own_LA.keep f58_20 K64)
         have g_en64 : n0 ≤ en64 := Nat.le_trans f58_0 zn64
         have ne_b40_en64 : b40 ≠ en64 := Nat.ne_of_lt (Nat.lt_of_lt_of_le (f58_2.lt) zn64)
         have ne_arr_en64 : arr ≠ en64 := Nat.ne_of_lt (Nat.lt_of_lt_of_le (f58_6.lt) zn64)
         refine pO X64 hx hby at_174 rfl ?_
         refine iB X64 hx hby at_175 rfl ?_
         refine iC X64 hx hby at_177 (v := 2) rfl ?_
         refine cY X64 hx hby at_178 (pc' := 192) (XT.ii_lt_t (by decide : (1 : Int32) < (2 : Int32))) ?_
         refine iB X64 hx hby at_192 rfl ?_
         refine iC X64 hx hby at_194 (v := 3) rfl ?_
         refine cY X64 hx hby at_195 (pc' := 211) (XT.ii_lt_t (by decide : (1 : Int32) < (3 : Int32))) ?_
         refine iB X64 hx hby at_211 rfl ?_
         by_cases hc213_65 : gp = (0 : Int32)
         · refine fY X64 hx hby at_213 (pc' := 230) (XT.i0_eq_t hc213_65) ?_
           exact tail1 zz si og gp ot b39 b40 arr oj ka ((List.range zz.toNatClampNeg).map fun i => Value.ref (fo i)) (X64.more (by decide) (by decide)) rfl N64 f64_0 f64_2 f64_4 f64_6 hog hvoJ G64_1
         · refine fN X64 hx hby at_213 (XT.i0_eq_f hc213_65) ?_
           refine aB X64 hx hby at_216 rfl rfl ?_
           refine iB X64 hx hby at_218 rfl ?_
           refine lB X64 hx hby at_220 rfl ?_
           refine lC X64 hx hby at_222 (v := (1 : Int64)) rfl ?_
           refine lP X64 hx hby at_223 (v := (2 : Int64)) rfl ?_
           refine aB X64 hx hby at_224 rfl rfl ?_
           refine c_virt 0 X64 hx hby hml hZ hown (tw_150 hw) (tw_151 hw) (tw_153 hw) (tw_152 hw) (tw_154 hw) (tw_4 hw) (rm_recvG1 l Z a0 hw [] b40 arr out oj mj xi ka ko zz si ((List.range zz.toNatClampNeg).map fun i => Value.ref (fo i)) ((List.range zz.toNatClampNeg).map fun i => Value.ref (fx i)) en64 b39 (1 : Int32) ((0 : Int32) + (1 : Int32)) ca cc og T64.heap n0 f64_0 f64_1 Sca BX f64_6 f64_7 hsi huxI f64_10 nax nox hog hvoJ hc110_62 f64_2 f64_3 f64_4 f64_5 f64_8 G64_1 G64_2 G64_3 G64_4 f64_9 G64_6 G64_7 G64_8 G64_9 G64_10 G64_11 G64_12 G64_13 G64_14 G64_15 g_oj g_mj g_en64 g_xi) rfl f64_2 at_226 [(.int og), (.long (2 : Int64)), (.ref b39)] [] (lenOf pd4 rfl) rfl rfl ?_
           rintro _ T66 Lc66 ⟨rfl, N66q, K66, en66, zn66, G66_0, G66_1, G66_2, G66_3, G66_4, G66_5, G66_6, G66_7, G66_8, G66_9, G66_10, G66_11, G66_12, G66_13, G66_14, G66_15, G66_16, G66_17, G66_18, G66_19, G66_20, G66_21⟩ X66
           have N66 := Fr.app N64 N66q
           have f66_0 := Nat.le_trans f64_0 K66.1
           have f66_2 := Exa.keep f64_2 K66
           have f66_4 := Fld.keep f64_4 K66 (ninS ne_b40_oj (ninS ne_b40_mj (ninS ne_b40_en64 (ninS ne_b40_xi nin0))))
           have f66_6 := Arv.keep f64_6 K66 (ninS (Ne.symm ne_oj_arr) (ninS (Ne.symm ne_mj_arr) (ninS ne_arr_en64 (ninS nax nin0))))
           have g_en66 : n0 ≤ en66 := Nat.le_trans f64_0 zn66
           refine pO X66 hx hby at_229 rfl ?_
           exact tail1 zz si og gp ot b39 b40 arr oj ka ((List.range zz.toNatClampNeg).map fun i => Value.ref (fo i)) (X66.more (by decide) (by decide)) rfl N66 f66_0 f66_2 f66_4 f66_6 hog hvoJ G66_1
     · show oG p e below P m T58 101 #[(vI p0), (vI p1), (vI p2), (vI p3), (vJ p4), .second, (vI p5), (vI zz), (vI si), (vI og), (vI 2), (vI gp), (vR b39), (vR b40), (vI ot), .unset, .unset, .unset, .unset, .unset] []
       refine iB X58 hx hby at_101 rfl ?_
       refine w_i2l X58 hx hby at_103 (v := (2 : Int64)) rfl ?_
       refine w_lstore X58 hx hby at_104 rfl ?_
       refine iB X58 hx hby at_106 rfl ?_
       refine iB X58 hx hby at_108 rfl ?_
       by_cases hc110_67 : og = si
       · refine cN X58 hx hby at_110 (XT.ii_ne_f hc110_67) ?_
         refine iB X58 hx hby at_113 rfl ?_
         refine iC X58 hx hby at_115 (v := 1) rfl ?_
         refine cN X58 hx hby at_116 (XT.ii_lt_f (by decide : ¬ (2 : Int32) < (1 : Int32))) ?_
         refine aB X58 hx hby at_119 rfl rfl ?_
         refine aB X58 hx hby at_121 rfl rfl ?_
         refine c_virt 0 X58 hx hby hml hZ hown (tw_74 hw) (tw_75 hw) (tw_77 hw) (tw_76 hw) (tw_78 hw) (tw_4 hw) (rm_send0 l Z a0 hw [] b40 arr out oj mj xi ka ko zz si ((List.range zz.toNatClampNeg).map fun i => Value.ref (fo i)) ((List.range zz.toNatClampNeg).map fun i => Value.ref (fx i)) b39 (0 : Int32) (0 : Int32) ca cc T58.heap n0 f58_0 f58_1 Sca BX f58_6 f58_7 hsi huxI f58_20 nax nox (by rw [← hc110_67]; exact hvoJ) f58_2 f58_3 f58_4 f58_5 f58_8 f58_9 f58_10 f58_11 f58_12 f58_13 f58_14 f58_15 f58_16 f58_17 g_oj g_mj g_xi) rfl f58_2 at_123 [(.ref b39)] [] (lenOf pd11 rfl) rfl rfl ?_
         rintro _ T68 Lc68 ⟨rfl, N68q, K68, en68, zn68, G68_0, G68_1, G68_2, G68_3, G68_4, G68_5, G68_6, G68_7, G68_8, G68_9, G68_10, G68_11, G68_12, G68_13, G68_14, G68_15⟩ X68
         have N68 := Fr.app N58 N68q
         have u68_0 := ninS ne_b40_oj (ninS ne_b40_mj (ninS ne_b40_xi nin0))
         have f68_0 := Nat.le_trans f58_0 K68.1
         have f68_1 := Old.keep f58_1 K68 (allS g_oj (allS g_mj (allS g_xi all0)))
         have f68_2 := Exa.keep f58_2 K68
         have f68_3 := Fld.keep f58_3 K68 u68_0
         have f68_4 := Fld.keep f58_4 K68 u68_0
         have f68_5 := Fld.keep f58_5 K68 u68_0
         have f68_6 := Arv.keep f58_6 K68 (ninS (Ne.symm ne_oj_arr) (ninS (Ne.symm ne_mj_arr) (ninS nax nin0)))
         have f68_7 := Arv.keep f58_7 K68 (ninS (Ne.symm ne_oj_out) (ninS (Ne.symm ne_mj_out) (ninS nox nin0)))
         have f68_8 := Exa.keep f58_8 K68
         have f68_9 := Exa.keep f58_13 K68
         have f68_10 : own_LA Z T68.heap xi zz := (own_LA.keep f58_20 K68)
         have g_en68 : n0 ≤ en68 := Nat.le_trans f58_0 zn68
         have ne_b40_en68 : b40 ≠ en68 := Nat.ne_of_lt (Nat.lt_of_lt_of_le (f58_2.lt) zn68)
         have ne_arr_en68 : arr ≠ en68 := Nat.ne_of_lt (Nat.lt_of_lt_of_le (f58_6.lt) zn68)
         show oG p e below P m T68 126 #[(vI p0), (vI p1), (vI p2), (vI p3), (vJ p4), .second, (vI p5), (vI zz), (vI si), (vI og), (vI 2), (vI gp), (vR b39), (vR b40), (vI ot), (vJ (2 : Int64)), .second, .unset, .unset, .unset] [(.long (0 : Int64))]
         refine Go.by (fun _ => own_pop2 X68.here hx rfl (hb hby at_126) rfl) ?_
         show oG p e below P m T68 127 #[(vI p0), (vI p1), (vI p2), (vI p3), (vJ p4), .second, (vI p5), (vI zz), (vI si), (vI og), (vI 2), (vI gp), (vR b39), (vR b40), (vI ot), (vJ (2 : Int64)), .second, .unset, .unset, .unset] []
         refine iB X68 hx hby at_127 rfl ?_
         refine iC X68 hx hby at_129 (v := 2) rfl ?_
         refine cN X68 hx hby at_130 (XT.ii_lt_f (by decide : ¬ (2 : Int32) < (2 : Int32))) ?_
         refine aB X68 hx hby at_133 rfl rfl ?_
         refine aB X68 hx hby at_135 rfl rfl ?_
         refine c_virt 0 X68 hx hby hml hZ hown (tw_74 hw) (tw_75 hw) (tw_77 hw) (tw_76 hw) (tw_78 hw) (tw_4 hw) (rm_send1 l Z a0 hw [] b40 arr out oj mj xi ka ko zz si ((List.range zz.toNatClampNeg).map fun i => Value.ref (fo i)) ((List.range zz.toNatClampNeg).map fun i => Value.ref (fx i)) en68 b39 (1 : Int32) ((0 : Int32) + (1 : Int32)) ca cc T68.heap n0 f68_0 f68_1 Sca BX f68_6 f68_7 hsi huxI f68_10 nax nox (by rw [← hc110_67]; exact hvoJ) f68_2 f68_3 f68_4 f68_5 f68_8 G68_1 G68_2 G68_3 G68_4 f68_9 G68_6 G68_7 G68_8 G68_9 G68_10 G68_11 G68_12 G68_13 G68_14 G68_15 g_oj g_mj g_en68 g_xi) rfl f68_2 at_137 [(.ref b39)] [] (lenOf pd11 rfl) rfl rfl ?_
         rintro _ T69 Lc69 ⟨rfl, N69q, K69, en69, zn69, G69_0, G69_1, G69_2, G69_3, G69_4, G69_5, G69_6, G69_7, G69_8, G69_9, G69_10, G69_11, G69_12, G69_13, G69_14, G69_15, G69_16, G69_17, G69_18, G69_19, G69_20, G69_21⟩ X69
         have N69 := Fr.app N68 N69q
         have f69_0 := Nat.le_trans f68_0 K69.1
         have f69_2 := Exa.keep f68_2 K69
         have f69_4 := Fld.keep f68_4 K69 (ninS ne_b40_oj (ninS ne_b40_mj (ninS ne_b40_en68 (ninS ne_b40_xi nin0))))
         have f69_6 := Arv.keep f68_6 K69 (ninS (Ne.symm ne_oj_arr) (ninS (Ne.symm ne_mj_arr) (ninS ne_arr_en68 (ninS nax nin0))))
         have g_en69 : n0 ≤ en69 := Nat.le_trans f68_0 zn69
         show oG p e below P m T69 140 #[(vI p0), (vI p1), (vI p2), (vI p3), (vJ p4), .second, (vI p5), (vI zz), (vI si), (vI og), (vI 2), (vI gp), (vR b39), (vR b40), (vI ot), (vJ (2 : Int64)), .second, .unset, .unset, .unset] [(.long (1 : Int64))]
         refine Go.by (fun _ => own_pop2 X69.here hx rfl (hb hby at_140) rfl) ?_
         show oG p e below P m T69 141 #[(vI p0), (vI p1), (vI p2), (vI p3), (vJ p4), .second, (vI p5), (vI zz), (vI si), (vI og), (vI 2), (vI gp), (vR b39), (vR b40), (vI ot), (vJ (2 : Int64)), .second, .unset, .unset, .unset] []
         refine iB X69 hx hby at_141 rfl ?_
         refine iC X69 hx hby at_143 (v := 3) rfl ?_
         refine cY X69 hx hby at_144 (pc' := 230) (XT.ii_lt_t (by decide : (2 : Int32) < (3 : Int32))) ?_
         exact tail2 zz si og gp ot b39 b40 arr oj ka ((List.range zz.toNatClampNeg).map fun i => Value.ref (fo i)) (X69.more (by decide) (by decide)) rfl N69 f69_0 f69_2 f69_4 f69_6 hog hvoJ G69_1
       · refine cY X58 hx hby at_110 (pc' := 158) (XT.ii_ne_t hc110_67) ?_
         refine iB X58 hx hby at_158 rfl ?_
         refine iC X58 hx hby at_160 (v := 1) rfl ?_
         refine cN X58 hx hby at_161 (XT.ii_lt_f (by decide : ¬ (2 : Int32) < (1 : Int32))) ?_
         refine aB X58 hx hby at_164 rfl rfl ?_
         refine iB X58 hx hby at_166 rfl ?_
         refine lC X58 hx hby at_168 (v := (0 : Int64)) rfl ?_
         refine aB X58 hx hby at_169 rfl rfl ?_
         refine c_virt 0 X58 hx hby hml hZ hown (tw_150 hw) (tw_151 hw) (tw_153 hw) (tw_152 hw) (tw_154 hw) (tw_4 hw) (rm_recv0 l Z a0 hw [] b40 arr out oj mj xi ka ko zz si ((List.range zz.toNatClampNeg).map fun i => Value.ref (fo i)) ((List.range zz.toNatClampNeg).map fun i => Value.ref (fx i)) b39 (0 : Int32) (0 : Int32) ca cc og T58.heap n0 f58_0 f58_1 Sca BX f58_6 f58_7 hsi huxI f58_20 nax nox hog hvoJ hc110_67 f58_2 f58_3 f58_4 f58_5 f58_8 f58_9 f58_10 f58_11 f58_12 f58_13 f58_14 f58_15 f58_16 f58_17 g_oj g_mj g_xi) rfl f58_2 at_171 [(.int og), (.long (0 : Int64)), (.ref b39)] [] (lenOf pd4 rfl) rfl rfl ?_
         rintro _ T70 Lc70 ⟨rfl, N70q, K70, en70, zn70, G70_0, G70_1, G70_2, G70_3, G70_4, G70_5, G70_6, G70_7, G70_8, G70_9, G70_10, G70_11, G70_12, G70_13, G70_14, G70_15⟩ X70
         have N70 := Fr.app N58 N70q
         have u70_0 := ninS ne_b40_oj (ninS ne_b40_mj (ninS ne_b40_xi nin0))
         have f70_0 := Nat.le_trans f58_0 K70.1
         have f70_1 := Old.keep f58_1 K70 (allS g_oj (allS g_mj (allS g_xi all0)))
         have f70_2 := Exa.keep f58_2 K70
         have f70_3 := Fld.keep f58_3 K70 u70_0
         have f70_4 := Fld.keep f58_4 K70 u70_0
         have f70_5 := Fld.keep f58_5 K70 u70_0
         have f70_6 := Arv.keep f58_6 K70 (ninS (Ne.symm ne_oj_arr) (ninS (Ne.symm ne_mj_arr) (ninS nax nin0)))
         have f70_7 := Arv.keep f58_7 K70 (ninS (Ne.symm ne_oj_out) (ninS (Ne.symm ne_mj_out) (ninS nox nin0)))
         have f70_8 := Exa.keep f58_8 K70
         have f70_9 := Exa.keep f58_13 K70
         have f70_10 : own_LA Z T70.heap xi zz := (own_LA.keep f58_20 K70)
         have g_en70 : n0 ≤ en70 := Nat.le_trans f58_0 zn70
         have ne_b40_en70 : b40 ≠ en70 := Nat.ne_of_lt (Nat.lt_of_lt_of_le (f58_2.lt) zn70)
         have ne_arr_en70 : arr ≠ en70 := Nat.ne_of_lt (Nat.lt_of_lt_of_le (f58_6.lt) zn70)
         have ne_out_en70 : out ≠ en70 := Nat.ne_of_lt (Nat.lt_of_lt_of_le (f58_7.lt) zn70)
         refine pO X70 hx hby at_174 rfl ?_
         refine iB X70 hx hby at_175 rfl ?_
         refine iC X70 hx hby at_177 (v := 2) rfl ?_
         refine cN X70 hx hby at_178 (XT.ii_lt_f (by decide : ¬ (2 : Int32) < (2 : Int32))) ?_
         refine aB X70 hx hby at_181 rfl rfl ?_
         refine iB X70 hx hby at_183 rfl ?_
         refine lC X70 hx hby at_185 (v := (1 : Int64)) rfl ?_
         refine aB X70 hx hby at_186 rfl rfl ?_
         refine c_virt 0 X70 hx hby hml hZ hown (tw_150 hw) (tw_151 hw) (tw_153 hw) (tw_152 hw) (tw_154 hw) (tw_4 hw) (rm_recv1 l Z a0 hw [] b40 arr out oj mj xi ka ko zz si ((List.range zz.toNatClampNeg).map fun i => Value.ref (fo i)) ((List.range zz.toNatClampNeg).map fun i => Value.ref (fx i)) en70 b39 (1 : Int32) ((0 : Int32) + (1 : Int32)) ca cc og T70.heap n0 f70_0 f70_1 Sca BX f70_6 f70_7 hsi huxI f70_10 nax nox hog hvoJ hc110_67 f70_2 f70_3 f70_4 f70_5 f70_8 G70_1 G70_2 G70_3 G70_4 f70_9 G70_6 G70_7 G70_8 G70_9 G70_10 G70_11 G70_12 G70_13 G70_14 G70_15 g_oj g_mj g_en70 g_xi) rfl f70_2 at_188 [(.int og), (.long (1 : Int64)), (.ref b39)] [] (lenOf pd4 rfl) rfl rfl ?_
         rintro _ T71 Lc71 ⟨rfl, N71q, K71, en71, zn71, G71_0, G71_1, G71_2, G71_3, G71_4, G71_5, G71_6, G71_7, G71_8, G71_9, G71_10, G71_11, G71_12, G71_13, G71_14, G71_15, G71_16, G71_17, G71_18, G71_19, G71_20, G71_21⟩ X71
         have N71 := Fr.app N70 N71q
         have u71_0 := ninS ne_b40_oj (ninS ne_b40_mj (ninS ne_b40_en70 (ninS ne_b40_xi nin0)))
         have f71_0 := Nat.le_trans f70_0 K71.1
         have f71_1 := Old.keep f70_1 K71 (allS g_oj (allS g_mj (allS g_en70 (allS g_xi all0))))
         have f71_2 := Exa.keep f70_2 K71
         have f71_3 := Fld.keep f70_3 K71 u71_0
         have f71_4 := Fld.keep f70_4 K71 u71_0
         have f71_5 := Fld.keep f70_5 K71 u71_0
         have f71_6 := Arv.keep f70_6 K71 (ninS (Ne.symm ne_oj_arr) (ninS (Ne.symm ne_mj_arr) (ninS ne_arr_en70 (ninS nax nin0))))
         have f71_7 := Arv.keep f70_7 K71 (ninS (Ne.symm ne_oj_out) (ninS (Ne.symm ne_mj_out) (ninS ne_out_en70 (ninS nox nin0))))
         have f71_8 := Exa.keep f70_8 K71
         have f71_9 := Exa.keep f70_9 K71
         have f71_10 : own_LA Z T71.heap xi zz := (own_LA.keep f70_10 K71)
         have f71_11 := Exa.keep G70_10 K71
         have g_en71 : n0 ≤ en71 := Nat.le_trans f70_0 zn71
         have ne_b40_en71 : b40 ≠ en71 := Nat.ne_of_lt (Nat.lt_of_lt_of_le (f70_2.lt) zn71)
         have ne_arr_en71 : arr ≠ en71 := Nat.ne_of_lt (Nat.lt_of_lt_of_le (f70_6.lt) zn71)
         have ne_en70_en71 : en70 ≠ en71 := Nat.ne_of_lt (Nat.lt_of_lt_of_le (G70_10.lt) zn71)
         refine pO X71 hx hby at_191 rfl ?_
         refine iB X71 hx hby at_192 rfl ?_
         refine iC X71 hx hby at_194 (v := 3) rfl ?_
         refine cY X71 hx hby at_195 (pc' := 211) (XT.ii_lt_t (by decide : (2 : Int32) < (3 : Int32))) ?_
         refine iB X71 hx hby at_211 rfl ?_
         by_cases hc213_72 : gp = (0 : Int32)
         · refine fY X71 hx hby at_213 (pc' := 230) (XT.i0_eq_t hc213_72) ?_
           exact tail2 zz si og gp ot b39 b40 arr oj ka ((List.range zz.toNatClampNeg).map fun i => Value.ref (fo i)) (X71.more (by decide) (by decide)) rfl N71 f71_0 f71_2 f71_4 f71_6 hog hvoJ G71_1
         · refine fN X71 hx hby at_213 (XT.i0_eq_f hc213_72) ?_
           refine aB X71 hx hby at_216 rfl rfl ?_
           refine iB X71 hx hby at_218 rfl ?_
           refine lB X71 hx hby at_220 rfl ?_
           refine lC X71 hx hby at_222 (v := (1 : Int64)) rfl ?_
           refine lP X71 hx hby at_223 (v := (3 : Int64)) rfl ?_
           refine aB X71 hx hby at_224 rfl rfl ?_
           refine c_virt 0 X71 hx hby hml hZ hown (tw_150 hw) (tw_151 hw) (tw_153 hw) (tw_152 hw) (tw_154 hw) (tw_4 hw) (rm_recvG2 l Z a0 hw [] b40 arr out oj mj xi ka ko zz si ((List.range zz.toNatClampNeg).map fun i => Value.ref (fo i)) ((List.range zz.toNatClampNeg).map fun i => Value.ref (fx i)) en70 en71 b39 ((1 : Int32) + (1 : Int32)) (((0 : Int32) + (1 : Int32)) + (1 : Int32)) ca cc og T71.heap n0 f71_0 f71_1 Sca BX f71_6 f71_7 hsi huxI f71_10 nax nox hog hvoJ hc110_67 f71_2 f71_3 f71_4 f71_5 f71_8 G71_1 G71_2 G71_3 G71_4 f71_9 G71_6 G71_7 G71_8 G71_9 f71_11 G71_11 G71_12 G71_13 G71_14 G71_15 G71_16 G71_17 G71_18 G71_19 G71_20 G71_21 g_oj g_mj g_en70 g_en71 g_xi ne_en70_en71) rfl f71_2 at_226 [(.int og), (.long (3 : Int64)), (.ref b39)] [] (lenOf pd4 rfl) rfl rfl ?_
           rintro _ T73 Lc73 ⟨rfl, N73q, K73, en73, zn73, G73_0, G73_1, G73_2, G73_3, G73_4, G73_5, G73_6, G73_7, G73_8, G73_9, G73_10, G73_11, G73_12, G73_13, G73_14, G73_15, G73_16, G73_17, G73_18, G73_19, G73_20, G73_21, G73_22, G73_23, G73_24, G73_25, G73_26, G73_27⟩ X73
           have N73 := Fr.app N71 N73q
           have f73_0 := Nat.le_trans f71_0 K73.1
           have f73_2 := Exa.keep f71_2 K73
           have f73_4 := Fld.keep f71_4 K73 (ninS ne_b40_oj (ninS ne_b40_mj (ninS ne_b40_en70 (ninS ne_b40_en71 (ninS ne_b40_xi nin0)))))
           have f73_6 := Arv.keep f71_6 K73 (ninS (Ne.symm ne_oj_arr) (ninS (Ne.symm ne_mj_arr) (ninS ne_arr_en70 (ninS ne_arr_en71 (ninS nax nin0)))))
           have g_en73 : n0 ≤ en73 := Nat.le_trans f71_0 zn73
           refine pO X73 hx hby at_229 rfl ?_
           exact tail2 zz si og gp ot b39 b40 arr oj ka ((List.range zz.toNatClampNeg).map fun i => Value.ref (fo i)) (X73.more (by decide) (by decide)) rfl N73 f73_0 f73_2 f73_4 f73_6 hog hvoJ G73_1
     · show oG p e below P m T58 101 #[(vI p0), (vI p1), (vI p2), (vI p3), (vJ p4), .second, (vI p5), (vI zz), (vI si), (vI og), (vI 3), (vI gp), (vR b39), (vR b40), (vI ot), .unset, .unset, .unset, .unset, .unset] []
       refine iB X58 hx hby at_101 rfl ?_
       refine w_i2l X58 hx hby at_103 (v := (3 : Int64)) rfl ?_
       refine w_lstore X58 hx hby at_104 rfl ?_
       refine iB X58 hx hby at_106 rfl ?_
       refine iB X58 hx hby at_108 rfl ?_
       by_cases hc110_74 : og = si
       · refine cN X58 hx hby at_110 (XT.ii_ne_f hc110_74) ?_
         refine iB X58 hx hby at_113 rfl ?_
         refine iC X58 hx hby at_115 (v := 1) rfl ?_
         refine cN X58 hx hby at_116 (XT.ii_lt_f (by decide : ¬ (3 : Int32) < (1 : Int32))) ?_
         refine aB X58 hx hby at_119 rfl rfl ?_
         refine aB X58 hx hby at_121 rfl rfl ?_
         refine c_virt 0 X58 hx hby hml hZ hown (tw_74 hw) (tw_75 hw) (tw_77 hw) (tw_76 hw) (tw_78 hw) (tw_4 hw) (rm_send0 l Z a0 hw [] b40 arr out oj mj xi ka ko zz si ((List.range zz.toNatClampNeg).map fun i => Value.ref (fo i)) ((List.range zz.toNatClampNeg).map fun i => Value.ref (fx i)) b39 (0 : Int32) (0 : Int32) ca cc T58.heap n0 f58_0 f58_1 Sca BX f58_6 f58_7 hsi huxI f58_20 nax nox (by rw [← hc110_74]; exact hvoJ) f58_2 f58_3 f58_4 f58_5 f58_8 f58_9 f58_10 f58_11 f58_12 f58_13 f58_14 f58_15 f58_16 f58_17 g_oj g_mj g_xi) rfl f58_2 at_123 [(.ref b39)] [] (lenOf pd11 rfl) rfl rfl ?_
         rintro _ T75 Lc75 ⟨rfl, N75q, K75, en75, zn75, G75_0, G75_1, G75_2, G75_3, G75_4, G75_5, G75_6, G75_7, G75_8, G75_9, G75_10, G75_11, G75_12, G75_13, G75_14, G75_15⟩ X75
         have N75 := Fr.app N58 N75q
         have u75_0 := ninS ne_b40_oj (ninS ne_b40_mj (ninS ne_b40_xi nin0))
         have f75_0 := Nat.le_trans f58_0 K75.1
         have f75_1 := Old.keep f58_1 K75 (allS g_oj (allS g_mj (allS g_xi all0)))
         have f75_2 := Exa.keep f58_2 K75
         have f75_3 := Fld.keep f58_3 K75 u75_0
         have f75_4 := Fld.keep f58_4 K75 u75_0
         have f75_5 := Fld.keep f58_5 K75 u75_0
         have f75_6 := Arv.keep f58_6 K75 (ninS (Ne.symm ne_oj_arr) (ninS (Ne.symm ne_mj_arr) (ninS nax nin0)))
         have f75_7 := Arv.keep f58_7 K75 (ninS (Ne.symm ne_oj_out) (ninS (Ne.symm ne_mj_out) (ninS nox nin0)))
         have f75_8 := Exa.keep f58_8 K75
         have f75_9 := Exa.keep f58_13 K75
         have f75_10 : own_LA Z T75.heap xi zz := (own_LA.keep f58_20 K75)
         have g_en75 : n0 ≤ en75 := Nat.le_trans f58_0 zn75
         have ne_b40_en75 : b40 ≠ en75 := Nat.ne_of_lt (Nat.lt_of_lt_of_le (f58_2.lt) zn75)
         have ne_arr_en75 : arr ≠ en75 := Nat.ne_of_lt (Nat.lt_of_lt_of_le (f58_6.lt) zn75)
         have ne_out_en75 : out ≠ en75 := Nat.ne_of_lt (Nat.lt_of_lt_of_le (f58_7.lt) zn75)
         show oG p e below P m T75 126 #[(vI p0), (vI p1), (vI p2), (vI p3), (vJ p4), .second, (vI p5), (vI zz), (vI si), (vI og), (vI 3), (vI gp), (vR b39), (vR b40), (vI ot), (vJ (3 : Int64)), .second, .unset, .unset, .unset] [(.long (0 : Int64))]
         refine Go.by (fun _ => own_pop2 X75.here hx rfl (hb hby at_126) rfl) ?_
         show oG p e below P m T75 127 #[(vI p0), (vI p1), (vI p2), (vI p3), (vJ p4), .second, (vI p5), (vI zz), (vI si), (vI og), (vI 3), (vI gp), (vR b39), (vR b40), (vI ot), (vJ (3 : Int64)), .second, .unset, .unset, .unset] []
         refine iB X75 hx hby at_127 rfl ?_
         refine iC X75 hx hby at_129 (v := 2) rfl ?_
         refine cN X75 hx hby at_130 (XT.ii_lt_f (by decide : ¬ (3 : Int32) < (2 : Int32))) ?_
         refine aB X75 hx hby at_133 rfl rfl ?_
         refine aB X75 hx hby at_135 rfl rfl ?_
         refine c_virt 0 X75 hx hby hml hZ hown (tw_74 hw) (tw_75 hw) (tw_77 hw) (tw_76 hw) (tw_78 hw) (tw_4 hw) (rm_send1 l Z a0 hw [] b40 arr out oj mj xi ka ko zz si ((List.range zz.toNatClampNeg).map fun i => Value.ref (fo i)) ((List.range zz.toNatClampNeg).map fun i => Value.ref (fx i)) en75 b39 (1 : Int32) ((0 : Int32) + (1 : Int32)) ca cc T75.heap n0 f75_0 f75_1 Sca BX f75_6 f75_7 hsi huxI f75_10 nax nox (by rw [← hc110_74]; exact hvoJ) f75_2 f75_3 f75_4 f75_5 f75_8 G75_1 G75_2 G75_3 G75_4 f75_9 G75_6 G75_7 G75_8 G75_9 G75_10 G75_11 G75_12 G75_13 G75_14 G75_15 g_oj g_mj g_en75 g_xi) rfl f75_2 at_137 [(.ref b39)] [] (lenOf pd11 rfl) rfl rfl ?_
         rintro _ T76 Lc76 ⟨rfl, N76q, K76, en76, zn76, G76_0, G76_1, G76_2, G76_3, G76_4, G76_5, G76_6, G76_7, G76_8, G76_9, G76_10, G76_11, G76_12, G76_13, G76_14, G76_15, G76_16, G76_17, G76_18, G76_19, G76_20, G76_21⟩ X76
         have N76 := Fr.app N75 N76q
         have u76_0 := ninS ne_b40_oj (ninS ne_b40_mj (ninS ne_b40_en75 (ninS ne_b40_xi nin0)))
         have f76_0 := Nat.le_trans f75_0 K76.1
         have f76_1 := Old.keep f75_1 K76 (allS g_oj (allS g_mj (allS g_en75 (allS g_xi all0))))
         have f76_2 := Exa.keep f75_2 K76
         have f76_3 := Fld.keep f75_3 K76 u76_0
         have f76_4 := Fld.keep f75_4 K76 u76_0
         have f76_5 := Fld.keep f75_5 K76 u76_0
         have f76_6 := Arv.keep f75_6 K76 (ninS (Ne.symm ne_oj_arr) (ninS (Ne.symm ne_mj_arr) (ninS ne_arr_en75 (ninS nax nin0))))
         have f76_7 := Arv.keep f75_7 K76 (ninS (Ne.symm ne_oj_out) (ninS (Ne.symm ne_mj_out) (ninS ne_out_en75 (ninS nox nin0))))
         have f76_8 := Exa.keep f75_8 K76
         have f76_9 := Exa.keep f75_9 K76
         have f76_10 : own_LA Z T76.heap xi zz := (own_LA.keep f75_10 K76)
         have f76_11 := Exa.keep G75_10 K76
         have g_en76 : n0 ≤ en76 := Nat.le_trans f75_0 zn76
         have ne_b40_en76 : b40 ≠ en76 := Nat.ne_of_lt (Nat.lt_of_lt_of_le (f75_2.lt) zn76)
         have ne_arr_en76 : arr ≠ en76 := Nat.ne_of_lt (Nat.lt_of_lt_of_le (f75_6.lt) zn76)
         have ne_en75_en76 : en75 ≠ en76 := Nat.ne_of_lt (Nat.lt_of_lt_of_le (G75_10.lt) zn76)
         show oG p e below P m T76 140 #[(vI p0), (vI p1), (vI p2), (vI p3), (vJ p4), .second, (vI p5), (vI zz), (vI si), (vI og), (vI 3), (vI gp), (vR b39), (vR b40), (vI ot), (vJ (3 : Int64)), .second, .unset, .unset, .unset] [(.long (1 : Int64))]
         refine Go.by (fun _ => own_pop2 X76.here hx rfl (hb hby at_140) rfl) ?_
         show oG p e below P m T76 141 #[(vI p0), (vI p1), (vI p2), (vI p3), (vJ p4), .second, (vI p5), (vI zz), (vI si), (vI og), (vI 3), (vI gp), (vR b39), (vR b40), (vI ot), (vJ (3 : Int64)), .second, .unset, .unset, .unset] []
         refine iB X76 hx hby at_141 rfl ?_
         refine iC X76 hx hby at_143 (v := 3) rfl ?_
         refine cN X76 hx hby at_144 (XT.ii_lt_f (by decide : ¬ (3 : Int32) < (3 : Int32))) ?_
         refine aB X76 hx hby at_147 rfl rfl ?_
         refine aB X76 hx hby at_149 rfl rfl ?_
         refine c_virt 0 X76 hx hby hml hZ hown (tw_74 hw) (tw_75 hw) (tw_77 hw) (tw_76 hw) (tw_78 hw) (tw_4 hw) (rm_send2 l Z a0 hw [] b40 arr out oj mj xi ka ko zz si ((List.range zz.toNatClampNeg).map fun i => Value.ref (fo i)) ((List.range zz.toNatClampNeg).map fun i => Value.ref (fx i)) en75 en76 b39 ((1 : Int32) + (1 : Int32)) (((0 : Int32) + (1 : Int32)) + (1 : Int32)) ca cc T76.heap n0 f76_0 f76_1 Sca BX f76_6 f76_7 hsi huxI f76_10 nax nox (by rw [← hc110_74]; exact hvoJ) f76_2 f76_3 f76_4 f76_5 f76_8 G76_1 G76_2 G76_3 G76_4 f76_9 G76_6 G76_7 G76_8 G76_9 f76_11 G76_11 G76_12 G76_13 G76_14 G76_15 G76_16 G76_17 G76_18 G76_19 G76_20 G76_21 g_oj g_mj g_en75 g_en76 g_xi ne_en75_en76) rfl f76_2 at_151 [(.ref b39)] [] (lenOf pd11 rfl) rfl rfl ?_
         rintro _ T77 Lc77 ⟨rfl, N77q, K77, en77, zn77, G77_0, G77_1, G77_2, G77_3, G77_4, G77_5, G77_6, G77_7, G77_8, G77_9, G77_10, G77_11, G77_12, G77_13, G77_14, G77_15, G77_16, G77_17, G77_18, G77_19, G77_20, G77_21, G77_22, G77_23, G77_24, G77_25, G77_26, G77_27⟩ X77
         have N77 := Fr.app N76 N77q
         have f77_0 := Nat.le_trans f76_0 K77.1
         have f77_2 := Exa.keep f76_2 K77
         have f77_4 := Fld.keep f76_4 K77 (ninS ne_b40_oj (ninS ne_b40_mj (ninS ne_b40_en75 (ninS ne_b40_en76 (ninS ne_b40_xi nin0)))))
         have f77_6 := Arv.keep f76_6 K77 (ninS (Ne.symm ne_oj_arr) (ninS (Ne.symm ne_mj_arr) (ninS ne_arr_en75 (ninS ne_arr_en76 (ninS nax nin0)))))
         have g_en77 : n0 ≤ en77 := Nat.le_trans f76_0 zn77
         show oG p e below P m T77 154 #[(vI p0), (vI p1), (vI p2), (vI p3), (vJ p4), .second, (vI p5), (vI zz), (vI si), (vI og), (vI 3), (vI gp), (vR b39), (vR b40), (vI ot), (vJ (3 : Int64)), .second, .unset, .unset, .unset] [(.long (2 : Int64))]
         refine Go.by (fun _ => own_pop2 X77.here hx rfl (hb hby at_154) rfl) ?_
         show oG p e below P m T77 155 #[(vI p0), (vI p1), (vI p2), (vI p3), (vJ p4), .second, (vI p5), (vI zz), (vI si), (vI og), (vI 3), (vI gp), (vR b39), (vR b40), (vI ot), (vJ (3 : Int64)), .second, .unset, .unset, .unset] []
         refine gO X77 hx hby at_155 (pc' := 230) ?_
         exact tail3 zz si og gp ot b39 b40 arr oj ka ((List.range zz.toNatClampNeg).map fun i => Value.ref (fo i)) (X77.more (by decide) (by decide)) rfl N77 f77_0 f77_2 f77_4 f77_6 hog hvoJ G77_1
       · refine cY X58 hx hby at_110 (pc' := 158) (XT.ii_ne_t hc110_74) ?_
         refine iB X58 hx hby at_158 rfl ?_
         refine iC X58 hx hby at_160 (v := 1) rfl ?_
         refine cN X58 hx hby at_161 (XT.ii_lt_f (by decide : ¬ (3 : Int32) < (1 : Int32))) ?_
         refine aB X58 hx hby at_164 rfl rfl ?_
         refine iB X58 hx hby at_166 rfl ?_
         refine lC X58 hx hby at_168 (v := (0 : Int64)) rfl ?_
         refine aB X58 hx hby at_169 rfl rfl ?_
         refine c_virt 0 X58 hx hby hml hZ hown (tw_150 hw) (tw_151 hw) (tw_153 hw) (tw_152 hw) (tw_154 hw) (tw_4 hw) (rm_recv0 l Z a0 hw [] b40 arr out oj mj xi ka ko zz si ((List.range zz.toNatClampNeg).map fun i => Value.ref (fo i)) ((List.range zz.toNatClampNeg).map fun i => Value.ref (fx i)) b39 (0 : Int32) (0 : Int32) ca cc og T58.heap n0 f58_0 f58_1 Sca BX f58_6 f58_7 hsi huxI f58_20 nax nox hog hvoJ hc110_74 f58_2 f58_3 f58_4 f58_5 f58_8 f58_9 f58_10 f58_11 f58_12 f58_13 f58_14 f58_15 f58_16 f58_17 g_oj g_mj g_xi) rfl f58_2 at_171 [(.int og), (.long (0 : Int64)), (.ref b39)] [] (lenOf pd4 rfl) rfl rfl ?_
         rintro _ T78 Lc78 ⟨rfl, N78q, K78, en78, zn78, G78_0, G78_1, G78_2, G78_3, G78_4, G78_5, G78_6, G78_7, G78_8, G78_9, G78_10, G78_11, G78_12, G78_13, G78_14, G78_15⟩ X78
         have N78 := Fr.app N58 N78q
         have u78_0 := ninS ne_b40_oj (ninS ne_b40_mj (ninS ne_b40_xi nin0))
         have f78_0 := Nat.le_trans f58_0 K78.1
         have f78_1 := Old.keep f58_1 K78 (allS g_oj (allS g_mj (allS g_xi all0)))
         have f78_2 := Exa.keep f58_2 K78
         have f78_3 := Fld.keep f58_3 K78 u78_0
         have f78_4 := Fld.keep f58_4 K78 u78_0
         have f78_5 := Fld.keep f58_5 K78 u78_0
         have f78_6 := Arv.keep f58_6 K78 (ninS (Ne.symm ne_oj_arr) (ninS (Ne.symm ne_mj_arr) (ninS nax nin0)))
         have f78_7 := Arv.keep f58_7 K78 (ninS (Ne.symm ne_oj_out) (ninS (Ne.symm ne_mj_out) (ninS nox nin0)))
         have f78_8 := Exa.keep f58_8 K78
         have f78_9 := Exa.keep f58_13 K78
         have f78_10 : own_LA Z T78.heap xi zz := (own_LA.keep f58_20 K78)
         have g_en78 : n0 ≤ en78 := Nat.le_trans f58_0 zn78
         have ne_b40_en78 : b40 ≠ en78 := Nat.ne_of_lt (Nat.lt_of_lt_of_le (f58_2.lt) zn78)
         have ne_arr_en78 : arr ≠ en78 := Nat.ne_of_lt (Nat.lt_of_lt_of_le (f58_6.lt) zn78)
         have ne_out_en78 : out ≠ en78 := Nat.ne_of_lt (Nat.lt_of_lt_of_le (f58_7.lt) zn78)
         refine pO X78 hx hby at_174 rfl ?_
         refine iB X78 hx hby at_175 rfl ?_
         refine iC X78 hx hby at_177 (v := 2) rfl ?_
         refine cN X78 hx hby at_178 (XT.ii_lt_f (by decide : ¬ (3 : Int32) < (2 : Int32))) ?_
         refine aB X78 hx hby at_181 rfl rfl ?_
         refine iB X78 hx hby at_183 rfl ?_
         refine lC X78 hx hby at_185 (v := (1 : Int64)) rfl ?_
         refine aB X78 hx hby at_186 rfl rfl ?_
         refine c_virt 0 X78 hx hby hml hZ hown (tw_150 hw) (tw_151 hw) (tw_153 hw) (tw_152 hw) (tw_154 hw) (tw_4 hw) (rm_recv1 l Z a0 hw [] b40 arr out oj mj xi ka ko zz si ((List.range zz.toNatClampNeg).map fun i => Value.ref (fo i)) ((List.range zz.toNatClampNeg).map fun i => Value.ref (fx i)) en78 b39 (1 : Int32) ((0 : Int32) + (1 : Int32)) ca cc og T78.heap n0 f78_0 f78_1 Sca BX f78_6 f78_7 hsi huxI f78_10 nax nox hog hvoJ hc110_74 f78_2 f78_3 f78_4 f78_5 f78_8 G78_1 G78_2 G78_3 G78_4 f78_9 G78_6 G78_7 G78_8 G78_9 G78_10 G78_11 G78_12 G78_13 G78_14 G78_15 g_oj g_mj g_en78 g_xi) rfl f78_2 at_188 [(.int og), (.long (1 : Int64)), (.ref b39)] [] (lenOf pd4 rfl) rfl rfl ?_
         rintro _ T79 Lc79 ⟨rfl, N79q, K79, en79, zn79, G79_0, G79_1, G79_2, G79_3, G79_4, G79_5, G79_6, G79_7, G79_8, G79_9, G79_10, G79_11, G79_12, G79_13, G79_14, G79_15, G79_16, G79_17, G79_18, G79_19, G79_20, G79_21⟩ X79
         have N79 := Fr.app N78 N79q
         have u79_0 := ninS ne_b40_oj (ninS ne_b40_mj (ninS ne_b40_en78 (ninS ne_b40_xi nin0)))
         have f79_0 := Nat.le_trans f78_0 K79.1
         have f79_1 := Old.keep f78_1 K79 (allS g_oj (allS g_mj (allS g_en78 (allS g_xi all0))))
         have f79_2 := Exa.keep f78_2 K79
         have f79_3 := Fld.keep f78_3 K79 u79_0
         have f79_4 := Fld.keep f78_4 K79 u79_0
         have f79_5 := Fld.keep f78_5 K79 u79_0
         have f79_6 := Arv.keep f78_6 K79 (ninS (Ne.symm ne_oj_arr) (ninS (Ne.symm ne_mj_arr) (ninS ne_arr_en78 (ninS nax nin0))))
         have f79_7 := Arv.keep f78_7 K79 (ninS (Ne.symm ne_oj_out) (ninS (Ne.symm ne_mj_out) (ninS ne_out_en78 (ninS nox nin0))))
         have f79_8 := Exa.keep f78_8 K79
         have f79_9 := Exa.keep f78_9 K79
         have f79_10 : own_LA Z T79.heap xi zz := (own_LA.keep f78_10 K79)
         have f79_11 := Exa.keep G78_10 K79
         have g_en79 : n0 ≤ en79 := Nat.le_trans f78_0 zn79
         have ne_b40_en79 : b40 ≠ en79 := Nat.ne_of_lt (Nat.lt_of_lt_of_le (f78_2.lt) zn79)
         have ne_arr_en79 : arr ≠ en79 := Nat.ne_of_lt (Nat.lt_of_lt_of_le (f78_6.lt) zn79)
         have ne_out_en79 : out ≠ en79 := Nat.ne_of_lt (Nat.lt_of_lt_of_le (f78_7.lt) zn79)
         have ne_en78_en79 : en78 ≠ en79 := Nat.ne_of_lt (Nat.lt_of_lt_of_le (G78_10.lt) zn79)
         refine pO X79 hx hby at_191 rfl ?_
         refine iB X79 hx hby at_192 rfl ?_
         refine iC X79 hx hby at_194 (v := 3) rfl ?_
         refine cN X79 hx hby at_195 (XT.ii_lt_f (by decide : ¬ (3 : Int32) < (3 : Int32))) ?_
         refine aB X79 hx hby at_198 rfl rfl ?_
         refine iB X79 hx hby at_200 rfl ?_
         refine lD X79 hx hby hown hZ (tw_222 hw) at_202 (v' := (2 : Int64)) rfl ?_
         refine aB X79 hx hby at_205 rfl rfl ?_
         refine c_virt 0 X79 hx hby hml hZ hown (tw_150 hw) (tw_151 hw) (tw_153 hw) (tw_152 hw) (tw_154 hw) (tw_4 hw) (rm_recv2 l Z a0 hw [] b40 arr out oj mj xi ka ko zz si ((List.range zz.toNatClampNeg).map fun i => Value.ref (fo i)) ((List.range zz.toNatClampNeg).map fun i => Value.ref (fx i)) en78 en79 b39 ((1 : Int32) + (1 : Int32)) (((0 : Int32) + (1 : Int32)) + (1 : Int32)) ca cc og T79.heap n0 f79_0 f79_1 Sca BX f79_6 f79_7 hsi huxI f79_10 nax nox hog hvoJ hc110_74 f79_2 f79_3 f79_4 f79_5 f79_8 G79_1 G79_2 G79_3 G79_4 f79_9 G79_6 G79_7 G79_8 G79_9 f79_11 G79_11 G79_12 G79_13 G79_14 G79_15 G79_16 G79_17 G79_18 G79_19 G79_20 G79_21 g_oj g_mj g_en78 g_en79 g_xi ne_en78_en79) rfl f79_2 at_207 [(.int og), (.long (2 : Int64)), (.ref b39)] [] (lenOf pd4 rfl) rfl rfl ?_
         rintro _ T80 Lc80 ⟨rfl, N80q, K80, en80, zn80, G80_0, G80_1, G80_2, G80_3, G80_4, G80_5, G80_6, G80_7, G80_8, G80_9, G80_10, G80_11, G80_12, G80_13, G80_14, G80_15, G80_16, G80_17, G80_18, G80_19, G80_20, G80_21, G80_22, G80_23, G80_24, G80_25, G80_26, G80_27⟩ X80
         have N80 := Fr.app N79 N80q
         have u80_0 := ninS ne_b40_oj (ninS ne_b40_mj (ninS ne_b40_en78 (ninS ne_b40_en79 (ninS ne_b40_xi nin0))))
         have f80_0 := Nat.le_trans f79_0 K80.1
         have f80_1 := Old.keep f79_1 K80 (allS g_oj (allS g_mj (allS g_en78 (allS g_en79 (allS g_xi all0)))))
         have f80_2 := Exa.keep f79_2 K80
         have f80_3 := Fld.keep f79_3 K80 u80_0
         have f80_4 := Fld.keep f79_4 K80 u80_0
         have f80_5 := Fld.keep f79_5 K80 u80_0
         have f80_6 := Arv.keep f79_6 K80 (ninS (Ne.symm ne_oj_arr) (ninS (Ne.symm ne_mj_arr) (ninS ne_arr_en78 (ninS ne_arr_en79 (ninS nax nin0)))))
         have f80_7 := Arv.keep f79_7 K80 (ninS (Ne.symm ne_oj_out) (ninS (Ne.symm ne_mj_out) (ninS ne_out_en78 (ninS ne_out_en79 (ninS nox nin0)))))
         have f80_8 := Exa.keep f79_8 K80
         have f80_9 := Exa.keep f79_9 K80
         have f80_10 : own_LA Z T80.heap xi zz := (own_LA.keep f79_10 K80)
         have f80_11 := Exa.keep f79_11 K80
         have f80_12 := Exa.keep G79_16 K80
         have g_en80 : n0 ≤ en80 := Nat.le_trans f79_0 zn80
         have ne_b40_en80 : b40 ≠ en80 := Nat.ne_of_lt (Nat.lt_of_lt_of_le (f79_2.lt) zn80)
         have ne_arr_en80 : arr ≠ en80 := Nat.ne_of_lt (Nat.lt_of_lt_of_le (f79_6.lt) zn80)
         have ne_en78_en80 : en78 ≠ en80 := Nat.ne_of_lt (Nat.lt_of_lt_of_le (f79_11.lt) zn80)
         have ne_en79_en80 : en79 ≠ en80 := Nat.ne_of_lt (Nat.lt_of_lt_of_le (G79_16.lt) zn80)
         refine pO X80 hx hby at_210 rfl ?_
         refine iB X80 hx hby at_211 rfl ?_
         by_cases hc213_81 : gp = (0 : Int32)
         · refine fY X80 hx hby at_213 (pc' := 230) (XT.i0_eq_t hc213_81) ?_
           exact tail3 zz si og gp ot b39 b40 arr oj ka ((List.range zz.toNatClampNeg).map fun i => Value.ref (fo i)) (X80.more (by decide) (by decide)) rfl N80 f80_0 f80_2 f80_4 f80_6 hog hvoJ G80_1
         · refine fN X80 hx hby at_213 (XT.i0_eq_f hc213_81) ?_
           refine aB X80 hx hby at_216 rfl rfl ?_
           refine iB X80 hx hby at_218 rfl ?_
           refine lB X80 hx hby at_220 rfl ?_
           refine lC X80 hx hby at_222 (v := (1 : Int64)) rfl ?_
           refine lP X80 hx hby at_223 (v := (4 : Int64)) rfl ?_
           refine aB X80 hx hby at_224 rfl rfl ?_
           refine c_virt 0 X80 hx hby hml hZ hown (tw_150 hw) (tw_151 hw) (tw_153 hw) (tw_152 hw) (tw_154 hw) (tw_4 hw) (rm_recvG3 l Z a0 hw [] b40 arr out oj mj xi ka ko zz si ((List.range zz.toNatClampNeg).map fun i => Value.ref (fo i)) ((List.range zz.toNatClampNeg).map fun i => Value.ref (fx i)) en78 en79 en80 b39 (((1 : Int32) + (1 : Int32)) + (1 : Int32)) ((((0 : Int32) + (1 : Int32)) + (1 : Int32)) + (1 : Int32)) ca cc og T80.heap n0 f80_0 f80_1 Sca BX f80_6 f80_7 hsi huxI f80_10 nax nox hog hvoJ hc110_74 f80_2 f80_3 f80_4 f80_5 f80_8 G80_1 G80_2 G80_3 G80_4 f80_9 G80_6 G80_7 G80_8 G80_9 f80_11 G80_11 G80_12 G80_13 G80_14 G80_15 f80_12 G80_17 G80_18 G80_19 G80_20 G80_21 G80_22 G80_23 G80_24 G80_25 G80_26 G80_27 g_oj g_mj g_en78 g_en79 g_en80 g_xi ne_en78_en79 ne_en78_en80 ne_en79_en80) rfl f80_2 at_226 [(.int og), (.long (4 : Int64)), (.ref b39)] [] (lenOf pd4 rfl) rfl rfl ?_
           rintro _ T82 Lc82 ⟨rfl, N82q, K82, en82, zn82, G82_0, G82_1, G82_2, G82_3, G82_4, G82_5, G82_6, G82_7, G82_8, G82_9, G82_10, G82_11, G82_12, G82_13, G82_14, G82_15, G82_16, G82_17, G82_18, G82_19, G82_20, G82_21, G82_22, G82_23, G82_24, G82_25, G82_26, G82_27, G82_28, G82_29, G82_30, G82_31, G82_32, G82_33⟩ X82
           have N82 := Fr.app N80 N82q
           have f82_0 := Nat.le_trans f80_0 K82.1
           have f82_2 := Exa.keep f80_2 K82
           have f82_4 := Fld.keep f80_4 K82 (ninS ne_b40_oj (ninS ne_b40_mj (ninS ne_b40_en78 (ninS ne_b40_en79 (ninS ne_b40_en80 (ninS ne_b40_xi nin0))))))
           have f82_6 := Arv.keep f80_6 K82 (ninS (Ne.symm ne_oj_arr) (ninS (Ne.symm ne_mj_arr) (ninS ne_arr_en78 (ninS ne_arr_en79 (ninS ne_arr_en80 (ninS nax nin0))))))
           have g_en82 : n0 ≤ en82 := Nat.le_trans f80_0 zn82
           refine pO X82 hx hby at_229 rfl ?_
           exact tail3 zz si og gp ot b39 b40 arr oj ka ((List.range zz.toNatClampNeg).map fun i => Value.ref (fo i)) (X82.more (by decide) (by decide)) rfl N82 f82_0 f82_2 f82_4 f82_6 hog hvoJ G82_1
 refine iA X0 hx hby at_30 rfl ?_
 refine iC X0 hx hby at_31 (v := 2) rfl ?_
 refine Go.by (fun _ => XS.ishr X0.here hx rfl (hb hby at_32) rfl) ?_
 show oG p e below P m s₁ 33 #[(vI p0), (vI p1), (vI p2), (vI p3), (vJ p4), .second, (vI p5), (vI zz), (vI si), (vI og), (vI kk), .unset, .unset, .unset, .unset, .unset, .unset, .unset, .unset, .unset] [(.int (p3 >>> ((2 : Int32) &&& 31)))]
 refine iC X0 hx hby at_33 (v := 1) rfl ?_
 refine w_iand X0 hx hby at_34 (v := ((p3 >>> ((2 : Int32) &&& 31)) &&& (1 : Int32))) rfl ?_
 by_cases hc35_83 : ((p3 >>> ((2 : Int32) &&& 31)) &&& (1 : Int32)) = (0 : Int32)
 · refine fY X0 hx hby at_35 (pc' := 42) (XT.i0_eq_t hc35_83) ?_
   refine iC X0 hx hby at_42 (v := 0) rfl ?_
   exact t43 (0 : Int32)
 · refine fN X0 hx hby at_35 (XT.i0_eq_f hc35_83) ?_
   refine iC X0 hx hby at_38 (v := 1) rfl ?_
   refine gO X0 hx hby at_39 (pc' := 43) ?_
   exact t43 (1 : Int32)
theorem comes_1 {Post : Tables → Env → Array Value → State → Outcome → State → Prop} (hpost : ∀ tb e args s v u, (limb_1_1.after args s (.returned v) u = true ∧ limb_1_2.after args s (.returned v) u = true ∧ True) → FrameEnd s (.returned v) u (Jvm.fieldLocs frame_1_writes args s ++ Jvm.arrayLocs frame_1_arrays args s ++ Jvm.staticLocs frame_1_statics s) 48 256 → Post tb e args s (.returned v) u) :
   ArmFor flags0 classFile x code maxLocals ret World_1 tables_1 room_1 Calls_1 rest_1 Pre_1 Post := by
 intro l hfl _ _ p e ha hc hk s m args below hf hA hF happ hP
 obtain ⟨hcalls, hrest, hpre⟩ := hP
 obtain ⟨-, -, -, hnamed, -, -, -, hat⟩ := (Spec.applies_iff hf).mp happ
 obtain ⟨hg, hn⟩ := and_e (Cond.before_iff.mp (show (Jvm.Cond.and given_1 narrow_1).before args s = true from hpre))
 obtain ⟨hg_0, hg_1⟩ := and_e hg
 obtain ⟨hg_2, hg_3⟩ := and_e hg_1
 obtain ⟨hg_4, hg_5⟩ := and_e hg_3
 obtain ⟨hg_6, hg_7⟩ := and_e hg_5
 obtain ⟨hg_8, hg_9⟩ := and_e hg_7
 obtain ⟨hg_10, hg_11⟩ := and_e hg_9
 obtain ⟨w0, w1, w2, w3, w4, w5, rfl⟩ : ∃ w0 w1 w2 w3 w4 w5 : Value, args = #[w0, w1, w2, w3, w4, w5] := by
   have hs : args.size = 6 := by simpa [Cond.value, given_1] using hg_0
   obtain ⟨L⟩ := args
   match L, hs with
   | [w0, w1, w2, w3, w4, w5], _ => exact ⟨w0, w1, w2, w3, w4, w5, rfl⟩
 have hw := fun d (hd : d ∈ tables_1) => atoms_spec (ws := Jvm.Cond.code x code maxLocals ret :: tables_1) hat d (List.mem_cons_of_mem _ hd)
 have hfit : Fit s := fun {y c} hc i hi => by
   obtain ⟨ha, rfl⟩ := Array.getElem?_eq_some_iff.mp hc
   have q := List.all_eq_true.mp ((Array.all_eq_true_iff_forall_mem.mp hF) _ (Array.getElem_mem ha)) i (List.mem_range.mpr hi)
   simpa [Array.getElem?_eq_getElem hi] using q
 obtain ⟨i0, ei0⟩ := is_v hg_2
 obtain rfl : w0 = (.int i0) := Option.some.inj ei0
 obtain ⟨i1, ei1⟩ := is_v hg_4
 obtain rfl : w1 = (.int i1) := Option.some.inj ei1
 obtain ⟨i2, ei2⟩ := is_v hg_6
 obtain rfl : w2 = (.int i2) := Option.some.inj ei2
 obtain ⟨i3, ei3⟩ := is_v hg_8
 obtain rfl : w3 = (.int i3) := Option.some.inj ei3
 obtain ⟨i4, ei4⟩ := isL_v hg_10
 obtain rfl : w4 = (.long i4) := Option.some.inj ei4
 obtain ⟨i5, ei5⟩ := is_v hg_11
 obtain rfl : w5 = (.int i5) := Option.some.inj ei5
 obtain ⟨hsets, hown0⟩ := atoms_of _ (rest_1_c_eq ▸ (show rest_1_c.before _ s = true from hrest))
 obtain ⟨ca, evc⟩ := exa_v (Cond.before_iff.mp (hsets _ (List.mem_of_getElem? (i := 3) rfl)))
 obtain ⟨cc, Ac⟩ := Arr.start evc (Cond.before_iff.mp (hsets _ (List.mem_of_getElem? (i := 2) rfl)))
 obtain ⟨lc1, lc2⟩ := own_lenE evc Ac (Cond.before_iff.mp (hsets _ (List.mem_of_getElem? (i := 4) rfl)))
 have BX : Bxs s ca cc q_17 "J" (256 : Int32) own_val := Bxs.start (fun _ => evc) Ac lc1 lc2 (by decide) (Cond.before_iff.mp (hsets _ (List.mem_of_getElem? (i := 5) rfl))) (fun X j nn h => eqv_l (own_cf nn) h)
 have Sca := Sta.start evc (Or.inl (hsets _ (List.mem_of_getElem? (i := 1) rfl)))
 obtain ⟨n, o, h1, h2, h3, _, L, rfl, ⟨rfl, N⟩, hq⟩ := rm_law l s _ hw tables_1 i0 i1 i2 i3 i4 i5 ca cc s.heap s.heap.size (Nat.le_refl _) (Old.start s) Sca BX p e ha hc hk s m _ below hf ((Spec.applies_iff_loose hf).mp happ).1 ⟨rfl, State.Warmed39.refl s, rfl⟩ trivial
 refine ⟨n, _, h1, h2, h3, hpost _ _ _ _ _ _ ⟨Cond.after_iff.mpr rfl, Cond.after_iff.mpr (eq_i res_at (Term.int_eval (1)) rfl), trivial⟩ ⟨hq.1, hq.2.1, (hq.2.2.sift fun y hy => Or.inr (N y hy)).mono (by decide) (by decide)⟩⟩
theorem main_1_1 : Claimed_1_1 := comes_1 fun _ _ _ _ _ _ h hF => ⟨h.1, ReturnedEndW.of_narrow hF.1 hF.2.1 hF.2.2⟩
theorem main_1_2 : Claimed_1_2 := comes_1 fun _ _ _ _ _ _ h hF => ⟨h.2.1, ReturnedEndW.of_narrow hF.1 hF.2.1 hF.2.2⟩
end Jvm.Pilot.@@N@@
namespace Jvm.Pilot.@@N@@
open Jvm Jvm.ClassFile Sem Op Lib Jvm.Free Jvm.Stand Jvm.Pilot.@@N@@.Jvm.D
/-! MADE BY PROGRAM (witnessworld.py; written shorter by wsq.py) out of the Statement's table words and the real class files: 31 classes; the members and pool entries that the words name. The judged class is class 1, her method 1. -/
namespace start1
open Jvm.ClassFile
def u (s : String) : CpInfo := .utf8 (stringToUtf16 s)
/-- a pool by its gaps: so many unusable entries, then the entry; so many at the end -/
def gap : Nat → List CpInfo → List CpInfo
  | 0, r => r
  | n + 1, r => .unusable :: gap n r
def poolList (es : List (Nat × List CpInfo)) (last : Nat) : List CpInfo := es.foldr (fun e r => gap e.1 (e.2 ++ r)) (gap last [])
def pool (es : List (Nat × List CpInfo)) (last : Nat) : Array CpInfo := ⟨poolList es last⟩
def fileOf (pool : Array CpInfo) (this : Nat) (attrs : Array Attribute := #[]) (ms : Array MethodInfo := #[]) (fl : Nat := 33) (sup : Nat := 0) (ifs : Array Nat := #[]) (fds : Array FieldInfo := #[]) : ClassFile where
  minorVersion := 0
  majorVersion := 65
  constantPool := pool
  accessFlags := fl
  thisClass := this
  superClass := sup
  interfaces := ifs
  fields := fds
  methods := ms
  attributes := attrs
def plain (name : String) (sup : Option ClassId) : Class where
  name := name
  kind := .ordinary
  loader := none
  accessFlags := 33
  super := sup
  interfaces := #[]
  cf := none
  fields := #[]
  methods := #[]
  instanceTypes := #[]
  staticTypes := #[]
  resolved := #[]
  callSites := []
  init := .initialized
  statics := none
  mirror := none
abbrev cl := CpInfo.class_
abbrev nt := CpInfo.nameAndType
abbrev mr := CpInfo.methodref
abbrev fr := CpInfo.fieldref
abbrev oj := FieldType.object
abbrev s0 : String := "<init>"
abbrev s1 : String := "()V"
abbrev s2 : String := "compareTo"
abbrev s3 : String := "$assertionsDisabled"
abbrev s4 : String := "(Ljava/lang/Object;)I"
abbrev s5 : String := "serialVersionUID"
abbrev s6 : String := "java/lang/Math"
abbrev s7 : String := "java/util/function/IntFunction"
abbrev s8 : String := "java/util/Objects"
abbrev s9 : String := "requireNonNull"
abbrev s10 : String := "(Ljava/lang/Object;)Ljava/lang/Object;"
abbrev s11 : String := "java/util/Map"
abbrev s12 : String := "java/util/NavigableMap"
abbrev s13 : String := "(Ljava/util/TreeMap$Entry;)Ljava/util/TreeMap$Entry;"
abbrev s14 : String := "(Ljava/util/TreeMap$Entry;)V"
abbrev s15 : String := "java/util/Arrays"
abbrev s16 : String := "([Ljava/lang/Object;Ljava/util/function/IntFunction;)V"
abbrev s17 : String := "(J)Ljava/lang/Long;"
abbrev s18 : String := "(Ljava/lang/Object;Ljava/lang/Object;)Ljava/lang/Object;"
abbrev s19 : String := "(Ljava/lang/Object;)Z"
abbrev s20 : String := "(I)Ljava/lang/Object;"
abbrev s21 : String := "java/util/Map$Entry"
abbrev s22 : String := "java/util/AbstractMap"
abbrev s23 : String := "java/io/Serializable"
abbrev s24 : String := "java/lang/Comparable"
abbrev s25 : String := "(Ljava/lang/Object;Ljava/lang/Object;Ljava/util/TreeMap$Entry;)V"
abbrev s26 : String := "(I)Lcom/example/chorale/chorale/core/ReliableMulticast$Origin;"
abbrev s27 : String := "java/util/Collection"
abbrev s28 : String := "java/util/SequencedMap"
abbrev s29 : String := "java/util/SortedMap"
abbrev s30 : String := "java/lang/Cloneable"
abbrev s31 : String := "(Ljava/lang/Object;)Ljava/util/TreeMap$Entry;"
abbrev s32 : String := "(Ljava/lang/Object;Ljava/lang/Object;)I"
abbrev s33 : String := "(Ljava/lang/Object;Ljava/lang/Object;Z)Ljava/lang/Object;"
abbrev s34 : String := "addEntryToEmptyMap"
abbrev s35 : String := "(Ljava/lang/Object;Ljava/lang/Object;)V"
abbrev s36 : String := "(Ljava/lang/Object;Ljava/lang/Object;Ljava/util/TreeMap$Entry;Z)V"
abbrev s37 : String := "java/util/TreeMap$KeySet"
abbrev s38 : String := "java/util/TreeMap$EntrySet"
abbrev s39 : String := "(Ljava/util/TreeMap$Entry;)Z"
abbrev s40 : String := "(Ljava/util/TreeMap$Entry;Z)V"
abbrev s41 : String := "java/lang/constant/Constable"
abbrev s42 : String := "java/lang/constant/ConstantDesc"
abbrev s43 : String := "(Ljava/lang/Long;)I"
abbrev s44 : String := "com/example/chorale/chorale/core/ReliableMulticastPlausible166PinLaw"
abbrev o0 : FieldType := oj q_16
abbrev o1 : FieldType := oj q_0
abbrev o2 : FieldType := oj q_17
abbrev o3 : FieldType := oj q_3
def pool0 : Array CpInfo := pool [(5, [u s0, u s1]), (1, [cl 10]), (1, [u q_16])] 113
def k0c0 : Code := ⟨0, 1, object_method_1_code, #[], #[]⟩
def k0m0 : Method := ⟨s0, s1, ⟨[], none⟩, 1, some k0c0⟩
def k0 : Class := { plain q_16 none with
  cf := some (fileOf pool0 8 #[] #[⟨1, 5, 6, #[]⟩] 33 0)
  methods := #[k0m0]
  resolved := Array.replicate 124 none }
def pool1 : Array CpInfo := pool [(2, [cl 4]), (1, [u q_16, u s0, u s1, .integer 2147483647, cl 9, u q_15, mr 8 11, nt 5 12, u "(II)V", mr 8 14, nt 15 16, u "send", u "([B)J", mr 8 18, nt 19 20, u "receive", u "(IJ[B)Z", .long 2]), (1, [.long 254]), (1, [.long 3]), (1, [.long 256]), (1, [mr 8 30, nt 31 32, u "plausible", u "(IJ)Z", cl 34, u s44]), (2, [u "law", u "(IIIIJI)Z"])] 5
def k1m0 : Method := ⟨s0, s1, ⟨[], none⟩, 1, none⟩
def k1c1 : Code := ⟨6, 20, code, #[], #[]⟩
def k1m1 : Method := ⟨"law", "(IIIIJI)Z", ⟨[.int, .int, .int, .int, .long, .int], some .boolean⟩, 9, some k1c1⟩
def k1 : Class := { plain s44 (some 0) with
  accessFlags := 49
  cf := some (fileOf pool1 33 #[] #[⟨1, 5, 6, #[]⟩, ⟨9, 37, 38, #[]⟩] 49 2)
  methods := #[k1m0, k1m1]
  resolved := Array.replicate 44 none }
def pool2 : Array CpInfo := pool [(1, [mr 2 3, cl 4, nt 5 6, u q_16, u s0, u s1, fr 8 9, cl 10, nt 11 12, u q_15, u "self", u "I", cl 14, u q_3, fr 8 16, nt 17 18, u "origins", u q_20, .invokeDynamic 0 20, nt 21 22, u "apply", u "()Ljava/util/function/IntFunction;", mr 24 25, cl 26, nt 27 28, u s15, u "setAll", u s16, cl 30, u "[[J", fr 8 32, nt 33 30, u "reported", fr 13 35, nt 36 37, u "held", u "J"]), (4, [.long 256]), (1, [fr 13 45, nt 46 47, u q_18, u q_19, mr 49 50, cl 51, nt 52 53, u q_17, u "valueOf", u s17, mr 55 56, cl 57, nt 58 59, u q_2, u "put", u s18, mr 55 61, nt 62 63, u "containsKey", u s19, mr 13 65, nt 66 67, u "know", u "(J)V"]), (48, [cl 118]), (1, [u "com/example/chorale/chorale/core/ReliableMulticast$Delivery"]), (159, [mr 13 3, u "WINDOW"]), (2, [u "MAX_REQUEST"]), (1, [u "REQUEST_INTERVAL", u "(II)V"]), (4, [u "send", u "([B)J", u "receive", u "(IJ[B)Z", u "plausible", u "(IJ)Z"]), (31, [u "lambda$new$0", u s26]), (4, [.methodType 334, u s20, .methodHandle 6 336, mr 8 337, nt 327 328, .methodType 328]), (28, [.methodHandle 6 368, mr 369 370, cl 371, nt 372 373, u "java/lang/invoke/LambdaMetafactory", u "metafactory", u "(Ljava/lang/invoke/MethodHandles$Lookup;Ljava/lang/String;Ljava/lang/invoke/MethodType;Ljava/lang/invoke/MethodType;Ljava/lang/invoke/MethodHandle;Ljava/lang/invoke/MethodType;)Ljava/lang/invoke/CallSite;"])] 17
def k2c0 : Code := ⟨3, 3, p68_1, #[], #[]⟩
def k2m0 : Method := ⟨s0, "(II)V", ⟨[.int, .int], none⟩, 0, some k2c0⟩
def k2c1 : Code := ⟨5, 5, p68_3, #[], #[]⟩
def k2m1 : Method := ⟨"send", "([B)J", ⟨[(.array .byte)], some .long⟩, 0, some k2c1⟩
def k2c2 : Code := ⟨5, 6, p68_4, #[], #[]⟩
def k2m2 : Method := ⟨"receive", "(IJ[B)Z", ⟨[.int, .long, (.array .byte)], some .boolean⟩, 0, some k2c2⟩
def k2c3 : Code := ⟨6, 4, p68_5, #[], #[]⟩
def k2m3 : Method := ⟨"plausible", "(IJ)Z", ⟨[.int, .long], some .boolean⟩, 0, some k2c3⟩
def k2c4 : Code := ⟨2, 1, p68_25, #[], #[]⟩
def k2m4 : Method := ⟨"lambda$new$0", s26, ⟨[.int], some o3⟩, 4106, some k2c4⟩
def k2 : Class := { plain q_15 (some 0) with
  accessFlags := 48
  cf := some (fileOf pool2 8 #[.nestMembers #[13, 116], .bootstrapMethods #[⟨367, #[333, 335, 338]⟩, ⟨0, #[]⟩, ⟨0, #[]⟩, ⟨0, #[]⟩, ⟨0, #[]⟩, ⟨0, #[]⟩, ⟨0, #[]⟩]] #[⟨0, 5, 285, #[]⟩, ⟨0, 290, 291, #[]⟩, ⟨0, 292, 293, #[]⟩, ⟨0, 294, 295, #[]⟩, ⟨4106, 327, 328, #[]⟩] 48 2 #[] #[⟨24, 279, 12, #[]⟩, ⟨24, 282, 12, #[]⟩, ⟨24, 284, 37, #[]⟩, ⟨18, 11, 12, #[]⟩, ⟨18, 17, 18, #[]⟩, ⟨18, 33, 30, #[]⟩])
  fields := #[⟨"WINDOW", .int, 24, 0, 0⟩, ⟨"MAX_REQUEST", .int, 24, 1, 0⟩, ⟨"REQUEST_INTERVAL", .long, 24, 2, 0⟩, ⟨"self", .int, 18, 0, 0⟩, ⟨"origins", (.array o3), 18, 1, 0⟩, ⟨"reported", (.array (.array .long)), 18, 2, 0⟩]
  methods := #[k2m0, k2m1, k2m2, k2m3, k2m4]
  instanceTypes := #[.int, (.array o3), (.array (.array .long))]
  staticTypes := #[.int, .int, .long]
  resolved := Array.replicate 13 none ++ #[some (.cls 3)] ++ Array.replicate 20 none ++ #[some (.field 3 0)] ++ Array.replicate 9 none ++ #[some (.field 3 3)] ++ Array.replicate 19 none ++ #[some (.method ⟨3, 1⟩)] ++ Array.replicate 213 none ++ #[some (.method ⟨3, 0⟩)] ++ Array.replicate 112 none
  callSites := [(0, 21, .constant 1)] }
def pool3 : Array CpInfo := pool [(1, [cl 2, u q_15, mr 4 5, cl 6, nt 7 8, u q_16, u s0, u s1]), (2, [.long 9223372036854775807]), (1, [fr 14 15, cl 16, nt 17 18, u q_3, u "limit", u "J", cl 20, u q_2, mr 19 5, fr 14 23, nt 24 25, u q_18, u q_19, .long 9223372036854775808]), (1, [fr 14 29, nt 30 18, u "requestAt", fr 14 32, nt 33 34, u "askedLast", u "I"]), (5, [u "held", fr 14 42, nt 43 18, u "known"]), (14, [mr 59 60, cl 61, nt 62 63, u s6, u "min", u "(JJ)J"]), (11, [mr 59 76, nt 77 63, u "max", u "delivered"]), (8, [u "know", u "(J)V"])] 8
def k3c0 : Code := ⟨3, 1, p70_1, #[], #[]⟩
def k3m0 : Method := ⟨s0, s1, ⟨[], none⟩, 2, some k3c0⟩
def k3c1 : Code := ⟨7, 3, p70_3, #[], #[]⟩
def k3m1 : Method := ⟨"know", "(J)V", ⟨[.long], none⟩, 2, some k3c1⟩
def k3 : Class := { plain q_3 (some 0) with
  accessFlags := 48
  cf := some (fileOf pool3 14 #[.nestHost 1] #[⟨2, 7, 8, #[]⟩, ⟨2, 87, 88, #[]⟩] 48 4 #[] #[⟨2, 40, 18, #[]⟩, ⟨2, 78, 18, #[]⟩, ⟨2, 17, 18, #[]⟩, ⟨18, 24, 25, #[]⟩, ⟨2, 43, 18, #[]⟩, ⟨2, 30, 18, #[]⟩, ⟨2, 33, 34, #[]⟩])
  fields := #[⟨"held", .long, 2, 0, 0⟩, ⟨"delivered", .long, 2, 1, 0⟩, ⟨"limit", .long, 2, 2, 0⟩, ⟨q_18, (oj q_2), 18, 3, 0⟩, ⟨"known", .long, 2, 4, 0⟩, ⟨"requestAt", .long, 2, 5, 0⟩, ⟨"askedLast", .int, 2, 6, 0⟩]
  methods := #[k3m0, k3m1]
  instanceTypes := #[.long, .long, .long, (oj q_2), .long, .long, .int]
  resolved := Array.replicate 97 none }
def pool4 : Array CpInfo := pool [(1, [cl 2, u s7, cl 4, u q_16, u "apply", u s20])] 7
def k4m0 : Method := ⟨"apply", s20, ⟨[.int], some o0⟩, 1025, none⟩
def k4 : Class := { plain s7 (some 0) with
  accessFlags := 1537
  cf := some (fileOf pool4 1 #[] #[⟨1025, 5, 6, #[]⟩] 1537 3)
  methods := #[k4m0]
  resolved := Array.replicate 14 none }
def pool5 : Array CpInfo := pool [(2, [cl 4]), (1, [u q_16, u s0, u s1]), (7, [cl 16]), (1, [u s15]), (57, [cl 76]), (1, [u "java/util/Arrays$NaturalOrder"]), (36, [cl 115]), (1, [u "java/util/Arrays$LegacyMergeSort"]), (1, [u "Z"]), (57, [mr 176 177, cl 178, nt 179 180, u s8, u s9, u s10]), (194, [cl 376, u "java/util/Arrays$ArrayList"]), (68, [u s3]), (112, [.interfaceMethodref 559 560, cl 561, nt 562 563, u s7, u "apply", u s20]), (151, [u "MIN_ARRAY_SORT_GRAN", u "I"]), (2, [u "INSERTIONSORT_THRESHOLD"]), (187, [u "setAll", u s16]), (66, [cl 976, u "java/util/Arrays$ArrayItr"])] 52
def k5m0 : Method := ⟨s0, s1, ⟨[], none⟩, 2, none⟩
def k5c1 : Code := ⟨4, 3, j65_173, #[], #[]⟩
def k5m1 : Method := ⟨"setAll", s16, ⟨[(.array o0), (oj s7)], none⟩, 9, some k5c1⟩
def k5 : Class := { plain s15 (some 0) with
  accessFlags := 49
  cf := some (fileOf pool5 14 #[.nestMembers #[975, 375, 113, 74]] #[⟨2, 5, 6, #[]⟩, ⟨9, 907, 908, #[]⟩] 49 2 #[] #[⟨26, 715, 716, #[]⟩, ⟨26, 719, 716, #[]⟩, ⟨4120, 445, 117, #[]⟩])
  fields := #[⟨"MIN_ARRAY_SORT_GRAN", .int, 26, 0, 0⟩, ⟨"INSERTIONSORT_THRESHOLD", .int, 26, 1, 0⟩, ⟨s3, .boolean, 4120, 2, 0⟩]
  methods := #[k5m0, k5m1]
  staticTypes := #[.int, .int, .boolean]
  resolved := Array.replicate 1029 none }
def pool6 : Array CpInfo := pool [(2, [cl 4]), (1, [u q_16, u s0, u s1]), (35, [cl 44]), (1, [u s8, u s9, u s10])] 137
def k6m0 : Method := ⟨s0, s1, ⟨[], none⟩, 2, none⟩
def k6c1 : Code := ⟨2, 1, j31_10, #[], #[]⟩
def k6m1 : Method := ⟨s9, s10, ⟨[o0], some o0⟩, 9, some k6c1⟩
def k6 : Class := { plain s8 (some 0) with
  accessFlags := 49
  cf := some (fileOf pool6 42 #[] #[⟨2, 5, 6, #[]⟩, ⟨9, 45, 46, #[]⟩] 49 2)
  methods := #[k6m0, k6m1]
  resolved := Array.replicate 184 none }
def pool7 : Array CpInfo := pool [(2, [cl 4]), (1, [u s11]), (31, [cl 37, u s21]), (55, [cl 94, u q_16])] 168
def k7 : Class := { plain s11 (some 0) with
  accessFlags := 1537
  cf := some (fileOf pool7 2 #[.nestMembers #[36]] #[] 1537 93)
  resolved := Array.replicate 263 none }
def pool8 : Array CpInfo := pool [(1, [mr 2 3, cl 4, nt 5 6, u q_16, u s0, u s1]), (1, [cl 10]), (1, [u s22]), (42, [cl 54, u s11]), (9, [u "keySet", u "Ljava/util/Set;", cl 67, u "java/util/AbstractMap$1"]), (5, [u "values", u "Ljava/util/Collection;", cl 76, u "java/util/AbstractMap$2"]), (104, [cl 182, u "java/util/AbstractMap$ViewCollection", cl 184, u "java/util/AbstractMap$SimpleImmutableEntry", cl 186, u "java/util/AbstractMap$SimpleEntry", cl 188, u "java/util/AbstractMap$2$1", cl 190, u "java/util/AbstractMap$1$1"])] 5
def k8c0 : Code := ⟨1, 1, jdk_71_method_1_code, #[], #[]⟩
def k8m0 : Method := ⟨s0, s1, ⟨[], none⟩, 4, some k8c0⟩
def k8 : Class := { plain s22 (some 0) with
  accessFlags := 1057
  interfaces := #[7]
  cf := some (fileOf pool8 8 #[.nestMembers #[181, 183, 185, 75, 187, 66, 189]] #[⟨4, 5, 6, #[]⟩] 1057 2 #[53] #[⟨128, 64, 65, #[]⟩, ⟨128, 73, 74, #[]⟩])
  fields := #[⟨"keySet", (oj "java/util/Set"), 128, 0, 0⟩, ⟨"values", (oj s27), 128, 1, 0⟩]
  methods := #[k8m0]
  instanceTypes := #[(oj "java/util/Set"), (oj s27)]
  resolved := Array.replicate 196 none }
def pool9 : Array CpInfo := pool [(2, [cl 4]), (1, [u s28]), (38, [cl 44, u "java/util/SequencedMap$1SeqKeySet"]), (3, [cl 49, u "java/util/SequencedMap$1SeqValues"]), (1, [cl 52, u "java/util/SequencedMap$1SeqEntrySet"]), (1, [cl 55, u q_16, cl 57, u s11])] 48
def k9 : Class := { plain s28 (some 0) with
  accessFlags := 1537
  interfaces := #[7]
  cf := some (fileOf pool9 2 #[.nestMembers #[51, 48, 43]] #[] 1537 54 #[56])
  resolved := Array.replicate 106 none }
def pool10 : Array CpInfo := pool [(14, [cl 16]), (1, [u s29]), (2, [cl 20, u q_16, cl 22, u s28])] 50
def k10 : Class := { plain s29 (some 0) with
  accessFlags := 1537
  interfaces := #[9]
  cf := some (fileOf pool10 14 #[] #[] 1537 19 #[21])
  resolved := Array.replicate 73 none }
def pool11 : Array CpInfo := pool [(2, [cl 4]), (1, [u s12]), (5, [cl 11, u q_16, cl 13, u s29])] 53
def k11 : Class := { plain s12 (some 0) with
  accessFlags := 1537
  interfaces := #[10]
  cf := some (fileOf pool11 2 #[] #[] 1537 10 #[12])
  resolved := Array.replicate 67 none }
def pool12 : Array CpInfo := pool [(1, [cl 2, u s30, cl 4, u q_16])] 2
def k12 : Class := { plain s30 (some 0) with
  accessFlags := 1537
  cf := some (fileOf pool12 1 #[] #[] 1537 3)
  resolved := Array.replicate 7 none }
def pool13 : Array CpInfo := pool [(1, [cl 2, u s23, cl 4, u q_16])] 2
def k13 : Class := { plain s23 (some 0) with
  accessFlags := 1537
  cf := some (fileOf pool13 1 #[] #[] 1537 3)
  resolved := Array.replicate 7 none }
def pool14 : Array CpInfo := pool [(1, [mr 2 3, cl 4, nt 5 6, u s22, u s0, u s1, fr 8 9, cl 10, nt 11 12, u q_2, u q_13, u "I", fr 8 14, nt 15 12, u q_14, fr 8 17, nt 18 19, u q_10, u q_11]), (14, [u "entrySet"]), (15, [mr 8 51, nt 52 53, u "getEntry", u s31]), (5, [cl 61]), (1, [u q_0]), (1, [u q_4]), (7, [u s13]), (2, [u q_8]), (11, [cl 88]), (1, [u s8]), (6, [mr 86 96, nt 97 98, u s9, u s10, cl 100, u s24, fr 8 102, nt 103 104, u q_12, u q_1, fr 59 106, nt 74 63, .interfaceMethodref 99 108, nt 109 110, u s2, u s4, fr 59 112, nt 113 104, u q_6, fr 59 115, nt 116 104, u q_9]), (2, [nt 121 122]), (1, [u "compare", u s32, mr 8 119, fr 59 125, nt 126 104, u q_5, mr 8 128, nt 129 130, u "put", u s33]), (4, [mr 8 136, nt 137 138, u s34, u s35, mr 8 140, nt 141 142, u "addEntry", u s36]), (23, [u s18, mr 59 168, nt 5 169, u s25, mr 8 171, nt 172 173, u "fixAfterInsertion", u s14]), (16, [u "Ljava/util/TreeMap$EntrySet;"]), (2, [u "navigableKeySet", u "Ljava/util/TreeMap$KeySet;"]), (2, [u "descendingMap", u "Ljava/util/NavigableMap;"]), (23, [cl 223, u s37]), (7, [cl 232, u s12]), (4, [cl 238, u "java/util/TreeMap$Values"]), (3, [cl 243, u s38]), (1, [cl 246, u "java/util/TreeMap$DescendingSubMap"]), (3, [cl 251, u "java/util/TreeMap$AscendingSubMap"]), (17, [cl 270, u "java/util/TreeMap$KeyIterator"]), (3, [cl 275, u "java/util/TreeMap$DescendingKeyIterator"]), (5, [u s19]), (8, [fr 59 291, nt 292 293, u q_7, u "Z", mr 8 295, nt 296 71, u "parentOf", mr 8 298, nt 299 71, u "leftOf"]), (3, [mr 8 304, nt 305 306, u "colorOf", u s39, mr 8 308, nt 309 310, u "setColor", u s40, mr 8 312, nt 313 173, u "rotateLeft"]), (74, [cl 389, u "java/util/TreeMap$NavigableSubMap"]), (1, [cl 392, u "java/util/TreeMap$KeySpliterator"]), (3, [cl 397, u "java/util/TreeMap$DescendingKeySpliterator"]), (4, [u "UNBOUNDED", cl 404, u s30, cl 406, u s23]), (6, [u "RED"]), (2, [u "BLACK"]), (1, [u s5, u "J"]), (20, [u "containsKey"]), (193, [cl 635, u "java/util/TreeMap$EntrySpliterator", cl 637, u "java/util/TreeMap$ValueSpliterator", cl 639, u "java/util/TreeMap$TreeMapSpliterator", cl 641, u "java/util/TreeMap$SubMap", cl 643, u "java/util/TreeMap$DescendingSubMap$DescendingEntrySetView", cl 645, u "java/util/TreeMap$AscendingSubMap$AscendingEntrySetView", cl 647, u "java/util/TreeMap$NavigableSubMap$DescendingSubMapKeyIterator", cl 649, u "java/util/TreeMap$NavigableSubMap$SubMapKeyIterator", cl 651, u "java/util/TreeMap$NavigableSubMap$DescendingSubMapEntryIterator", cl 653, u "java/util/TreeMap$NavigableSubMap$SubMapEntryIterator", cl 655, u "java/util/TreeMap$NavigableSubMap$SubMapIterator", cl 657, u "java/util/TreeMap$NavigableSubMap$EntrySetView", cl 659, u "java/util/TreeMap$ValueIterator", cl 661, u "java/util/TreeMap$EntryIterator", cl 663, u "java/util/TreeMap$PrivateEntryIterator"])] 28
def k14c0 : Code := ⟨2, 1, j2729_1, #[], #[]⟩
def k14m0 : Method := ⟨s0, s1, ⟨[], none⟩, 1, some k14c0⟩
def k14c1 : Code := ⟨2, 2, j2729_6, #[], #[]⟩
def k14m1 : Method := ⟨"containsKey", s19, ⟨[o0], some .boolean⟩, 1, some k14c1⟩
def k14c2 : Code := ⟨2, 5, j2729_15, #[], #[]⟩
def k14m2 : Method := ⟨"getEntry", s31, ⟨[o0], some o1⟩, 16, some k14c2⟩
def k14c3 : Code := ⟨4, 3, j2729_21, #[], #[]⟩
def k14m3 : Method := ⟨"put", s18, ⟨[o0, o0], some o0⟩, 1, some k14c3⟩
def k14c4 : Code := ⟨5, 6, j2729_29, #[], #[]⟩
def k14m4 : Method := ⟨"addEntry", s36, ⟨[o0, o0, o1, .boolean], none⟩, 2, some k14c4⟩
def k14c5 : Code := ⟨6, 3, j2729_30, #[], #[]⟩
def k14m5 : Method := ⟨s34, s35, ⟨[o0, o0], none⟩, 2, some k14c5⟩
def k14c6 : Code := ⟨5, 10, j2729_31, #[], #[]⟩
def k14m6 : Method := ⟨"put", s33, ⟨[o0, o0, .boolean], some o0⟩, 2, some k14c6⟩
def k14c7 : Code := ⟨3, 3, j2729_67, #[], #[]⟩
def k14m7 : Method := ⟨"compare", s32, ⟨[o0, o0], some .int⟩, 16, some k14c7⟩
def k14c8 : Code := ⟨1, 1, j2729_76, #[], #[]⟩
def k14m8 : Method := ⟨"colorOf", s39, ⟨[o1], some .boolean⟩, 10, some k14c8⟩
def k14c9 : Code := ⟨1, 1, j2729_77, #[], #[]⟩
def k14m9 : Method := ⟨"parentOf", s13, ⟨[o1], some o1⟩, 10, some k14c9⟩
def k14c10 : Code := ⟨2, 2, j2729_78, #[], #[]⟩
def k14m10 : Method := ⟨"setColor", s40, ⟨[o1, .boolean], none⟩, 10, some k14c10⟩
def k14c11 : Code := ⟨1, 1, j2729_79, #[], #[]⟩
def k14m11 : Method := ⟨"leftOf", s13, ⟨[o1], some o1⟩, 10, some k14c11⟩
def k14c12 : Code := ⟨2, 3, j2729_81, #[], #[]⟩
def k14m12 : Method := ⟨"rotateLeft", s14, ⟨[o1], none⟩, 2, some k14c12⟩
def k14c13 : Code := ⟨2, 3, j2729_83, #[], #[]⟩
def k14m13 : Method := ⟨"fixAfterInsertion", s14, ⟨[o1], none⟩, 2, some k14c13⟩
def k14 : Class := { plain q_2 (some 8) with
  interfaces := #[11, 12, 13]
  cf := some (fileOf pool14 8 #[.nestMembers #[634, 636, 396, 391, 638, 59, 640, 245, 642, 250, 644, 388, 646, 648, 650, 652, 654, 656, 274, 269, 658, 660, 662, 222, 242, 237]] #[⟨1, 5, 6, #[]⟩, ⟨1, 440, 281, #[]⟩, ⟨16, 52, 53, #[]⟩, ⟨1, 129, 166, #[]⟩, ⟨2, 141, 142, #[]⟩, ⟨2, 137, 138, #[]⟩, ⟨2, 129, 130, #[]⟩, ⟨16, 121, 122, #[]⟩, ⟨10, 305, 306, #[]⟩, ⟨10, 296, 71, #[]⟩, ⟨10, 309, 310, #[]⟩, ⟨10, 299, 71, #[]⟩, ⟨2, 313, 173, #[]⟩, ⟨2, 172, 173, #[]⟩] 33 2 #[231, 403, 405] #[⟨18, 18, 19, #[]⟩, ⟨130, 103, 104, #[]⟩, ⟨130, 11, 12, #[]⟩, ⟨130, 15, 12, #[]⟩, ⟨130, 34, 190, #[]⟩, ⟨130, 193, 194, #[]⟩, ⟨130, 197, 198, #[]⟩, ⟨26, 402, 63, #[]⟩, ⟨26, 413, 293, #[]⟩, ⟨26, 416, 293, #[]⟩, ⟨26, 418, 419, #[]⟩])
  fields := #[⟨q_10, (oj q_21), 18, 2, 0⟩, ⟨q_12, o1, 130, 3, 0⟩, ⟨q_13, .int, 130, 4, 0⟩, ⟨q_14, .int, 130, 5, 0⟩, ⟨"entrySet", (oj s38), 130, 6, 0⟩, ⟨"navigableKeySet", (oj s37), 130, 7, 0⟩, ⟨"descendingMap", (oj s12), 130, 8, 0⟩, ⟨"UNBOUNDED", o0, 26, 0, 0⟩, ⟨"RED", .boolean, 26, 1, 0⟩, ⟨"BLACK", .boolean, 26, 2, 0⟩, ⟨s5, .long, 26, 3, 0⟩]
  methods := #[k14m0, k14m1, k14m2, k14m3, k14m4, k14m5, k14m6, k14m7, k14m8, k14m9, k14m10, k14m11, k14m12, k14m13]
  instanceTypes := #[(oj "java/util/Set"), (oj s27), (oj q_21), o1, .int, .int, (oj s38), (oj s37), (oj s12)]
  staticTypes := #[o0, .boolean, .boolean, .long]
  resolved := Array.replicate 692 none }
def pool15 : Array CpInfo := pool [(2, [cl 4]), (1, [u q_16, u s0, u s1]), (1, [cl 10]), (1, [u "java/lang/Number"]), (2, [cl 14, u s23, u s5, u "J"])] 20
def k15m0 : Method := ⟨s0, s1, ⟨[], none⟩, 1, none⟩
def k15 : Class := { plain "java/lang/Number" (some 0) with
  accessFlags := 1057
  interfaces := #[13]
  cf := some (fileOf pool15 8 #[] #[⟨1, 5, 6, #[]⟩] 1057 2 #[13] #[⟨26, 15, 16, #[]⟩])
  fields := #[⟨s5, .long, 26, 0, 0⟩]
  methods := #[k15m0]
  staticTypes := #[.long]
  resolved := Array.replicate 37 none }
def pool16 : Array CpInfo := pool [(1, [cl 2, u s24, cl 4, u q_16, u s2, u s4])] 5
def k16m0 : Method := ⟨s2, s4, ⟨[o0], some .int⟩, 1025, none⟩
def k16 : Class := { plain s24 (some 0) with
  accessFlags := 1537
  cf := some (fileOf pool16 1 #[] #[⟨1025, 5, 6, #[]⟩] 1537 3)
  methods := #[k16m0]
  resolved := Array.replicate 12 none }
def pool17 : Array CpInfo := pool [(1, [cl 2, u s41, cl 4, u q_16])] 6
def k17 : Class := { plain s41 (some 0) with
  accessFlags := 1537
  cf := some (fileOf pool17 1 #[] #[] 1537 3)
  resolved := Array.replicate 11 none }
def pool18 : Array CpInfo := pool [(1, [cl 2, u s42, cl 4, u q_16])] 32
def k18 : Class := { plain s42 (some 0) with
  accessFlags := 1537
  cf := some (fileOf pool18 1 #[] #[] 1537 3)
  resolved := Array.replicate 37 none }
def pool19 : Array CpInfo := pool [(1, [cl 2, u q_17]), (82, [u "valueOf"]), (143, [u s17, .long 18446744073709551488]), (1, [.long 127]), (1, [fr 235 236, cl 237, nt 238 239, u q_22, u "cache", u q_23]), (31, [cl 272, u "java/lang/Number", fr 1 274, nt 275 276, u "value", u "J"]), (25, [mr 1 303, nt 304 305, u "compare", u "(JJ)I"]), (37, [mr 1 344, nt 345 346, u s2, u s43]), (14, [u "TYPE", u "Ljava/lang/Class;", cl 364, u s24, cl 366, u s41, cl 368, u s42, u "MIN_VALUE"]), (1, [u "MAX_VALUE"]), (4, [u "SIZE", u "I"]), (1, [u "BYTES"]), (1, [u s5]), (124, [u s4])] 17
def k19c0 : Code := ⟨4, 3, j35_24, #[], #[]⟩
def k19m0 : Method := ⟨"valueOf", s17, ⟨[.long], some o2⟩, 9, some k19c0⟩
def k19c1 : Code := ⟨4, 2, j35_41, #[], #[]⟩
def k19m1 : Method := ⟨s2, s43, ⟨[o2], some .int⟩, 1, some k19c1⟩
def k19c2 : Code := ⟨4, 4, j35_42, #[], #[]⟩
def k19m2 : Method := ⟨"compare", "(JJ)I", ⟨[.long, .long], some .int⟩, 9, some k19c2⟩
def k19c3 : Code := ⟨2, 2, j35_64, #[], #[]⟩
def k19m3 : Method := ⟨s2, s4, ⟨[o0], some .int⟩, 4161, some k19c3⟩
def k19 : Class := { plain q_17 (some 15) with
  accessFlags := 49
  interfaces := #[16, 17, 18]
  cf := some (fileOf pool19 1 #[.nestMembers #[235]] #[⟨9, 85, 229, #[]⟩, ⟨1, 345, 346, #[]⟩, ⟨9, 304, 305, #[]⟩, ⟨4161, 345, 506, #[]⟩] 49 271 #[363, 365, 367] #[⟨25, 369, 276, #[]⟩, ⟨25, 371, 276, #[]⟩, ⟨25, 361, 362, #[]⟩, ⟨18, 275, 276, #[]⟩, ⟨25, 376, 377, #[]⟩, ⟨25, 379, 377, #[]⟩, ⟨26, 381, 276, #[]⟩])
  fields := #[⟨"MIN_VALUE", .long, 25, 0, 0⟩, ⟨"MAX_VALUE", .long, 25, 1, 0⟩, ⟨"TYPE", (oj "java/lang/Class"), 25, 2, 0⟩, ⟨"value", .long, 18, 0, 0⟩, ⟨"SIZE", .int, 25, 3, 0⟩, ⟨"BYTES", .int, 25, 4, 0⟩, ⟨s5, .long, 26, 5, 0⟩]
  methods := #[k19m0, k19m1, k19m2, k19m3]
  instanceTypes := #[.long]
  staticTypes := #[.long, .long, (oj "java/lang/Class"), .int, .int, .long]
  resolved := Array.replicate 524 none }
def pool20 : Array CpInfo := pool [(2, [cl 4]), (1, [u q_16, u s0, u s1, cl 8, u q_17]), (7, [cl 18]), (1, [u q_22, u s3, u "Z"]), (8, [u "archivedCache", u q_23]), (7, [u "cache"])] 24
def k20m0 : Method := ⟨s0, s1, ⟨[], none⟩, 2, none⟩
def k20 : Class := { plain q_22 (some 0) with
  accessFlags := 48
  cf := some (fileOf pool20 16 #[.nestHost 7] #[⟨2, 5, 6, #[]⟩] 48 2 #[] #[⟨24, 38, 30, #[]⟩, ⟨8, 29, 30, #[]⟩, ⟨4120, 19, 20, #[]⟩])
  fields := #[⟨"cache", (.array o2), 24, 0, 0⟩, ⟨"archivedCache", (.array o2), 8, 1, 0⟩, ⟨s3, .boolean, 4120, 2, 0⟩]
  methods := #[k20m0]
  staticTypes := #[(.array o2), (.array o2), .boolean]
  resolved := Array.replicate 63 none
  statics := some 0 }
def pool21 : Array CpInfo := pool [(23, [cl 25]), (1, [u s21]), (6, [cl 34]), (1, [u s11]), (34, [cl 70, u q_16])] 107
def k21 : Class := { plain s21 (some 0) with
  accessFlags := 1537
  cf := some (fileOf pool21 23 #[.nestHost 32] #[] 1537 69)
  resolved := Array.replicate 178 none }
def pool22 : Array CpInfo := pool [(1, [cl 2, u q_2, mr 4 5, cl 6, nt 7 8, u q_16, u s0, u s1, fr 10 11, cl 12, nt 13 14, u q_0, u q_7, u "Z", fr 10 16, nt 17 18, u q_8, u q_4, fr 10 20, nt 21 18, u "value", fr 10 23, nt 24 25, u q_5, u q_1, cl 27, u s21]), (34, [u q_6]), (1, [u q_9, u s25])] 30
def k22c0 : Code := ⟨2, 4, j2736_1, #[], #[]⟩
def k22m0 : Method := ⟨s0, s25, ⟨[o0, o0, o1], none⟩, 0, some k22c0⟩
def k22 : Class := { plain q_0 (some 0) with
  accessFlags := 48
  interfaces := #[21]
  cf := some (fileOf pool22 10 #[.nestHost 1] #[⟨0, 7, 65, #[]⟩] 48 4 #[26] #[⟨0, 17, 18, #[]⟩, ⟨0, 21, 18, #[]⟩, ⟨0, 62, 25, #[]⟩, ⟨0, 64, 25, #[]⟩, ⟨0, 24, 25, #[]⟩, ⟨0, 13, 14, #[]⟩])
  fields := #[⟨q_8, o0, 0, 0, 0⟩, ⟨"value", o0, 0, 1, 0⟩, ⟨q_6, o1, 0, 2, 0⟩, ⟨q_9, o1, 0, 3, 0⟩, ⟨q_5, o1, 0, 4, 0⟩, ⟨q_7, .boolean, 0, 5, 0⟩]
  methods := #[k22m0]
  instanceTypes := #[o0, o0, o1, o1, o1, .boolean]
  resolved := Array.replicate 96 none }
def pool23 : Array CpInfo := pool [(1, [cl 2, u s6]), (1, [cl 6]), (1, [u q_16, u s0, u s1]), (89, [cl 100]), (1, [u "java/lang/Math$RandomNumberGeneratorHolder"]), (20, [u "(JJ)J"]), (50, [u "negativeZeroFloatBits", u "J"]), (2, [u "negativeZeroDoubleBits"]), (21, [u "max"]), (2, [u "min"]), (43, [u s3, u "Z"]), (91, [u "twoToTheDoubleScaleDown", u "D"]), (4, [u "twoToTheDoubleScaleUp"]), (9, [u "E"]), (3, [u "PI"]), (2, [u "TAU"]), (2, [u "DEGREES_TO_RADIANS", u "RADIANS_TO_DEGREES"])] 94
def k23m0 : Method := ⟨s0, s1, ⟨[], none⟩, 2, none⟩
def k23c1 : Code := ⟨4, 4, j29_66, #[], #[]⟩
def k23m1 : Method := ⟨"max", "(JJ)J", ⟨[.long, .long], some .long⟩, 9, some k23c1⟩
def k23c2 : Code := ⟨4, 4, j29_70, #[], #[]⟩
def k23m2 : Method := ⟨"min", "(JJ)J", ⟨[.long, .long], some .long⟩, 9, some k23c2⟩
def k23 : Class := { plain s6 (some 0) with
  accessFlags := 49
  cf := some (fileOf pool23 1 #[.nestMembers #[98]] #[⟨2, 7, 8, #[]⟩, ⟨9, 198, 121, #[]⟩, ⟨9, 201, 121, #[]⟩] 49 4 #[] #[⟨25, 354, 339, #[]⟩, ⟨25, 358, 339, #[]⟩, ⟨25, 361, 339, #[]⟩, ⟨26, 364, 339, #[]⟩, ⟨26, 365, 339, #[]⟩, ⟨26, 172, 173, #[]⟩, ⟨26, 176, 173, #[]⟩, ⟨8, 344, 339, #[]⟩, ⟨8, 338, 339, #[]⟩, ⟨4120, 245, 246, #[]⟩])
  fields := #[⟨"E", .double, 25, 0, 0⟩, ⟨"PI", .double, 25, 1, 0⟩, ⟨"TAU", .double, 25, 2, 0⟩, ⟨"DEGREES_TO_RADIANS", .double, 26, 3, 0⟩, ⟨"RADIANS_TO_DEGREES", .double, 26, 4, 0⟩, ⟨"negativeZeroFloatBits", .long, 26, 5, 0⟩, ⟨"negativeZeroDoubleBits", .long, 26, 6, 0⟩, ⟨"twoToTheDoubleScaleUp", .double, 8, 7, 0⟩, ⟨"twoToTheDoubleScaleDown", .double, 8, 8, 0⟩, ⟨s3, .boolean, 4120, 9, 0⟩]
  methods := #[k23m0, k23m1, k23m2]
  staticTypes := #[.double, .double, .double, .double, .double, .long, .long, .double, .double, .boolean]
  resolved := Array.replicate 460 none }
def k24 : Class := { plain "byte" none with kind := .primitive 'B', accessFlags := 0x411 }
def k25 : Class := { plain "[B" (some 0) with kind := .array 24 .byte, interfaces := #[12, 13], accessFlags := 1041 }
def k26 : Class := { plain "long" none with kind := .primitive 'J', accessFlags := 0x411 }
def k27 : Class := { plain "[J" (some 0) with kind := .array 26 .long, interfaces := #[12, 13], accessFlags := 1041 }
def k28 : Class := { plain q_20 (some 0) with kind := .array 3 o3, interfaces := #[12, 13], accessFlags := 1041 }
def k29 : Class := { plain q_23 (some 0) with kind := .array 19 o2, interfaces := #[12, 13], accessFlags := 1041 }
def classes0 : Array Class := #[k0, k1, k2, k3, k4, k5, k6, k7, k8, k9, k10, k11, k12, k13, k14, k15, k16, k17, k18, k19, k20, k21, k22, k23, k24, k25, k26, k27, k28, k29]
def k30 : Class := Jvm.LamKit.madeRec { classes := classes0 } q_15 (Jvm.Lambda.Shape.mk s7 "apply" (.mk [.int] (some o0)) [] 6 q_15 "lambda$new$0" (.mk [.int] (some o3)) false (.mk [.int] (some o3))) 30
def heap : Heap := ⟨{ cls := 20, slots := #[.ref 2, .null, .int 0], vm := .statics 20 } :: { cls := 30, slots := #[], vm := .none } :: { cls := 29, slots := ⟨List.map Value.ref [3, 4, 5, 6, 7, 8, 9, 10, 11, 12, 13, 14, 15, 16, 17, 18, 19, 20, 21, 22, 23, 24, 25, 26, 27, 28, 29, 30, 31, 32, 33, 34, 35, 36, 37, 38, 39, 40, 41, 42, 43, 44, 45, 46, 47, 48, 49, 50, 51, 52, 53, 54, 55, 56, 57, 58, 59, 60, 61, 62, 63, 64, 65, 66, 67, 68, 69, 70, 71, 72, 73, 74, 75, 76, 77, 78, 79, 80, 81, 82, 83, 84, 85, 86, 87, 88, 89, 90, 91, 92, 93, 94, 95, 96, 97, 98, 99, 100, 101, 102, 103, 104, 105, 106, 107, 108, 109, 110, 111, 112, 113, 114, 115, 116, 117, 118, 119, 120, 121, 122, 123, 124, 125, 126, 127, 128, 129, 130, 131, 132, 133, 134, 135, 136, 137, 138, 139, 140, 141, 142, 143, 144, 145, 146, 147, 148, 149, 150, 151, 152, 153, 154, 155, 156, 157, 158, 159, 160, 161, 162, 163, 164, 165, 166, 167, 168, 169, 170, 171, 172, 173, 174, 175, 176, 177, 178, 179, 180, 181, 182, 183, 184, 185, 186, 187, 188, 189, 190, 191, 192, 193, 194, 195, 196, 197, 198, 199, 200, 201, 202, 203, 204, 205, 206, 207, 208, 209, 210, 211, 212, 213, 214, 215, 216, 217, 218, 219, 220, 221, 222, 223, 224, 225, 226, 227, 228, 229, 230, 231, 232, 233, 234, 235, 236, 237, 238, 239, 240, 241, 242, 243, 244, 245, 246, 247, 248, 249, 250, 251, 252, 253, 254, 255, 256, 257, 258]⟩, vm := .none } :: List.map (fun i => ({ cls := 19, slots := #[.long i], vm := .none } : Cell)) ([-128, -127, -126, -125, -124, -123, -122, -121, -120, -119, -118, -117, -116, -115, -114, -113, -112, -111, -110, -109, -108, -107, -106, -105, -104, -103, -102, -101, -100, -99, -98, -97, -96, -95, -94, -93, -92, -91, -90, -89, -88, -87, -86, -85, -84, -83, -82, -81, -80, -79, -78, -77, -76, -75, -74, -73, -72, -71, -70, -69, -68, -67, -66, -65, -64, -63, -62, -61, -60, -59, -58, -57, -56, -55, -54, -53, -52, -51, -50, -49, -48, -47, -46, -45, -44, -43, -42, -41, -40, -39, -38, -37, -36, -35, -34, -33, -32, -31, -30, -29, -28, -27, -26, -25, -24, -23, -22, -21, -20, -19, -18, -17, -16, -15, -14, -13, -12, -11, -10, -9, -8, -7, -6, -5, -4, -3, -2, -1, 0, 1, 2, 3, 4, 5, 6, 7, 8, 9, 10, 11, 12, 13, 14, 15, 16, 17, 18, 19, 20, 21, 22, 23, 24, 25, 26, 27, 28, 29, 30, 31, 32, 33, 34, 35, 36, 37, 38, 39, 40, 41, 42, 43, 44, 45, 46, 47, 48, 49, 50, 51, 52, 53, 54, 55, 56, 57, 58, 59, 60, 61, 62, 63, 64, 65, 66, 67, 68, 69, 70, 71, 72, 73, 74, 75, 76, 77, 78, 79, 80, 81, 82, 83, 84, 85, 86, 87, 88, 89, 90, 91, 92, 93, 94, 95, 96, 97, 98, 99, 100, 101, 102, 103, 104, 105, 106, 107, 108, 109, 110, 111, 112, 113, 114, 115, 116, 117, 118, 119, 120, 121, 122, 123, 124, 125, 126, 127] : List Int64)⟩
def k31 : Class := { plain "[[J" (some 0) with kind := .array 27 (.array .long), interfaces := #[12, 13], accessFlags := 1041 }
def classes : Array Class := #[k0, k1, k2, k3, k4, k5, k6, k7, k8, k9, k10, k11, k12, k13, k14, k15, k16, k17, k18, k19, k20, k21, k22, k23, k24, k25, k26, k27, k28, k29, k30, k31]
def interned : List (Array UInt16 × Addr) := []
def slotsUsed : Nat := 515
def theMethod : MethodId := ⟨1, 1⟩
def args0 : Array Value := #[.int 1, .int 0, .int 1, .int 6, .long 5, .int 1]
def aboutOver (below : List Frame) : State where
  vm := { classes := classes, interned := interned.toArray }
  heap := heap
  slotsUsed := slotsUsed
  threads := #[{ frames := .invoking theMethod args0 :: below }]
def below0 : List Frame := [.native { method := ⟨0, 0⟩, args := #[] }]
def about1 : State := aboutOver below0
def p0 : Program := .bare "" "" ""
def e0 : Env := launch0.env 0 0 0
theorem w_frames : about1.frames = Frame.invoking theMethod args0 :: below0 := rfl
theorem w_args : argsFit about1.vm theMethod args0 = true := by decide +kernel
theorem w_heap : heapFits about1 = true := by decide +kernel
theorem w_runnable : about1.curStatus? = some .runnable := by decide +kernel
theorem w_alone : about1.alone = true := by decide +kernel
theorem w_named : about1.methodNamed? x = some theMethod := by decide +kernel
theorem w_hears : about1.hears theMethod below0 = true := by decide +kernel
theorem w_ripe : about1.ripe theMethod args0 below0 = true := by decide +kernel
theorem w_running : about1.status = .running := rfl
theorem w_room : about1.hasRoom e0.platform room_1 = true :=
  launch0.hasRoom_least _ room_1 (by decide +kernel) (by decide +kernel) (by decide +kernel) (by decide +kernel) (by decide +kernel) (by decide +kernel)
theorem allAtoms_all (ts : List Jvm.Cond) (a : Array Jvm.Value) (st : Jvm.State) : (allAtoms ts).before a st = ts.all (fun c => c.before a st) := by
  induction ts with
  | nil => rfl
  | cons c t ih =>
    show (Jvm.Cond.and c (allAtoms t)).before a st = _
    rw [Jvm.Cond.before_and, ih, List.all_cons]
def words1 : List Jvm.Cond := Jvm.Cond.code x code maxLocals ret :: tables_1
/-- a 'code' word, met by the world's own term for the bytes: nothing is compared byte by byte -/
theorem code_word {y : MethodName} {bytes : ByteArray} {mx : Nat} {rt : Option FieldType} {a : Array Value} {s : State} (m : MethodId) (meth : Method) (c : Code) (h1 : s.methodNamed? y = some m := by decide +kernel) (h2 : s.vm.method? m = some meth := by rfl) (h3 : meth.code = some c := by rfl) (h4 : c.code = bytes := by rfl) (h5 : (c.maxLocals == mx && c.exceptionTable.isEmpty && decide (c.maxStack ≤ mostOperands) && decide (meth.sig.returnType = rt) && !meth.locks && decide (parseMethodDescriptor y.desc = some meth.sig)) = true := by decide +kernel) : (Jvm.Cond.code y bytes mx rt).before a s = true := by
  simp only [Bool.and_eq_true, beq_iff_eq, Bool.not_eq_true', decide_eq_true_eq] at h5
  obtain ⟨⟨⟨⟨⟨g1, g2⟩, g3⟩, g4⟩, g5⟩, g6⟩ := h5
  simp [Cond.before, Cond.holds, Cond.value, h1, h2, h3, h4, g1, g2, g3, g4, g5, g6]
def isCode : Jvm.Cond → Bool
  | .code _ _ _ _ => true
  | _ => false
theorem all_split {L : List Jvm.Cond} {P : Jvm.Cond → Bool} (h1 : L.all (fun c => isCode c || P c) = true) (h2 : ∀ c ∈ L.filter isCode, P c = true) : L.all P = true := by
  refine List.all_eq_true.mpr fun c hc => ?_
  have h := List.all_eq_true.mp h1 c hc
  rcases Bool.eq_false_or_eq_true (isCode c) with hi | hi
  · exact h2 c (List.mem_filter.mpr ⟨hc, hi⟩)
  · simpa [hi] using h
def codes1 : List Jvm.Cond := [.code x code maxLocals ret, .code ⟨q_15, s0, "(II)V"⟩ p68_1 3 none, .code ⟨q_16, s0, s1⟩ object_method_1_code 1 none, .code ⟨s15, "setAll", s16⟩ j65_173 3 none, .code ⟨s8, s9, s10⟩ j31_10 1 (some o0), .code ⟨q_15, "lambda$new$0", s26⟩ p68_25 1 (some o3), .code ⟨q_3, s0, s1⟩ p70_1 1 none, .code ⟨q_2, s0, s1⟩ j2729_1 1 none, .code ⟨s22, s0, s1⟩ jdk_71_method_1_code 1 none, .code ⟨q_15, "send", "([B)J"⟩ p68_3 5 (some .long), .code ⟨q_17, "valueOf", s17⟩ j35_24 3 (some o2), .code ⟨q_2, "put", s18⟩ j2729_21 3 (some o0), .code ⟨q_2, "put", s33⟩ j2729_31 10 (some o0), .code ⟨q_2, s34, s35⟩ j2729_30 3 none, .code ⟨q_2, "compare", s32⟩ j2729_67 3 (some .int), .code ⟨q_17, s2, s4⟩ j35_64 2 (some .int), .code ⟨q_17, s2, s43⟩ j35_41 2 (some .int), .code ⟨q_17, "compare", "(JJ)I"⟩ j35_42 4 (some .int), .code ⟨q_0, s0, s25⟩ j2736_1 4 none, .code ⟨q_15, "receive", "(IJ[B)Z"⟩ p68_4 6 (some .boolean), .code ⟨q_2, "containsKey", s19⟩ j2729_6 2 (some .boolean), .code ⟨q_2, "getEntry", s31⟩ j2729_15 5 (some o1), .code ⟨q_3, "know", "(J)V"⟩ p70_3 3 none, .code ⟨s6, "min", "(JJ)J"⟩ j29_70 4 (some .long), .code ⟨s6, "max", "(JJ)J"⟩ j29_66 4 (some .long), .code ⟨q_15, "plausible", "(IJ)Z"⟩ p68_5 4 (some .boolean), .code ⟨q_2, "addEntry", s36⟩ j2729_29 6 none, .code ⟨q_2, "fixAfterInsertion", s14⟩ j2729_83 3 none, .code ⟨q_2, "parentOf", s13⟩ j2729_77 1 (some o1), .code ⟨q_2, "leftOf", s13⟩ j2729_79 1 (some o1), .code ⟨q_2, "colorOf", s39⟩ j2729_76 1 (some .boolean), .code ⟨q_2, "setColor", s40⟩ j2729_78 2 none, .code ⟨q_2, "rotateLeft", s14⟩ j2729_81 3 none]
theorem codes_eq : words1.filter isCode = codes1 := rfl
theorem w_codes : ∀ c ∈ words1.filter isCode, c.before args0 about1 = true := by
  rw [codes_eq]
  intro c hc
  simp only [codes1, List.mem_cons, List.not_mem_nil, or_false] at hc
  rcases hc with rfl | rfl | rfl | rfl | rfl | rfl | rfl | rfl | rfl | rfl | rfl | rfl | rfl | rfl | rfl | rfl | rfl | rfl | rfl | rfl | rfl | rfl | rfl | rfl | rfl | rfl | rfl | rfl | rfl | rfl | rfl | rfl | rfl
  · exact code_word ⟨1, 1⟩ k1m1 k1c1
  · exact code_word ⟨2, 0⟩ k2m0 k2c0
  · exact code_word ⟨0, 0⟩ k0m0 k0c0
  · exact code_word ⟨5, 1⟩ k5m1 k5c1
  · exact code_word ⟨6, 1⟩ k6m1 k6c1
  · exact code_word ⟨2, 4⟩ k2m4 k2c4
  · exact code_word ⟨3, 0⟩ k3m0 k3c0
  · exact code_word ⟨14, 0⟩ k14m0 k14c0
  · exact code_word ⟨8, 0⟩ k8m0 k8c0
  · exact code_word ⟨2, 1⟩ k2m1 k2c1
  · exact code_word ⟨19, 0⟩ k19m0 k19c0
  · exact code_word ⟨14, 3⟩ k14m3 k14c3
  · exact code_word ⟨14, 6⟩ k14m6 k14c6
  · exact code_word ⟨14, 5⟩ k14m5 k14c5
  · exact code_word ⟨14, 7⟩ k14m7 k14c7
  · exact code_word ⟨19, 3⟩ k19m3 k19c3
  · exact code_word ⟨19, 1⟩ k19m1 k19c1
  · exact code_word ⟨19, 2⟩ k19m2 k19c2
  · exact code_word ⟨22, 0⟩ k22m0 k22c0
  · exact code_word ⟨2, 2⟩ k2m2 k2c2
  · exact code_word ⟨14, 1⟩ k14m1 k14c1
  · exact code_word ⟨14, 2⟩ k14m2 k14c2
  · exact code_word ⟨3, 1⟩ k3m1 k3c1
  · exact code_word ⟨23, 2⟩ k23m2 k23c2
  · exact code_word ⟨23, 1⟩ k23m1 k23c1
  · exact code_word ⟨2, 3⟩ k2m3 k2c3
  · exact code_word ⟨14, 4⟩ k14m4 k14c4
  · exact code_word ⟨14, 13⟩ k14m13 k14c13
  · exact code_word ⟨14, 9⟩ k14m9 k14c9
  · exact code_word ⟨14, 11⟩ k14m11 k14c11
  · exact code_word ⟨14, 8⟩ k14m8 k14c8
  · exact code_word ⟨14, 10⟩ k14m10 k14c10
  · exact code_word ⟨14, 12⟩ k14m12 k14c12
abbrev dr1 := words1.drop 24
abbrev dr2 := dr1.drop 24
abbrev dr3 := dr2.drop 24
abbrev dr4 := dr3.drop 24
abbrev dr5 := dr4.drop 24
abbrev dr6 := dr5.drop 24
abbrev dr7 := dr6.drop 24
abbrev dr8 := dr7.drop 24
abbrev dr9 := dr8.drop 24
abbrev fW : Jvm.Cond → Bool := fun c => isCode c || c.before args0 about1
theorem sp24 {L : List Jvm.Cond} {f : Jvm.Cond → Bool} (h1 : (L.take 24).all f = true) (h2 : (L.drop 24).all f = true) : L.all f = true := by
  rw [← List.take_append_drop 24 L, List.all_append, h1, h2]
  rfl
theorem w_t1 : (words1.take 24).all fW = true := by decide +kernel
theorem w_t2 : (dr1.take 24).all fW = true := by decide +kernel
theorem w_t3 : (dr2.take 24).all fW = true := by decide +kernel
theorem w_t4 : (dr3.take 24).all fW = true := by decide +kernel
theorem w_t5 : (dr4.take 24).all fW = true := by decide +kernel
theorem w_t6 : (dr5.take 24).all fW = true := by decide +kernel
theorem w_t7 : (dr6.take 24).all fW = true := by decide +kernel
theorem w_t8 : (dr7.take 24).all fW = true := by decide +kernel
theorem w_t9 : (dr8.take 24).all fW = true := by decide +kernel
theorem w_t10 : dr9.all fW = true := by decide +kernel
theorem w_tables : (allAtoms (Jvm.Cond.code x code maxLocals ret :: tables_1)).before args0 about1 = true := by
  rw [allAtoms_all]
  show words1.all (fun c => c.before args0 about1) = true
  refine all_split ?_ w_codes
  exact sp24 w_t1 (sp24 w_t2 (sp24 w_t3 (sp24 w_t4 (sp24 w_t5 (sp24 w_t6 (sp24 w_t7 (sp24 w_t8 (sp24 w_t9 w_t10))))))))
theorem w_rest : rest_1_c.before args0 about1 = true := by decide +kernel
theorem w_case : (Jvm.Cond.and given_1 narrow_1).before args0 about1 = true := by decide +kernel
theorem w_applies : (headSpec (Jvm.Cond.code x code maxLocals ret :: tables_1) room_1).applies x e0.platform about1 = true :=
  (Spec.applies_iff w_frames).mpr ⟨w_running, w_runnable, w_alone, w_named, w_hears, w_ripe, w_room, w_tables⟩
theorem atStart : AtStart classFile x code maxLocals ret World_1 tables_1 room_1 Calls_1 rest_1 Pre_1 launch0 p0 e0 about1 theMethod args0 below0 :=
  ⟨lists_1, trivial, launch0.admits_env _ _ _, launch0.least_env, fairChoices_fair.cas, fairChoices_fair.clock, w_frames, w_args, w_heap, w_applies, trivial, w_rest, w_case⟩
end start1
theorem witness_1 : WitnessClaimed_1 := ⟨start1.p0, start1.e0, start1.about1, start1.theMethod, start1.args0, start1.below0, start1.atStart⟩
end Jvm.Pilot.@@N@@
