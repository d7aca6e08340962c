import JvmDerived
import JvmDerived.Pilot.@@N@@Statement
import JvmDerived.Pilot.@@N@@Code
set_option linter.unusedVariables false
set_option linter.unusedSimpArgs false
@@BLOCK:TracedD.lean.txt@@
namespace Jvm.Pilot.@@N@@
open Jvm Jvm.ClassFile Sem Op Lib Jvm.Free Jvm.Stand Jvm.LawKit Jvm.RoadKit Bundle Jvm.Pilot.@@N@@.Jvm.D
/-! ### the form of my walks: what is left to do from a state -/
def Go (p : Program) (e : Env) (below : List Frame) (P : Outcome → State → Prop) (S : State) : Prop :=
  ∃ s₂ o, Steps p.tables e below S s₂ ∧ s₂.status = .running ∧ Ended s₂ below o ∧ P o s₂
def PQ (s : State) (Q : Option Value → Heap → List Loc → Prop) (C S : Nat) : Outcome → State → Prop :=
  fun o U' => ∃ v L, o = .returned v ∧ Q v U'.heap L ∧ FrameEnd s o U' L C S
theorem Go.by {p : Program} {e : Env} {below : List Frame} {P : Outcome → State → Prop} {S S' : State} (k : ∀ t, Steps p.tables e below S' t → Steps p.tables e below S t) (h : Go p e below P S') : Go p e below P S := by
  obtain ⟨t, o, h1, h2⟩ := h
  exact ⟨t, o, k t h1, h2⟩
theorem Go.fin {p : Program} {l : Launch} {e : Env} {R : Room} {s : State} {m : MethodId} {args : Array Value} {below : List Frame} {meth : Method} {c : Code} {T : State} {locs : List Loc} {k n C S : Nat} {v : Option Value} {Q : Option Value → Heap → List Loc → Prop} {S0 : State}
    (X : Stand p l e R s m args below meth c T locs k n) (hlk : meth.locks = false) (hv : meth.sig.returnType = none → v = none) (hk : k ≤ C) (hn : n ≤ S) (hQ : Q v T.heap locs)
    (hst : ∀ fs, (∀ (f : JFrame) (acts : List Action), f.method = m → f.locked = none → f.entered = [] → (doReturn e (T.setTop f) acts v).1 = T.setFrames fs) → Steps p.tables e below S0 (T.setFrames fs)) : Go p e below (PQ s Q C S) S0 := by
  obtain ⟨fs, hr, hrun, hended, hW, hsame⟩ := X.leave (v := v) hv hlk
  exact ⟨_, _, hst fs hr, hrun, hended, v, locs, rfl, hQ, ⟨_, rfl⟩, hW, hsame.mono hk hn⟩
abbrev vI (x : Int32) : Slot := .val (.int x)
abbrev vR (x : Addr) : Slot := .val (.ref x)
abbrev vJ (x : Int64) : Slot := .val (.long x)
abbrev own_R (f c s l : Nat) : Room := { frames := f, cells := c, slots := s, locals := l }
abbrev oG (p : Program) (e : Env) (below : List Frame) (P : Outcome → State → Prop) (m : MethodId) (T : State) (pc : Nat) (L : Array Slot) (S : List Value) : Prop := Go p e below P (T.setTop (mkF m pc L S))
abbrev oW (a0 : Array Value) (Z : State) : Prop := ∀ d ∈ tables_1, d.before a0 Z = true
abbrev oY0 : MethodName := ⟨"java/lang/StringBuilder", "append", "(Ljava/lang/String;)Ljava/lang/StringBuilder;"⟩
abbrev oY1 : MethodName := ⟨"java/lang/AbstractStringBuilder", "isLatin1", "()Z"⟩
abbrev oY2 : MethodName := ⟨"java/lang/StringBuilder", "toString", "()Ljava/lang/String;"⟩
abbrev oY3 : MethodName := ⟨"java/lang/String", "coder", "()B"⟩
abbrev oY4 : MethodName := ⟨"java/lang/AbstractStringBuilder", "ensureCapacityInternal", "(I)V"⟩
abbrev oY5 : MethodName := ⟨"java/lang/StringBuilder", "append", "(I)Ljava/lang/StringBuilder;"⟩
abbrev oY6 : MethodName := ⟨"java/lang/String", "length", "()I"⟩
abbrev oY7 : MethodName := ⟨"java/lang/AbstractStringBuilder", "append", "(Ljava/lang/String;)Ljava/lang/AbstractStringBuilder;"⟩
abbrev oY8 : MethodName := ⟨"java/lang/AbstractStringBuilder", "getValue", "()[B"⟩
abbrev oY9 : MethodName := ⟨"java/util/Arrays", "copyOfRange", "([BII)[B"⟩
abbrev oY10 : MethodName := ⟨"java/lang/String", "<init>", "(Ljava/lang/AbstractStringBuilder;Ljava/lang/Void;)V"⟩
abbrev oY11 : MethodName := ⟨"java/lang/String", "<init>", "(Ljava/lang/StringBuilder;)V"⟩
abbrev oY12 : MethodName := ⟨"java/lang/Integer", "stringSize", "(I)I"⟩
abbrev oY13 : MethodName := ⟨"java/lang/Integer", "getChars", "(II[B)I"⟩
abbrev oY14 : MethodName := ⟨"java/lang/AbstractStringBuilder", "append", "(I)Ljava/lang/AbstractStringBuilder;"⟩
abbrev oY15 : MethodName := ⟨"java/lang/StringUTF16", "compress", "([CI[BII)I"⟩
abbrev oY16 : MethodName := ⟨"java/lang/StringUTF16", "compress", "([CII)[B"⟩
abbrev oY17 : MethodName := ⟨"java/lang/StringUTF16", "coderFromArrayLen", "([BI)B"⟩
abbrev oY18 : MethodName := ⟨"java/lang/String", "<init>", "([CIILjava/lang/Void;)V"⟩
abbrev oY19 : MethodName := ⟨"java/lang/String", "<init>", "([C)V"⟩
abbrev oY20 : MethodName := ⟨"java/lang/AbstractStringBuilder", "length", "()I"⟩
abbrev oY21 : MethodName := ⟨"java/lang/String", "getBytes", "([BIB)V"⟩
abbrev oY22 : MethodName := ⟨"java/lang/AbstractStringBuilder", "putStringAt", "(ILjava/lang/String;)V"⟩
abbrev oY23 : MethodName := ⟨"java/lang/Math", "min", "(II)I"⟩
abbrev oY24 : MethodName := ⟨"java/lang/StringBuilder", "<init>", "()V"⟩
abbrev oY25 : MethodName := ⟨"java/lang/StringBuilder", "length", "()I"⟩
abbrev oY26 : MethodName := ⟨"java/io/IOException", "<init>", "(Ljava/lang/String;)V"⟩
abbrev oY27 : MethodName := ⟨"com/example/carovita/carovita/index/CsvFormatException", "<init>", "(ILjava/lang/String;)V"⟩
abbrev oY28 : MethodName := ⟨"com/example/carovita/carovita/index/CsvFormatException", "line", "()I"⟩
abbrev oY29 : MethodName := ⟨"java/lang/Throwable", "getMessage", "()Ljava/lang/String;"⟩
abbrev oY30 : MethodName := ⟨"java/lang/String", "equals", "(Ljava/lang/Object;)Z"⟩
abbrev oY31 : MethodName := ⟨"java/lang/AbstractStringBuilder", "inflateIfNeededFor", "(Ljava/lang/String;)V"⟩
abbrev oY32 : MethodName := ⟨"java/lang/Math", "max", "(II)I"⟩
abbrev oY33 : MethodName := ⟨"jdk/internal/util/ArraysSupport", "newLength", "(III)I"⟩
abbrev oY34 : MethodName := ⟨"java/lang/AbstractStringBuilder", "newCapacity", "(I)I"⟩
abbrev oY35 : MethodName := ⟨"java/util/Arrays", "copyOf", "([BI)[B"⟩
abbrev oY36 : MethodName := ⟨"java/lang/AbstractStringBuilder", "<init>", "(I)V"⟩
abbrev oY37 : MethodName := ⟨"java/util/Arrays", "checkLength", "(II)V"⟩
abbrev oY38 : MethodName := ⟨"java/util/Arrays", "copyOfRangeByte", "([BII)[B"⟩
abbrev oY39 : MethodName := ⟨"java/lang/Throwable", "<init>", "(Ljava/lang/String;)V"⟩
abbrev oY40 : MethodName := ⟨"java/lang/Exception", "<init>", "(Ljava/lang/String;)V"⟩
abbrev oY41 : MethodName := ⟨"com/example/carovita/carovita/index/CsvFormatException", "givenTwice", "(ILjava/lang/String;I)Lcom/example/carovita/carovita/index/CsvFormatException;"⟩
abbrev oY42 : MethodName := ⟨"java/lang/StringLatin1", "equals", "([B[B)Z"⟩
section OwnW
variable {p : Program} {l : Launch} {e : Env} {R : Room} {s : State} {m : MethodId} {args : Array Value} {below : List Frame} {meth : Method} {c : Code} {T : State} {locs : List Loc} {cells slots : Nat} {P : Outcome → State → Prop} {code : ByteArray} {pc : Nat} {L : Array Slot} {S : List Value}
theorem w_iloadN (X : Stand p l e R s m args below meth c T locs cells slots) (hx : p.tables.exec = Jvm.exec) (hby : c.code = code) {i : Fin 4} {v : Int32} (hd : decode code pc = .ok (.iload_n i, 1)) (hl : L[i.val]? = some (.val (.int v))) (h : Go p e below P (T.setTop (mkF m (pc + 1) L (.int v :: S)))) : Go p e below P (T.setTop (mkF m pc L S)) := Go.by (fun _ => XS.iloadN X.here hx rfl (hb hby hd) hl) h
theorem w_iload (X : Stand p l e R s m args below meth c T locs cells slots) (hx : p.tables.exec = Jvm.exec) (hby : c.code = code) {i : Nat} {v : Int32} (hd : decode code pc = .ok (.iload i, 2)) (hl : L[i]? = some (.val (.int v))) (h : Go p e below P (T.setTop (mkF m (pc + 2) L (.int v :: S)))) : Go p e below P (T.setTop (mkF m pc L S)) := Go.by (fun _ => XS.iload X.here hx rfl (hb hby hd) hl) h
theorem w_istoreN (X : Stand p l e R s m args below meth c T locs cells slots) (hx : p.tables.exec = Jvm.exec) (hby : c.code = code) {i : Fin 4} {x : Int32} {l' : Array Slot} (hd : decode code pc = .ok (.istore_n i, 1)) (hl : storeLocals L i.val (.int x) = some l') (h : Go p e below P (T.setTop (mkF m (pc + 1) l' S))) : Go p e below P (T.setTop (mkF m pc L (.int x :: S))) := Go.by (fun _ => XS.istoreN X.here hx rfl (hb hby hd) rfl hl) h
theorem w_istore (X : Stand p l e R s m args below meth c T locs cells slots) (hx : p.tables.exec = Jvm.exec) (hby : c.code = code) {i : Nat} {x : Int32} {l' : Array Slot} (hd : decode code pc = .ok (.istore i, 2)) (hl : storeLocals L i (.int x) = some l') (h : Go p e below P (T.setTop (mkF m (pc + 2) l' S))) : Go p e below P (T.setTop (mkF m pc L (.int x :: S))) := Go.by (fun _ => XS.istore X.here hx rfl (hb hby hd) rfl hl) h
theorem w_aloadN (X : Stand p l e R s m args below meth c T locs cells slots) (hx : p.tables.exec = Jvm.exec) (hby : c.code = code) {i : Fin 4} {v : Value} (hd : decode code pc = .ok (.aload_n i, 1)) (hl : L[i.val]? = some (.val v)) (hv : v.isRef = true) (h : Go p e below P (T.setTop (mkF m (pc + 1) L (v :: S)))) : Go p e below P (T.setTop (mkF m pc L S)) := Go.by (fun _ => XS.aloadN X.here hx rfl (hb hby hd) hl hv) h
theorem w_aload (X : Stand p l e R s m args below meth c T locs cells slots) (hx : p.tables.exec = Jvm.exec) (hby : c.code = code) {i : Nat} {v : Value} (hd : decode code pc = .ok (.aload i, 2)) (hl : L[i]? = some (.val v)) (hv : v.isRef = true) (h : Go p e below P (T.setTop (mkF m (pc + 2) L (v :: S)))) : Go p e below P (T.setTop (mkF m pc L S)) := Go.by (fun _ => XS.aload X.here hx rfl (hb hby hd) hl hv) h
theorem w_astoreN (X : Stand p l e R s m args below meth c T locs cells slots) (hx : p.tables.exec = Jvm.exec) (hby : c.code = code) {i : Fin 4} {x : Value} {l' : Array Slot} (hd : decode code pc = .ok (.astore_n i, 1)) (hv : x.isRef = true) (hl : storeLocals L i.val x = some l') (h : Go p e below P (T.setTop (mkF m (pc + 1) l' S))) : Go p e below P (T.setTop (mkF m pc L (x :: S))) := Go.by (fun _ => XS.astoreN X.here hx rfl (hb hby hd) rfl hv hl) h
theorem w_astore (X : Stand p l e R s m args below meth c T locs cells slots) (hx : p.tables.exec = Jvm.exec) (hby : c.code = code) {i : Nat} {x : Value} {l' : Array Slot} (hd : decode code pc = .ok (.astore i, 2)) (hv : x.isRef = true) (hl : storeLocals L i x = some l') (h : Go p e below P (T.setTop (mkF m (pc + 2) l' S))) : Go p e below P (T.setTop (mkF m pc L (x :: S))) := Go.by (fun _ => XS.astore X.here hx rfl (hb hby hd) rfl hv hl) h
theorem w_iconst (X : Stand p l e R s m args below meth c T locs cells slots) (hx : p.tables.exec = Jvm.exec) (hby : c.code = code) {i : Int} {v : Int32} (hd : decode code pc = .ok (.iconst i, 1)) (hv : Int32.ofInt i = v) (h : Go p e below P (T.setTop (mkF m (pc + 1) L (.int v :: S)))) : Go p e below P (T.setTop (mkF m pc L S)) := by
  subst hv
  exact Go.by (fun _ => XS.iconst X.here hx rfl (hb hby hd)) h
theorem w_bipush (X : Stand p l e R s m args below meth c T locs cells slots) (hx : p.tables.exec = Jvm.exec) (hby : c.code = code) {i : Int} {v : Int32} (hd : decode code pc = .ok (.bipush i, 2)) (hv : (Int8.ofInt i).toInt32 = v) (h : Go p e below P (T.setTop (mkF m (pc + 2) L (.int v :: S)))) : Go p e below P (T.setTop (mkF m pc L S)) := by
  subst hv
  exact Go.by (fun _ => XS.bipush X.here hx rfl (hb hby hd)) h
theorem w_sipush (X : Stand p l e R s m args below meth c T locs cells slots) (hx : p.tables.exec = Jvm.exec) (hby : c.code = code) {i : Int} {v : Int32} (hd : decode code pc = .ok (.sipush i, 3)) (hv : (Int16.ofInt i).toInt32 = v) (h : Go p e below P (T.setTop (mkF m (pc + 3) L (.int v :: S)))) : Go p e below P (T.setTop (mkF m pc L S)) := by
  subst hv
  exact Go.by (fun _ => XS.sipush X.here hx rfl (hb hby hd)) h
theorem w_aconstNull (X : Stand p l e R s m args below meth c T locs cells slots) (hx : p.tables.exec = Jvm.exec) (hby : c.code = code)  (hd : decode code pc = .ok (.aconst_null, 1)) (h : Go p e below P (T.setTop (mkF m (pc + 1) L (.null :: S)))) : Go p e below P (T.setTop (mkF m pc L S)) := Go.by (fun _ => XS.aconstNull X.here hx rfl (hb hby hd)) h
theorem w_dup (X : Stand p l e R s m args below meth c T locs cells slots) (hx : p.tables.exec = Jvm.exec) (hby : c.code = code) {x : Value} (hd : decode code pc = .ok (.dup, 1)) (hc : x.category = 1) (h : Go p e below P (T.setTop (mkF m (pc + 1) L (x :: x :: S)))) : Go p e below P (T.setTop (mkF m pc L (x :: S))) := Go.by (fun _ => XS.dup X.here hx rfl (hb hby hd) rfl hc) h
theorem w_pop (X : Stand p l e R s m args below meth c T locs cells slots) (hx : p.tables.exec = Jvm.exec) (hby : c.code = code) {x : Value} (hd : decode code pc = .ok (.pop, 1)) (hc : x.category = 1) (h : Go p e below P (T.setTop (mkF m (pc + 1) L S))) : Go p e below P (T.setTop (mkF m pc L (x :: S))) := Go.by (fun _ => XS.pop X.here hx rfl (hb hby hd) rfl hc) h
theorem w_iinc (X : Stand p l e R s m args below meth c T locs cells slots) (hx : p.tables.exec = Jvm.exec) (hby : c.code = code) {i : Nat} {k : Int} {x : Int32} {l' : Array Slot} (hd : decode code pc = .ok (.iinc i k, 3)) (hl : L[i]? = some (.val (.int x))) (hl' : storeLocals L i (.int (x + Int32.ofInt k)) = some l') (h : Go p e below P (T.setTop (mkF m (pc + 3) l' S))) : Go p e below P (T.setTop (mkF m pc L S)) := Go.by (fun _ => XS.iinc X.here hx rfl (hb hby hd) hl hl') h
theorem w_iadd (X : Stand p l e R s m args below meth c T locs cells slots) (hx : p.tables.exec = Jvm.exec) (hby : c.code = code) {x y v : Int32} (hd : decode code pc = .ok (.iadd, 1)) (hv : x + y = v) (h : Go p e below P (T.setTop (mkF m (pc + 1) L (.int v :: S)))) : Go p e below P (T.setTop (mkF m pc L (.int y :: .int x :: S))) := by
  subst hv
  exact Go.by (fun _ => XS.iadd X.here hx rfl (hb hby hd) rfl) h
theorem w_isub (X : Stand p l e R s m args below meth c T locs cells slots) (hx : p.tables.exec = Jvm.exec) (hby : c.code = code) {x y v : Int32} (hd : decode code pc = .ok (.isub, 1)) (hv : x - y = v) (h : Go p e below P (T.setTop (mkF m (pc + 1) L (.int v :: S)))) : Go p e below P (T.setTop (mkF m pc L (.int y :: .int x :: S))) := by
  subst hv
  exact Go.by (fun _ => XS.isub X.here hx rfl (hb hby hd) rfl) h
theorem w_imul (X : Stand p l e R s m args below meth c T locs cells slots) (hx : p.tables.exec = Jvm.exec) (hby : c.code = code) {x y v : Int32} (hd : decode code pc = .ok (.imul, 1)) (hv : x * y = v) (h : Go p e below P (T.setTop (mkF m (pc + 1) L (.int v :: S)))) : Go p e below P (T.setTop (mkF m pc L (.int y :: .int x :: S))) := by
  subst hv
  exact Go.by (fun _ => XS.imul X.here hx rfl (hb hby hd) rfl) h
theorem w_iand (X : Stand p l e R s m args below meth c T locs cells slots) (hx : p.tables.exec = Jvm.exec) (hby : c.code = code) {x y v : Int32} (hd : decode code pc = .ok (.iand, 1)) (hv : x &&& y = v) (h : Go p e below P (T.setTop (mkF m (pc + 1) L (.int v :: S)))) : Go p e below P (T.setTop (mkF m pc L (.int y :: .int x :: S))) := by
  subst hv
  exact Go.by (fun _ => XS.iand X.here hx rfl (hb hby hd) rfl) h
theorem w_goto (X : Stand p l e R s m args below meth c T locs cells slots) (hx : p.tables.exec = Jvm.exec) (hby : c.code = code) {o : Int} {pc' : Nat} (hd : decode code pc = .ok (.goto o, 3)) (hp : 0 ≤ (pc : Int) + o ∧ ((pc : Int) + o).toNat = pc') (h : Go p e below P (T.setTop (mkF m pc' L S))) : Go p e below P (T.setTop (mkF m pc L S)) := Go.by (fun _ => XS.goto X.here hx rfl rfl (hb hby hd) hp.1 hp.2) h
theorem w_ifYes (X : Stand p l e R s m args below meth c T locs cells slots) (hx : p.tables.exec = Jvm.exec) (hby : c.code = code) {cd : ClassFile.Cond} {o : Int} {x : Int32} {pc' : Nat} (hd : decode code pc = .ok (.ifCond cd o, 3)) (hc : ifCond.holds cd x = true) (hp : 0 ≤ (pc : Int) + o ∧ ((pc : Int) + o).toNat = pc') (h : Go p e below P (T.setTop (mkF m pc' L S))) : Go p e below P (T.setTop (mkF m pc L (.int x :: S))) := Go.by (fun _ => XS.ifYes X.here hx rfl rfl (hb hby hd) rfl hc hp.1 hp.2) h
theorem w_ifNo (X : Stand p l e R s m args below meth c T locs cells slots) (hx : p.tables.exec = Jvm.exec) (hby : c.code = code) {cd : ClassFile.Cond} {o : Int} {x : Int32} (hd : decode code pc = .ok (.ifCond cd o, 3)) (hc : ifCond.holds cd x = false) (h : Go p e below P (T.setTop (mkF m (pc + 3) L S))) : Go p e below P (T.setTop (mkF m pc L (.int x :: S))) := Go.by (fun _ => XS.ifNo X.here hx rfl (hb hby hd) rfl hc) h
theorem w_icmpYes (X : Stand p l e R s m args below meth c T locs cells slots) (hx : p.tables.exec = Jvm.exec) (hby : c.code = code) {cd : ClassFile.Cond} {o : Int} {x y : Int32} {pc' : Nat} (hd : decode code pc = .ok (.if_icmp cd o, 3)) (hc : if_icmp.holds cd x y = true) (hp : 0 ≤ (pc : Int) + o ∧ ((pc : Int) + o).toNat = pc') (h : Go p e below P (T.setTop (mkF m pc' L S))) : Go p e below P (T.setTop (mkF m pc L (.int y :: .int x :: S))) := Go.by (fun _ => XS.icmpYes X.here hx rfl rfl (hb hby hd) rfl hc hp.1 hp.2) h
theorem w_icmpNo (X : Stand p l e R s m args below meth c T locs cells slots) (hx : p.tables.exec = Jvm.exec) (hby : c.code = code) {cd : ClassFile.Cond} {o : Int} {x y : Int32} (hd : decode code pc = .ok (.if_icmp cd o, 3)) (hc : if_icmp.holds cd x y = false) (h : Go p e below P (T.setTop (mkF m (pc + 3) L S))) : Go p e below P (T.setTop (mkF m pc L (.int y :: .int x :: S))) := Go.by (fun _ => XS.icmpNo X.here hx rfl (hb hby hd) rfl hc) h
theorem w_ifnonnullYes (X : Stand p l e R s m args below meth c T locs cells slots) (hx : p.tables.exec = Jvm.exec) (hby : c.code = code) {o : Int} {pc' : Nat} {b : Addr} (hd : decode code pc = .ok (.ifnonnull o, 3)) (hp : 0 ≤ (pc : Int) + o ∧ ((pc : Int) + o).toNat = pc') (h : Go p e below P (T.setTop (mkF m pc' L S))) : Go p e below P (T.setTop (mkF m pc L (.ref b :: S))) := Go.by (fun _ => XS.ifnonnullYes X.here hx rfl rfl (hb hby hd) rfl hp.1 hp.2) h
end OwnW
theorem own_fin {p : Program} {l : Launch} {e : Env} {R : Room} {s : State} {m : MethodId} {args : Array Value} {below : List Frame} {meth : Method} {c : Code} {T : State} {locs : List Loc} {k n C S : Nat} {v : Option Value} {Q : Option Value → Heap → List Loc → Prop} {S0 : State} {P : Outcome → State → Prop} (hP : P = PQ s Q C S) (hlk : meth.locks = false)
    (X : Stand p l e R s m args below meth c T locs k n) (hv : meth.sig.returnType = none → v = none) (hk : k ≤ C) (hn : n ≤ S) (hQ : Q v T.heap locs)
    (hst : ∀ fs, (∀ (f : JFrame) (acts : List Action), f.method = m → f.locked = none → f.entered = [] → (doReturn e (T.setTop f) acts v).1 = T.setFrames fs) → Steps p.tables e below S0 (T.setFrames fs)) : Go p e below P S0 := hP ▸ Go.fin X hlk hv hk hn hQ hst
abbrev oM (l : Launch) (x : MethodName) (code : ByteArray) (ml : Nat) (ret : Option FieldType) (ws : List Jvm.Cond) (R : Room) (A : Array Value) (Z : State) (h0 : Heap) (Q : Option Value → Heap → List Loc → Prop) : Prop := MetFree l x (head1 (Jvm.Cond.code x code ml ret :: ws) R) (fun a U => a = A ∧ Z.Warmed39 U.vm ∧ U.heap = h0) (fun _ _ _ _ _ => True) (fun _ U o U' => ∃ v L, o = .returned v ∧ Q v U'.heap L ∧ FrameEnd U o U' L R.cells R.slots)
theorem own_open {l : Launch} {x : MethodName} {code : ByteArray} {ml : Nat} {ret : Option FieldType} {ws : List Jvm.Cond} {R : Room} {A : Array Value} {Z : State} {h0 : Heap} {n0 : Nat} {Q : Option Value → Heap → List Loc → Prop} {L0 : Array Slot} {cn : String} (hcn : x.cls = cn) (hpl : plainFor x = true) (hef : ∀ m, entryFrame m A ml = mkF m 0 L0 [])
    (body : ∀ (p : Program) (e : Env) (s : State) (m : MethodId) (below : List Frame) (meth : Method) (c : Code) (s₁ : State) (P : Outcome → State → Prop), p.tables.exec = Jvm.exec → c.code = code → c.maxLocals = ml → s.vm.findClass cn = some m.cls → meth.name = x.name → Stand p l e R s m A below meth c s₁ [] 0 0 → s₁.heap = h0 → Fr n0 [] → meth.locks = false → meth.sig.returnType = ret → Z.Warmed39 s.vm → P = PQ s Q R.cells R.slots → Go p e below P (s₁.setTop (mkF m 0 L0 []))) : oM l x code ml ret ws R A Z h0 Q := by
  subst hcn
  refine MetFree.of_bodySF hpl hisR ?_
  intro p e s m args below meth c s₁ Bd hml0 hP hK
  obtain ⟨rfl, hZ, hh⟩ := hP
  have e0 : s₁.heap = h0 := by rw [← hh, Bd.state]; rfl
  have hgo := body p e s m below meth c s₁ _ Bd.exec Bd.bytes hml0 (findClass_of_methodNamed Bd.named) (name_of_methodNamed Bd.named Bd.method).1 (Stand.of_body Bd) e0 (Fr.nil n0) Bd.notSynchronized Bd.returns hZ rfl
  exact Go.by (fun t k => castTop (hef m) k) hgo
/-! ### from a case's words to facts -/
section OwnWords
variable {args : Array Value} {s : State} {t : Term} {C n d : String} {a : Addr} {z : Int32}
theorem own_fint (hx : t.eval args s none [] s = some (.ref a)) (h : (Cond.eq (.field t C n d) (.int z)).value args s none s [] = some true) : Fld s s.heap a C n d (.int z) := by
  refine Fld.start ?_
  have e1 : (Term.field t C n d).eval args s none [] s = s.fieldOf? a C n d := fld_at hx
  cases hf : s.fieldOf? a C n d with
  | none => simp [Cond.value, e1, hf] at h
  | some v =>
    cases v <;> simp [Cond.value, e1, hf, Term.int_eval] at h
    subst h; rfl
theorem own_lenE {cl : Cell} {ty : FieldType} (ev : t.eval args s none [] s = some (.ref a)) (A : Arr s s.heap a cl ty) (h : (Cond.eq (.length t) (.int z)).value args s none s [] = some true) : cl.slots.size < 2 ^ 31 ∧ cl.slots.size.toInt32 = z := by
  have ha : s.arrayAt? a = some cl := Arr.fin (Vm.Alike.refl _) A
  by_cases hl : cl.slots.size < 2 ^ 31
  · have q := len_f (o := none) (idx := []) (first := s) ev ha hl
    simp [Cond.value, q, Term.int_eval] at h
    exact ⟨hl, h⟩
  · simp [Cond.value, Term.eval, ev, ha, hl] at h
theorem own_len {cl : Cell} {ty : FieldType} {N : Nat} (ev : t.eval args s none [] s = some (.ref a)) (A : Arr s s.heap a cl ty) (hz : z.toInt = N) (h : (Cond.eq (.length t) (.int z)).value args s none s [] = some true) : cl.slots.size = N := by
  obtain ⟨h1, h2⟩ := own_lenE ev A h
  have h3 := len_toInt h1
  rw [h2, hz] at h3
  omega
theorem own_elem {cl : Cell} {j : Int32} (ev : t.eval args s none [] s = some (.ref a)) (hc : s.heap[a]? = some cl) (h : (Cond.eq (.elem t (.int j)) (.int z)).value args s none s [] = some true) : cl.slots[j.toNatClampNeg]? = some (.int z) := by
  obtain ⟨x, y, e1, e2, -, -⟩ := cmp_v (Or.inl h)
  have q := (elem_in e1 ev rfl hc).2
  cases e2
  cases x <;> simp [Cond.value, e1, Term.int_eval] at h
  subst h; exact q
end OwnWords
/-! ### the end of a walk that may intern -/
def PQW (s Z : State) (EL : List (String × Nat)) (Q : Option Value → Heap → List Loc → Prop) (C S : Nat) : Outcome → State → Prop :=
  fun o U' => ∃ v L, o = .returned v ∧ Q v U'.heap L ∧ CHr Z EL s.vm s.heap U'.vm U'.heap ∧ ReturnedEndW s o U' L C S
theorem Go.finW {p : Program} {l : Launch} {e : Env} {R : Room} {s Z : State} {a0 : Array Value} {EL : List (String × Nat)} {vm0 : Vm} {k0 : Nat} {m : MethodId} {args : Array Value} {below : List Frame} {meth : Method} {c : Code} {T : State} {locs : List Loc} {k n C S : Nat} {v : Option Value} {Q : Option Value → Heap → List Loc → Prop} {S0 : State} {h0 H : Heap}
    (X : Stand p l e R (s.setVm vm0) m args below meth c T locs k n) (hlk : meth.locks = false) (hEL : EW Z a0 EL) (hv : meth.sig.returnType = none → v = none) (hk : k ≤ C) (hn : n ≤ S) (hh : s.heap = h0) (eT : T.heap = H) (hS : s.Since vm0 k0) (hk0 : k0 ≤ H.size) (hZ : Z.Warmed39 vm0) (hC : CHr Z EL s.vm h0 vm0 H) (hQ : Q v H locs)
    (hst : ∀ fs, (∀ (f : JFrame) (acts : List Action), f.method = m → f.locked = none → f.entered = [] → (doReturn e (T.setTop f) acts v).1 = T.setFrames fs) → Steps p.tables e below S0 (T.setFrames fs)) : Go p e below (PQW s Z EL Q C S) S0 := by
  subst eT hh
  obtain ⟨fs, hr, hrun, hended, hW1, hW2, hW3, hsame⟩ := X.leaveW hS hk0 (v := v) hv hlk
  have hc := CHr.trans hC (CHv.at X hZ hEL hC.1)
  exact ⟨_, _, hst fs hr, hrun, hended, v, locs, rfl, hQ, hc, hW1, hW2, hW3, hsame.mono hk hn⟩
theorem own_finW {p : Program} {l : Launch} {e : Env} {R : Room} {s Z : State} {a0 : Array Value} {EL : List (String × Nat)} {vm0 : Vm} {k0 : Nat} {m : MethodId} {args : Array Value} {below : List Frame} {meth : Method} {c : Code} {T : State} {locs : List Loc} {k n C S : Nat} {v : Option Value} {Q : Option Value → Heap → List Loc → Prop} {h0 H : Heap} {S0 : State} {P : Outcome → State → Prop} (hP : P = PQW s Z EL Q C S) (hlk : meth.locks = false) (hEL : EW Z a0 EL) (hh : s.heap = h0)
    (X : Stand p l e R (s.setVm vm0) m args below meth c T locs k n) (hv : meth.sig.returnType = none → v = none) (hk : k ≤ C) (hn : n ≤ S) (eT : T.heap = H) (hS : s.Since vm0 k0) (hk0 : k0 ≤ H.size) (hZ : Z.Warmed39 vm0) (hC : CHr Z EL s.vm h0 vm0 H) (hQ : Q v H locs)
    (hst : ∀ fs, (∀ (f : JFrame) (acts : List Action), f.method = m → f.locked = none → f.entered = [] → (doReturn e (T.setTop f) acts v).1 = T.setFrames fs) → Steps p.tables e below S0 (T.setFrames fs)) : Go p e below P S0 := hP ▸ Go.finW X hlk hEL hv hk hn hh eT hS hk0 hZ hC hQ hst
/-! ### a callee that may intern and that is handed addresses which no literal bears -/
theorem own_ss0 {Z : State} {EL : List (String × Nat)} {vm : Vm} {h : Heap} : ∀ x ∈ ([] : List Addr), x < h.size ∧ Safe Z EL vm h x := fun _ q => nomatch q
theorem own_ssS {Z : State} {EL : List (String × Nat)} {vm : Vm} {h : Heap} {y : Addr} {L : List Addr} (q : Safe Z EL vm h y) (lt : y < h.size) (r : ∀ x ∈ L, x < h.size ∧ Safe Z EL vm h x) : ∀ x ∈ y :: L, x < h.size ∧ Safe Z EL vm h x := fun x hx => by
  rcases List.mem_cons.mp hx with rfl | hx
  · exact ⟨lt, q⟩
  · exact r x hx
theorem own_backC {l : Launch} {R : Room} {p : Program} {e : Env} {below : List Frame} {s Z : State} {args a0 : Array Value} {EL : List (String × Nat)} {h : Heap} {vm0 : Vm} {y : MethodName} {bytes : ByteArray} {maxL : Nat} {ret : Option FieldType} {rm : Room} {len W : Nat} {as' : Array Value} {ss : List Addr} {Q : Option Value → Heap → List Loc → Prop}
    (hM : MetFree l y (head1 [Cond.code y bytes maxL ret] rm) (fun a U => a = as' ∧ Z.Warmed39 U.vm ∧ U.heap = h ∧ CHv Z EL U.vm h ∧ ∀ x ∈ ss, Safe Z EL U.vm h x) (fun _ _ _ _ _ => True) (fun _ U o U' => ∃ v L, o = .returned v ∧ Q v U'.heap L ∧ CHr Z EL U.vm U.heap U'.vm U'.heap ∧ ReturnedEndW U o U' L rm.cells rm.slots))
    (hZ : Z.Warmed39 vm0) (wc : (Cond.code y bytes maxL ret).before a0 Z = true) (wz : (Cond.initialized y.cls).before a0 Z = true) (hf : rm.frames + 1 ≤ R.frames) (hl : W + (maxL + 11) + rm.locals ≤ R.locals) (hEL : EW Z a0 EL) (H : CHv Z EL vm0 h) (hss : ∀ x ∈ ss, x < h.size ∧ Safe Z EL vm0 h x) :
    BackS l R p e below (s.setVm vm0) args y len W (fun A a => a = as' ∧ A.U.heap = h ∧ A.cells + rm.cells ≤ R.cells ∧ A.slots + rm.slots ≤ R.slots)
      (fun A _ v B => ∃ L, Q v B.U.heap L ∧ B.locs = A.locs ++ L ∧ B.cells = A.cells + rm.cells ∧ B.slots = A.slots + rm.slots ∧ CHr Z EL vm0 h B.U.vm B.U.heap) := by
  refine BackS.of_freeW (bytes := bytes) (maxL := maxL) (ret := ret) (E := fun _ U o t L k n => k = rm.cells ∧ n = rm.slots ∧ CHr Z EL U.vm U.heap t.vm t.heap ∧ ∃ v, o = .returned v ∧ Q v t.heap L) hM hf hl ?_ ?_ (fun _ _ _ _ _ _ _ _ _ => trivial) ?_ ?_
  · intro m meth c A a Y hp
    have hU : Z.Warmed39 A.U.vm := wtrans (s := s.setVm vm0) hZ Y.warmed
    refine ⟨?_, mv hU wc, mv hU wz, hp.2.2.1, hp.2.2.2⟩
    show (Cond.and _ .tt).before a A.U = true
    rw [Cond.before_and, mv hU wc]; rfl
  · intro m meth c A a g mk Y hp
    have C := CHv.at Y hZ hEL H
    exact ⟨hp.1, wtrans (s := s.setVm vm0) hZ Y.warmed, hp.2.1, C.1, fun x hx => C.safe (hss x hx).1 (hss x hx).2⟩
  · rintro a U o t ⟨v, L, h1, h2, h3, h4⟩
    exact ⟨L, _, _, h4, rfl, rfl, h3, v, h1, h2⟩
  · rintro m meth c A a g mk v t L k n Y hp - - ⟨e1, e2, e3, v', e4, e5⟩
    cases e4
    subst e1 e2
    refine ⟨L, e5, rfl, rfl, rfl, (CHv.at Y hZ hEL H).trans ?_⟩
    rw [← hp.2.1]; exact e3
theorem own_backCK {l : Launch} {R : Room} {p : Program} {e : Env} {below : List Frame} {s Z : State} {args a0 : Array Value} {EL : List (String × Nat)} {h : Heap} {vm0 : Vm} {y : MethodName} {bytes : ByteArray} {maxL : Nat} {ret : Option FieldType} {rm : Room} {len W : Nat} {as' : Array Value} {ss : List Addr} {Q : Option Value → Heap → List Loc → Prop}
    (hM : MetFree l y (head1 [Cond.code y bytes maxL ret] rm) (fun a U => a = as' ∧ Z.Warmed39 U.vm ∧ U.heap = h ∧ CHv Z EL U.vm h ∧ ∀ x ∈ ss, Safe Z EL U.vm h x) (fun _ _ bl s _ => s.vm.MethodsKnown ∧ s.vm.FramesKnown bl) (fun _ U o U' => ∃ v L, o = .returned v ∧ Q v U'.heap L ∧ CHr Z EL U.vm U.heap U'.vm U'.heap ∧ ReturnedEndW U o U' L rm.cells rm.slots))
    (hZ : Z.Warmed39 vm0) (wc : (Cond.code y bytes maxL ret).before a0 Z = true) (wz : (Cond.initialized y.cls).before a0 Z = true) (hf : rm.frames + 1 ≤ R.frames) (hl : W + (maxL + 11) + rm.locals ≤ R.locals) (hEL : EW Z a0 EL) (H : CHv Z EL vm0 h) (hss : ∀ x ∈ ss, x < h.size ∧ Safe Z EL vm0 h x) (hTK : (s.setVm vm0).vm.MethodsKnown) (hBelow : (s.setVm vm0).vm.FramesKnown below) :
    BackS l R p e below (s.setVm vm0) args y len W (fun A a => a = as' ∧ A.U.heap = h ∧ A.cells + rm.cells ≤ R.cells ∧ A.slots + rm.slots ≤ R.slots)
      (fun A _ v B => ∃ L, Q v B.U.heap L ∧ B.locs = A.locs ++ L ∧ B.cells = A.cells + rm.cells ∧ B.slots = A.slots + rm.slots ∧ CHr Z EL vm0 h B.U.vm B.U.heap) := by
  refine BackS.of_freeWG (bytes := bytes) (maxL := maxL) (ret := ret) (E := fun _ U o t L k n => k = rm.cells ∧ n = rm.slots ∧ CHr Z EL U.vm U.heap t.vm t.heap ∧ ∃ v, o = .returned v ∧ Q v t.heap L) hM hf hl ?_ ?_ (fun m meth c A a g mk Y _ hg => known_frames Y hg hTK hBelow) ?_ ?_
  · intro m meth c A a Y hp
    have hU : Z.Warmed39 A.U.vm := wtrans (s := s.setVm vm0) hZ Y.warmed
    refine ⟨?_, mv hU wc, mv hU wz, hp.2.2.1, hp.2.2.2⟩
    show (Cond.and _ .tt).before a A.U = true
    rw [Cond.before_and, mv hU wc]; rfl
  · intro m meth c A a g mk Y hp
    have C := CHv.at Y hZ hEL H
    exact ⟨hp.1, wtrans (s := s.setVm vm0) hZ Y.warmed, hp.2.1, C.1, fun x hx => C.safe (hss x hx).1 (hss x hx).2⟩
  · rintro a U o t ⟨v, L, h1, h2, h3, h4⟩
    exact ⟨L, _, _, h4, rfl, rfl, h3, v, h1, h2⟩
  · rintro m meth c A a g mk v t L k n Y hp - - ⟨e1, e2, e3, v', e4, e5⟩
    cases e4
    subst e1 e2
    refine ⟨L, e5, rfl, rfl, rfl, (CHv.at Y hZ hEL H).trans ?_⟩
    rw [← hp.2.1]; exact e3
theorem own_selfP {args : Array Value} {s : State} {C : String} {y : MethodName} (h1 : (Cond.selects C y y).before args s = true) (h2 : (Cond.instanceMethod y).before args s = true) (h3 : (Cond.privateMethod y).before args s = true) (hy : y.cls ≠ "java/lang/invoke/MethodHandle" ∧ y.cls ≠ "java/lang/invoke/VarHandle") : (Cond.selects y.cls y y).before args s = true := by
  obtain ⟨c, r, m, q1, q2, q3, q4, mk, q5, q6⟩ := Cond.selects_spec h1
  exact selects_self_of_private (findClass_of_methodNamed q3) q5 q6 (Cond.privateMethod_at h3) h2 hy
theorem own_nf {args : Array Value} {s : State} {C : String} {y y' : MethodName} (h : (Cond.selects C y' y').before args s = true) (e : y'.cls = y.cls) : NotFace s y := fun r0 h0 => by
  obtain ⟨_, _, m2, _, _, q3, _, kP, hk, hi⟩ := Cond.selects_spec h
  have a := findClass_of_methodNamed q3
  rw [e] at a
  have em : m2.cls = r0.cls := Option.some.inj (a.symm.trans (findClass_of_methodNamed h0))
  exact ⟨kP, em ▸ hk, hi⟩
theorem own_sameP {a0 : Array Value} {Z : State} {C : String} {y y' : MethodName} (h : (Cond.declares y).before a0 Z = true) (hs : (Cond.selects C y' y').before a0 Z = true) (e : y'.cls = y.cls) (hy : y.cls ≠ "java/lang/invoke/MethodHandle" ∧ y.cls ≠ "java/lang/invoke/VarHandle") : (Cond.sameMethod y.cls y.cls y.name y.desc).before a0 Z = true := by
  obtain ⟨m, meth, n1, n2, n3, n4⟩ := Cond.declares_spec h
  obtain ⟨c, r, m2, q1, q2, q3, q4, mk, q5, q6⟩ := Cond.selects_spec hs
  have hc := findClass_of_methodNamed n1
  have hc2 := findClass_of_methodNamed q3
  rw [e] at hc2
  have em : m2.cls = m.cls := Option.some.inj (hc2.symm.trans hc)
  rw [em] at q5
  have hf : Z.methodFound? y.cls y.name y.desc = some m := State.methodFound?_of_named n1 hy
  have n1' : Z.methodNamed? ⟨y.cls, y.name, y.desc⟩ = some m := n1
  simp [Cond.before, Cond.holds, Cond.value, hc, hf, n1', q5, q6]
/-! ### getfield where the entry stands resolved (the word fieldRef) -/
section OwnRef
variable {p : Program} {l : Launch} {e : Env} {R : Room} {s : State} {m : MethodId} {args : Array Value} {below : List Frame} {meth : Method} {c : Code} {T : State} {locs : List Loc} {cells slots : Nat} {Z : State} {a0 : Array Value} {h : Heap}
theorem own_getR (X : Stand p l e R s m args below meth c T locs cells slots) (hx : p.tables.exec = Jvm.exec) (hZ : Z.Warmed39 s.vm) {own R0 O n d : String} {index : Nat} (hown : s.vm.findClass own = some m.cls) (w : (Cond.fieldRef own index R0 n d).before a0 Z = true) (via : Via Z R0 O n d)
    (eT : T.heap = h) {a : Addr} {v : Value} (F : Fld Z h a O n d v) {g : JFrame} (hg : g.method = m) {rest : List Value} (hs : g.stack = .ref a :: rest) (hd : decode c.code g.pc = .ok (.getfield index, 3)) : ∃ T', Stand p l e R s m args below meth c T' locs cells slots ∧ T'.heap = h ∧ ∀ target, Steps p.tables e below (T'.setTop { g with pc := g.pc + 3, stack := v :: rest }) target → Steps p.tables e below (T.setTop g) target := by
  obtain ⟨cell, cf, k, i, f, h1, h2, h3, h4, -, -, h7⟩ := F
  have hU : Z.Warmed39 T.vm := wtrans hZ X.warmed
  have w' : (Cond.fieldRef own index R0 n d).before a0 (Z.setVm T.vm) = true := Cond.fieldRef_warmed39 hU w
  have hown' : (Z.setVm T.vm).vm.findClass own = some m.cls := by
    rw [State.vm_setVm, X.warmed.alike.findClass]; exact hown
  obtain ⟨c2, k2, i2, f2, hi2, hready⟩ := Cond.fieldRef_spec (s := Z.setVm T.vm) hown' w'
  obtain ⟨k', hi', -⟩ := State.fieldFound?_setVm (s := Z) hU.alike (via _ h2)
  cases hi2.symm.trans hi'
  refine ⟨T, X, eT, fun target hrest => ?_⟩
  subst hg
  have hc : T.heap[a]? = some cell := by rw [eT]; exact h1
  jvm_step X.here [hx, hd, getfield.wp_ready (e := e) (s := T) (f := g) X.here.top hready h3 hs hc h4 h7]
  exact hrest
end OwnRef
theorem pn_java_lang_String : plainName "java/lang/String" = true := by first | (simp [plainName, overriddenIn]; done) | decide +kernel
theorem dj42_152_0 : decode jdk_42_method_152_code 0 = .ok (.getstatic 38, 3) := by decide +kernel
theorem dj42_152_3 : decode jdk_42_method_152_code 3 = .ok (.ifCond .eq 10, 3) := by decide +kernel
theorem dj42_152_6 : decode jdk_42_method_152_code 6 = .ok (.aload_n 0, 1) := by decide +kernel
theorem dj42_152_7 : decode jdk_42_method_152_code 7 = .ok (.getfield 15, 3) := by decide +kernel
theorem dj42_152_10 : decode jdk_42_method_152_code 10 = .ok (.goto 4, 3) := by decide +kernel
theorem dj42_152_14 : decode jdk_42_method_152_code 14 = .ok (.ireturn, 1) := by decide +kernel
theorem dj42_54_0 : decode jdk_42_method_54_code 0 = .ok (.aload_n 0, 1) := by decide +kernel
theorem dj42_54_1 : decode jdk_42_method_54_code 1 = .ok (.getfield 9, 3) := by decide +kernel
theorem dj42_54_4 : decode jdk_42_method_54_code 4 = .ok (.arraylength, 1) := by decide +kernel
theorem dj42_54_5 : decode jdk_42_method_54_code 5 = .ok (.aload_n 0, 1) := by decide +kernel
theorem pd___B : parseMethodDescriptor "()B" = some ⟨[], some .byte⟩ := by decide +kernel
theorem dj42_54_6 : decode jdk_42_method_54_code 6 = .ok (.invokevirtual 335, 3) := by decide +kernel
theorem dj42_54_9 : decode jdk_42_method_54_code 9 = .ok (.ishr, 1) := by decide +kernel
theorem dj42_54_10 : decode jdk_42_method_54_code 10 = .ok (.ireturn, 1) := by decide +kernel
theorem pn_java_lang_AbstractStringBuilder : plainName "java/lang/AbstractStringBuilder" = true := by first | (simp [plainName, overriddenIn]; done) | decide +kernel
theorem dj68_71_0 : decode jdk_68_method_71_code 0 = .ok (.getstatic 18, 3) := by decide +kernel
theorem dj68_71_3 : decode jdk_68_method_71_code 3 = .ok (.ifCond .eq 18, 3) := by decide +kernel
theorem dj68_71_6 : decode jdk_68_method_71_code 6 = .ok (.aload_n 0, 1) := by decide +kernel
theorem dj68_71_7 : decode jdk_68_method_71_code 7 = .ok (.getfield 22, 3) := by decide +kernel
theorem dj68_71_10 : decode jdk_68_method_71_code 10 = .ok (.aload_n 1, 1) := by decide +kernel
theorem dj68_71_11 : decode jdk_68_method_71_code 11 = .ok (.invokevirtual 40, 3) := by decide +kernel
theorem dj68_71_14 : decode jdk_68_method_71_code 14 = .ok (.if_icmp .eq 7, 3) := by decide +kernel
theorem dj68_71_21 : decode jdk_68_method_71_code 21 = .ok (.return_, 1) := by decide +kernel
theorem dj42_147_0 : decode jdk_42_method_147_code 0 = .ok (.aload_n 0, 1) := by decide +kernel
theorem dj42_147_1 : decode jdk_42_method_147_code 1 = .ok (.invokevirtual 335, 3) := by decide +kernel
theorem dj42_147_4 : decode jdk_42_method_147_code 4 = .ok (.iload_n 3, 1) := by decide +kernel
theorem dj42_147_5 : decode jdk_42_method_147_code 5 = .ok (.if_icmp .ne 23, 3) := by decide +kernel
theorem dj42_147_8 : decode jdk_42_method_147_code 8 = .ok (.aload_n 0, 1) := by decide +kernel
theorem dj42_147_9 : decode jdk_42_method_147_code 9 = .ok (.getfield 9, 3) := by decide +kernel
theorem dj42_147_12 : decode jdk_42_method_147_code 12 = .ok (.iconst 0, 1) := by decide +kernel
theorem dj42_147_13 : decode jdk_42_method_147_code 13 = .ok (.aload_n 1, 1) := by decide +kernel
theorem dj42_147_14 : decode jdk_42_method_147_code 14 = .ok (.iload_n 2, 1) := by decide +kernel
theorem dj42_147_15 : decode jdk_42_method_147_code 15 = .ok (.iload_n 3, 1) := by decide +kernel
theorem dj42_147_16 : decode jdk_42_method_147_code 16 = .ok (.ishl, 1) := by decide +kernel
theorem dj42_147_17 : decode jdk_42_method_147_code 17 = .ok (.aload_n 0, 1) := by decide +kernel
theorem dj42_147_18 : decode jdk_42_method_147_code 18 = .ok (.getfield 9, 3) := by decide +kernel
theorem dj42_147_21 : decode jdk_42_method_147_code 21 = .ok (.arraylength, 1) := by decide +kernel
theorem dj42_147_22 : decode jdk_42_method_147_code 22 = .ok (.invokestatic 212, 3) := by decide +kernel
theorem dj42_147_25 : decode jdk_42_method_147_code 25 = .ok (.goto 18, 3) := by decide +kernel
theorem dj42_147_43 : decode jdk_42_method_147_code 43 = .ok (.return_, 1) := by decide +kernel
theorem dj68_73_0 : decode jdk_68_method_73_code 0 = .ok (.aload_n 0, 1) := by decide +kernel
theorem dj68_73_1 : decode jdk_68_method_73_code 1 = .ok (.aload_n 2, 1) := by decide +kernel
theorem pd__Ljava_lang_String__V : parseMethodDescriptor "(Ljava/lang/String;)V" = some ⟨[(.object "java/lang/String")], none⟩ := by decide +kernel
theorem dj68_73_2 : decode jdk_68_method_73_code 2 = .ok (.invokevirtual 397, 3) := by decide +kernel
theorem dj68_73_5 : decode jdk_68_method_73_code 5 = .ok (.aload_n 2, 1) := by decide +kernel
theorem dj68_73_6 : decode jdk_68_method_73_code 6 = .ok (.aload_n 0, 1) := by decide +kernel
theorem dj68_73_7 : decode jdk_68_method_73_code 7 = .ok (.getfield 15, 3) := by decide +kernel
theorem dj68_73_10 : decode jdk_68_method_73_code 10 = .ok (.iload_n 1, 1) := by decide +kernel
theorem dj68_73_11 : decode jdk_68_method_73_code 11 = .ok (.aload_n 0, 1) := by decide +kernel
theorem dj68_73_12 : decode jdk_68_method_73_code 12 = .ok (.getfield 22, 3) := by decide +kernel
theorem pd___BIB_V : parseMethodDescriptor "([BIB)V" = some ⟨[(.array .byte), .int, .byte], none⟩ := by decide +kernel
theorem dj68_73_15 : decode jdk_68_method_73_code 15 = .ok (.invokevirtual 399, 3) := by decide +kernel
theorem dj68_73_18 : decode jdk_68_method_73_code 18 = .ok (.return_, 1) := by decide +kernel
theorem dj68_9_0 : decode jdk_68_method_9_code 0 = .ok (.aload_n 0, 1) := by decide +kernel
theorem dj68_9_1 : decode jdk_68_method_9_code 1 = .ok (.getfield 15, 3) := by decide +kernel
theorem dj68_9_4 : decode jdk_68_method_9_code 4 = .ok (.arraylength, 1) := by decide +kernel
theorem dj68_9_5 : decode jdk_68_method_9_code 5 = .ok (.aload_n 0, 1) := by decide +kernel
theorem dj68_9_6 : decode jdk_68_method_9_code 6 = .ok (.getfield 22, 3) := by decide +kernel
theorem dj68_9_9 : decode jdk_68_method_9_code 9 = .ok (.ishr, 1) := by decide +kernel
theorem dj68_9_10 : decode jdk_68_method_9_code 10 = .ok (.istore_n 2, 1) := by decide +kernel
theorem dj68_9_11 : decode jdk_68_method_9_code 11 = .ok (.iload_n 1, 1) := by decide +kernel
theorem dj68_9_12 : decode jdk_68_method_9_code 12 = .ok (.iload_n 2, 1) := by decide +kernel
theorem dj68_9_13 : decode jdk_68_method_9_code 13 = .ok (.isub, 1) := by decide +kernel
theorem dj68_9_14 : decode jdk_68_method_9_code 14 = .ok (.ifCond .le 24, 3) := by decide +kernel
theorem dj68_9_38 : decode jdk_68_method_9_code 38 = .ok (.return_, 1) := by decide +kernel
theorem dj68_22_0 : decode jdk_68_method_22_code 0 = .ok (.aload_n 1, 1) := by decide +kernel
theorem dj68_22_1 : decode jdk_68_method_22_code 1 = .ok (.ifnonnull 8, 3) := by decide +kernel
theorem dj68_22_9 : decode jdk_68_method_22_code 9 = .ok (.aload_n 1, 1) := by decide +kernel
theorem pd___I : parseMethodDescriptor "()I" = some ⟨[], some .int⟩ := by decide +kernel
theorem dj68_22_10 : decode jdk_68_method_22_code 10 = .ok (.invokevirtual 32, 3) := by decide +kernel
theorem dj68_22_13 : decode jdk_68_method_22_code 13 = .ok (.istore_n 2, 1) := by decide +kernel
theorem dj68_22_14 : decode jdk_68_method_22_code 14 = .ok (.aload_n 0, 1) := by decide +kernel
theorem dj68_22_15 : decode jdk_68_method_22_code 15 = .ok (.aload_n 0, 1) := by decide +kernel
theorem dj68_22_16 : decode jdk_68_method_22_code 16 = .ok (.getfield 79, 3) := by decide +kernel
theorem dj68_22_19 : decode jdk_68_method_22_code 19 = .ok (.iload_n 2, 1) := by decide +kernel
theorem dj68_22_20 : decode jdk_68_method_22_code 20 = .ok (.iadd, 1) := by decide +kernel
theorem pd__I_V : parseMethodDescriptor "(I)V" = some ⟨[.int], none⟩ := by decide +kernel
theorem dj68_22_21 : decode jdk_68_method_22_code 21 = .ok (.invokevirtual 100, 3) := by decide +kernel
theorem dj68_22_24 : decode jdk_68_method_22_code 24 = .ok (.aload_n 0, 1) := by decide +kernel
theorem dj68_22_25 : decode jdk_68_method_22_code 25 = .ok (.aload_n 0, 1) := by decide +kernel
theorem dj68_22_26 : decode jdk_68_method_22_code 26 = .ok (.getfield 79, 3) := by decide +kernel
theorem dj68_22_29 : decode jdk_68_method_22_code 29 = .ok (.aload_n 1, 1) := by decide +kernel
theorem pd__ILjava_lang_String__V : parseMethodDescriptor "(ILjava/lang/String;)V" = some ⟨[.int, (.object "java/lang/String")], none⟩ := by decide +kernel
theorem dj68_22_30 : decode jdk_68_method_22_code 30 = .ok (.invokevirtual 208, 3) := by decide +kernel
theorem dj68_22_33 : decode jdk_68_method_22_code 33 = .ok (.aload_n 0, 1) := by decide +kernel
theorem dj68_22_34 : decode jdk_68_method_22_code 34 = .ok (.dup, 1) := by decide +kernel
theorem dj68_22_35 : decode jdk_68_method_22_code 35 = .ok (.getfield 79, 3) := by decide +kernel
theorem dj68_22_38 : decode jdk_68_method_22_code 38 = .ok (.iload_n 2, 1) := by decide +kernel
theorem dj68_22_39 : decode jdk_68_method_22_code 39 = .ok (.iadd, 1) := by decide +kernel
theorem dj68_22_40 : decode jdk_68_method_22_code 40 = .ok (.putfield 79, 3) := by decide +kernel
theorem dj68_22_43 : decode jdk_68_method_22_code 43 = .ok (.aload_n 0, 1) := by decide +kernel
theorem dj68_22_44 : decode jdk_68_method_22_code 44 = .ok (.areturn, 1) := by decide +kernel
theorem pn_java_lang_StringBuilder : plainName "java/lang/StringBuilder" = true := by first | (simp [plainName, overriddenIn]; done) | decide +kernel
theorem dj67_7_0 : decode jdk_67_method_7_code 0 = .ok (.aload_n 0, 1) := by decide +kernel
theorem dj67_7_1 : decode jdk_67_method_7_code 1 = .ok (.aload_n 1, 1) := by decide +kernel
theorem pd__Ljava_lang_String__Ljava_lang_AbstractStringBuilder_ : parseMethodDescriptor "(Ljava/lang/String;)Ljava/lang/AbstractStringBuilder;" = some ⟨[(.object "java/lang/String")], some (.object "java/lang/AbstractStringBuilder")⟩ := by decide +kernel
theorem dj67_7_2 : decode jdk_67_method_7_code 2 = .ok (.invokespecial 29, 3) := by decide +kernel
theorem dj67_7_5 : decode jdk_67_method_7_code 5 = .ok (.pop, 1) := by decide +kernel
theorem dj67_7_6 : decode jdk_67_method_7_code 6 = .ok (.aload_n 0, 1) := by decide +kernel
theorem dj67_7_7 : decode jdk_67_method_7_code 7 = .ok (.areturn, 1) := by decide +kernel
theorem dj29_65_0 : decode jdk_29_method_65_code 0 = .ok (.iload_n 0, 1) := by decide +kernel
theorem dj29_65_1 : decode jdk_29_method_65_code 1 = .ok (.iload_n 1, 1) := by decide +kernel
theorem dj29_65_2 : decode jdk_29_method_65_code 2 = .ok (.if_icmp .lt 7, 3) := by decide +kernel
theorem dj29_65_9 : decode jdk_29_method_65_code 9 = .ok (.iload_n 1, 1) := by decide +kernel
theorem dj29_65_10 : decode jdk_29_method_65_code 10 = .ok (.ireturn, 1) := by decide +kernel
theorem dj29_65_5 : decode jdk_29_method_65_code 5 = .ok (.iload_n 0, 1) := by decide +kernel
theorem dj29_65_6 : decode jdk_29_method_65_code 6 = .ok (.goto 4, 3) := by decide +kernel
theorem dj29_69_0 : decode jdk_29_method_69_code 0 = .ok (.iload_n 0, 1) := by decide +kernel
theorem dj29_69_1 : decode jdk_29_method_69_code 1 = .ok (.iload_n 1, 1) := by decide +kernel
theorem dj29_69_2 : decode jdk_29_method_69_code 2 = .ok (.if_icmp .gt 7, 3) := by decide +kernel
theorem dj29_69_9 : decode jdk_29_method_69_code 9 = .ok (.iload_n 1, 1) := by decide +kernel
theorem dj29_69_10 : decode jdk_29_method_69_code 10 = .ok (.ireturn, 1) := by decide +kernel
theorem dj29_69_5 : decode jdk_29_method_69_code 5 = .ok (.iload_n 0, 1) := by decide +kernel
theorem dj29_69_6 : decode jdk_29_method_69_code 6 = .ok (.goto 4, 3) := by decide +kernel
theorem pn_jdk_internal_util_ArraysSupport : plainName "jdk/internal/util/ArraysSupport" = true := by first | (simp [plainName, overriddenIn]; done) | decide +kernel
theorem dj48_27_0 : decode jdk_48_method_27_code 0 = .ok (.iload_n 0, 1) := by decide +kernel
theorem dj48_27_1 : decode jdk_48_method_27_code 1 = .ok (.iload_n 1, 1) := by decide +kernel
theorem dj48_27_2 : decode jdk_48_method_27_code 2 = .ok (.iload_n 2, 1) := by decide +kernel
theorem pd__II_I : parseMethodDescriptor "(II)I" = some ⟨[.int, .int], some .int⟩ := by decide +kernel
theorem dj48_27_3 : decode jdk_48_method_27_code 3 = .ok (.invokestatic 194, 3) := by decide +kernel
theorem dj48_27_6 : decode jdk_48_method_27_code 6 = .ok (.iadd, 1) := by decide +kernel
theorem dj48_27_7 : decode jdk_48_method_27_code 7 = .ok (.istore_n 3, 1) := by decide +kernel
theorem dj48_27_8 : decode jdk_48_method_27_code 8 = .ok (.iconst 0, 1) := by decide +kernel
theorem dj48_27_9 : decode jdk_48_method_27_code 9 = .ok (.iload_n 3, 1) := by decide +kernel
theorem dj48_27_10 : decode jdk_48_method_27_code 10 = .ok (.if_icmp .ge 11, 3) := by decide +kernel
theorem dj48_27_13 : decode jdk_48_method_27_code 13 = .ok (.iload_n 3, 1) := by decide +kernel
theorem dj48_27_14 : decode jdk_48_method_27_code 14 = .ok (.ldc 200, 2) := by decide +kernel
theorem dj48_27_16 : decode jdk_48_method_27_code 16 = .ok (.if_icmp .gt 5, 3) := by decide +kernel
theorem dj48_27_19 : decode jdk_48_method_27_code 19 = .ok (.iload_n 3, 1) := by decide +kernel
theorem dj48_27_20 : decode jdk_48_method_27_code 20 = .ok (.ireturn, 1) := by decide +kernel
theorem dj68_10_0 : decode jdk_68_method_10_code 0 = .ok (.aload_n 0, 1) := by decide +kernel
theorem dj68_10_1 : decode jdk_68_method_10_code 1 = .ok (.getfield 15, 3) := by decide +kernel
theorem dj68_10_4 : decode jdk_68_method_10_code 4 = .ok (.arraylength, 1) := by decide +kernel
theorem dj68_10_5 : decode jdk_68_method_10_code 5 = .ok (.istore_n 2, 1) := by decide +kernel
theorem dj68_10_6 : decode jdk_68_method_10_code 6 = .ok (.iload_n 1, 1) := by decide +kernel
theorem dj68_10_7 : decode jdk_68_method_10_code 7 = .ok (.aload_n 0, 1) := by decide +kernel
theorem dj68_10_8 : decode jdk_68_method_10_code 8 = .ok (.getfield 22, 3) := by decide +kernel
theorem dj68_10_11 : decode jdk_68_method_10_code 11 = .ok (.ishl, 1) := by decide +kernel
theorem dj68_10_12 : decode jdk_68_method_10_code 12 = .ok (.istore_n 3, 1) := by decide +kernel
theorem dj68_10_13 : decode jdk_68_method_10_code 13 = .ok (.iload_n 3, 1) := by decide +kernel
theorem dj68_10_14 : decode jdk_68_method_10_code 14 = .ok (.iload_n 2, 1) := by decide +kernel
theorem dj68_10_15 : decode jdk_68_method_10_code 15 = .ok (.isub, 1) := by decide +kernel
theorem dj68_10_16 : decode jdk_68_method_10_code 16 = .ok (.istore 4, 2) := by decide +kernel
theorem dj68_10_18 : decode jdk_68_method_10_code 18 = .ok (.iload_n 2, 1) := by decide +kernel
theorem dj68_10_19 : decode jdk_68_method_10_code 19 = .ok (.iload 4, 2) := by decide +kernel
theorem dj68_10_21 : decode jdk_68_method_10_code 21 = .ok (.iload_n 2, 1) := by decide +kernel
theorem dj68_10_22 : decode jdk_68_method_10_code 22 = .ok (.iconst 2, 1) := by decide +kernel
theorem dj68_10_23 : decode jdk_68_method_10_code 23 = .ok (.aload_n 0, 1) := by decide +kernel
theorem dj68_10_24 : decode jdk_68_method_10_code 24 = .ok (.getfield 22, 3) := by decide +kernel
theorem dj68_10_27 : decode jdk_68_method_10_code 27 = .ok (.ishl, 1) := by decide +kernel
theorem dj68_10_28 : decode jdk_68_method_10_code 28 = .ok (.iadd, 1) := by decide +kernel
theorem pd__III_I : parseMethodDescriptor "(III)I" = some ⟨[.int, .int, .int], some .int⟩ := by decide +kernel
theorem dj68_10_29 : decode jdk_68_method_10_code 29 = .ok (.invokestatic 114, 3) := by decide +kernel
theorem dj68_10_32 : decode jdk_68_method_10_code 32 = .ok (.istore 5, 2) := by decide +kernel
theorem dj68_10_34 : decode jdk_68_method_10_code 34 = .ok (.iload 5, 2) := by decide +kernel
theorem dj68_10_36 : decode jdk_68_method_10_code 36 = .ok (.ldc 39, 2) := by decide +kernel
theorem dj68_10_38 : decode jdk_68_method_10_code 38 = .ok (.if_icmp .ne 13, 3) := by decide +kernel
theorem dj68_10_51 : decode jdk_68_method_10_code 51 = .ok (.iload 5, 2) := by decide +kernel
theorem dj68_10_53 : decode jdk_68_method_10_code 53 = .ok (.aload_n 0, 1) := by decide +kernel
theorem dj68_10_54 : decode jdk_68_method_10_code 54 = .ok (.getfield 22, 3) := by decide +kernel
theorem dj68_10_57 : decode jdk_68_method_10_code 57 = .ok (.ishr, 1) := by decide +kernel
theorem dj68_10_58 : decode jdk_68_method_10_code 58 = .ok (.ireturn, 1) := by decide +kernel
theorem pn_java_util_Arrays : plainName "java/util/Arrays" = true := by first | (simp [plainName, overriddenIn]; done) | decide +kernel
theorem dj65_121_0 : decode jdk_65_method_121_code 0 = .ok (.iload_n 1, 1) := by decide +kernel
theorem dj65_121_1 : decode jdk_65_method_121_code 1 = .ok (.aload_n 0, 1) := by decide +kernel
theorem dj65_121_2 : decode jdk_65_method_121_code 2 = .ok (.arraylength, 1) := by decide +kernel
theorem dj65_121_3 : decode jdk_65_method_121_code 3 = .ok (.if_icmp .ne 11, 3) := by decide +kernel
theorem dj65_121_14 : decode jdk_65_method_121_code 14 = .ok (.iload_n 1, 1) := by decide +kernel
theorem dj65_121_15 : decode jdk_65_method_121_code 15 = .ok (.newarray .byte, 2) := by decide +kernel
theorem dj65_121_17 : decode jdk_65_method_121_code 17 = .ok (.astore_n 2, 1) := by decide +kernel
theorem dj65_121_18 : decode jdk_65_method_121_code 18 = .ok (.aload_n 0, 1) := by decide +kernel
theorem dj65_121_19 : decode jdk_65_method_121_code 19 = .ok (.iconst 0, 1) := by decide +kernel
theorem dj65_121_20 : decode jdk_65_method_121_code 20 = .ok (.aload_n 2, 1) := by decide +kernel
theorem dj65_121_21 : decode jdk_65_method_121_code 21 = .ok (.iconst 0, 1) := by decide +kernel
theorem dj65_121_22 : decode jdk_65_method_121_code 22 = .ok (.aload_n 0, 1) := by decide +kernel
theorem dj65_121_23 : decode jdk_65_method_121_code 23 = .ok (.arraylength, 1) := by decide +kernel
theorem dj65_121_24 : decode jdk_65_method_121_code 24 = .ok (.iload_n 1, 1) := by decide +kernel
theorem dj65_121_25 : decode jdk_65_method_121_code 25 = .ok (.invokestatic 304, 3) := by decide +kernel
theorem dj65_121_28 : decode jdk_65_method_121_code 28 = .ok (.invokestatic 150, 3) := by decide +kernel
theorem dj65_121_31 : decode jdk_65_method_121_code 31 = .ok (.aload_n 2, 1) := by decide +kernel
theorem dj65_121_32 : decode jdk_65_method_121_code 32 = .ok (.areturn, 1) := by decide +kernel
theorem dj68_9_17 : decode jdk_68_method_9_code 17 = .ok (.aload_n 0, 1) := by decide +kernel
theorem dj68_9_18 : decode jdk_68_method_9_code 18 = .ok (.aload_n 0, 1) := by decide +kernel
theorem dj68_9_19 : decode jdk_68_method_9_code 19 = .ok (.getfield 15, 3) := by decide +kernel
theorem dj68_9_22 : decode jdk_68_method_9_code 22 = .ok (.aload_n 0, 1) := by decide +kernel
theorem dj68_9_23 : decode jdk_68_method_9_code 23 = .ok (.iload_n 1, 1) := by decide +kernel
theorem pd__I_I : parseMethodDescriptor "(I)I" = some ⟨[.int], some .int⟩ := by decide +kernel
theorem dj68_9_24 : decode jdk_68_method_9_code 24 = .ok (.invokevirtual 104, 3) := by decide +kernel
theorem dj68_9_27 : decode jdk_68_method_9_code 27 = .ok (.aload_n 0, 1) := by decide +kernel
theorem dj68_9_28 : decode jdk_68_method_9_code 28 = .ok (.getfield 22, 3) := by decide +kernel
theorem dj68_9_31 : decode jdk_68_method_9_code 31 = .ok (.ishl, 1) := by decide +kernel
theorem pd___BI__B : parseMethodDescriptor "([BI)[B" = some ⟨[(.array .byte), .int], some (.array .byte)⟩ := by decide +kernel
theorem dj68_9_32 : decode jdk_68_method_9_code 32 = .ok (.invokestatic 108, 3) := by decide +kernel
theorem dj68_9_35 : decode jdk_68_method_9_code 35 = .ok (.putfield 15, 3) := by decide +kernel
theorem dj68_2_0 : decode jdk_68_method_2_code 0 = .ok (.aload_n 0, 1) := by decide +kernel
theorem dj68_2_1 : decode jdk_68_method_2_code 1 = .ok (.invokespecial 3, 3) := by decide +kernel
theorem dj68_2_4 : decode jdk_68_method_2_code 4 = .ok (.getstatic 18, 3) := by decide +kernel
theorem dj68_2_7 : decode jdk_68_method_2_code 7 = .ok (.ifCond .eq 18, 3) := by decide +kernel
theorem dj68_2_10 : decode jdk_68_method_2_code 10 = .ok (.aload_n 0, 1) := by decide +kernel
theorem dj68_2_11 : decode jdk_68_method_2_code 11 = .ok (.iload_n 1, 1) := by decide +kernel
theorem dj68_2_12 : decode jdk_68_method_2_code 12 = .ok (.newarray .byte, 2) := by decide +kernel
theorem dj68_2_14 : decode jdk_68_method_2_code 14 = .ok (.putfield 15, 3) := by decide +kernel
theorem dj68_2_17 : decode jdk_68_method_2_code 17 = .ok (.aload_n 0, 1) := by decide +kernel
theorem dj68_2_18 : decode jdk_68_method_2_code 18 = .ok (.iconst 0, 1) := by decide +kernel
theorem dj68_2_19 : decode jdk_68_method_2_code 19 = .ok (.putfield 22, 3) := by decide +kernel
theorem dj68_2_22 : decode jdk_68_method_2_code 22 = .ok (.goto 16, 3) := by decide +kernel
theorem dj68_2_38 : decode jdk_68_method_2_code 38 = .ok (.return_, 1) := by decide +kernel
theorem dj67_1_0 : decode jdk_67_method_1_code 0 = .ok (.aload_n 0, 1) := by decide +kernel
theorem dj67_1_1 : decode jdk_67_method_1_code 1 = .ok (.bipush 16, 2) := by decide +kernel
theorem dj67_1_3 : decode jdk_67_method_1_code 3 = .ok (.invokespecial 1, 3) := by decide +kernel
theorem dj67_1_6 : decode jdk_67_method_1_code 6 = .ok (.return_, 1) := by decide +kernel
theorem dj68_64_0 : decode jdk_68_method_64_code 0 = .ok (.aload_n 0, 1) := by decide +kernel
theorem dj68_64_1 : decode jdk_68_method_64_code 1 = .ok (.getfield 15, 3) := by decide +kernel
theorem dj68_64_4 : decode jdk_68_method_64_code 4 = .ok (.areturn, 1) := by decide +kernel
theorem dj68_6_0 : decode jdk_68_method_6_code 0 = .ok (.aload_n 0, 1) := by decide +kernel
theorem dj68_6_1 : decode jdk_68_method_6_code 1 = .ok (.getfield 79, 3) := by decide +kernel
theorem dj68_6_4 : decode jdk_68_method_6_code 4 = .ok (.ireturn, 1) := by decide +kernel
theorem dj67_93_0 : decode jdk_67_method_93_code 0 = .ok (.aload_n 0, 1) := by decide +kernel
theorem dj67_93_1 : decode jdk_67_method_93_code 1 = .ok (.invokespecial 343, 3) := by decide +kernel
theorem dj67_93_4 : decode jdk_67_method_93_code 4 = .ok (.ireturn, 1) := by decide +kernel
theorem dj68_68_0 : decode jdk_68_method_68_code 0 = .ok (.getstatic 18, 3) := by decide +kernel
theorem dj68_68_3 : decode jdk_68_method_68_code 3 = .ok (.ifCond .eq 14, 3) := by decide +kernel
theorem dj68_68_6 : decode jdk_68_method_68_code 6 = .ok (.aload_n 0, 1) := by decide +kernel
theorem dj68_68_7 : decode jdk_68_method_68_code 7 = .ok (.getfield 22, 3) := by decide +kernel
theorem dj68_68_10 : decode jdk_68_method_68_code 10 = .ok (.ifCond .ne 7, 3) := by decide +kernel
theorem dj68_68_13 : decode jdk_68_method_68_code 13 = .ok (.iconst 1, 1) := by decide +kernel
theorem dj68_68_14 : decode jdk_68_method_68_code 14 = .ok (.goto 4, 3) := by decide +kernel
theorem dj68_68_18 : decode jdk_68_method_68_code 18 = .ok (.ireturn, 1) := by decide +kernel
theorem dj65_131_0 : decode jdk_65_method_131_code 0 = .ok (.iload_n 1, 1) := by decide +kernel
theorem dj65_131_1 : decode jdk_65_method_131_code 1 = .ok (.iload_n 0, 1) := by decide +kernel
theorem dj65_131_2 : decode jdk_65_method_131_code 2 = .ok (.if_icmp .ge 35, 3) := by decide +kernel
theorem dj65_131_37 : decode jdk_65_method_131_code 37 = .ok (.return_, 1) := by decide +kernel
theorem dj65_133_0 : decode jdk_65_method_133_code 0 = .ok (.iload_n 1, 1) := by decide +kernel
theorem dj65_133_1 : decode jdk_65_method_133_code 1 = .ok (.iload_n 2, 1) := by decide +kernel
theorem pd__II_V : parseMethodDescriptor "(II)V" = some ⟨[.int, .int], none⟩ := by decide +kernel
theorem dj65_133_2 : decode jdk_65_method_133_code 2 = .ok (.invokestatic 343, 3) := by decide +kernel
theorem dj65_133_5 : decode jdk_65_method_133_code 5 = .ok (.iload_n 2, 1) := by decide +kernel
theorem dj65_133_6 : decode jdk_65_method_133_code 6 = .ok (.iload_n 1, 1) := by decide +kernel
theorem dj65_133_7 : decode jdk_65_method_133_code 7 = .ok (.isub, 1) := by decide +kernel
theorem dj65_133_8 : decode jdk_65_method_133_code 8 = .ok (.istore_n 3, 1) := by decide +kernel
theorem dj65_133_9 : decode jdk_65_method_133_code 9 = .ok (.iload_n 3, 1) := by decide +kernel
theorem dj65_133_10 : decode jdk_65_method_133_code 10 = .ok (.newarray .byte, 2) := by decide +kernel
theorem dj65_133_12 : decode jdk_65_method_133_code 12 = .ok (.astore 4, 2) := by decide +kernel
theorem dj65_133_14 : decode jdk_65_method_133_code 14 = .ok (.aload_n 0, 1) := by decide +kernel
theorem dj65_133_15 : decode jdk_65_method_133_code 15 = .ok (.iload_n 1, 1) := by decide +kernel
theorem dj65_133_16 : decode jdk_65_method_133_code 16 = .ok (.aload 4, 2) := by decide +kernel
theorem dj65_133_18 : decode jdk_65_method_133_code 18 = .ok (.iconst 0, 1) := by decide +kernel
theorem dj65_133_19 : decode jdk_65_method_133_code 19 = .ok (.aload_n 0, 1) := by decide +kernel
theorem dj65_133_20 : decode jdk_65_method_133_code 20 = .ok (.arraylength, 1) := by decide +kernel
theorem dj65_133_21 : decode jdk_65_method_133_code 21 = .ok (.iload_n 1, 1) := by decide +kernel
theorem dj65_133_22 : decode jdk_65_method_133_code 22 = .ok (.isub, 1) := by decide +kernel
theorem dj65_133_23 : decode jdk_65_method_133_code 23 = .ok (.iload_n 3, 1) := by decide +kernel
theorem dj65_133_24 : decode jdk_65_method_133_code 24 = .ok (.invokestatic 304, 3) := by decide +kernel
theorem dj65_133_27 : decode jdk_65_method_133_code 27 = .ok (.invokestatic 150, 3) := by decide +kernel
theorem dj65_133_30 : decode jdk_65_method_133_code 30 = .ok (.aload 4, 2) := by decide +kernel
theorem dj65_133_32 : decode jdk_65_method_133_code 32 = .ok (.areturn, 1) := by decide +kernel
theorem dj65_132_0 : decode jdk_65_method_132_code 0 = .ok (.iload_n 1, 1) := by decide +kernel
theorem dj65_132_1 : decode jdk_65_method_132_code 1 = .ok (.ifCond .ne 9, 3) := by decide +kernel
theorem dj65_132_4 : decode jdk_65_method_132_code 4 = .ok (.iload_n 2, 1) := by decide +kernel
theorem dj65_132_5 : decode jdk_65_method_132_code 5 = .ok (.aload_n 0, 1) := by decide +kernel
theorem dj65_132_6 : decode jdk_65_method_132_code 6 = .ok (.arraylength, 1) := by decide +kernel
theorem dj65_132_7 : decode jdk_65_method_132_code 7 = .ok (.if_icmp .eq 10, 3) := by decide +kernel
theorem dj65_132_10 : decode jdk_65_method_132_code 10 = .ok (.aload_n 0, 1) := by decide +kernel
theorem dj65_132_11 : decode jdk_65_method_132_code 11 = .ok (.iload_n 1, 1) := by decide +kernel
theorem dj65_132_12 : decode jdk_65_method_132_code 12 = .ok (.iload_n 2, 1) := by decide +kernel
theorem pd___BII__B : parseMethodDescriptor "([BII)[B" = some ⟨[(.array .byte), .int, .int], some (.array .byte)⟩ := by decide +kernel
theorem dj65_132_13 : decode jdk_65_method_132_code 13 = .ok (.invokestatic 339, 3) := by decide +kernel
theorem dj65_132_16 : decode jdk_65_method_132_code 16 = .ok (.areturn, 1) := by decide +kernel
theorem dj65_132_17 : decode jdk_65_method_132_code 17 = .ok (.aload_n 0, 1) := by decide +kernel
theorem dj65_132_18 : decode jdk_65_method_132_code 18 = .ok (.invokevirtual 310, 3) := by decide +kernel
theorem dj65_132_21 : decode jdk_65_method_132_code 21 = .ok (.checkcast 311, 3) := by decide +kernel
theorem dj65_132_24 : decode jdk_65_method_132_code 24 = .ok (.areturn, 1) := by decide +kernel
theorem dj42_150_0 : decode jdk_42_method_150_code 0 = .ok (.aload_n 0, 1) := by decide +kernel
theorem dj42_150_1 : decode jdk_42_method_150_code 1 = .ok (.invokespecial 1, 3) := by decide +kernel
theorem dj42_150_4 : decode jdk_42_method_150_code 4 = .ok (.aload_n 1, 1) := by decide +kernel
theorem pd____B : parseMethodDescriptor "()[B" = some ⟨[], some (.array .byte)⟩ := by decide +kernel
theorem dj42_150_5 : decode jdk_42_method_150_code 5 = .ok (.invokevirtual 552, 3) := by decide +kernel
theorem dj42_150_8 : decode jdk_42_method_150_code 8 = .ok (.astore_n 3, 1) := by decide +kernel
theorem dj42_150_9 : decode jdk_42_method_150_code 9 = .ok (.aload_n 1, 1) := by decide +kernel
theorem dj42_150_10 : decode jdk_42_method_150_code 10 = .ok (.invokevirtual 549, 3) := by decide +kernel
theorem dj42_150_13 : decode jdk_42_method_150_code 13 = .ok (.istore 4, 2) := by decide +kernel
theorem dj42_150_15 : decode jdk_42_method_150_code 15 = .ok (.aload_n 1, 1) := by decide +kernel
theorem pd___Z : parseMethodDescriptor "()Z" = some ⟨[], some .boolean⟩ := by decide +kernel
theorem dj42_150_16 : decode jdk_42_method_150_code 16 = .ok (.invokevirtual 1047, 3) := by decide +kernel
theorem dj42_150_19 : decode jdk_42_method_150_code 19 = .ok (.ifCond .eq 22, 3) := by decide +kernel
theorem dj42_150_22 : decode jdk_42_method_150_code 22 = .ok (.aload_n 0, 1) := by decide +kernel
theorem dj42_150_23 : decode jdk_42_method_150_code 23 = .ok (.iconst 0, 1) := by decide +kernel
theorem dj42_150_24 : decode jdk_42_method_150_code 24 = .ok (.putfield 15, 3) := by decide +kernel
theorem dj42_150_27 : decode jdk_42_method_150_code 27 = .ok (.aload_n 0, 1) := by decide +kernel
theorem dj42_150_28 : decode jdk_42_method_150_code 28 = .ok (.aload_n 3, 1) := by decide +kernel
theorem dj42_150_29 : decode jdk_42_method_150_code 29 = .ok (.iconst 0, 1) := by decide +kernel
theorem dj42_150_30 : decode jdk_42_method_150_code 30 = .ok (.iload 4, 2) := by decide +kernel
theorem dj42_150_32 : decode jdk_42_method_150_code 32 = .ok (.invokestatic 54, 3) := by decide +kernel
theorem dj42_150_35 : decode jdk_42_method_150_code 35 = .ok (.putfield 9, 3) := by decide +kernel
theorem dj42_150_38 : decode jdk_42_method_150_code 38 = .ok (.goto 59, 3) := by decide +kernel
theorem dj42_150_97 : decode jdk_42_method_150_code 97 = .ok (.return_, 1) := by decide +kernel
theorem dj42_53_0 : decode jdk_42_method_53_code 0 = .ok (.aload_n 0, 1) := by decide +kernel
theorem dj42_53_1 : decode jdk_42_method_53_code 1 = .ok (.aload_n 1, 1) := by decide +kernel
theorem dj42_53_2 : decode jdk_42_method_53_code 2 = .ok (.aconst_null, 1) := by decide +kernel
theorem pd__Ljava_lang_AbstractStringBuilder_Ljava_lang_Void__V : parseMethodDescriptor "(Ljava/lang/AbstractStringBuilder;Ljava/lang/Void;)V" = some ⟨[(.object "java/lang/AbstractStringBuilder"), (.object "java/lang/Void")], none⟩ := by decide +kernel
theorem dj42_53_3 : decode jdk_42_method_53_code 3 = .ok (.invokespecial 489, 3) := by decide +kernel
theorem dj42_53_6 : decode jdk_42_method_53_code 6 = .ok (.return_, 1) := by decide +kernel
theorem dj67_42_0 : decode jdk_67_method_42_code 0 = .ok (.new 18, 3) := by decide +kernel
theorem dj67_42_3 : decode jdk_67_method_42_code 3 = .ok (.dup, 1) := by decide +kernel
theorem dj67_42_4 : decode jdk_67_method_42_code 4 = .ok (.aload_n 0, 1) := by decide +kernel
theorem pd__Ljava_lang_StringBuilder__V : parseMethodDescriptor "(Ljava/lang/StringBuilder;)V" = some ⟨[(.object "java/lang/StringBuilder")], none⟩ := by decide +kernel
theorem dj67_42_5 : decode jdk_67_method_42_code 5 = .ok (.invokespecial 137, 3) := by decide +kernel
theorem dj67_42_8 : decode jdk_67_method_42_code 8 = .ok (.areturn, 1) := by decide +kernel
theorem pn_java_lang_Integer : plainName "java/lang/Integer" = true := by first | (simp [plainName, overriddenIn]; done) | decide +kernel
theorem dj33_13_0 : decode jdk_33_method_13_code 0 = .ok (.iconst 1, 1) := by decide +kernel
theorem dj33_13_1 : decode jdk_33_method_13_code 1 = .ok (.istore_n 1, 1) := by decide +kernel
theorem dj33_13_2 : decode jdk_33_method_13_code 2 = .ok (.iload_n 0, 1) := by decide +kernel
theorem dj33_13_3 : decode jdk_33_method_13_code 3 = .ok (.ifCond .lt 8, 3) := by decide +kernel
theorem dj33_13_11 : decode jdk_33_method_13_code 11 = .ok (.bipush (-10), 2) := by decide +kernel
theorem dj33_13_13 : decode jdk_33_method_13_code 13 = .ok (.istore_n 2, 1) := by decide +kernel
theorem dj33_13_14 : decode jdk_33_method_13_code 14 = .ok (.iconst 1, 1) := by decide +kernel
theorem dj33_13_15 : decode jdk_33_method_13_code 15 = .ok (.istore_n 3, 1) := by decide +kernel
theorem dj33_13_16 : decode jdk_33_method_13_code 16 = .ok (.iload_n 3, 1) := by decide +kernel
theorem dj33_13_17 : decode jdk_33_method_13_code 17 = .ok (.bipush 10, 2) := by decide +kernel
theorem dj33_13_19 : decode jdk_33_method_13_code 19 = .ok (.if_icmp .ge 23, 3) := by decide +kernel
theorem dj33_13_22 : decode jdk_33_method_13_code 22 = .ok (.iload_n 0, 1) := by decide +kernel
theorem dj33_13_23 : decode jdk_33_method_13_code 23 = .ok (.iload_n 2, 1) := by decide +kernel
theorem dj33_13_24 : decode jdk_33_method_13_code 24 = .ok (.if_icmp .le 7, 3) := by decide +kernel
theorem dj33_13_27 : decode jdk_33_method_13_code 27 = .ok (.iload_n 3, 1) := by decide +kernel
theorem dj33_13_28 : decode jdk_33_method_13_code 28 = .ok (.iload_n 1, 1) := by decide +kernel
theorem dj33_13_29 : decode jdk_33_method_13_code 29 = .ok (.iadd, 1) := by decide +kernel
theorem dj33_13_30 : decode jdk_33_method_13_code 30 = .ok (.ireturn, 1) := by decide +kernel
theorem dj33_13_31 : decode jdk_33_method_13_code 31 = .ok (.bipush 10, 2) := by decide +kernel
theorem dj33_13_33 : decode jdk_33_method_13_code 33 = .ok (.iload_n 2, 1) := by decide +kernel
theorem dj33_13_34 : decode jdk_33_method_13_code 34 = .ok (.imul, 1) := by decide +kernel
theorem dj33_13_35 : decode jdk_33_method_13_code 35 = .ok (.istore_n 2, 1) := by decide +kernel
theorem dj33_13_36 : decode jdk_33_method_13_code 36 = .ok (.iinc 3 1, 3) := by decide +kernel
theorem dj33_13_39 : decode jdk_33_method_13_code 39 = .ok (.goto (-23), 3) := by decide +kernel
theorem dj33_13_42 : decode jdk_33_method_13_code 42 = .ok (.bipush 10, 2) := by decide +kernel
theorem dj33_13_44 : decode jdk_33_method_13_code 44 = .ok (.iload_n 1, 1) := by decide +kernel
theorem dj33_13_45 : decode jdk_33_method_13_code 45 = .ok (.iadd, 1) := by decide +kernel
theorem dj33_13_46 : decode jdk_33_method_13_code 46 = .ok (.ireturn, 1) := by decide +kernel
theorem dj33_13_6 : decode jdk_33_method_13_code 6 = .ok (.iconst 0, 1) := by decide +kernel
theorem dj33_13_7 : decode jdk_33_method_13_code 7 = .ok (.istore_n 1, 1) := by decide +kernel
theorem dj33_13_8 : decode jdk_33_method_13_code 8 = .ok (.iload_n 0, 1) := by decide +kernel
theorem dj33_13_9 : decode jdk_33_method_13_code 9 = .ok (.ineg, 1) := by decide +kernel
theorem dj33_13_10 : decode jdk_33_method_13_code 10 = .ok (.istore_n 0, 1) := by decide +kernel
theorem dj33_12_22 : decode jdk_33_method_12_code 22 = .ok (.iload_n 0, 1) := by decide +kernel
theorem dj33_12_23 : decode jdk_33_method_12_code 23 = .ok (.bipush (-100), 2) := by decide +kernel
theorem dj33_12_25 : decode jdk_33_method_12_code 25 = .ok (.if_icmp .gt 47, 3) := by decide +kernel
theorem dj33_12_28 : decode jdk_33_method_12_code 28 = .ok (.iload_n 0, 1) := by decide +kernel
theorem dj33_12_29 : decode jdk_33_method_12_code 29 = .ok (.bipush 100, 2) := by decide +kernel
theorem dj33_12_31 : decode jdk_33_method_12_code 31 = .ok (.idiv, 1) := by decide +kernel
theorem dj33_12_32 : decode jdk_33_method_12_code 32 = .ok (.istore_n 3, 1) := by decide +kernel
theorem dj33_12_33 : decode jdk_33_method_12_code 33 = .ok (.iload_n 3, 1) := by decide +kernel
theorem dj33_12_34 : decode jdk_33_method_12_code 34 = .ok (.bipush 100, 2) := by decide +kernel
theorem dj33_12_36 : decode jdk_33_method_12_code 36 = .ok (.imul, 1) := by decide +kernel
theorem dj33_12_37 : decode jdk_33_method_12_code 37 = .ok (.iload_n 0, 1) := by decide +kernel
theorem dj33_12_38 : decode jdk_33_method_12_code 38 = .ok (.isub, 1) := by decide +kernel
theorem dj33_12_39 : decode jdk_33_method_12_code 39 = .ok (.istore 4, 2) := by decide +kernel
theorem dj33_12_41 : decode jdk_33_method_12_code 41 = .ok (.iload_n 3, 1) := by decide +kernel
theorem dj33_12_42 : decode jdk_33_method_12_code 42 = .ok (.istore_n 0, 1) := by decide +kernel
theorem dj33_12_43 : decode jdk_33_method_12_code 43 = .ok (.aload_n 2, 1) := by decide +kernel
theorem dj33_12_44 : decode jdk_33_method_12_code 44 = .ok (.iinc 5 (-1), 3) := by decide +kernel
theorem dj33_12_47 : decode jdk_33_method_12_code 47 = .ok (.iload 5, 2) := by decide +kernel
theorem dj33_12_49 : decode jdk_33_method_12_code 49 = .ok (.getstatic 83, 3) := by decide +kernel
theorem dj33_12_52 : decode jdk_33_method_12_code 52 = .ok (.iload 4, 2) := by decide +kernel
theorem dj33_12_54 : decode jdk_33_method_12_code 54 = .ok (.baload, 1) := by decide +kernel
theorem dj33_12_55 : decode jdk_33_method_12_code 55 = .ok (.bastore, 1) := by decide +kernel
theorem dj33_12_56 : decode jdk_33_method_12_code 56 = .ok (.aload_n 2, 1) := by decide +kernel
theorem dj33_12_57 : decode jdk_33_method_12_code 57 = .ok (.iinc 5 (-1), 3) := by decide +kernel
theorem dj33_12_60 : decode jdk_33_method_12_code 60 = .ok (.iload 5, 2) := by decide +kernel
theorem dj33_12_62 : decode jdk_33_method_12_code 62 = .ok (.getstatic 87, 3) := by decide +kernel
theorem dj33_12_65 : decode jdk_33_method_12_code 65 = .ok (.iload 4, 2) := by decide +kernel
theorem dj33_12_67 : decode jdk_33_method_12_code 67 = .ok (.baload, 1) := by decide +kernel
theorem dj33_12_68 : decode jdk_33_method_12_code 68 = .ok (.bastore, 1) := by decide +kernel
theorem dj33_12_69 : decode jdk_33_method_12_code 69 = .ok (.goto (-47), 3) := by decide +kernel
theorem dj33_12_72 : decode jdk_33_method_12_code 72 = .ok (.aload_n 2, 1) := by decide +kernel
theorem dj33_12_73 : decode jdk_33_method_12_code 73 = .ok (.iinc 5 (-1), 3) := by decide +kernel
theorem dj33_12_76 : decode jdk_33_method_12_code 76 = .ok (.iload 5, 2) := by decide +kernel
theorem dj33_12_78 : decode jdk_33_method_12_code 78 = .ok (.getstatic 83, 3) := by decide +kernel
theorem dj33_12_81 : decode jdk_33_method_12_code 81 = .ok (.iload_n 0, 1) := by decide +kernel
theorem dj33_12_82 : decode jdk_33_method_12_code 82 = .ok (.ineg, 1) := by decide +kernel
theorem dj33_12_83 : decode jdk_33_method_12_code 83 = .ok (.baload, 1) := by decide +kernel
theorem dj33_12_84 : decode jdk_33_method_12_code 84 = .ok (.bastore, 1) := by decide +kernel
theorem dj33_12_85 : decode jdk_33_method_12_code 85 = .ok (.iload_n 0, 1) := by decide +kernel
theorem dj33_12_86 : decode jdk_33_method_12_code 86 = .ok (.bipush (-9), 2) := by decide +kernel
theorem dj33_12_88 : decode jdk_33_method_12_code 88 = .ok (.if_icmp .ge 16, 3) := by decide +kernel
theorem dj33_12_104 : decode jdk_33_method_12_code 104 = .ok (.iload 6, 2) := by decide +kernel
theorem dj33_12_106 : decode jdk_33_method_12_code 106 = .ok (.ifCond .eq 12, 3) := by decide +kernel
theorem dj33_12_91 : decode jdk_33_method_12_code 91 = .ok (.aload_n 2, 1) := by decide +kernel
theorem dj33_12_92 : decode jdk_33_method_12_code 92 = .ok (.iinc 5 (-1), 3) := by decide +kernel
theorem dj33_12_95 : decode jdk_33_method_12_code 95 = .ok (.iload 5, 2) := by decide +kernel
theorem dj33_12_97 : decode jdk_33_method_12_code 97 = .ok (.getstatic 87, 3) := by decide +kernel
theorem dj33_12_100 : decode jdk_33_method_12_code 100 = .ok (.iload_n 0, 1) := by decide +kernel
theorem dj33_12_101 : decode jdk_33_method_12_code 101 = .ok (.ineg, 1) := by decide +kernel
theorem dj33_12_102 : decode jdk_33_method_12_code 102 = .ok (.baload, 1) := by decide +kernel
theorem dj33_12_103 : decode jdk_33_method_12_code 103 = .ok (.bastore, 1) := by decide +kernel
theorem dj33_12_109 : decode jdk_33_method_12_code 109 = .ok (.aload_n 2, 1) := by decide +kernel
theorem dj33_12_110 : decode jdk_33_method_12_code 110 = .ok (.iinc 5 (-1), 3) := by decide +kernel
theorem dj33_12_113 : decode jdk_33_method_12_code 113 = .ok (.iload 5, 2) := by decide +kernel
theorem dj33_12_115 : decode jdk_33_method_12_code 115 = .ok (.bipush 45, 2) := by decide +kernel
theorem dj33_12_117 : decode jdk_33_method_12_code 117 = .ok (.bastore, 1) := by decide +kernel
theorem dj33_12_0 : decode jdk_33_method_12_code 0 = .ok (.iload_n 1, 1) := by decide +kernel
theorem dj33_12_1 : decode jdk_33_method_12_code 1 = .ok (.istore 5, 2) := by decide +kernel
theorem dj33_12_3 : decode jdk_33_method_12_code 3 = .ok (.iload_n 0, 1) := by decide +kernel
theorem dj33_12_4 : decode jdk_33_method_12_code 4 = .ok (.ifCond .ge 7, 3) := by decide +kernel
theorem dj33_12_11 : decode jdk_33_method_12_code 11 = .ok (.iconst 0, 1) := by decide +kernel
theorem dj33_12_12 : decode jdk_33_method_12_code 12 = .ok (.istore 6, 2) := by decide +kernel
theorem dj33_12_14 : decode jdk_33_method_12_code 14 = .ok (.iload 6, 2) := by decide +kernel
theorem dj33_12_16 : decode jdk_33_method_12_code 16 = .ok (.ifCond .ne 6, 3) := by decide +kernel
theorem dj33_12_19 : decode jdk_33_method_12_code 19 = .ok (.iload_n 0, 1) := by decide +kernel
theorem dj33_12_20 : decode jdk_33_method_12_code 20 = .ok (.ineg, 1) := by decide +kernel
theorem dj33_12_21 : decode jdk_33_method_12_code 21 = .ok (.istore_n 0, 1) := by decide +kernel
theorem dj33_12_118 : decode jdk_33_method_12_code 118 = .ok (.iload 5, 2) := by decide +kernel
theorem dj33_12_120 : decode jdk_33_method_12_code 120 = .ok (.ireturn, 1) := by decide +kernel
theorem dj33_12_7 : decode jdk_33_method_12_code 7 = .ok (.iconst 1, 1) := by decide +kernel
theorem dj33_12_8 : decode jdk_33_method_12_code 8 = .ok (.goto 4, 3) := by decide +kernel
theorem dj68_32_0 : decode jdk_68_method_32_code 0 = .ok (.aload_n 0, 1) := by decide +kernel
theorem dj68_32_1 : decode jdk_68_method_32_code 1 = .ok (.getfield 79, 3) := by decide +kernel
theorem dj68_32_4 : decode jdk_68_method_32_code 4 = .ok (.istore_n 2, 1) := by decide +kernel
theorem dj68_32_5 : decode jdk_68_method_32_code 5 = .ok (.iload_n 2, 1) := by decide +kernel
theorem dj68_32_6 : decode jdk_68_method_32_code 6 = .ok (.iload_n 1, 1) := by decide +kernel
theorem dj68_32_7 : decode jdk_68_method_32_code 7 = .ok (.invokestatic 245, 3) := by decide +kernel
theorem dj68_32_10 : decode jdk_68_method_32_code 10 = .ok (.iadd, 1) := by decide +kernel
theorem dj68_32_11 : decode jdk_68_method_32_code 11 = .ok (.istore_n 3, 1) := by decide +kernel
theorem dj68_32_12 : decode jdk_68_method_32_code 12 = .ok (.aload_n 0, 1) := by decide +kernel
theorem dj68_32_13 : decode jdk_68_method_32_code 13 = .ok (.iload_n 3, 1) := by decide +kernel
theorem dj68_32_14 : decode jdk_68_method_32_code 14 = .ok (.invokevirtual 100, 3) := by decide +kernel
theorem dj68_32_17 : decode jdk_68_method_32_code 17 = .ok (.aload_n 0, 1) := by decide +kernel
theorem dj68_32_18 : decode jdk_68_method_32_code 18 = .ok (.invokevirtual 83, 3) := by decide +kernel
theorem dj68_32_21 : decode jdk_68_method_32_code 21 = .ok (.ifCond .eq 16, 3) := by decide +kernel
theorem dj68_32_24 : decode jdk_68_method_32_code 24 = .ok (.iload_n 1, 1) := by decide +kernel
theorem dj68_32_25 : decode jdk_68_method_32_code 25 = .ok (.iload_n 3, 1) := by decide +kernel
theorem dj68_32_26 : decode jdk_68_method_32_code 26 = .ok (.aload_n 0, 1) := by decide +kernel
theorem dj68_32_27 : decode jdk_68_method_32_code 27 = .ok (.getfield 15, 3) := by decide +kernel
theorem pd__II_B_I : parseMethodDescriptor "(II[B)I" = some ⟨[.int, .int, (.array .byte)], some .int⟩ := by decide +kernel
theorem dj68_32_30 : decode jdk_68_method_32_code 30 = .ok (.invokestatic 248, 3) := by decide +kernel
theorem dj68_32_33 : decode jdk_68_method_32_code 33 = .ok (.pop, 1) := by decide +kernel
theorem dj68_32_34 : decode jdk_68_method_32_code 34 = .ok (.goto 14, 3) := by decide +kernel
theorem dj68_32_48 : decode jdk_68_method_32_code 48 = .ok (.aload_n 0, 1) := by decide +kernel
theorem dj68_32_49 : decode jdk_68_method_32_code 49 = .ok (.iload_n 3, 1) := by decide +kernel
theorem dj68_32_50 : decode jdk_68_method_32_code 50 = .ok (.putfield 79, 3) := by decide +kernel
theorem dj68_32_53 : decode jdk_68_method_32_code 53 = .ok (.aload_n 0, 1) := by decide +kernel
theorem dj68_32_54 : decode jdk_68_method_32_code 54 = .ok (.areturn, 1) := by decide +kernel
theorem dj67_15_0 : decode jdk_67_method_15_code 0 = .ok (.aload_n 0, 1) := by decide +kernel
theorem dj67_15_1 : decode jdk_67_method_15_code 1 = .ok (.iload_n 1, 1) := by decide +kernel
theorem pd__I_Ljava_lang_AbstractStringBuilder_ : parseMethodDescriptor "(I)Ljava/lang/AbstractStringBuilder;" = some ⟨[.int], some (.object "java/lang/AbstractStringBuilder")⟩ := by decide +kernel
theorem dj67_15_2 : decode jdk_67_method_15_code 2 = .ok (.invokespecial 53, 3) := by decide +kernel
theorem dj67_15_5 : decode jdk_67_method_15_code 5 = .ok (.pop, 1) := by decide +kernel
theorem dj67_15_6 : decode jdk_67_method_15_code 6 = .ok (.aload_n 0, 1) := by decide +kernel
theorem dj67_15_7 : decode jdk_67_method_15_code 7 = .ok (.areturn, 1) := by decide +kernel
theorem pn_java_lang_Throwable : plainName "java/lang/Throwable" = true := by first | (simp [plainName, overriddenIn]; done) | decide +kernel
theorem dj78_2_0 : decode jdk_78_method_2_code 0 = .ok (.aload_n 0, 1) := by decide +kernel
theorem dj78_2_1 : decode jdk_78_method_2_code 1 = .ok (.invokespecial 1, 3) := by decide +kernel
theorem dj78_2_4 : decode jdk_78_method_2_code 4 = .ok (.aload_n 0, 1) := by decide +kernel
theorem dj78_2_5 : decode jdk_78_method_2_code 5 = .ok (.aload_n 0, 1) := by decide +kernel
theorem dj78_2_6 : decode jdk_78_method_2_code 6 = .ok (.putfield 7, 3) := by decide +kernel
theorem dj78_2_9 : decode jdk_78_method_2_code 9 = .ok (.aload_n 0, 1) := by decide +kernel
theorem dj78_2_10 : decode jdk_78_method_2_code 10 = .ok (.getstatic 13, 3) := by decide +kernel
theorem dj78_2_13 : decode jdk_78_method_2_code 13 = .ok (.putfield 17, 3) := by decide +kernel
theorem dj78_2_16 : decode jdk_78_method_2_code 16 = .ok (.aload_n 0, 1) := by decide +kernel
theorem dj78_2_17 : decode jdk_78_method_2_code 17 = .ok (.getstatic 20, 3) := by decide +kernel
theorem dj78_2_20 : decode jdk_78_method_2_code 20 = .ok (.putfield 24, 3) := by decide +kernel
theorem dj78_2_23 : decode jdk_78_method_2_code 23 = .ok (.aload_n 0, 1) := by decide +kernel
theorem dj78_2_24 : decode jdk_78_method_2_code 24 = .ok (.invokevirtual 27, 3) := by decide +kernel
theorem dj78_2_27 : decode jdk_78_method_2_code 27 = .ok (.pop, 1) := by decide +kernel
theorem dj78_2_28 : decode jdk_78_method_2_code 28 = .ok (.aload_n 0, 1) := by decide +kernel
theorem dj78_2_29 : decode jdk_78_method_2_code 29 = .ok (.aload_n 1, 1) := by decide +kernel
theorem dj78_2_30 : decode jdk_78_method_2_code 30 = .ok (.putfield 31, 3) := by decide +kernel
theorem dj78_2_33 : decode jdk_78_method_2_code 33 = .ok (.return_, 1) := by decide +kernel
theorem pn_java_lang_Exception : plainName "java/lang/Exception" = true := by first | (simp [plainName, overriddenIn]; done) | decide +kernel
theorem dj59_2_0 : decode jdk_59_method_2_code 0 = .ok (.aload_n 0, 1) := by decide +kernel
theorem dj59_2_1 : decode jdk_59_method_2_code 1 = .ok (.aload_n 1, 1) := by decide +kernel
theorem dj59_2_2 : decode jdk_59_method_2_code 2 = .ok (.invokespecial 7, 3) := by decide +kernel
theorem dj59_2_5 : decode jdk_59_method_2_code 5 = .ok (.return_, 1) := by decide +kernel
theorem pn_java_io_IOException : plainName "java/io/IOException" = true := by first | (simp [plainName, overriddenIn]; done) | decide +kernel
theorem dj131_2_0 : decode jdk_131_method_2_code 0 = .ok (.aload_n 0, 1) := by decide +kernel
theorem dj131_2_1 : decode jdk_131_method_2_code 1 = .ok (.aload_n 1, 1) := by decide +kernel
theorem dj131_2_2 : decode jdk_131_method_2_code 2 = .ok (.invokespecial 7, 3) := by decide +kernel
theorem dj131_2_5 : decode jdk_131_method_2_code 5 = .ok (.return_, 1) := by decide +kernel
theorem pn_com_example_carovita_carovita_index_CsvFormatException : plainName "com/example/carovita/carovita/index/CsvFormatException" = true := by first | (simp [plainName, overriddenIn]; done) | decide +kernel
theorem dp36_1_0 : decode prog_36_method_1_code 0 = .ok (.aload_n 0, 1) := by decide +kernel
theorem dp36_1_1 : decode prog_36_method_1_code 1 = .ok (.new 1, 3) := by decide +kernel
theorem dp36_1_4 : decode prog_36_method_1_code 4 = .ok (.dup, 1) := by decide +kernel
theorem pd___V : parseMethodDescriptor "()V" = some ⟨[], none⟩ := by decide +kernel
theorem dp36_1_5 : decode prog_36_method_1_code 5 = .ok (.invokespecial 3, 3) := by decide +kernel
theorem dp36_1_8 : decode prog_36_method_1_code 8 = .ok (.ldc 7, 2) := by decide +kernel
theorem pd__Ljava_lang_String__Ljava_lang_StringBuilder_ : parseMethodDescriptor "(Ljava/lang/String;)Ljava/lang/StringBuilder;" = some ⟨[(.object "java/lang/String")], some (.object "java/lang/StringBuilder")⟩ := by decide +kernel
theorem dp36_1_10 : decode prog_36_method_1_code 10 = .ok (.invokevirtual 9, 3) := by decide +kernel
theorem dp36_1_13 : decode prog_36_method_1_code 13 = .ok (.iload_n 1, 1) := by decide +kernel
theorem pd__I_Ljava_lang_StringBuilder_ : parseMethodDescriptor "(I)Ljava/lang/StringBuilder;" = some ⟨[.int], some (.object "java/lang/StringBuilder")⟩ := by decide +kernel
theorem dp36_1_14 : decode prog_36_method_1_code 14 = .ok (.invokevirtual 13, 3) := by decide +kernel
theorem dp36_1_17 : decode prog_36_method_1_code 17 = .ok (.ldc 16, 2) := by decide +kernel
theorem dp36_1_19 : decode prog_36_method_1_code 19 = .ok (.invokevirtual 9, 3) := by decide +kernel
theorem dp36_1_22 : decode prog_36_method_1_code 22 = .ok (.aload_n 2, 1) := by decide +kernel
theorem dp36_1_23 : decode prog_36_method_1_code 23 = .ok (.invokevirtual 9, 3) := by decide +kernel
theorem pd___Ljava_lang_String_ : parseMethodDescriptor "()Ljava/lang/String;" = some ⟨[], some (.object "java/lang/String")⟩ := by decide +kernel
theorem dp36_1_26 : decode prog_36_method_1_code 26 = .ok (.invokevirtual 18, 3) := by decide +kernel
theorem dp36_1_29 : decode prog_36_method_1_code 29 = .ok (.invokespecial 22, 3) := by decide +kernel
theorem dp36_1_32 : decode prog_36_method_1_code 32 = .ok (.aload_n 0, 1) := by decide +kernel
theorem dp36_1_33 : decode prog_36_method_1_code 33 = .ok (.iload_n 1, 1) := by decide +kernel
theorem dp36_1_34 : decode prog_36_method_1_code 34 = .ok (.putfield 27, 3) := by decide +kernel
theorem dp36_1_37 : decode prog_36_method_1_code 37 = .ok (.return_, 1) := by decide +kernel
theorem dp36_2_0 : decode prog_36_method_2_code 0 = .ok (.new 28, 3) := by decide +kernel
theorem dp36_2_3 : decode prog_36_method_2_code 3 = .ok (.dup, 1) := by decide +kernel
theorem dp36_2_4 : decode prog_36_method_2_code 4 = .ok (.iload_n 0, 1) := by decide +kernel
theorem dp36_2_5 : decode prog_36_method_2_code 5 = .ok (.new 1, 3) := by decide +kernel
theorem dp36_2_8 : decode prog_36_method_2_code 8 = .ok (.dup, 1) := by decide +kernel
theorem dp36_2_9 : decode prog_36_method_2_code 9 = .ok (.invokespecial 3, 3) := by decide +kernel
theorem dp36_2_12 : decode prog_36_method_2_code 12 = .ok (.aload_n 1, 1) := by decide +kernel
theorem dp36_2_13 : decode prog_36_method_2_code 13 = .ok (.invokevirtual 9, 3) := by decide +kernel
theorem dp36_2_16 : decode prog_36_method_2_code 16 = .ok (.ldc 33, 2) := by decide +kernel
theorem dp36_2_18 : decode prog_36_method_2_code 18 = .ok (.invokevirtual 9, 3) := by decide +kernel
theorem dp36_2_21 : decode prog_36_method_2_code 21 = .ok (.iload_n 2, 1) := by decide +kernel
theorem dp36_2_22 : decode prog_36_method_2_code 22 = .ok (.invokevirtual 13, 3) := by decide +kernel
theorem dp36_2_25 : decode prog_36_method_2_code 25 = .ok (.invokevirtual 18, 3) := by decide +kernel
theorem dp36_2_28 : decode prog_36_method_2_code 28 = .ok (.invokespecial 35, 3) := by decide +kernel
theorem dp36_2_31 : decode prog_36_method_2_code 31 = .ok (.areturn, 1) := by decide +kernel
theorem dp36_3_0 : decode prog_36_method_3_code 0 = .ok (.aload_n 0, 1) := by decide +kernel
theorem dp36_3_1 : decode prog_36_method_3_code 1 = .ok (.getfield 27, 3) := by decide +kernel
theorem dp36_3_4 : decode prog_36_method_3_code 4 = .ok (.ireturn, 1) := by decide +kernel
theorem dj78_6_0 : decode jdk_78_method_6_code 0 = .ok (.aload_n 0, 1) := by decide +kernel
theorem dj78_6_1 : decode jdk_78_method_6_code 1 = .ok (.getfield 31, 3) := by decide +kernel
theorem dj78_6_4 : decode jdk_78_method_6_code 4 = .ok (.areturn, 1) := by decide +kernel
theorem pn_java_lang_StringLatin1 : plainName "java/lang/StringLatin1" = true := by first | (simp [plainName, overriddenIn]; done) | decide +kernel
theorem dj43_13_0 : decode jdk_43_method_13_code 0 = .ok (.aload_n 0, 1) := by decide +kernel
theorem dj43_13_1 : decode jdk_43_method_13_code 1 = .ok (.arraylength, 1) := by decide +kernel
theorem dj43_13_2 : decode jdk_43_method_13_code 2 = .ok (.aload_n 1, 1) := by decide +kernel
theorem dj43_13_3 : decode jdk_43_method_13_code 3 = .ok (.arraylength, 1) := by decide +kernel
theorem dj43_13_4 : decode jdk_43_method_13_code 4 = .ok (.if_icmp .ne 30, 3) := by decide +kernel
theorem dj43_13_7 : decode jdk_43_method_13_code 7 = .ok (.iconst 0, 1) := by decide +kernel
theorem dj43_13_8 : decode jdk_43_method_13_code 8 = .ok (.istore_n 2, 1) := by decide +kernel
theorem dj43_13_9 : decode jdk_43_method_13_code 9 = .ok (.iload_n 2, 1) := by decide +kernel
theorem dj43_13_10 : decode jdk_43_method_13_code 10 = .ok (.aload_n 0, 1) := by decide +kernel
theorem dj43_13_11 : decode jdk_43_method_13_code 11 = .ok (.arraylength, 1) := by decide +kernel
theorem dj43_13_12 : decode jdk_43_method_13_code 12 = .ok (.if_icmp .ge 20, 3) := by decide +kernel
theorem dj43_13_32 : decode jdk_43_method_13_code 32 = .ok (.iconst 1, 1) := by decide +kernel
theorem dj43_13_33 : decode jdk_43_method_13_code 33 = .ok (.ireturn, 1) := by decide +kernel
theorem dj43_13_15 : decode jdk_43_method_13_code 15 = .ok (.aload_n 0, 1) := by decide +kernel
theorem dj43_13_16 : decode jdk_43_method_13_code 16 = .ok (.iload_n 2, 1) := by decide +kernel
theorem dj43_13_17 : decode jdk_43_method_13_code 17 = .ok (.baload, 1) := by decide +kernel
theorem dj43_13_18 : decode jdk_43_method_13_code 18 = .ok (.aload_n 1, 1) := by decide +kernel
theorem dj43_13_19 : decode jdk_43_method_13_code 19 = .ok (.iload_n 2, 1) := by decide +kernel
theorem dj43_13_20 : decode jdk_43_method_13_code 20 = .ok (.baload, 1) := by decide +kernel
theorem dj43_13_21 : decode jdk_43_method_13_code 21 = .ok (.if_icmp .eq 5, 3) := by decide +kernel
theorem dj43_13_26 : decode jdk_43_method_13_code 26 = .ok (.iinc 2 1, 3) := by decide +kernel
theorem dj43_13_29 : decode jdk_43_method_13_code 29 = .ok (.goto (-20), 3) := by decide +kernel
theorem dj42_66_0 : decode jdk_42_method_66_code 0 = .ok (.aload_n 0, 1) := by decide +kernel
theorem dj42_66_1 : decode jdk_42_method_66_code 1 = .ok (.aload_n 1, 1) := by decide +kernel
theorem dj42_66_2 : decode jdk_42_method_66_code 2 = .ok (.if_acmp .ne 5, 3) := by decide +kernel
theorem dj42_66_5 : decode jdk_42_method_66_code 5 = .ok (.iconst 1, 1) := by decide +kernel
theorem dj42_66_6 : decode jdk_42_method_66_code 6 = .ok (.ireturn, 1) := by decide +kernel
theorem dj42_66_7 : decode jdk_42_method_66_code 7 = .ok (.aload_n 1, 1) := by decide +kernel
theorem dj42_66_8 : decode jdk_42_method_66_code 8 = .ok (.instanceof 10, 3) := by decide +kernel
theorem dj42_66_11 : decode jdk_42_method_66_code 11 = .ok (.ifCond .eq 43, 3) := by decide +kernel
theorem dj42_66_14 : decode jdk_42_method_66_code 14 = .ok (.aload_n 1, 1) := by decide +kernel
theorem dj42_66_15 : decode jdk_42_method_66_code 15 = .ok (.checkcast 10, 3) := by decide +kernel
theorem dj42_66_18 : decode jdk_42_method_66_code 18 = .ok (.astore_n 2, 1) := by decide +kernel
theorem dj42_66_19 : decode jdk_42_method_66_code 19 = .ok (.getstatic 38, 3) := by decide +kernel
theorem dj42_66_22 : decode jdk_42_method_66_code 22 = .ok (.ifCond .eq 14, 3) := by decide +kernel
theorem dj42_66_25 : decode jdk_42_method_66_code 25 = .ok (.aload_n 0, 1) := by decide +kernel
theorem dj42_66_26 : decode jdk_42_method_66_code 26 = .ok (.getfield 15, 3) := by decide +kernel
theorem dj42_66_29 : decode jdk_42_method_66_code 29 = .ok (.aload_n 2, 1) := by decide +kernel
theorem dj42_66_30 : decode jdk_42_method_66_code 30 = .ok (.getfield 15, 3) := by decide +kernel
theorem dj42_66_33 : decode jdk_42_method_66_code 33 = .ok (.if_icmp .ne 21, 3) := by decide +kernel
theorem dj42_66_36 : decode jdk_42_method_66_code 36 = .ok (.aload_n 0, 1) := by decide +kernel
theorem dj42_66_37 : decode jdk_42_method_66_code 37 = .ok (.getfield 9, 3) := by decide +kernel
theorem dj42_66_40 : decode jdk_42_method_66_code 40 = .ok (.aload_n 2, 1) := by decide +kernel
theorem dj42_66_41 : decode jdk_42_method_66_code 41 = .ok (.getfield 9, 3) := by decide +kernel
theorem pd___B_B_Z : parseMethodDescriptor "([B[B)Z" = some ⟨[(.array .byte), (.array .byte)], some .boolean⟩ := by decide +kernel
theorem dj42_66_44 : decode jdk_42_method_66_code 44 = .ok (.invokestatic 541, 3) := by decide +kernel
theorem dj42_66_47 : decode jdk_42_method_66_code 47 = .ok (.ifCond .eq 7, 3) := by decide +kernel
theorem dj42_66_50 : decode jdk_42_method_66_code 50 = .ok (.iconst 1, 1) := by decide +kernel
theorem dj42_66_51 : decode jdk_42_method_66_code 51 = .ok (.goto 4, 3) := by decide +kernel
theorem dj42_66_55 : decode jdk_42_method_66_code 55 = .ok (.ireturn, 1) := by decide +kernel
theorem pn_java_lang_StringUTF16 : plainName "java/lang/StringUTF16" = true := by first | (simp [plainName, overriddenIn]; done) | decide +kernel
theorem dj52_21_0 : decode jdk_52_method_21_code 0 = .ok (.iconst 0, 1) := by decide +kernel
theorem dj52_21_1 : decode jdk_52_method_21_code 1 = .ok (.istore 5, 2) := by decide +kernel
theorem dj52_21_3 : decode jdk_52_method_21_code 3 = .ok (.iload 5, 2) := by decide +kernel
theorem dj52_21_5 : decode jdk_52_method_21_code 5 = .ok (.iload 4, 2) := by decide +kernel
theorem dj52_21_7 : decode jdk_52_method_21_code 7 = .ok (.if_icmp .ge 37, 3) := by decide +kernel
theorem dj52_21_10 : decode jdk_52_method_21_code 10 = .ok (.aload_n 0, 1) := by decide +kernel
theorem dj52_21_11 : decode jdk_52_method_21_code 11 = .ok (.iload_n 1, 1) := by decide +kernel
theorem dj52_21_12 : decode jdk_52_method_21_code 12 = .ok (.caload, 1) := by decide +kernel
theorem dj52_21_13 : decode jdk_52_method_21_code 13 = .ok (.istore 6, 2) := by decide +kernel
theorem dj52_21_15 : decode jdk_52_method_21_code 15 = .ok (.iload 6, 2) := by decide +kernel
theorem dj52_21_17 : decode jdk_52_method_21_code 17 = .ok (.sipush 255, 3) := by decide +kernel
theorem dj52_21_20 : decode jdk_52_method_21_code 20 = .ok (.if_icmp .le 6, 3) := by decide +kernel
theorem dj52_21_26 : decode jdk_52_method_21_code 26 = .ok (.aload_n 2, 1) := by decide +kernel
theorem dj52_21_27 : decode jdk_52_method_21_code 27 = .ok (.iload_n 3, 1) := by decide +kernel
theorem dj52_21_28 : decode jdk_52_method_21_code 28 = .ok (.iload 6, 2) := by decide +kernel
theorem dj52_21_30 : decode jdk_52_method_21_code 30 = .ok (.i2b, 1) := by decide +kernel
theorem dj52_21_31 : decode jdk_52_method_21_code 31 = .ok (.bastore, 1) := by decide +kernel
theorem dj52_21_32 : decode jdk_52_method_21_code 32 = .ok (.iinc 1 1, 3) := by decide +kernel
theorem dj52_21_35 : decode jdk_52_method_21_code 35 = .ok (.iinc 3 1, 3) := by decide +kernel
theorem dj52_21_38 : decode jdk_52_method_21_code 38 = .ok (.iinc 5 1, 3) := by decide +kernel
theorem dj52_21_41 : decode jdk_52_method_21_code 41 = .ok (.goto (-38), 3) := by decide +kernel
theorem dj52_21_44 : decode jdk_52_method_21_code 44 = .ok (.iload 4, 2) := by decide +kernel
theorem dj52_21_46 : decode jdk_52_method_21_code 46 = .ok (.ireturn, 1) := by decide +kernel
theorem dj52_16_0 : decode jdk_52_method_16_code 0 = .ok (.iload_n 2, 1) := by decide +kernel
theorem dj52_16_1 : decode jdk_52_method_16_code 1 = .ok (.newarray .byte, 2) := by decide +kernel
theorem dj52_16_3 : decode jdk_52_method_16_code 3 = .ok (.astore_n 3, 1) := by decide +kernel
theorem dj52_16_4 : decode jdk_52_method_16_code 4 = .ok (.aload_n 0, 1) := by decide +kernel
theorem dj52_16_5 : decode jdk_52_method_16_code 5 = .ok (.iload_n 1, 1) := by decide +kernel
theorem dj52_16_6 : decode jdk_52_method_16_code 6 = .ok (.aload_n 3, 1) := by decide +kernel
theorem dj52_16_7 : decode jdk_52_method_16_code 7 = .ok (.iconst 0, 1) := by decide +kernel
theorem dj52_16_8 : decode jdk_52_method_16_code 8 = .ok (.iload_n 2, 1) := by decide +kernel
theorem pd___CI_BII_I : parseMethodDescriptor "([CI[BII)I" = some ⟨[(.array .char), .int, (.array .byte), .int, .int], some .int⟩ := by decide +kernel
theorem dj52_16_9 : decode jdk_52_method_16_code 9 = .ok (.invokestatic 115, 3) := by decide +kernel
theorem dj52_16_12 : decode jdk_52_method_16_code 12 = .ok (.istore 4, 2) := by decide +kernel
theorem dj52_16_14 : decode jdk_52_method_16_code 14 = .ok (.iload 4, 2) := by decide +kernel
theorem dj52_16_16 : decode jdk_52_method_16_code 16 = .ok (.iload_n 2, 1) := by decide +kernel
theorem dj52_16_17 : decode jdk_52_method_16_code 17 = .ok (.if_icmp .eq 40, 3) := by decide +kernel
theorem dj52_16_57 : decode jdk_52_method_16_code 57 = .ok (.aload_n 3, 1) := by decide +kernel
theorem dj52_16_58 : decode jdk_52_method_16_code 58 = .ok (.areturn, 1) := by decide +kernel
theorem dj52_15_0 : decode jdk_52_method_15_code 0 = .ok (.iload_n 1, 1) := by decide +kernel
theorem dj52_15_1 : decode jdk_52_method_15_code 1 = .ok (.aload_n 0, 1) := by decide +kernel
theorem dj52_15_2 : decode jdk_52_method_15_code 2 = .ok (.arraylength, 1) := by decide +kernel
theorem dj52_15_3 : decode jdk_52_method_15_code 3 = .ok (.isub, 1) := by decide +kernel
theorem dj52_15_4 : decode jdk_52_method_15_code 4 = .ok (.bipush 31, 2) := by decide +kernel
theorem dj52_15_6 : decode jdk_52_method_15_code 6 = .ok (.iushr, 1) := by decide +kernel
theorem dj52_15_7 : decode jdk_52_method_15_code 7 = .ok (.i2b, 1) := by decide +kernel
theorem dj52_15_8 : decode jdk_52_method_15_code 8 = .ok (.ireturn, 1) := by decide +kernel
theorem dj42_149_0 : decode jdk_42_method_149_code 0 = .ok (.aload_n 0, 1) := by decide +kernel
theorem dj42_149_1 : decode jdk_42_method_149_code 1 = .ok (.invokespecial 1, 3) := by decide +kernel
theorem dj42_149_4 : decode jdk_42_method_149_code 4 = .ok (.iload_n 3, 1) := by decide +kernel
theorem dj42_149_5 : decode jdk_42_method_149_code 5 = .ok (.ifCond .ne 22, 3) := by decide +kernel
theorem dj42_149_27 : decode jdk_42_method_149_code 27 = .ok (.getstatic 38, 3) := by decide +kernel
theorem dj42_149_30 : decode jdk_42_method_149_code 30 = .ok (.ifCond .eq 28, 3) := by decide +kernel
theorem dj42_149_33 : decode jdk_42_method_149_code 33 = .ok (.aload_n 1, 1) := by decide +kernel
theorem dj42_149_34 : decode jdk_42_method_149_code 34 = .ok (.iload_n 2, 1) := by decide +kernel
theorem dj42_149_35 : decode jdk_42_method_149_code 35 = .ok (.iload_n 3, 1) := by decide +kernel
theorem pd___CII__B : parseMethodDescriptor "([CII)[B" = some ⟨[(.array .char), .int, .int], some (.array .byte)⟩ := by decide +kernel
theorem dj42_149_36 : decode jdk_42_method_149_code 36 = .ok (.invokestatic 177, 3) := by decide +kernel
theorem dj42_149_39 : decode jdk_42_method_149_code 39 = .ok (.astore 5, 2) := by decide +kernel
theorem dj42_149_41 : decode jdk_42_method_149_code 41 = .ok (.aload_n 0, 1) := by decide +kernel
theorem dj42_149_42 : decode jdk_42_method_149_code 42 = .ok (.aload 5, 2) := by decide +kernel
theorem dj42_149_44 : decode jdk_42_method_149_code 44 = .ok (.iload_n 3, 1) := by decide +kernel
theorem pd___BI_B : parseMethodDescriptor "([BI)B" = some ⟨[(.array .byte), .int], some .byte⟩ := by decide +kernel
theorem dj42_149_45 : decode jdk_42_method_149_code 45 = .ok (.invokestatic 47, 3) := by decide +kernel
theorem dj42_149_48 : decode jdk_42_method_149_code 48 = .ok (.putfield 15, 3) := by decide +kernel
theorem dj42_149_51 : decode jdk_42_method_149_code 51 = .ok (.aload_n 0, 1) := by decide +kernel
theorem dj42_149_52 : decode jdk_42_method_149_code 52 = .ok (.aload 5, 2) := by decide +kernel
theorem dj42_149_54 : decode jdk_42_method_149_code 54 = .ok (.putfield 9, 3) := by decide +kernel
theorem dj42_149_57 : decode jdk_42_method_149_code 57 = .ok (.return_, 1) := by decide +kernel
theorem dj42_3_0 : decode jdk_42_method_3_code 0 = .ok (.aload_n 0, 1) := by decide +kernel
theorem dj42_3_1 : decode jdk_42_method_3_code 1 = .ok (.aload_n 1, 1) := by decide +kernel
theorem dj42_3_2 : decode jdk_42_method_3_code 2 = .ok (.iconst 0, 1) := by decide +kernel
theorem dj42_3_3 : decode jdk_42_method_3_code 3 = .ok (.aload_n 1, 1) := by decide +kernel
theorem dj42_3_4 : decode jdk_42_method_3_code 4 = .ok (.arraylength, 1) := by decide +kernel
theorem dj42_3_5 : decode jdk_42_method_3_code 5 = .ok (.aconst_null, 1) := by decide +kernel
theorem pd___CIILjava_lang_Void__V : parseMethodDescriptor "([CIILjava/lang/Void;)V" = some ⟨[(.array .char), .int, .int, (.object "java/lang/Void")], none⟩ := by decide +kernel
theorem dj42_3_6 : decode jdk_42_method_3_code 6 = .ok (.invokespecial 27, 3) := by decide +kernel
theorem dj42_3_9 : decode jdk_42_method_3_code 9 = .ok (.return_, 1) := by decide +kernel
theorem pn_com_example_carovita_carovita_index_CsvFormatExceptionGivenTwicePinLaw : plainName "com/example/carovita/carovita/index/CsvFormatExceptionGivenTwicePinLaw" = true := by first | (simp [plainName, overriddenIn]; done) | decide +kernel
theorem pd___C_V : parseMethodDescriptor "([C)V" = some ⟨[(.array .char)], none⟩ := by decide +kernel
theorem pd__ILjava_lang_String_I_Lcom_example_carovita_carovita_index_CsvFormatException_ : parseMethodDescriptor "(ILjava/lang/String;I)Lcom/example/carovita/carovita/index/CsvFormatException;" = some ⟨[.int, (.object "java/lang/String"), .int], some (.object "com/example/carovita/carovita/index/CsvFormatException")⟩ := by decide +kernel
theorem pd__Ljava_lang_Object__Z : parseMethodDescriptor "(Ljava/lang/Object;)Z" = some ⟨[(.object "java/lang/Object")], some .boolean⟩ := by decide +kernel
abbrev tw_0 {Z : State} {a0 : Array Value} (hw : oW a0 Z) := hw _ (List.mem_of_getElem? (i := 0) rfl)
abbrev tw_1 {Z : State} {a0 : Array Value} (hw : oW a0 Z) := hw _ (List.mem_of_getElem? (i := 1) rfl)
abbrev tw_2 {Z : State} {a0 : Array Value} (hw : oW a0 Z) := hw _ (List.mem_of_getElem? (i := 2) rfl)
abbrev tw_3 {Z : State} {a0 : Array Value} (hw : oW a0 Z) := hw _ (List.mem_of_getElem? (i := 3) rfl)
abbrev tw_4 {Z : State} {a0 : Array Value} (hw : oW a0 Z) := hw _ (List.mem_of_getElem? (i := 4) rfl)
abbrev tw_5 {Z : State} {a0 : Array Value} (hw : oW a0 Z) := hw _ (List.mem_of_getElem? (i := 5) rfl)
abbrev tw_6 {Z : State} {a0 : Array Value} (hw : oW a0 Z) := hw _ (List.mem_of_getElem? (i := 6) rfl)
abbrev tw_7 {Z : State} {a0 : Array Value} (hw : oW a0 Z) := hw _ (List.mem_of_getElem? (i := 7) rfl)
abbrev tw_8 {Z : State} {a0 : Array Value} (hw : oW a0 Z) := hw _ (List.mem_of_getElem? (i := 8) rfl)
abbrev tw_9 {Z : State} {a0 : Array Value} (hw : oW a0 Z) := hw _ (List.mem_of_getElem? (i := 9) rfl)
abbrev tw_11 {Z : State} {a0 : Array Value} (hw : oW a0 Z) := hw _ (List.mem_of_getElem? (i := 11) rfl)
abbrev tw_12 {Z : State} {a0 : Array Value} (hw : oW a0 Z) := hw _ (List.mem_of_getElem? (i := 12) rfl)
abbrev tw_13 {Z : State} {a0 : Array Value} (hw : oW a0 Z) := hw _ (List.mem_of_getElem? (i := 13) rfl)
abbrev tw_14 {Z : State} {a0 : Array Value} (hw : oW a0 Z) := hw _ (List.mem_of_getElem? (i := 14) rfl)
abbrev tw_15 {Z : State} {a0 : Array Value} (hw : oW a0 Z) := hw _ (List.mem_of_getElem? (i := 15) rfl)
abbrev tw_16 {Z : State} {a0 : Array Value} (hw : oW a0 Z) := hw _ (List.mem_of_getElem? (i := 16) rfl)
abbrev tw_17 {Z : State} {a0 : Array Value} (hw : oW a0 Z) := hw _ (List.mem_of_getElem? (i := 17) rfl)
abbrev tw_18 {Z : State} {a0 : Array Value} (hw : oW a0 Z) := hw _ (List.mem_of_getElem? (i := 18) rfl)
abbrev tw_19 {Z : State} {a0 : Array Value} (hw : oW a0 Z) := hw _ (List.mem_of_getElem? (i := 19) rfl)
abbrev tw_20 {Z : State} {a0 : Array Value} (hw : oW a0 Z) := hw _ (List.mem_of_getElem? (i := 20) rfl)
abbrev tw_21 {Z : State} {a0 : Array Value} (hw : oW a0 Z) := hw _ (List.mem_of_getElem? (i := 21) rfl)
abbrev tw_22 {Z : State} {a0 : Array Value} (hw : oW a0 Z) := hw _ (List.mem_of_getElem? (i := 22) rfl)
abbrev tw_23 {Z : State} {a0 : Array Value} (hw : oW a0 Z) := hw _ (List.mem_of_getElem? (i := 23) rfl)
abbrev tw_24 {Z : State} {a0 : Array Value} (hw : oW a0 Z) := hw _ (List.mem_of_getElem? (i := 24) rfl)
abbrev tw_25 {Z : State} {a0 : Array Value} (hw : oW a0 Z) := hw _ (List.mem_of_getElem? (i := 25) rfl)
abbrev tw_26 {Z : State} {a0 : Array Value} (hw : oW a0 Z) := hw _ (List.mem_of_getElem? (i := 26) rfl)
abbrev tw_27 {Z : State} {a0 : Array Value} (hw : oW a0 Z) := hw _ (List.mem_of_getElem? (i := 27) rfl)
abbrev tw_28 {Z : State} {a0 : Array Value} (hw : oW a0 Z) := hw _ (List.mem_of_getElem? (i := 28) rfl)
abbrev tw_29 {Z : State} {a0 : Array Value} (hw : oW a0 Z) := hw _ (List.mem_of_getElem? (i := 29) rfl)
abbrev tw_30 {Z : State} {a0 : Array Value} (hw : oW a0 Z) := hw _ (List.mem_of_getElem? (i := 30) rfl)
abbrev tw_31 {Z : State} {a0 : Array Value} (hw : oW a0 Z) := hw _ (List.mem_of_getElem? (i := 31) rfl)
abbrev tw_32 {Z : State} {a0 : Array Value} (hw : oW a0 Z) := hw _ (List.mem_of_getElem? (i := 32) rfl)
abbrev tw_33 {Z : State} {a0 : Array Value} (hw : oW a0 Z) := hw _ (List.mem_of_getElem? (i := 33) rfl)
abbrev tw_34 {Z : State} {a0 : Array Value} (hw : oW a0 Z) := hw _ (List.mem_of_getElem? (i := 34) rfl)
abbrev tw_35 {Z : State} {a0 : Array Value} (hw : oW a0 Z) := hw _ (List.mem_of_getElem? (i := 35) rfl)
abbrev tw_36 {Z : State} {a0 : Array Value} (hw : oW a0 Z) := hw _ (List.mem_of_getElem? (i := 36) rfl)
abbrev tw_37 {Z : State} {a0 : Array Value} (hw : oW a0 Z) := hw _ (List.mem_of_getElem? (i := 37) rfl)
abbrev tw_38 {Z : State} {a0 : Array Value} (hw : oW a0 Z) := hw _ (List.mem_of_getElem? (i := 38) rfl)
abbrev tw_39 {Z : State} {a0 : Array Value} (hw : oW a0 Z) := hw _ (List.mem_of_getElem? (i := 39) rfl)
abbrev tw_40 {Z : State} {a0 : Array Value} (hw : oW a0 Z) := hw _ (List.mem_of_getElem? (i := 40) rfl)
abbrev tw_41 {Z : State} {a0 : Array Value} (hw : oW a0 Z) := hw _ (List.mem_of_getElem? (i := 41) rfl)
abbrev tw_42 {Z : State} {a0 : Array Value} (hw : oW a0 Z) := hw _ (List.mem_of_getElem? (i := 42) rfl)
abbrev tw_43 {Z : State} {a0 : Array Value} (hw : oW a0 Z) := hw _ (List.mem_of_getElem? (i := 43) rfl)
abbrev tw_44 {Z : State} {a0 : Array Value} (hw : oW a0 Z) := hw _ (List.mem_of_getElem? (i := 44) rfl)
abbrev tw_47 {Z : State} {a0 : Array Value} (hw : oW a0 Z) := hw _ (List.mem_of_getElem? (i := 47) rfl)
abbrev tw_48 {Z : State} {a0 : Array Value} (hw : oW a0 Z) := hw _ (List.mem_of_getElem? (i := 48) rfl)
abbrev tw_49 {Z : State} {a0 : Array Value} (hw : oW a0 Z) := hw _ (List.mem_of_getElem? (i := 49) rfl)
abbrev tw_50 {Z : State} {a0 : Array Value} (hw : oW a0 Z) := hw _ (List.mem_of_getElem? (i := 50) rfl)
abbrev tw_51 {Z : State} {a0 : Array Value} (hw : oW a0 Z) := hw _ (List.mem_of_getElem? (i := 51) rfl)
abbrev tw_52 {Z : State} {a0 : Array Value} (hw : oW a0 Z) := hw _ (List.mem_of_getElem? (i := 52) rfl)
abbrev tw_53 {Z : State} {a0 : Array Value} (hw : oW a0 Z) := hw _ (List.mem_of_getElem? (i := 53) rfl)
abbrev tw_54 {Z : State} {a0 : Array Value} (hw : oW a0 Z) := hw _ (List.mem_of_getElem? (i := 54) rfl)
abbrev tw_55 {Z : State} {a0 : Array Value} (hw : oW a0 Z) := hw _ (List.mem_of_getElem? (i := 55) rfl)
abbrev tw_56 {Z : State} {a0 : Array Value} (hw : oW a0 Z) := hw _ (List.mem_of_getElem? (i := 56) rfl)
abbrev tw_57 {Z : State} {a0 : Array Value} (hw : oW a0 Z) := hw _ (List.mem_of_getElem? (i := 57) rfl)
abbrev tw_58 {Z : State} {a0 : Array Value} (hw : oW a0 Z) := hw _ (List.mem_of_getElem? (i := 58) rfl)
abbrev tw_59 {Z : State} {a0 : Array Value} (hw : oW a0 Z) := hw _ (List.mem_of_getElem? (i := 59) rfl)
abbrev tw_60 {Z : State} {a0 : Array Value} (hw : oW a0 Z) := hw _ (List.mem_of_getElem? (i := 60) rfl)
abbrev tw_61 {Z : State} {a0 : Array Value} (hw : oW a0 Z) := hw _ (List.mem_of_getElem? (i := 61) rfl)
abbrev tw_62 {Z : State} {a0 : Array Value} (hw : oW a0 Z) := hw _ (List.mem_of_getElem? (i := 62) rfl)
abbrev tw_63 {Z : State} {a0 : Array Value} (hw : oW a0 Z) := hw _ (List.mem_of_getElem? (i := 63) rfl)
abbrev tw_64 {Z : State} {a0 : Array Value} (hw : oW a0 Z) := hw _ (List.mem_of_getElem? (i := 64) rfl)
abbrev tw_65 {Z : State} {a0 : Array Value} (hw : oW a0 Z) := hw _ (List.mem_of_getElem? (i := 65) rfl)
abbrev tw_66 {Z : State} {a0 : Array Value} (hw : oW a0 Z) := hw _ (List.mem_of_getElem? (i := 66) rfl)
abbrev tw_67 {Z : State} {a0 : Array Value} (hw : oW a0 Z) := hw _ (List.mem_of_getElem? (i := 67) rfl)
abbrev tw_68 {Z : State} {a0 : Array Value} (hw : oW a0 Z) := hw _ (List.mem_of_getElem? (i := 68) rfl)
abbrev tw_69 {Z : State} {a0 : Array Value} (hw : oW a0 Z) := hw _ (List.mem_of_getElem? (i := 69) rfl)
abbrev tw_70 {Z : State} {a0 : Array Value} (hw : oW a0 Z) := hw _ (List.mem_of_getElem? (i := 70) rfl)
abbrev tw_71 {Z : State} {a0 : Array Value} (hw : oW a0 Z) := hw _ (List.mem_of_getElem? (i := 71) rfl)
abbrev tw_72 {Z : State} {a0 : Array Value} (hw : oW a0 Z) := hw _ (List.mem_of_getElem? (i := 72) rfl)
abbrev tw_73 {Z : State} {a0 : Array Value} (hw : oW a0 Z) := hw _ (List.mem_of_getElem? (i := 73) rfl)
abbrev tw_74 {Z : State} {a0 : Array Value} (hw : oW a0 Z) := hw _ (List.mem_of_getElem? (i := 74) rfl)
abbrev tw_75 {Z : State} {a0 : Array Value} (hw : oW a0 Z) := hw _ (List.mem_of_getElem? (i := 75) rfl)
abbrev tw_76 {Z : State} {a0 : Array Value} (hw : oW a0 Z) := hw _ (List.mem_of_getElem? (i := 76) rfl)
abbrev tw_77 {Z : State} {a0 : Array Value} (hw : oW a0 Z) := hw _ (List.mem_of_getElem? (i := 77) rfl)
abbrev tw_78 {Z : State} {a0 : Array Value} (hw : oW a0 Z) := hw _ (List.mem_of_getElem? (i := 78) rfl)
abbrev tw_79 {Z : State} {a0 : Array Value} (hw : oW a0 Z) := hw _ (List.mem_of_getElem? (i := 79) rfl)
abbrev tw_80 {Z : State} {a0 : Array Value} (hw : oW a0 Z) := hw _ (List.mem_of_getElem? (i := 80) rfl)
abbrev tw_81 {Z : State} {a0 : Array Value} (hw : oW a0 Z) := hw _ (List.mem_of_getElem? (i := 81) rfl)
abbrev tw_82 {Z : State} {a0 : Array Value} (hw : oW a0 Z) := hw _ (List.mem_of_getElem? (i := 82) rfl)
abbrev tw_83 {Z : State} {a0 : Array Value} (hw : oW a0 Z) := hw _ (List.mem_of_getElem? (i := 83) rfl)
abbrev tw_84 {Z : State} {a0 : Array Value} (hw : oW a0 Z) := hw _ (List.mem_of_getElem? (i := 84) rfl)
abbrev tw_85 {Z : State} {a0 : Array Value} (hw : oW a0 Z) := hw _ (List.mem_of_getElem? (i := 85) rfl)
abbrev tw_86 {Z : State} {a0 : Array Value} (hw : oW a0 Z) := hw _ (List.mem_of_getElem? (i := 86) rfl)
abbrev tw_87 {Z : State} {a0 : Array Value} (hw : oW a0 Z) := hw _ (List.mem_of_getElem? (i := 87) rfl)
abbrev tw_88 {Z : State} {a0 : Array Value} (hw : oW a0 Z) := hw _ (List.mem_of_getElem? (i := 88) rfl)
abbrev tw_89 {Z : State} {a0 : Array Value} (hw : oW a0 Z) := hw _ (List.mem_of_getElem? (i := 89) rfl)
abbrev tw_90 {Z : State} {a0 : Array Value} (hw : oW a0 Z) := hw _ (List.mem_of_getElem? (i := 90) rfl)
abbrev tw_91 {Z : State} {a0 : Array Value} (hw : oW a0 Z) := hw _ (List.mem_of_getElem? (i := 91) rfl)
abbrev tw_92 {Z : State} {a0 : Array Value} (hw : oW a0 Z) := hw _ (List.mem_of_getElem? (i := 92) rfl)
abbrev tw_93 {Z : State} {a0 : Array Value} (hw : oW a0 Z) := hw _ (List.mem_of_getElem? (i := 93) rfl)
abbrev tw_94 {Z : State} {a0 : Array Value} (hw : oW a0 Z) := hw _ (List.mem_of_getElem? (i := 94) rfl)
abbrev tw_95 {Z : State} {a0 : Array Value} (hw : oW a0 Z) := hw _ (List.mem_of_getElem? (i := 95) rfl)
abbrev tw_96 {Z : State} {a0 : Array Value} (hw : oW a0 Z) := hw _ (List.mem_of_getElem? (i := 96) rfl)
abbrev tw_97 {Z : State} {a0 : Array Value} (hw : oW a0 Z) := hw _ (List.mem_of_getElem? (i := 97) rfl)
abbrev tw_98 {Z : State} {a0 : Array Value} (hw : oW a0 Z) := hw _ (List.mem_of_getElem? (i := 98) rfl)
abbrev tw_99 {Z : State} {a0 : Array Value} (hw : oW a0 Z) := hw _ (List.mem_of_getElem? (i := 99) rfl)
abbrev tw_100 {Z : State} {a0 : Array Value} (hw : oW a0 Z) := hw _ (List.mem_of_getElem? (i := 100) rfl)
abbrev tw_101 {Z : State} {a0 : Array Value} (hw : oW a0 Z) := hw _ (List.mem_of_getElem? (i := 101) rfl)
abbrev tw_102 {Z : State} {a0 : Array Value} (hw : oW a0 Z) := hw _ (List.mem_of_getElem? (i := 102) rfl)
abbrev tw_103 {Z : State} {a0 : Array Value} (hw : oW a0 Z) := hw _ (List.mem_of_getElem? (i := 103) rfl)
abbrev tw_104 {Z : State} {a0 : Array Value} (hw : oW a0 Z) := hw _ (List.mem_of_getElem? (i := 104) rfl)
abbrev tw_105 {Z : State} {a0 : Array Value} (hw : oW a0 Z) := hw _ (List.mem_of_getElem? (i := 105) rfl)
abbrev tw_106 {Z : State} {a0 : Array Value} (hw : oW a0 Z) := hw _ (List.mem_of_getElem? (i := 106) rfl)
abbrev tw_107 {Z : State} {a0 : Array Value} (hw : oW a0 Z) := hw _ (List.mem_of_getElem? (i := 107) rfl)
abbrev tw_108 {Z : State} {a0 : Array Value} (hw : oW a0 Z) := hw _ (List.mem_of_getElem? (i := 108) rfl)
abbrev tw_109 {Z : State} {a0 : Array Value} (hw : oW a0 Z) := hw _ (List.mem_of_getElem? (i := 109) rfl)
abbrev tw_110 {Z : State} {a0 : Array Value} (hw : oW a0 Z) := hw _ (List.mem_of_getElem? (i := 110) rfl)
abbrev tw_111 {Z : State} {a0 : Array Value} (hw : oW a0 Z) := hw _ (List.mem_of_getElem? (i := 111) rfl)
abbrev tw_112 {Z : State} {a0 : Array Value} (hw : oW a0 Z) := hw _ (List.mem_of_getElem? (i := 112) rfl)
abbrev tw_113 {Z : State} {a0 : Array Value} (hw : oW a0 Z) := hw _ (List.mem_of_getElem? (i := 113) rfl)
abbrev tw_114 {Z : State} {a0 : Array Value} (hw : oW a0 Z) := hw _ (List.mem_of_getElem? (i := 114) rfl)
abbrev tw_115 {Z : State} {a0 : Array Value} (hw : oW a0 Z) := hw _ (List.mem_of_getElem? (i := 115) rfl)
abbrev tw_116 {Z : State} {a0 : Array Value} (hw : oW a0 Z) := hw _ (List.mem_of_getElem? (i := 116) rfl)
abbrev tw_117 {Z : State} {a0 : Array Value} (hw : oW a0 Z) := hw _ (List.mem_of_getElem? (i := 117) rfl)
abbrev tw_118 {Z : State} {a0 : Array Value} (hw : oW a0 Z) := hw _ (List.mem_of_getElem? (i := 118) rfl)
abbrev tw_119 {Z : State} {a0 : Array Value} (hw : oW a0 Z) := hw _ (List.mem_of_getElem? (i := 119) rfl)
abbrev tw_120 {Z : State} {a0 : Array Value} (hw : oW a0 Z) := hw _ (List.mem_of_getElem? (i := 120) rfl)
abbrev tw_121 {Z : State} {a0 : Array Value} (hw : oW a0 Z) := hw _ (List.mem_of_getElem? (i := 121) rfl)
abbrev tw_122 {Z : State} {a0 : Array Value} (hw : oW a0 Z) := hw _ (List.mem_of_getElem? (i := 122) rfl)
abbrev tw_123 {Z : State} {a0 : Array Value} (hw : oW a0 Z) := hw _ (List.mem_of_getElem? (i := 123) rfl)
abbrev tw_124 {Z : State} {a0 : Array Value} (hw : oW a0 Z) := hw _ (List.mem_of_getElem? (i := 124) rfl)
abbrev tw_125 {Z : State} {a0 : Array Value} (hw : oW a0 Z) := hw _ (List.mem_of_getElem? (i := 125) rfl)
abbrev tw_126 {Z : State} {a0 : Array Value} (hw : oW a0 Z) := hw _ (List.mem_of_getElem? (i := 126) rfl)
abbrev tw_127 {Z : State} {a0 : Array Value} (hw : oW a0 Z) := hw _ (List.mem_of_getElem? (i := 127) rfl)
abbrev tw_128 {Z : State} {a0 : Array Value} (hw : oW a0 Z) := hw _ (List.mem_of_getElem? (i := 128) rfl)
abbrev tw_129 {Z : State} {a0 : Array Value} (hw : oW a0 Z) := hw _ (List.mem_of_getElem? (i := 129) rfl)
abbrev tw_130 {Z : State} {a0 : Array Value} (hw : oW a0 Z) := hw _ (List.mem_of_getElem? (i := 130) rfl)
abbrev tw_131 {Z : State} {a0 : Array Value} (hw : oW a0 Z) := hw _ (List.mem_of_getElem? (i := 131) rfl)
abbrev tw_132 {Z : State} {a0 : Array Value} (hw : oW a0 Z) := hw _ (List.mem_of_getElem? (i := 132) rfl)
abbrev tw_133 {Z : State} {a0 : Array Value} (hw : oW a0 Z) := hw _ (List.mem_of_getElem? (i := 133) rfl)
abbrev tw_134 {Z : State} {a0 : Array Value} (hw : oW a0 Z) := hw _ (List.mem_of_getElem? (i := 134) rfl)
abbrev tw_135 {Z : State} {a0 : Array Value} (hw : oW a0 Z) := hw _ (List.mem_of_getElem? (i := 135) rfl)
abbrev tw_136 {Z : State} {a0 : Array Value} (hw : oW a0 Z) := hw _ (List.mem_of_getElem? (i := 136) rfl)
abbrev tw_137 {Z : State} {a0 : Array Value} (hw : oW a0 Z) := hw _ (List.mem_of_getElem? (i := 137) rfl)
abbrev tw_138 {Z : State} {a0 : Array Value} (hw : oW a0 Z) := hw _ (List.mem_of_getElem? (i := 138) rfl)
abbrev tw_139 {Z : State} {a0 : Array Value} (hw : oW a0 Z) := hw _ (List.mem_of_getElem? (i := 139) rfl)
abbrev tw_140 {Z : State} {a0 : Array Value} (hw : oW a0 Z) := hw _ (List.mem_of_getElem? (i := 140) rfl)
abbrev tw_141 {Z : State} {a0 : Array Value} (hw : oW a0 Z) := hw _ (List.mem_of_getElem? (i := 141) rfl)
abbrev tw_142 {Z : State} {a0 : Array Value} (hw : oW a0 Z) := hw _ (List.mem_of_getElem? (i := 142) rfl)
abbrev tw_143 {Z : State} {a0 : Array Value} (hw : oW a0 Z) := hw _ (List.mem_of_getElem? (i := 143) rfl)
abbrev tw_144 {Z : State} {a0 : Array Value} (hw : oW a0 Z) := hw _ (List.mem_of_getElem? (i := 144) rfl)
abbrev tw_145 {Z : State} {a0 : Array Value} (hw : oW a0 Z) := hw _ (List.mem_of_getElem? (i := 145) rfl)
abbrev tw_146 {Z : State} {a0 : Array Value} (hw : oW a0 Z) := hw _ (List.mem_of_getElem? (i := 146) rfl)
abbrev tw_147 {Z : State} {a0 : Array Value} (hw : oW a0 Z) := hw _ (List.mem_of_getElem? (i := 147) rfl)
abbrev tw_148 {Z : State} {a0 : Array Value} (hw : oW a0 Z) := hw _ (List.mem_of_getElem? (i := 148) rfl)
abbrev tw_149 {Z : State} {a0 : Array Value} (hw : oW a0 Z) := hw _ (List.mem_of_getElem? (i := 149) rfl)
abbrev tw_150 {Z : State} {a0 : Array Value} (hw : oW a0 Z) := hw _ (List.mem_of_getElem? (i := 150) rfl)
abbrev tw_151 {Z : State} {a0 : Array Value} (hw : oW a0 Z) := hw _ (List.mem_of_getElem? (i := 151) rfl)
abbrev tw_152 {Z : State} {a0 : Array Value} (hw : oW a0 Z) := hw _ (List.mem_of_getElem? (i := 152) rfl)
abbrev tw_153 {Z : State} {a0 : Array Value} (hw : oW a0 Z) := hw _ (List.mem_of_getElem? (i := 153) rfl)
abbrev tw_154 {Z : State} {a0 : Array Value} (hw : oW a0 Z) := hw _ (List.mem_of_getElem? (i := 154) rfl)
abbrev tw_155 {Z : State} {a0 : Array Value} (hw : oW a0 Z) := hw _ (List.mem_of_getElem? (i := 155) rfl)
abbrev tw_156 {Z : State} {a0 : Array Value} (hw : oW a0 Z) := hw _ (List.mem_of_getElem? (i := 156) rfl)
abbrev tw_157 {Z : State} {a0 : Array Value} (hw : oW a0 Z) := hw _ (List.mem_of_getElem? (i := 157) rfl)
abbrev tw_158 {Z : State} {a0 : Array Value} (hw : oW a0 Z) := hw _ (List.mem_of_getElem? (i := 158) rfl)
abbrev tw_159 {Z : State} {a0 : Array Value} (hw : oW a0 Z) := hw _ (List.mem_of_getElem? (i := 159) rfl)
abbrev tw_160 {Z : State} {a0 : Array Value} (hw : oW a0 Z) := hw _ (List.mem_of_getElem? (i := 160) rfl)
abbrev tw_161 {Z : State} {a0 : Array Value} (hw : oW a0 Z) := hw _ (List.mem_of_getElem? (i := 161) rfl)
abbrev tw_162 {Z : State} {a0 : Array Value} (hw : oW a0 Z) := hw _ (List.mem_of_getElem? (i := 162) rfl)
abbrev tw_163 {Z : State} {a0 : Array Value} (hw : oW a0 Z) := hw _ (List.mem_of_getElem? (i := 163) rfl)
abbrev tw_164 {Z : State} {a0 : Array Value} (hw : oW a0 Z) := hw _ (List.mem_of_getElem? (i := 164) rfl)
abbrev tw_165 {Z : State} {a0 : Array Value} (hw : oW a0 Z) := hw _ (List.mem_of_getElem? (i := 165) rfl)
abbrev tw_166 {Z : State} {a0 : Array Value} (hw : oW a0 Z) := hw _ (List.mem_of_getElem? (i := 166) rfl)
abbrev tw_167 {Z : State} {a0 : Array Value} (hw : oW a0 Z) := hw _ (List.mem_of_getElem? (i := 167) rfl)
abbrev tw_168 {Z : State} {a0 : Array Value} (hw : oW a0 Z) := hw _ (List.mem_of_getElem? (i := 168) rfl)
abbrev tw_169 {Z : State} {a0 : Array Value} (hw : oW a0 Z) := hw _ (List.mem_of_getElem? (i := 169) rfl)
abbrev tw_170 {Z : State} {a0 : Array Value} (hw : oW a0 Z) := hw _ (List.mem_of_getElem? (i := 170) rfl)
abbrev tw_171 {Z : State} {a0 : Array Value} (hw : oW a0 Z) := hw _ (List.mem_of_getElem? (i := 171) rfl)
abbrev tw_172 {Z : State} {a0 : Array Value} (hw : oW a0 Z) := hw _ (List.mem_of_getElem? (i := 172) rfl)
abbrev tw_173 {Z : State} {a0 : Array Value} (hw : oW a0 Z) := hw _ (List.mem_of_getElem? (i := 173) rfl)
abbrev tw_174 {Z : State} {a0 : Array Value} (hw : oW a0 Z) := hw _ (List.mem_of_getElem? (i := 174) rfl)
abbrev tw_175 {Z : State} {a0 : Array Value} (hw : oW a0 Z) := hw _ (List.mem_of_getElem? (i := 175) rfl)
abbrev tw_176 {Z : State} {a0 : Array Value} (hw : oW a0 Z) := hw _ (List.mem_of_getElem? (i := 176) rfl)
abbrev tw_177 {Z : State} {a0 : Array Value} (hw : oW a0 Z) := hw _ (List.mem_of_getElem? (i := 177) rfl)
abbrev tw_178 {Z : State} {a0 : Array Value} (hw : oW a0 Z) := hw _ (List.mem_of_getElem? (i := 178) rfl)
abbrev tw_179 {Z : State} {a0 : Array Value} (hw : oW a0 Z) := hw _ (List.mem_of_getElem? (i := 179) rfl)
abbrev tw_180 {Z : State} {a0 : Array Value} (hw : oW a0 Z) := hw _ (List.mem_of_getElem? (i := 180) rfl)
abbrev tw_181 {Z : State} {a0 : Array Value} (hw : oW a0 Z) := hw _ (List.mem_of_getElem? (i := 181) rfl)
abbrev tw_183 {Z : State} {a0 : Array Value} (hw : oW a0 Z) := hw _ (List.mem_of_getElem? (i := 183) rfl)
abbrev tw_184 {Z : State} {a0 : Array Value} (hw : oW a0 Z) := hw _ (List.mem_of_getElem? (i := 184) rfl)
abbrev tw_185 {Z : State} {a0 : Array Value} (hw : oW a0 Z) := hw _ (List.mem_of_getElem? (i := 185) rfl)
abbrev tw_186 {Z : State} {a0 : Array Value} (hw : oW a0 Z) := hw _ (List.mem_of_getElem? (i := 186) rfl)
abbrev tw_187 {Z : State} {a0 : Array Value} (hw : oW a0 Z) := hw _ (List.mem_of_getElem? (i := 187) rfl)
abbrev tw_189 {Z : State} {a0 : Array Value} (hw : oW a0 Z) := hw _ (List.mem_of_getElem? (i := 189) rfl)
abbrev tw_190 {Z : State} {a0 : Array Value} (hw : oW a0 Z) := hw _ (List.mem_of_getElem? (i := 190) rfl)
abbrev tw_192 {Z : State} {a0 : Array Value} (hw : oW a0 Z) := hw _ (List.mem_of_getElem? (i := 192) rfl)
abbrev tw_193 {Z : State} {a0 : Array Value} (hw : oW a0 Z) := hw _ (List.mem_of_getElem? (i := 193) rfl)
abbrev tw_194 {Z : State} {a0 : Array Value} (hw : oW a0 Z) := hw _ (List.mem_of_getElem? (i := 194) rfl)
abbrev tw_195 {Z : State} {a0 : Array Value} (hw : oW a0 Z) := hw _ (List.mem_of_getElem? (i := 195) rfl)
abbrev tw_198 {Z : State} {a0 : Array Value} (hw : oW a0 Z) := hw _ (List.mem_of_getElem? (i := 198) rfl)
abbrev tw_199 {Z : State} {a0 : Array Value} (hw : oW a0 Z) := hw _ (List.mem_of_getElem? (i := 199) rfl)
abbrev tw_200 {Z : State} {a0 : Array Value} (hw : oW a0 Z) := hw _ (List.mem_of_getElem? (i := 200) rfl)
abbrev tw_201 {Z : State} {a0 : Array Value} (hw : oW a0 Z) := hw _ (List.mem_of_getElem? (i := 201) rfl)
abbrev tw_204 {Z : State} {a0 : Array Value} (hw : oW a0 Z) := hw _ (List.mem_of_getElem? (i := 204) rfl)
abbrev tw_205 {Z : State} {a0 : Array Value} (hw : oW a0 Z) := hw _ (List.mem_of_getElem? (i := 205) rfl)
abbrev tw_206 {Z : State} {a0 : Array Value} (hw : oW a0 Z) := hw _ (List.mem_of_getElem? (i := 206) rfl)
abbrev tw_207 {Z : State} {a0 : Array Value} (hw : oW a0 Z) := hw _ (List.mem_of_getElem? (i := 207) rfl)
abbrev tw_208 {Z : State} {a0 : Array Value} (hw : oW a0 Z) := hw _ (List.mem_of_getElem? (i := 208) rfl)
abbrev tw_209 {Z : State} {a0 : Array Value} (hw : oW a0 Z) := hw _ (List.mem_of_getElem? (i := 209) rfl)
abbrev tw_210 {Z : State} {a0 : Array Value} (hw : oW a0 Z) := hw _ (List.mem_of_getElem? (i := 210) rfl)
abbrev tw_211 {Z : State} {a0 : Array Value} (hw : oW a0 Z) := hw _ (List.mem_of_getElem? (i := 211) rfl)
abbrev tw_212 {Z : State} {a0 : Array Value} (hw : oW a0 Z) := hw _ (List.mem_of_getElem? (i := 212) rfl)
abbrev tw_213 {Z : State} {a0 : Array Value} (hw : oW a0 Z) := hw _ (List.mem_of_getElem? (i := 213) rfl)
abbrev tw_214 {Z : State} {a0 : Array Value} (hw : oW a0 Z) := hw _ (List.mem_of_getElem? (i := 214) rfl)
abbrev tw_215 {Z : State} {a0 : Array Value} (hw : oW a0 Z) := hw _ (List.mem_of_getElem? (i := 215) rfl)
abbrev tw_216 {Z : State} {a0 : Array Value} (hw : oW a0 Z) := hw _ (List.mem_of_getElem? (i := 216) rfl)
abbrev tw_217 {Z : State} {a0 : Array Value} (hw : oW a0 Z) := hw _ (List.mem_of_getElem? (i := 217) rfl)
abbrev tw_218 {Z : State} {a0 : Array Value} (hw : oW a0 Z) := hw _ (List.mem_of_getElem? (i := 218) rfl)
abbrev tw_219 {Z : State} {a0 : Array Value} (hw : oW a0 Z) := hw _ (List.mem_of_getElem? (i := 219) rfl)
abbrev tw_220 {Z : State} {a0 : Array Value} (hw : oW a0 Z) := hw _ (List.mem_of_getElem? (i := 220) rfl)
abbrev tw_221 {Z : State} {a0 : Array Value} (hw : oW a0 Z) := hw _ (List.mem_of_getElem? (i := 221) rfl)
abbrev tw_222 {Z : State} {a0 : Array Value} (hw : oW a0 Z) := hw _ (List.mem_of_getElem? (i := 222) rfl)
abbrev tw_223 {Z : State} {a0 : Array Value} (hw : oW a0 Z) := hw _ (List.mem_of_getElem? (i := 223) rfl)
abbrev tw_224 {Z : State} {a0 : Array Value} (hw : oW a0 Z) := hw _ (List.mem_of_getElem? (i := 224) rfl)
abbrev tw_225 {Z : State} {a0 : Array Value} (hw : oW a0 Z) := hw _ (List.mem_of_getElem? (i := 225) rfl)
abbrev tw_228 {Z : State} {a0 : Array Value} (hw : oW a0 Z) := hw _ (List.mem_of_getElem? (i := 228) rfl)
abbrev tw_233 {Z : State} {a0 : Array Value} (hw : oW a0 Z) := hw _ (List.mem_of_getElem? (i := 233) rfl)
abbrev tw_235 {Z : State} {a0 : Array Value} (hw : oW a0 Z) := hw _ (List.mem_of_getElem? (i := 235) rfl)
abbrev tw_236 {Z : State} {a0 : Array Value} (hw : oW a0 Z) := hw _ (List.mem_of_getElem? (i := 236) rfl)
abbrev tw_237 {Z : State} {a0 : Array Value} (hw : oW a0 Z) := hw _ (List.mem_of_getElem? (i := 237) rfl)
abbrev tw_238 {Z : State} {a0 : Array Value} (hw : oW a0 Z) := hw _ (List.mem_of_getElem? (i := 238) rfl)
abbrev tw_239 {Z : State} {a0 : Array Value} (hw : oW a0 Z) := hw _ (List.mem_of_getElem? (i := 239) rfl)
abbrev tw_240 {Z : State} {a0 : Array Value} (hw : oW a0 Z) := hw _ (List.mem_of_getElem? (i := 240) rfl)
abbrev tw_242 {Z : State} {a0 : Array Value} (hw : oW a0 Z) := hw _ (List.mem_of_getElem? (i := 242) rfl)
abbrev tw_243 {Z : State} {a0 : Array Value} (hw : oW a0 Z) := hw _ (List.mem_of_getElem? (i := 243) rfl)
abbrev tw_244 {Z : State} {a0 : Array Value} (hw : oW a0 Z) := hw _ (List.mem_of_getElem? (i := 244) rfl)
abbrev tw_245 {Z : State} {a0 : Array Value} (hw : oW a0 Z) := hw _ (List.mem_of_getElem? (i := 245) rfl)
abbrev tw_246 {Z : State} {a0 : Array Value} (hw : oW a0 Z) := hw _ (List.mem_of_getElem? (i := 246) rfl)
abbrev tw_247 {Z : State} {a0 : Array Value} (hw : oW a0 Z) := hw _ (List.mem_of_getElem? (i := 247) rfl)
abbrev tw_248 {Z : State} {a0 : Array Value} (hw : oW a0 Z) := hw _ (List.mem_of_getElem? (i := 248) rfl)
abbrev tw_249 {Z : State} {a0 : Array Value} (hw : oW a0 Z) := hw _ (List.mem_of_getElem? (i := 249) rfl)
abbrev tw_250 {Z : State} {a0 : Array Value} (hw : oW a0 Z) := hw _ (List.mem_of_getElem? (i := 250) rfl)
abbrev tw_251 {Z : State} {a0 : Array Value} (hw : oW a0 Z) := hw _ (List.mem_of_getElem? (i := 251) rfl)
abbrev tw_252 {Z : State} {a0 : Array Value} (hw : oW a0 Z) := hw _ (List.mem_of_getElem? (i := 252) rfl)
abbrev tw_253 {Z : State} {a0 : Array Value} (hw : oW a0 Z) := hw _ (List.mem_of_getElem? (i := 253) rfl)
abbrev tw_254 {Z : State} {a0 : Array Value} (hw : oW a0 Z) := hw _ (List.mem_of_getElem? (i := 254) rfl)
abbrev tw_255 {Z : State} {a0 : Array Value} (hw : oW a0 Z) := hw _ (List.mem_of_getElem? (i := 255) rfl)
abbrev tw_256 {Z : State} {a0 : Array Value} (hw : oW a0 Z) := hw _ (List.mem_of_getElem? (i := 256) rfl)
abbrev tw_257 {Z : State} {a0 : Array Value} (hw : oW a0 Z) := hw _ (List.mem_of_getElem? (i := 257) rfl)
abbrev tw_258 {Z : State} {a0 : Array Value} (hw : oW a0 Z) := hw _ (List.mem_of_getElem? (i := 258) rfl)
abbrev tw_259 {Z : State} {a0 : Array Value} (hw : oW a0 Z) := hw _ (List.mem_of_getElem? (i := 259) rfl)
abbrev tw_260 {Z : State} {a0 : Array Value} (hw : oW a0 Z) := hw _ (List.mem_of_getElem? (i := 260) rfl)
abbrev tw_261 {Z : State} {a0 : Array Value} (hw : oW a0 Z) := hw _ (List.mem_of_getElem? (i := 261) rfl)
abbrev tw_262 {Z : State} {a0 : Array Value} (hw : oW a0 Z) := hw _ (List.mem_of_getElem? (i := 262) rfl)
abbrev tw_263 {Z : State} {a0 : Array Value} (hw : oW a0 Z) := hw _ (List.mem_of_getElem? (i := 263) rfl)
abbrev tw_264 {Z : State} {a0 : Array Value} (hw : oW a0 Z) := hw _ (List.mem_of_getElem? (i := 264) rfl)
abbrev tw_265 {Z : State} {a0 : Array Value} (hw : oW a0 Z) := hw _ (List.mem_of_getElem? (i := 265) rfl)
abbrev tw_266 {Z : State} {a0 : Array Value} (hw : oW a0 Z) := hw _ (List.mem_of_getElem? (i := 266) rfl)
abbrev tw_267 {Z : State} {a0 : Array Value} (hw : oW a0 Z) := hw _ (List.mem_of_getElem? (i := 267) rfl)
abbrev tw_268 {Z : State} {a0 : Array Value} (hw : oW a0 Z) := hw _ (List.mem_of_getElem? (i := 268) rfl)
abbrev tw_269 {Z : State} {a0 : Array Value} (hw : oW a0 Z) := hw _ (List.mem_of_getElem? (i := 269) rfl)
abbrev tw_270 {Z : State} {a0 : Array Value} (hw : oW a0 Z) := hw _ (List.mem_of_getElem? (i := 270) rfl)
abbrev tw_271 {Z : State} {a0 : Array Value} (hw : oW a0 Z) := hw _ (List.mem_of_getElem? (i := 271) rfl)
abbrev tw_272 {Z : State} {a0 : Array Value} (hw : oW a0 Z) := hw _ (List.mem_of_getElem? (i := 272) rfl)
abbrev tw_273 {Z : State} {a0 : Array Value} (hw : oW a0 Z) := hw _ (List.mem_of_getElem? (i := 273) rfl)
abbrev tw_274 {Z : State} {a0 : Array Value} (hw : oW a0 Z) := hw _ (List.mem_of_getElem? (i := 274) rfl)
abbrev tw_275 {Z : State} {a0 : Array Value} (hw : oW a0 Z) := hw _ (List.mem_of_getElem? (i := 275) rfl)
abbrev tw_276 {Z : State} {a0 : Array Value} (hw : oW a0 Z) := hw _ (List.mem_of_getElem? (i := 276) rfl)
abbrev tw_277 {Z : State} {a0 : Array Value} (hw : oW a0 Z) := hw _ (List.mem_of_getElem? (i := 277) rfl)
abbrev tw_278 {Z : State} {a0 : Array Value} (hw : oW a0 Z) := hw _ (List.mem_of_getElem? (i := 278) rfl)
def own_EL : List (String × Nat) := [("com/example/carovita/carovita/index/CsvFormatException", 7), ("com/example/carovita/carovita/index/CsvFormatException", 16), ("com/example/carovita/carovita/index/CsvFormatException", 33)]
theorem own_bb {x : Int32} : (x.toInt8.toInt32).toInt8.toInt32 = x.toInt8.toInt32 := by simp
/-! ### Strings with known bytes -/
theorem own_narR {v : Value} {C : String} (h : v.isRef = true) : narrow (.object C) v = v := by cases v <;> first | rfl | (cases h)
theorem own_fitR {v : Value} {C : String} (h : v.isRef = true) : fits (.object C) v = true := by cases v <;> first | rfl | (cases h)
theorem own_chr (x : Int32) (h : ¬ x < 0) (h2 : ¬ (255 : Int32) < x) : nar .char x = x := by
  have e := c_i2c x
  show x.toUInt32.toUInt16.toUInt32.toInt32 = x
  rw [Int32.lt_iff_toInt_lt] at h h2
  have z0 : (0 : Int32).toInt = 0 := rfl
  have z1 : (255 : Int32).toInt = 255 := rfl
  apply Int32.toInt_inj.mp
  omega
theorem own_chf (x : Int32) (h : ¬ x < 0) (h2 : ¬ (255 : Int32) < x) : fits .char (.int x) = true := by
  have e := fits_nar_char x
  rw [own_chr x h h2] at e; exact e
theorem own_m255 (c : Int32) : ¬ (c &&& (255 : Int32)) < 0 ∧ ¬ (255 : Int32) < (c &&& (255 : Int32)) := by
  have h := c_mask c 255 8 (by decide) (by decide)
  rw [Int32.lt_iff_toInt_lt, Int32.lt_iff_toInt_lt]
  have z0 : (0 : Int32).toInt = 0 := rfl
  have z1 : (255 : Int32).toInt = 255 := rfl
  omega
theorem own_cod {z : Int32} : ((((z - z) : Int32).toUInt32 >>> ((31 : Int32) &&& 31).toUInt32).toInt32).toInt8.toInt32 = 0 := by
  rw [Int32.sub_self]; decide
def StrV (Z : State) (h : Heap) (a : Addr) (bs : List Int32) : Prop := ∃ (d : Addr) (k : ClassId), Exa Z h a "java/lang/String" ∧ Fld Z h a "java/lang/String" "coder" "B" (.int 0) ∧ Fld Z h a "java/lang/String" "value" "[B" (.ref d) ∧ Arv Z h d k .byte (Int32.ofNat bs.length) (bs.map Value.int) (.int 0)
theorem StrV.lt {Z : State} {h : Heap} {a : Addr} {bs : List Int32} (S : StrV Z h a bs) : a < h.size := by obtain ⟨_, _, E, _⟩ := S; exact E.lt
theorem StrV.ext {Z : State} {h h' : Heap} {a : Addr} {bs : List Int32} (S : StrV Z h a bs) (X : Ext h h') : StrV Z h' a bs := by
  obtain ⟨d, k, E, C, V, A⟩ := S; exact ⟨d, k, Exa.ext X E, Fld.ext X C, Fld.ext X V, Arv.ext A X⟩
theorem StrV.keep {Z : State} {h h' : Heap} {a : Addr} {bs : List Int32} {ws : List Addr} (S : StrV Z h a bs) (K : Keep h h' ws) (hd : ∀ (d : Addr) (k : ClassId) (z : Int32) (vs : List Value) (dv : Value), Arv Z h d k .byte z vs dv → d ∉ ws) (ha : ∀ b, Exa Z h b "java/lang/String" → b ∉ ws) : StrV Z h' a bs := by
  obtain ⟨d, k, E, C, V, A⟩ := S
  exact ⟨d, k, Exa.keep E K, Fld.keep C K (ha a E), Fld.keep V K (ha a E), Arv.keep A K (hd _ _ _ _ _ A)⟩
theorem StrV.keep0 {Z : State} {h h' : Heap} {a : Addr} {bs : List Int32} (S : StrV Z h a bs) (K : Keep h h' []) : StrV Z h' a bs := S.keep K (fun _ _ _ _ _ _ => nin0) (fun _ _ => nin0)
theorem StrV.keep1 {Z : State} {h h' : Heap} {a x : Addr} {bs : List Int32} {a0 : Array Value} {C : String} {kI : Nat} (S : StrV Z h a bs) (K : Keep h h' [x]) (E : Exa Z h x C) (wi : (Cond.instantiable C kI).before a0 Z = true) (hC : C ≠ "java/lang/String") : StrV Z h' a bs :=
  S.keep K (fun d _ _ _ _ A => ninS (fun q => by obtain ⟨c, Ar, -⟩ := A; exact ne_arr E wi Ar q.symm) nin0) (fun b F => ninS (fun q => ne_exa E F hC q.symm) nin0)
/-- null, or a String -/
def StrO (Z : State) (h : Heap) (r : Value) (o : Option (List Int32)) : Prop := (r = .null ∧ o = none) ∨ ∃ a bs, r = .ref a ∧ o = some bs ∧ StrV Z h a bs
theorem StrO.isRef {Z : State} {h : Heap} {r : Value} {o : Option (List Int32)} (S : StrO Z h r o) : r.isRef = true := by rcases S with ⟨rfl, -⟩ | ⟨a, bs, rfl, -⟩ <;> rfl
theorem StrO.ext {Z : State} {h h' : Heap} {r : Value} {o : Option (List Int32)} (S : StrO Z h r o) (X : Ext h h') : StrO Z h' r o := S.imp id fun ⟨a, bs, e1, e2, T⟩ => ⟨a, bs, e1, e2, T.ext X⟩
theorem StrO.keep0 {Z : State} {h h' : Heap} {r : Value} {o : Option (List Int32)} (S : StrO Z h r o) (K : Keep h h' []) : StrO Z h' r o := S.imp id fun ⟨a, bs, e1, e2, T⟩ => ⟨a, bs, e1, e2, T.keep0 K⟩
theorem StrO.keep1 {Z : State} {h h' : Heap} {r : Value} {o : Option (List Int32)} {x : Addr} {a0 : Array Value} {C : String} {kI : Nat} (S : StrO Z h r o) (K : Keep h h' [x]) (E : Exa Z h x C) (wi : (Cond.instantiable C kI).before a0 Z = true) (hC : C ≠ "java/lang/String") : StrO Z h' r o := S.imp id fun ⟨a, bs, e1, e2, T⟩ => ⟨a, bs, e1, e2, T.keep1 K E wi hC⟩
theorem own_if1 {p : Prop} [Decidable p] (h : ¬ (if p then (1 : Int32) else 0) = 0) : (if p then (1 : Int32) else 0) = 1 := by
  by_cases q : p
  · rw [if_pos q]
  · rw [if_neg q] at h; exact absurd rfl h
theorem own_len2 {bs : List Int32} (h : bs.length ≤ 2) : bs = [] ∨ (∃ x, bs = [x]) ∨ ∃ x y, bs = [x, y] := by
  match bs, h with
  | [], _ => exact Or.inl rfl
  | [x], _ => exact Or.inr (Or.inl ⟨x, rfl⟩)
  | [x, y], _ => exact Or.inr (Or.inr ⟨x, y, rfl⟩)
  | _ :: _ :: _ :: _, h => exact absurd h (by simp)
theorem own_shr0 (z : Int32) : (z >>> ((0 : Int32) &&& 31)) = z := by
  have e : ((0 : Int32) &&& 31) = 0 := by decide
  rw [e]; exact Int32.shiftRight_zero
theorem own_shl0 (z : Int32) : (z <<< ((0 : Int32) &&& 31)) = z := by
  have e : ((0 : Int32) &&& 31) = 0 := by decide
  rw [e]; exact Int32.shiftLeft_zero
/-! ### a builder's array: what is written, then zeros -/
def own_full (n : Nat) (bs : List Value) : List Value := bs ++ List.replicate (n - bs.length) (.int 0)
theorem own_full_len {n : Nat} {bs : List Value} (h : bs.length ≤ n) : (own_full n bs).length = n := by simp [own_full]; omega
theorem own_range (vs : List Value) (d : Value) : (List.range vs.length).map (fun i => vs.getD (0 + i) d) = vs := by
  apply List.ext_getElem
  · simp
  · intro i h1 h2
    simp at h1
    simp [List.getD_eq_getElem?_getD, h1]
theorem own_rangeT (vs : List Value) (d : Value) (n : Nat) (h : n ≤ vs.length) : (List.range n).map (fun i => vs.getD (0 + i) d) = vs.take n := by
  apply List.ext_getElem
  · simp; omega
  · intro i h1 h2
    simp at h1
    simp [List.getD_eq_getElem?_getD, Nat.lt_of_lt_of_le h1 h]
theorem own_ins {n c u : Nat} {bs us : List Value} (hb : bs.length = c) (hu : us.length = u) (h : c + u ≤ n) : (own_full n bs).take c ++ us ++ (own_full n bs).drop (c + u) = own_full n (bs ++ us) := by
  subst hb hu
  have e : n - bs.length - us.length = n - (bs.length + us.length) := by omega
  simp [own_full, List.drop_append, e]
theorem own_grow {n m : Nat} {bs : List Value} (h1 : bs.length ≤ n) (h2 : n ≤ m) : (own_full m []).take 0 ++ own_full n bs ++ (own_full m []).drop (0 + n) = own_full m bs := by
  simp [own_full]
  omega
theorem own_padfull (n i : Nat) : (own_full n []).getD i (.int 0) = ([] : List Value).getD i (.int 0) := by
  simp [own_full, List.getD_eq_getElem?_getD, List.getElem?_replicate]
  split <;> rfl
theorem own_cr {n : Nat} {bs : List Value} : (own_full n []).take 0 ++ bs ++ (own_full n []).drop (0 + n) = bs := by simp [own_full]
theorem own_fullT {n : Nat} {bs : List Value} : (own_full n bs).take bs.length = bs := by simp [own_full]
theorem own_fullE {n : Nat} {bs : List Value} (h : bs.length = n) : own_full n bs = bs := by simp [own_full, h]
/-! ### an int's digits -/
theorem own_nlt {q X : Int32} {k u : Int} (hq : q.toInt = k) (h : X.toInt ≤ u) (hu : u ≤ k) : ¬ q < X := by rw [Int32.lt_iff_toInt_lt]; omega
theorem own_ylt {q X : Int32} {k u : Int} (hq : q.toInt = k) (h : u < X.toInt) (hu : k ≤ u) : q < X := by rw [Int32.lt_iff_toInt_lt]; omega
def own_ones : List Value := (List.range 100).map fun i => Value.int (48 + Int32.ofNat (i % 10))
def own_tens : List Value := (List.range 100).map fun i => Value.int (48 + Int32.ofNat (i / 10))
def own_d1 (r : Int32) : Int32 := 48 + Int32.ofNat (r.toNatClampNeg % 10)
def own_d2 (r : Int32) : Int32 := 48 + Int32.ofNat (r.toNatClampNeg / 10)
theorem own_tn {r : Int32} (h : ¬ r < 0 ∧ r < (100 : Int32)) : r.toNatClampNeg < 100 := by
  rw [Int32.lt_iff_toInt_lt, Int32.lt_iff_toInt_lt] at h
  have z0 : (0 : Int32).toInt = 0 := rfl
  have z1 : (100 : Int32).toInt = 100 := rfl
  have e : r.toNatClampNeg = r.toInt.toNat := rfl
  omega
theorem own_o_at {r : Int32} {d : Value} (h : ¬ r < 0 ∧ r < (100 : Int32)) : own_ones.getD r.toNatClampNeg d = .int (own_d1 r) := by
  have t := own_tn h
  simp [own_ones, own_d1, List.getD_eq_getElem?_getD, t]
theorem own_t_at {r : Int32} {d : Value} (h : ¬ r < 0 ∧ r < (100 : Int32)) : own_tens.getD r.toNatClampNeg d = .int (own_d2 r) := by
  have t := own_tn h
  simp [own_tens, own_d2, List.getD_eq_getElem?_getD, t]
theorem own_div {X : Int32} (h : X.toInt < 0) : (X / (100 : Int32)).toInt = -((-X.toInt) / 100) := (c_idiv X 100 100 (by decide) (by decide)).2 h
theorem own_rem {X : Int32} (h : X.toInt < 0) : ¬ ((X / (100 : Int32)) * (100 : Int32) - X) < 0 ∧ ((X / (100 : Int32)) * (100 : Int32) - X) < (100 : Int32) := by
  have d := own_div h
  have a := c_imul (X / (100 : Int32)) 100
  have b := c_isub ((X / (100 : Int32)) * (100 : Int32)) X
  have z0 : (0 : Int32).toInt = 0 := rfl
  have z1 : (100 : Int32).toInt = 100 := rfl
  have x1 := Int32.le_toInt X
  have p1 := Int32.le_toInt ((X / (100 : Int32)) * (100 : Int32))
  have p2 := Int32.toInt_lt ((X / (100 : Int32)) * (100 : Int32))
  have r1 := Int32.le_toInt ((X / (100 : Int32)) * (100 : Int32) - X)
  have r2 := Int32.toInt_lt ((X / (100 : Int32)) * (100 : Int32) - X)
  rw [Int32.lt_iff_toInt_lt, Int32.lt_iff_toInt_lt, z0, z1]
  rw [z1] at a
  omega
theorem own_neg {X : Int32} (h1 : X.toInt ≤ 0) (h2 : -100 < X.toInt) : ¬ (-X) < 0 ∧ (-X) < (100 : Int32) := by
  have a := c_ineg X
  have z0 : (0 : Int32).toInt = 0 := rfl
  have z1 : (100 : Int32).toInt = 100 := rfl
  have r1 := Int32.le_toInt (-X)
  have r2 := Int32.toInt_lt (-X)
  rw [Int32.lt_iff_toInt_lt, Int32.lt_iff_toInt_lt, z0, z1]
  omega
theorem own_wS {Z : State} {a0 : Array Value} (hw : oW a0 Z) : ∀ a ∈ Bundle.stringAtoms, a.before a0 Z = true := by
  intro d hd
  simp only [Bundle.stringAtoms, List.mem_cons, List.not_mem_nil, or_false] at hd
  rcases hd with rfl | rfl | rfl | rfl | rfl | rfl | rfl
  · exact (tw_4 hw)
  · exact (tw_3 hw)
  · exact (tw_20 hw)
  · exact (tw_30 hw)
  · exact (tw_28 hw)
  · exact (tw_56 hw)
  · exact (tw_57 hw)
theorem own_hEL {Z : State} {a0 : Array Value} (hw : oW a0 Z) : EW Z a0 own_EL := (EW.cons (tw_55 hw) (by decide) (EW.cons (tw_127 hw) (by decide) (EW.cons (tw_249 hw) (by decide) EW.nil)))
/-! ### java.lang.Throwable by the words of the sheet; rc: the class of the receiver -/
section OwnExc
open Jvm.Free.Exc
def own_xw (rc : String) : List Cond := [.initialized tN, .superclass tN "java/lang/Object", .instanceMethod tFill, .codeSync tFill LibCode.Throwable.Fill.code 1 (some (.object tN)), .instanceMethod tFill0, .native tFill0,
  .instanceMethod oInit, .code oInit ⟨#[0xb1]⟩ 1 none, .methodLink tN 1 oInit, .methodLink tN 27 tFill, .methodLink tN 202 tFill0, .declares tFill, .selects rc tFill0 tFill0, .selects rc tFill tFill,
  .fieldLink tN 7 tN "cause" thD, .lays rc tN "cause" thD, .fieldLink tN 17 tN "stackTrace" steD, .lays rc tN "stackTrace" steD, .fieldLink tN 24 tN "suppressedExceptions" listD, .lays rc tN "suppressedExceptions" listD,
  .fieldLink tN 13 tN "UNASSIGNED_STACK" steD, .laysStatic tN "UNASSIGNED_STACK" steD, .fieldLink tN 20 tN "SUPPRESSED_SENTINEL" listD, .laysStatic tN "SUPPRESSED_SENTINEL" listD,
  .lays rc tN "detailMessage" msgD, .fieldLink tN 198 tN "backtrace" obD, .lays rc tN "backtrace" obD, .lays rc tN "depth" "I", .soleField tN "backtrace", .soleField tN "depth", .arrayOver (.object "java/lang/Object")]
theorem own_xok {rc : String} : (own_xw rc).all xOk = true := rfl
theorem own_links {args : Array Value} {s : State} {pl : Platform} {rc : String} (hp1 : pl.frameOwnsMonitors = true) (hp2 : pl.finalization = false) (hp3 : pl.magicAccessors = ({} : Platform).magicAccessors) (h : ∀ c ∈ own_xw rc, c.before args s = true) :
    ∃ (T : ThrowableC) (B : BackC) (fD : Field) (iD : Nat), T.Links pl s ∧ B.Links T pl s ∧ s.vm.findClass tN = some T.cT ∧ s.methodNamed? tFill = some T.fill ∧ s.methodNamed? tFill0 = some T.fill0 ∧
      s.fieldFound? tN "stackTrace" steD = some (T.cT, T.kT, T.i17, T.fStack) ∧ T.fStack.type = .array (.object "java/lang/StackTraceElement") ∧ s.fieldFound? tN "UNASSIGNED_STACK" steD = some (T.cT, T.kT, T.i13, T.fUnassigned) ∧
      s.fieldFound? tN "backtrace" obD = some (T.cT, T.kT, B.i198, B.fBack) ∧ B.fBack.type = .object "java/lang/Object" ∧ s.fieldFound? tN "depth" "I" = some (T.cT, T.kT, iD, fD) ∧ fD.type = .int ∧
      T.kT.fields.find? (fun f => f.name == "backtrace" && !f.isStatic) = some B.fBack ∧ T.kT.fields.find? (fun f => f.name == "depth" && !f.isStatic) = some fD := by
  have w : ∀ (i : Nat) (c : Cond), (own_xw rc)[i]? = some c → c.holds args s none s [] = true := fun i c q => h c (List.mem_of_getElem? q)
  -- the class
  obtain ⟨⟨c, jN⟩, mN, aN, bN, cN, dN, eN, gN⟩ := Cond.native_spec (w 5 _ rfl)
  have hc : s.vm.findClass tN = some c := findClass_of_methodNamed aN
  obtain ⟨k, hk, hname⟩ := Vm.findClass_spec hc
  obtain ⟨_, kS, _, _, sk, _, _, -, _, hni⟩ := Cond.superclass_spec hc (w 1 _ rfl)
  cases hk.symm.trans sk
  -- its methods
  obtain ⟨jF, mF, aF, bF, cF, dF, eF, -, -⟩ := Cond.ownMethod (x := tFill) hc hk (w 2 _ rfl)
  obtain ⟨mF', kF, bF', fF, gF, lF, rF, sF, -, pF⟩ := Cond.codeSync_spec aF (w 3 _ rfl)
  cases bF.symm.trans bF'
  obtain ⟨jN', mN', aN', bN', cN', dN', eN', fN', gN'⟩ := Cond.ownMethod (x := tFill0) hc hk (w 4 _ rfl)
  cases aN.symm.trans aN'
  cases bN.symm.trans bN'
  obtain ⟨mO, meO, aO, bO, cO, dO⟩ := Cond.instanceMethod_spec (w 6 _ rfl)
  obtain ⟨meO', kO, bO', fO, gO, -, -, sO, -, pO⟩ := Cond.code_spec aO (w 7 _ rfl)
  cases bO.symm.trans bO'
  obtain ⟨clO, hclO, nameO⟩ := Vm.findClass_spec (findClass_of_methodNamed aO)
  obtain ⟨n1O, n2O⟩ := name_of_methodNamed aO bO
  have qF : mF.sig.parameters = [] := by
    have z : (parseMethodDescriptor tFill.desc).map (·.parameters) = some [] := by decide +kernel
    rw [pF] at z; simpa using z
  have qN : mN.sig.parameters = [.int] := by
    have z : (parseMethodDescriptor tFill0.desc).map (·.parameters) = some [.int] := by decide +kernel
    rw [gN] at z; simpa using z
  have qO : meO.sig.parameters.length = 0 := by
    have z : (parseMethodDescriptor oInit.desc).map (·.parameters.length) = some 0 := by decide +kernel
    rw [pO] at z; simpa using z
  -- its links
  obtain ⟨u1, v1, cf, x1, y1, z1, t1⟩ := Cond.linkedMethod hc hk aO (w 8 _ rfl) pl hp3
  obtain ⟨u2, v2, cf2, x2, y2, z2, t2⟩ := Cond.linkedMethod hc hk aF (w 9 _ rfl) pl hp3
  obtain ⟨u3, v3, cf3, x3, y3, z3, t3⟩ := Cond.linkedMethod hc hk aN (w 10 _ rfl) pl hp3
  cases z1.symm.trans z2
  cases z1.symm.trans z3
  -- its fields
  obtain ⟨a1, i1, f1, l1, r1, k1, s1, e1, -, -, -⟩ := Cond.ownField (t := .object tN) hc hk (by decide +kernel) (w 14 _ rfl) (w 15 _ rfl) pl hp3
  obtain ⟨a2, i2, f2, l2, r2, k2, s2, e2, m2, o2, g2⟩ := Cond.ownField (t := .array (.object "java/lang/StackTraceElement")) hc hk (by decide +kernel) (w 16 _ rfl) (w 17 _ rfl) pl hp3
  obtain ⟨a3, i3, f3, l3, r3, k3, s3, e3, m3, -, g3⟩ := Cond.ownField (t := .object "java/util/List") hc hk (by decide +kernel) (w 18 _ rfl) (w 19 _ rfl) pl hp3
  obtain ⟨a4, i4, f4, st, _, l4, r4, k4, s4, -, -, hst, -, -, -, -, g4⟩ := Cond.ownStatic (t := .array (.object "java/lang/StackTraceElement")) hc hk (by decide +kernel) (w 20 _ rfl) (w 21 _ rfl) pl hp3
  obtain ⟨a5, i5, f5, _, _, l5, r5, k5, s5, -, -, -, -, -, -, -, -⟩ := Cond.ownStatic (t := .object "java/util/List") hc hk (by decide +kernel) (w 22 _ rfl) (w 23 _ rfl) pl hp3
  obtain ⟨_, _, _, _, _, f6, _, _, -, s6, e6, -⟩ := Cond.lays_spec (w 24 _ rfl)
  obtain ⟨a7, i7, f7, l7, r7, k7, s7, -, m7, o7, g7⟩ := Cond.ownField (t := .object "java/lang/Object") hc hk (by decide +kernel) (w 25 _ rfl) (w 26 _ rfl) pl hp3
  obtain ⟨_, _, c8, k8, i8, f8, _, _, g8, s8, -, -⟩ := Cond.lays_spec (w 27 _ rfl)
  cases (Cond.lays_declared (w 27 _ rfl) g8).symm.trans hc
  obtain ⟨hk8, at8⟩ := State.fieldFound?_spec g8
  cases hk8.symm.trans hk
  obtain ⟨m8, o8⟩ := State.fieldFound?_type g8 (t := .int) (by decide +kernel)
  refine ⟨{ cT := c, kT := k, cO := c, aS := st, fillIdx := jF, fill0Idx := jN, initSIdx := jF, obj := mO, kObj := clO, methFill := mF, methFill0 := mN, methInitS := mF, methObj := meO, codeFill := kF, codeInitS := kF, codeObj := kO, fBack := f7, fDepth := f8, fStack := f2, fCause := f1, fSupp := f3, fMsg := f6, fUnassigned := f4, fSentinel := f5, cfT := cf, ci1 := u1, n1 := v1, ci27 := u2, n27 := v2, ci202 := u3, n202 := v3, ci7 := a1, i7 := i1, ci13 := a4, i13 := i4, ci17 := a2, i17 := i2, ci20 := a5, i20 := i5, ci24 := a3, i24 := i3 }, { ci198 := a7, i198 := i7, fBack := f7 }, f8, i8, ?_, ⟨l7, r7, k7, s7⟩, hc, aF, aN, g2, o2, g4, g7, o7, g8, o8,
    Cond.soleField_find hc hk (w 28 _ rfl) k7 m7 s7, Cond.soleField_find hc hk (w 29 _ rfl) at8 m8 s8⟩
  constructor
  case owns => exact hp1
  case noFinalization => exact hp2
  case boot => exact Vm.findClass_boot hc hk
  case initialized => exact Cond.initialized_spec hc hk (w 0 _ rfl)
  case objFound => rw [n2O]; exact lookupSpecial_of_named aO bO cO
  case stackApartSupp => exact Cond.lays_apart (w 17 _ rfl) (w 19 _ rfl) g2 g3 (by rw [m2, m3]; decide)
  all_goals assumption
theorem own_takes {s : State} {cell : Cell} {k : Class} {f : Field} {v : Value} (hk : s.vm.classes[cell.cls]? = some k) (ho : k.kind = .ordinary) (hz : cell.slots.size = k.instanceTypes.size) (hv : cell.vm = .none) (ht : k.instanceTypes[f.slot]? = some f.type) (hf : fits f.type v = true) : Jvm.Takes s cell f v := by
  obtain ⟨q1, q2⟩ := Takes.of_laid (v := v) hk ho ht hf
  exact ⟨by rw [hz]; simpa [freshCell] using q1, by rw [hv]; exact q2⟩
theorem own_slotOf {Z s : State} (hal : Z.vm.Alike s.vm) {C n d : String} {cc i : Nat} {k : Class} {f : Field} (h : s.fieldFound? C n d = some (cc, k, i, f)) : Jvm.RoadKit.slotOf Z C n d = f.slot := by
  obtain ⟨_, _, _, q⟩ := Jvm.Free.BdW.found_ride (U := s) (U' := Z) hal.symm ⟨_, _, _, h⟩
  simp [Jvm.RoadKit.slotOf, q]
/-- fillInStackTrace() on a throwable whose stack trace is UNASSIGNED_STACK: what is left of the receiver's fields -/
theorem own_fill {p : Program} {l : Launch} {e : Env} {R : Room} {s Z : State} {m : MethodId} {args a0 : Array Value} {below : List Frame} {meth : Method} {c : Code} {T : State} {locs : List Loc} {cells slots : Nat} {h : Heap} {rc : String} {n : Nat}
    (X : Stand p l e R s m args below meth c T locs cells slots) (hx : p.tables.exec = Jvm.exec) (hl : l.stackTraces = true) (hZ : Z.Warmed39 s.vm) (hown : s.vm.findClass tN = some m.cls) (W : ∀ d ∈ own_xw rc, d.before a0 Z = true) (wi : (Cond.instantiable rc n).before a0 Z = true) (hT0 : ThS Z s.heap) (hK : s.vm.MethodsKnown) (hB : s.vm.FramesKnown below)
    (eT : T.heap = h) {a : Addr} {u : Value} (hu : u.isRef = true) (E : Exa Z h a rc) (N : Unt h a) (FS : Fld Z h a tN "stackTrace" steD u) (FB : Fld Z h a tN "backtrace" obD .null) (SU : Sta Z h tN "UNASSIGNED_STACK" steD u)
    {g : JFrame} (hg : g.method = m) (hsize : g.locals.size = c.maxLocals) {rest : List Value} (hs : g.stack = .ref a :: rest) (hd : decode c.code g.pc = .ok (.invokevirtual 27, 3)) (hf : 3 ≤ R.frames) (hlo : 2 * g.monitorRoom + (rest.map fun v => v.category).sum + 42 ≤ R.locals) (hc : cells + 1 ≤ R.cells) (hsl : slots + 2752 ≤ R.slots) :
    ∃ (T' : State) (h' : Heap) (L : List Loc), Stand p l e R s m args below meth c T' (locs ++ L) (cells + 1) (slots + 2752) ∧ T'.heap = h' ∧ (∀ y ∈ L, y.base = a) ∧ Exa Z h' a rc ∧
      (∀ {O n d : String} {v : Value}, Fld Z h a O n d v → Jvm.RoadKit.slotOf Z O n d ≠ Jvm.RoadKit.slotOf Z tN "backtrace" obD → Jvm.RoadKit.slotOf Z O n d ≠ Jvm.RoadKit.slotOf Z tN "depth" "I" → Jvm.RoadKit.slotOf Z O n d ≠ Jvm.RoadKit.slotOf Z tN "stackTrace" steD → Fld Z h' a O n d v) ∧
      ∀ target, Steps p.tables e below (T'.setTop { g with pc := g.pc + 3, stack := .ref a :: rest }) target → Steps p.tables e below (T.setTop g) target := by
  subst eT
  have al := hZ.alike
  have hpl : e.platform.magicAccessors = ({} : Platform).magicAccessors := by rw [X.admits.platform]
  have W' : ∀ d ∈ own_xw rc, d.before args s = true := fun d hd => mvX hT0 hZ (List.all_eq_true.mp own_xok d hd) (W d hd)
  have w' : ∀ (i : Nat) (d : Cond), (own_xw rc)[i]? = some d → d.before args s = true := fun i d q => W' d (List.mem_of_getElem? q)
  obtain ⟨TC, B, fD, iD, LT, LB, hT, hF, hF0, gS, tS, gU, gB, tB, gD, tD, find1, find2⟩ := own_links (pl := e.platform) (by rw [X.admits.platform]) (by rw [X.admits.platform]) hpl W'
  -- the receiver
  obtain ⟨cell, k, c1, c2, c3, c4, c5⟩ := E
  obtain ⟨ce, n1, n2, n3⟩ := N
  cases c1.symm.trans n1
  obtain ⟨t, kt, t1, t2, t3, -⟩ := Cond.instantiable_spec wi
  cases t1.symm.trans c2
  cases t2.symm.trans c3
  obtain ⟨k', hk', he⟩ := al.2.2 _ _ c3
  have ho' : k'.kind = .ordinary := by rw [he]; exact t3
  have hz' : cell.slots.size = k'.instanceTypes.size := by rw [he]; exact c5 t3
  have hfc : s.vm.findClass rc = some cell.cls := by rw [al.findClass]; exact c2
  have laid : ∀ {nm ds : String} {cc i : Nat} {kk : Class} {f : Field}, s.fieldFound? tN nm ds = some (cc, kk, i, f) → (Cond.lays rc tN nm ds).before args s = true → k'.instanceTypes[f.slot]? = some f.type := fun q1 q2 => (Cond.laysAt hfc hk' q1 q2).1
  -- the two fields that are read
  obtain ⟨cl1, cf1, k1, i1, f1, p1, p2, p3, p4, p5, p6, p7⟩ := FS
  cases p1.symm.trans n1
  obtain ⟨_, _, _, p8⟩ := Jvm.Free.BdW.found_ride al ⟨_, _, _, p2⟩
  cases p8.symm.trans gS
  obtain ⟨cl2, cf2, k2, i2, f2, q1, q2, q3, q4, q5, q6, q7⟩ := FB
  cases q1.symm.trans n1
  obtain ⟨_, _, _, q8⟩ := Jvm.Free.BdW.found_ride al ⟨_, _, _, q2⟩
  cases q8.symm.trans gB
  -- the static
  obtain ⟨cf3, i3, k3, f3, st, cS, r1, r2, r3, r4, r5, r6, r7⟩ := SU
  obtain ⟨k4, r8, r9⟩ := State.fieldFound?_setVm al r1
  cases (show s.fieldFound? tN "UNASSIGNED_STACK" steD = _ from r8).symm.trans gU
  obtain rfl : st = TC.aS := Option.some.inj (r4.symm.trans ((by rw [r9] : TC.kT.statics = k3.statics) ▸ LT.statics))
  have hne : TC.aS ≠ a := fun q => by
    rw [q] at r5
    cases r5.symm.trans n1
    rw [n2] at r6; cases r6
  -- which fillInStackTrace(int)
  have hsel0 : selectMethod e.platform s.vm cell.cls TC.fill0 = .method TC.fill0 := by
    obtain ⟨x1, x2, x3, y1, y2, y3, y4, -⟩ := Cond.selects_spec (w' 12 _ rfl)
    cases y1.symm.trans hfc
    cases y2.symm.trans (State.methodFound?_of_named hF0 (by decide))
    cases y3.symm.trans hF0
    rw [Launch.admits_selectMethod X.admits]; exact y4
  obtain ⟨comp, cO, kO, -, -, hkO, hkindO, hO⟩ := Cond.arrayOver_spec (w' 30 _ rfl)
  have hSE := w' 13 _ rfl
  obtain ⟨v6, vm6, ⟨T6, L6, k6, n6⟩, -, X6, ⟨hv6, C6, n', hn, hD6, d1, d2, d3, d4, hL6, hc6, hn6⟩, st6⟩ := X.virtualBack hx (own := tN) (C := rc) (index := 27) (y := tFill) (z := tFill) hown (w' 9 _ rfl) (w' 11 _ rfl) (notFace_of_selects hSE) hSE (w' 2 _ rfl) (by decide)
    (fillPaysAny (l := l) (W := 2 * g.monitorRoom + (rest.map fun v => v.category).sum) hx (by rw [X.admits.platform]; exact hl) TC LT hF (u0 := ⟨u, hu⟩) (self := a) (cell := cell) (cellS := cS) (fun _ => by rw [n2]; simp) (by rw [n2]; simp) (by rw [n3]) (by rw [n3]) p7 hsel0 hne (by intro q; rw [q] at r6; cases r6) r7
      (own_takes hk' ho' hz' n2 (laid gS (w' 17 _ rfl)) (by rw [tS]; exact fits_refV_array _ ⟨u, hu⟩)) ⟨B, LB, q7⟩ hK hB hT hO hkO hkindO find1 find2
      (fun x => own_takes hk' ho' hz' n2 (laid gB (w' 26 _ rfl)) (by rw [tB]; rfl)) (fun x => own_takes hk' ho' hz' n2 (laid gD (w' 27 _ rfl)) (by rw [tD]; rfl)) (by omega) (by omega))
    (b := a) (cB := cell.cls) hfc ⟨cell, n1, rfl, c4⟩ (g := g) hg hsize (Steps.refl _) (argsL := []) (rest := rest)
    (fun sig h => by rw [show parseMethodDescriptor tFill.desc = some ⟨[], some (.object tN)⟩ from by decide +kernel] at h; rw [← Option.some.inj h]; rfl) hs (Nat.le_refl _) hd
    (fun vmx hWx => ⟨rfl, hc, hsl, n1, r5⟩)
  dsimp only [Pt.U, Pt.locs, Pt.cells, Pt.slots] at X6 hD6 hL6 hc6 hn6 st6
  subst hv6 hL6 hc6 hn6
  refine ⟨T6, T6.heap, _, X6.more (Nat.le_refl _) (Nat.add_le_add_left hn _), rfl, ?_, ⟨C6, k, hD6, by rw [d1]; exact c2, by rw [d1]; exact c3, by rw [d2]; exact c4, fun q => by rw [d3]; exact c5 q⟩, ?_, fun target q => st6.trans q⟩
  · intro y hy
    simp only [List.mem_cons, List.not_mem_nil, or_false] at hy
    rcases hy with rfl | rfl | rfl <;> rfl
  · intro O nm ds v F o1 o2 o3
    obtain ⟨cl, cf, kk, i, f, y1, y2, y3, y4, y5, y6, y7⟩ := F
    cases y1.symm.trans n1
    rw [own_slotOf al gB] at o1
    rw [own_slotOf al gD] at o2
    rw [own_slotOf al gS] at o3
    have z : Jvm.RoadKit.slotOf Z O nm ds = f.slot := by simp [Jvm.RoadKit.slotOf, y2]
    rw [z] at o1 o2 o3
    exact ⟨C6, cf, kk, i, f, hD6, y2, y3, by rw [d2]; exact y4, by rw [d2]; exact y5, by rw [d1]; exact y6, by rw [d4 _ o1 o2 o3]; exact y7⟩
/-- what a body has left of the heap where it wrote to one object alone -/
theorem own_keepX {p : Program} {l : Launch} {e : Env} {R : Room} {s : State} {m : MethodId} {args : Array Value} {below : List Frame} {meth : Method} {c : Code} {T : State} {locs : List Loc} {cells slots : Nat} {h0 h : Heap} {a : Addr}
    (X : Stand p l e R s m args below meth c T locs cells slots) (hh : s.heap = h0) (eT : T.heap = h) (hb : ∀ y ∈ locs, y.base = a) : Keep h0 h [a] := by
  subst hh eT
  obtain ⟨-, h1, -, -, -, h6⟩ := X.same
  have h6' : ∀ (x : Addr) (c : Cell), s.heap[x]? = some c → ∃ c', T.heap[x]? = some c' ∧ c' = { c with slots := c'.slots } ∧ c'.slots.size = c.slots.size ∧ ∀ i, (⟨x, i⟩ : Loc) ∉ locs → c'.slots[i]? = c.slots[i]? := h6
  refine ⟨h1, fun x c q ne => ?_, fun x c q => ?_⟩
  · obtain ⟨c', q1, q2, q3, q4⟩ := h6' x c q
    have : c'.slots = c.slots := Array.ext_getElem? fun i => q4 i fun hm => ne (List.mem_singleton.mpr (hb _ hm))
    rw [q1, q2, this]
  · obtain ⟨c', q1, q2, q3, -⟩ := h6' x c q
    exact ⟨c', q1, by rw [q2], by rw [q2], q3⟩
theorem own_ne_unt {Z : State} {h h' : Heap} {a : Addr} (N : Unt h a) (K : Keep h h' []) : Unt h' a := Unt.keep K nin0 N
theorem own_b0 {a : Addr} : ∀ y ∈ ([] : List Loc), y.base = a := fun _ q => nomatch q
theorem own_b1 {a : Addr} {x : Loc} (h : x.base = a) : ∀ y ∈ [x], y.base = a := fun y q => by rw [List.mem_singleton.mp q]; exact h
theorem own_bapp {a : Addr} {L M : List Loc} (p : ∀ y ∈ L, y.base = a) (q : ∀ y ∈ M, y.base = a) : ∀ y ∈ L ++ M, y.base = a := fun y h => (List.mem_append.mp h).elim (p y) (q y)
theorem own_fitV {v : Value} {C : String} (h : v.isRef = true) : fits (.object C) v = true := fits_refV_object C ⟨v, h⟩
theorem own_fitA {v : Value} {t : FieldType} (h : v.isRef = true) : fits (.array t) v = true := fits_refV_array t ⟨v, h⟩
end OwnExc
theorem own_xwords {Z : State} {a0 : Array Value} (hw : oW a0 Z) : ∀ d ∈ own_xw "com/example/carovita/carovita/index/CsvFormatException", d.before a0 Z = true := by
  intro d hd
  simp only [own_xw, List.mem_cons, List.not_mem_nil, or_false] at hd
  rcases hd with rfl | rfl | rfl | rfl | rfl | rfl | rfl | rfl | rfl | rfl | rfl | rfl | rfl | rfl | rfl | rfl | rfl | rfl | rfl | rfl | rfl | rfl | rfl | rfl | rfl | rfl | rfl | rfl | rfl | rfl | rfl
  · exact (tw_204 hw)
  · exact (tw_222 hw)
  · exact (tw_217 hw)
  · exact (tw_223 hw)
  · exact (tw_224 hw)
  · exact (tw_225 hw)
  · exact (tw_13 hw)
  · exact (tw_14 hw)
  · exact (tw_206 hw)
  · exact (tw_215 hw)
  · exact (tw_228 hw)
  · exact (tw_216 hw)
  · exact (tw_237 hw)
  · exact (tw_218 hw)
  · exact (tw_207 hw)
  · exact (tw_208 hw)
  · exact (tw_210 hw)
  · exact (tw_211 hw)
  · exact (tw_213 hw)
  · exact (tw_214 hw)
  · exact (tw_209 hw)
  · exact (tw_235 hw)
  · exact (tw_212 hw)
  · exact (tw_236 hw)
  · exact (tw_238 hw)
  · exact (tw_233 hw)
  · exact (tw_239 hw)
  · exact (tw_240 hw)
  · exact (tw_220 hw)
  · exact (tw_221 hw)
  · exact (tw_219 hw)
theorem own_lit {i : Int32} {k : Int} (z : Int32) (hz : z.toInt = k) : i = z ↔ i.toInt = k := by rw [← hz]; exact Int32.toInt_inj.symm
theorem own_n10 (p : Int32) : ((p &&& (2147483647 : Int32)) % (10 : Int32)) = (0 : Int32) ∨ ((p &&& (2147483647 : Int32)) % (10 : Int32)) = (1 : Int32) ∨ ((p &&& (2147483647 : Int32)) % (10 : Int32)) = (2 : Int32) ∨ ((p &&& (2147483647 : Int32)) % (10 : Int32)) = (3 : Int32) ∨ ((p &&& (2147483647 : Int32)) % (10 : Int32)) = (4 : Int32) ∨ ((p &&& (2147483647 : Int32)) % (10 : Int32)) = (5 : Int32) ∨ ((p &&& (2147483647 : Int32)) % (10 : Int32)) = (6 : Int32) ∨ ((p &&& (2147483647 : Int32)) % (10 : Int32)) = (7 : Int32) ∨ ((p &&& (2147483647 : Int32)) % (10 : Int32)) = (8 : Int32) ∨ ((p &&& (2147483647 : Int32)) % (10 : Int32)) = (9 : Int32) := by
  have h := c_mask p 2147483647 31 (by decide) (by decide)
  have h2 := (c_irem (p &&& (2147483647 : Int32)) 10 10 (by decide)).1 (by omega)
  rw [own_lit (k := 0) 0 (by decide), own_lit (k := 1) 1 (by decide), own_lit (k := 2) 2 (by decide), own_lit (k := 3) 3 (by decide), own_lit (k := 4) 4 (by decide), own_lit (k := 5) 5 (by decide), own_lit (k := 6) 6 (by decide), own_lit (k := 7) 7 (by decide), own_lit (k := 8) 8 (by decide), own_lit (k := 9) 9 (by decide)]
  omega
theorem own_dgr (e : Int32) (h : e = (0 : Int32) ∨ e = (1 : Int32) ∨ e = (2 : Int32) ∨ e = (3 : Int32) ∨ e = (4 : Int32) ∨ e = (5 : Int32) ∨ e = (6 : Int32) ∨ e = (7 : Int32) ∨ e = (8 : Int32) ∨ e = (9 : Int32)) : ¬ ((((48 : Int32) + e)).toUInt32.toUInt16.toUInt32.toInt32) < 0 ∧ ¬ (255 : Int32) < ((((48 : Int32) + e)).toUInt32.toUInt16.toUInt32.toInt32) ∧ ((((48 : Int32) + e)).toUInt32.toUInt16.toUInt32.toInt32).toInt8.toInt32 = (own_d1 (-(-e))).toInt8.toInt32 := by
  rcases h with rfl | rfl | rfl | rfl | rfl | rfl | rfl | rfl | rfl | rfl <;> decide
theorem own_er (e : Int32) (h : e = (0 : Int32) ∨ e = (1 : Int32) ∨ e = (2 : Int32) ∨ e = (3 : Int32) ∨ e = (4 : Int32) ∨ e = (5 : Int32) ∨ e = (6 : Int32) ∨ e = (7 : Int32) ∨ e = (8 : Int32) ∨ e = (9 : Int32)) : ¬ e < (0 : Int32) ∧ (-e).toInt ≤ 0 ∧ -10 < (-e).toInt := by
  rcases h with rfl | rfl | rfl | rfl | rfl | rfl | rfl | rfl | rfl | rfl <;> decide
theorem own_jn {j z : Int32} (h0 : ¬ j < 0) (h : j < z) : ¬ (j + (1 : Int32)) < 0 ∧ (j + (1 : Int32)).toInt = j.toInt + 1 := by
  rw [Int32.lt_iff_toInt_lt] at h0 h
  have a := c_iadd j 1
  have b := Int32.toInt_lt z
  have d := Int32.le_toInt (j + (1 : Int32))
  have f := Int32.toInt_lt (j + (1 : Int32))
  have z0 : (0 : Int32).toInt = 0 := rfl
  have z1 : (1 : Int32).toInt = 1 := rfl
  have q : (j + (1 : Int32)).toInt = j.toInt + 1 := by omega
  refine ⟨?_, q⟩
  rw [Int32.lt_iff_toInt_lt, q, z0]
  omega
def own_at (vs : List Value) (j : Int32) : Int32 := match vs.getD j.toNatClampNeg (.int 0) with | .int x => x | _ => 0
theorem own_atv {Z : State} {h : Heap} {a : Addr} {k : ClassId} {z j : Int32} {vs : List Value} (V : Arv Z h a k .byte z vs (.int 0)) (h0 : ¬ j < 0) (h1 : j < z) : vs.getD j.toNatClampNeg (.int 0) = .int (own_at vs j) := by
  obtain ⟨c, A, -, S, n, H, F⟩ := V
  have q := inb_of S ⟨h0, h1⟩
  have r := F j.toNatClampNeg (Nat.lt_of_not_le fun y => q (Or.inr y))
  unfold own_at
  cases e : vs.getD j.toNatClampNeg (.int 0) <;> rw [e] at r <;> first | rfl | (simp [fits] at r)
theorem own_tab {args : Array Value} {s : State} {C n : String} {F : Term} {f : Nat → Int32} (hf : Fit s) (wx : (Cond.exactly (.static C n "[B") "[B").before args s = true) (wl : (Cond.eq (.length (.static C n "[B")) (.int 100)).before args s = true) (wa : (Cond.arrayClass .byte).before args s = true)
    (hall : (Cond.all (.static C n "[B") (.eq (.elem (.static C n "[B") (.index 0)) F)).before args s = true) (hF : ∀ j, j < 100 → F.eval args s none [j] s = some (.int (f j))) :
    ∃ (a : Addr) (k : ClassId), (Term.static C n "[B").eval args s none [] s = some (.ref a) ∧ Arv s s.heap a k .byte (100 : Int32) ((List.range 100).map fun i => Value.int (f i)) (.int 0) := by
  have hlen := Cond.eq_int wl rfl
  obtain ⟨sd, SA, hev, harrAt, -⟩ := Term.length_spec hlen
  have h31 := SBG.length_lt hev harrAt hlen
  obtain ⟨a3, c3, cell3, k3, e1, e2, e3, e4, e5, e6, -⟩ := Cond.exactly_spec wx
  cases hev.symm.trans e1
  obtain ⟨c4, k4, comp, f1, f2, f3⟩ := Cond.arrayClass_spec wa
  have hcell : s.heap[sd]? = some SA ∧ SA.vm ≠ .unknown := by
    simp only [State.arrayAt?, Option.bind_eq_bind] at harrAt
    cases q : s.heap[sd]? with
    | none => simp [q] at harrAt
    | some x => simp only [q, Option.bind_some] at harrAt; grind
  cases hcell.1.symm.trans e3
  cases (show s.vm.findClass "[B" = some c4 from f1).symm.trans e2
  have A : Arr s s.heap sd SA .byte := ⟨hcell.1, ⟨(fun q r => by rw [r] at e5; cases e5), k4, by rw [e6]; exact f2, comp, f3⟩, hcell.2⟩
  have hsz : SA.slots.size = 100 := own_len (N := 100) hev A rfl (Cond.before_iff.mp wl)
  have H : Has SA ((List.range 100).map fun i => Value.int (f i)) (.int 0) := fun j hj => by
    have q := Cond.all_elim hev harrAt (Cond.before_iff.mp hall) j hj
    have hj' : j < 100 := by omega
    have e := eqv_i (hF j hj') q
    have t : (Nat.toInt32 j).toNatClampNeg = j := by simp only [Int32.toNatClampNeg, len_toInt (Nat.lt_trans hj h31)]; rfl
    have nn : ¬ (Nat.toInt32 j) < 0 := by
      rw [Int32.lt_iff_toInt_lt, len_toInt (Nat.lt_trans hj h31)]
      show ¬ (j : Int) < 0
      omega
    have g := elem_f (t := .static C n "[B") (a := .index 0) (args := args) (first := s) (o := none) (idx := [j]) (s := s) hev rfl harrAt nn
    rw [t, e] at g
    rw [← g]; simp [hj']
  refine ⟨sd, SA.cls, hev, SA, A, rfl, by rw [hsz]; rfl, by decide, H, fun j hj => ?_⟩
  have e1 : (Nat.toInt32 j).toNatClampNeg = j := by simp only [Int32.toNatClampNeg, len_toInt (Nat.lt_trans hj h31)]; rfl
  exact elem_fits (j := Nat.toInt32 j) hf A (idx_in hj h31) (by rw [e1]; exact H j hj)
theorem own_tf1 {args : Array Value} {s : State} (j : Nat) (h : j < 100) : (Term.add (.int 48) (.rem (.index 0) (.int 10))).eval args s none [j] s = some (.int (48 + Int32.ofNat (j % 10))) := by
  have k : ∀ i : Fin 100, (Nat.toInt32 i.1) % (10 : Int32) = Int32.ofNat (i.1 % 10) := by decide +kernel
  have e := k ⟨j, h⟩
  have z : ¬ (10 : Int32) = 0 := by decide
  simp [Term.eval, z]
  exact e
theorem own_tf2 {args : Array Value} {s : State} (j : Nat) (h : j < 100) : (Term.add (.int 48) (.div (.index 0) (.int 10))).eval args s none [j] s = some (.int (48 + Int32.ofNat (j / 10))) := by
  have k : ∀ i : Fin 100, (Nat.toInt32 i.1) / (10 : Int32) = Int32.ofNat (i.1 / 10) := by decide +kernel
  have e := k ⟨j, h⟩
  have z : ¬ (10 : Int32) = 0 := by decide
  simp [Term.eval, z]
  exact e
theorem own_by32 : ((32 : Int32).toInt8.toInt32) = (32 : Int32) := by decide
theorem own_by44 : ((44 : Int32).toInt8.toInt32) = (44 : Int32) := by decide
theorem own_by99 : ((99 : Int32).toInt8.toInt32) = (99 : Int32) := by decide
theorem own_by101 : ((101 : Int32).toInt8.toInt32) = (101 : Int32) := by decide
theorem own_by102 : ((102 : Int32).toInt8.toInt32) = (102 : Int32) := by decide
theorem own_by103 : ((103 : Int32).toInt8.toInt32) = (103 : Int32) := by decide
theorem own_by105 : ((105 : Int32).toInt8.toInt32) = (105 : Int32) := by decide
theorem own_by108 : ((108 : Int32).toInt8.toInt32) = (108 : Int32) := by decide
theorem own_by110 : ((110 : Int32).toInt8.toInt32) = (110 : Int32) := by decide
theorem own_by111 : ((111 : Int32).toInt8.toInt32) = (111 : Int32) := by decide
theorem own_by114 : ((114 : Int32).toInt8.toInt32) = (114 : Int32) := by decide
theorem own_by115 : ((115 : Int32).toInt8.toInt32) = (115 : Int32) := by decide
theorem own_by116 : ((116 : Int32).toInt8.toInt32) = (116 : Int32) := by decide
theorem own_by118 : ((118 : Int32).toInt8.toInt32) = (118 : Int32) := by decide
theorem own_by119 : ((119 : Int32).toInt8.toInt32) = (119 : Int32) := by decide
theorem own_cst {p : Program} {l : Launch} {e : Env} {R : Room} {s : State} {m : MethodId} {args : Array Value} {below : List Frame} {meth : Method} {c : Code} {P : Outcome → State → Prop} {T : State} {locs : List Loc} {cells slots : Nat} {Z : State} {code : ByteArray} {pc : Nat} {L : Array Slot} {S : List Value} {h hs : Heap} {a : Addr} {ka : ClassId} {z j x : Int32} {vs : List Value} {n0 i : Nat}
    (X0 : Stand p l e R s m args below meth c T locs cells slots) (hx : p.tables.exec = Jvm.exec) (hby : c.code = code) (hZ : Z.Warmed39 s.vm) (e0 : T.heap = h) (V : Arv Z h a ka .char z vs (.int 0)) (N0 : Fr n0 locs) (g_a : n0 ≤ a) (K0 : Keep hs h [a]) (hd : decode code pc = .ok (.castore, 1)) (hj : ¬ j < 0 ∧ j < z) (hn : j.toNatClampNeg = i) {N : Nat} (hN : vs.length = N) (hl : i < N) (hf : fits .char (.int x) = true) (hc : nar .char x = x)
    (k : ∀ {T' : State} {locs' : List Loc} {h' : Heap}, Stand p l e R s m args below meth c T' locs' cells slots → T'.heap = h' → Fr n0 locs' → Keep hs h' [a] → Arv Z h' a ka .char z (vs.set i (.int x)) (.int 0) → (vs.set i (.int x)).length = N → Go p e below P (T'.setTop (mkF m (pc + 1) L S))) :
    Go p e below P (T.setTop (mkF m pc L (.int x :: .int j :: .ref a :: S))) := by
  have av := V
  obtain ⟨cl, Ar, q, Sz, Nn, Ha, Gf⟩ := av
  have hin : ¬ (j < 0 ∨ cl.slots.size ≤ j.toNatClampNeg) := inb_of Sz hj
  obtain ⟨T1, h1, X1, e1, W1, st1⟩ := stC X0 hx hZ e0 Ar (j := j) hin (g := (mkF m pc L (.int x :: .int j :: .ref a :: S))) rfl rfl (hb hby hd)
  have W1' : Wr h h1 a j.toNatClampNeg (.int x) := (by have q : Wr h h1 a j.toNatClampNeg (.int (nar .char x)) := W1; rw [hc] at q; exact q)
  refine Go.by st1 ?_
  exact k X1 e1 (Fr.snoc X1 N0 g_a) (Keep.wr K0 W1 (Or.inl (List.mem_of_getElem? (i := 0) rfl))) (Arv.set Ar q Sz Nn Ha Gf hf W1' i hn (by rw [hN]; exact hl)) (by rw [List.length_set]; exact hN)
def own_dg (p0 : Int32) : List Value := if p0 < (0 : Int32) then (if -10 < (p0).toInt then ([(.int 45), (.int ((own_d1 (-p0)).toInt8.toInt32))] : List Value) else if -100 < (p0).toInt then ([(.int 45), (.int ((own_d2 (-p0)).toInt8.toInt32)), (.int ((own_d1 (-p0)).toInt8.toInt32))] : List Value) else if -1000 < (p0).toInt then ([(.int 45), (.int ((own_d1 (-(p0 / (100 : Int32)))).toInt8.toInt32)), (.int ((own_d2 (((p0 / (100 : Int32)) * (100 : Int32)) - p0)).toInt8.toInt32)), (.int ((own_d1 (((p0 / (100 : Int32)) * (100 : Int32)) - p0)).toInt8.toInt32))] : List Value) else if -10000 < (p0).toInt then ([(.int 45), (.int ((own_d2 (-(p0 / (100 : Int32)))).toInt8.toInt32)), (.int ((own_d1 (-(p0 / (100 : Int32)))).toInt8.toInt32)), (.int ((own_d2 (((p0 / (100 : Int32)) * (100 : Int32)) - p0)).toInt8.toInt32)), (.int ((own_d1 (((p0 / (100 : Int32)) * (100 : Int32)) - p0)).toInt8.toInt32))] : List Value) else if -100000 < (p0).toInt then ([(.int 45), (.int ((own_d1 (-((p0 / (100 : Int32)) / (100 : Int32)))).toInt8.toInt32)), (.int ((own_d2 ((((p0 / (100 : Int32)) / (100 : Int32)) * (100 : Int32)) - (p0 / (100 : Int32)))).toInt8.toInt32)), (.int ((own_d1 ((((p0 / (100 : Int32)) / (100 : Int32)) * (100 : Int32)) - (p0 / (100 : Int32)))).toInt8.toInt32)), (.int ((own_d2 (((p0 / (100 : Int32)) * (100 : Int32)) - p0)).toInt8.toInt32)), (.int ((own_d1 (((p0 / (100 : Int32)) * (100 : Int32)) - p0)).toInt8.toInt32))] : List Value) else if -1000000 < (p0).toInt then ([(.int 45), (.int ((own_d2 (-((p0 / (100 : Int32)) / (100 : Int32)))).toInt8.toInt32)), (.int ((own_d1 (-((p0 / (100 : Int32)) / (100 : Int32)))).toInt8.toInt32)), (.int ((own_d2 ((((p0 / (100 : Int32)) / (100 : Int32)) * (100 : Int32)) - (p0 / (100 : Int32)))).toInt8.toInt32)), (.int ((own_d1 ((((p0 / (100 : Int32)) / (100 : Int32)) * (100 : Int32)) - (p0 / (100 : Int32)))).toInt8.toInt32)), (.int ((own_d2 (((p0 / (100 : Int32)) * (100 : Int32)) - p0)).toInt8.toInt32)), (.int ((own_d1 (((p0 / (100 : Int32)) * (100 : Int32)) - p0)).toInt8.toInt32))] : List Value) else if -10000000 < (p0).toInt then ([(.int 45), (.int ((own_d1 (-(((p0 / (100 : Int32)) / (100 : Int32)) / (100 : Int32)))).toInt8.toInt32)), (.int ((own_d2 (((((p0 / (100 : Int32)) / (100 : Int32)) / (100 : Int32)) * (100 : Int32)) - ((p0 / (100 : Int32)) / (100 : Int32)))).toInt8.toInt32)), (.int ((own_d1 (((((p0 / (100 : Int32)) / (100 : Int32)) / (100 : Int32)) * (100 : Int32)) - ((p0 / (100 : Int32)) / (100 : Int32)))).toInt8.toInt32)), (.int ((own_d2 ((((p0 / (100 : Int32)) / (100 : Int32)) * (100 : Int32)) - (p0 / (100 : Int32)))).toInt8.toInt32)), (.int ((own_d1 ((((p0 / (100 : Int32)) / (100 : Int32)) * (100 : Int32)) - (p0 / (100 : Int32)))).toInt8.toInt32)), (.int ((own_d2 (((p0 / (100 : Int32)) * (100 : Int32)) - p0)).toInt8.toInt32)), (.int ((own_d1 (((p0 / (100 : Int32)) * (100 : Int32)) - p0)).toInt8.toInt32))] : List Value) else if -100000000 < (p0).toInt then ([(.int 45), (.int ((own_d2 (-(((p0 / (100 : Int32)) / (100 : Int32)) / (100 : Int32)))).toInt8.toInt32)), (.int ((own_d1 (-(((p0 / (100 : Int32)) / (100 : Int32)) / (100 : Int32)))).toInt8.toInt32)), (.int ((own_d2 (((((p0 / (100 : Int32)) / (100 : Int32)) / (100 : Int32)) * (100 : Int32)) - ((p0 / (100 : Int32)) / (100 : Int32)))).toInt8.toInt32)), (.int ((own_d1 (((((p0 / (100 : Int32)) / (100 : Int32)) / (100 : Int32)) * (100 : Int32)) - ((p0 / (100 : Int32)) / (100 : Int32)))).toInt8.toInt32)), (.int ((own_d2 ((((p0 / (100 : Int32)) / (100 : Int32)) * (100 : Int32)) - (p0 / (100 : Int32)))).toInt8.toInt32)), (.int ((own_d1 ((((p0 / (100 : Int32)) / (100 : Int32)) * (100 : Int32)) - (p0 / (100 : Int32)))).toInt8.toInt32)), (.int ((own_d2 (((p0 / (100 : Int32)) * (100 : Int32)) - p0)).toInt8.toInt32)), (.int ((own_d1 (((p0 / (100 : Int32)) * (100 : Int32)) - p0)).toInt8.toInt32))] : List Value) else if -1000000000 < (p0).toInt then ([(.int 45), (.int ((own_d1 (-((((p0 / (100 : Int32)) / (100 : Int32)) / (100 : Int32)) / (100 : Int32)))).toInt8.toInt32)), (.int ((own_d2 ((((((p0 / (100 : Int32)) / (100 : Int32)) / (100 : Int32)) / (100 : Int32)) * (100 : Int32)) - (((p0 / (100 : Int32)) / (100 : Int32)) / (100 : Int32)))).toInt8.toInt32)), (.int ((own_d1 ((((((p0 / (100 : Int32)) / (100 : Int32)) / (100 : Int32)) / (100 : Int32)) * (100 : Int32)) - (((p0 / (100 : Int32)) / (100 : Int32)) / (100 : Int32)))).toInt8.toInt32)), (.int ((own_d2 (((((p0 / (100 : Int32)) / (100 : Int32)) / (100 : Int32)) * (100 : Int32)) - ((p0 / (100 : Int32)) / (100 : Int32)))).toInt8.toInt32)), (.int ((own_d1 (((((p0 / (100 : Int32)) / (100 : Int32)) / (100 : Int32)) * (100 : Int32)) - ((p0 / (100 : Int32)) / (100 : Int32)))).toInt8.toInt32)), (.int ((own_d2 ((((p0 / (100 : Int32)) / (100 : Int32)) * (100 : Int32)) - (p0 / (100 : Int32)))).toInt8.toInt32)), (.int ((own_d1 ((((p0 / (100 : Int32)) / (100 : Int32)) * (100 : Int32)) - (p0 / (100 : Int32)))).toInt8.toInt32)), (.int ((own_d2 (((p0 / (100 : Int32)) * (100 : Int32)) - p0)).toInt8.toInt32)), (.int ((own_d1 (((p0 / (100 : Int32)) * (100 : Int32)) - p0)).toInt8.toInt32))] : List Value) else ([(.int 45), (.int ((own_d2 (-((((p0 / (100 : Int32)) / (100 : Int32)) / (100 : Int32)) / (100 : Int32)))).toInt8.toInt32)), (.int ((own_d1 (-((((p0 / (100 : Int32)) / (100 : Int32)) / (100 : Int32)) / (100 : Int32)))).toInt8.toInt32)), (.int ((own_d2 ((((((p0 / (100 : Int32)) / (100 : Int32)) / (100 : Int32)) / (100 : Int32)) * (100 : Int32)) - (((p0 / (100 : Int32)) / (100 : Int32)) / (100 : Int32)))).toInt8.toInt32)), (.int ((own_d1 ((((((p0 / (100 : Int32)) / (100 : Int32)) / (100 : Int32)) / (100 : Int32)) * (100 : Int32)) - (((p0 / (100 : Int32)) / (100 : Int32)) / (100 : Int32)))).toInt8.toInt32)), (.int ((own_d2 (((((p0 / (100 : Int32)) / (100 : Int32)) / (100 : Int32)) * (100 : Int32)) - ((p0 / (100 : Int32)) / (100 : Int32)))).toInt8.toInt32)), (.int ((own_d1 (((((p0 / (100 : Int32)) / (100 : Int32)) / (100 : Int32)) * (100 : Int32)) - ((p0 / (100 : Int32)) / (100 : Int32)))).toInt8.toInt32)), (.int ((own_d2 ((((p0 / (100 : Int32)) / (100 : Int32)) * (100 : Int32)) - (p0 / (100 : Int32)))).toInt8.toInt32)), (.int ((own_d1 ((((p0 / (100 : Int32)) / (100 : Int32)) * (100 : Int32)) - (p0 / (100 : Int32)))).toInt8.toInt32)), (.int ((own_d2 (((p0 / (100 : Int32)) * (100 : Int32)) - p0)).toInt8.toInt32)), (.int ((own_d1 (((p0 / (100 : Int32)) * (100 : Int32)) - p0)).toInt8.toInt32))] : List Value)) else (if -10 < ((-p0)).toInt then ([(.int ((own_d1 (-(-p0))).toInt8.toInt32))] : List Value) else if -100 < ((-p0)).toInt then ([(.int ((own_d2 (-(-p0))).toInt8.toInt32)), (.int ((own_d1 (-(-p0))).toInt8.toInt32))] : List Value) else if -1000 < ((-p0)).toInt then ([(.int ((own_d1 (-((-p0) / (100 : Int32)))).toInt8.toInt32)), (.int ((own_d2 ((((-p0) / (100 : Int32)) * (100 : Int32)) - (-p0))).toInt8.toInt32)), (.int ((own_d1 ((((-p0) / (100 : Int32)) * (100 : Int32)) - (-p0))).toInt8.toInt32))] : List Value) else if -10000 < ((-p0)).toInt then ([(.int ((own_d2 (-((-p0) / (100 : Int32)))).toInt8.toInt32)), (.int ((own_d1 (-((-p0) / (100 : Int32)))).toInt8.toInt32)), (.int ((own_d2 ((((-p0) / (100 : Int32)) * (100 : Int32)) - (-p0))).toInt8.toInt32)), (.int ((own_d1 ((((-p0) / (100 : Int32)) * (100 : Int32)) - (-p0))).toInt8.toInt32))] : List Value) else if -100000 < ((-p0)).toInt then ([(.int ((own_d1 (-(((-p0) / (100 : Int32)) / (100 : Int32)))).toInt8.toInt32)), (.int ((own_d2 (((((-p0) / (100 : Int32)) / (100 : Int32)) * (100 : Int32)) - ((-p0) / (100 : Int32)))).toInt8.toInt32)), (.int ((own_d1 (((((-p0) / (100 : Int32)) / (100 : Int32)) * (100 : Int32)) - ((-p0) / (100 : Int32)))).toInt8.toInt32)), (.int ((own_d2 ((((-p0) / (100 : Int32)) * (100 : Int32)) - (-p0))).toInt8.toInt32)), (.int ((own_d1 ((((-p0) / (100 : Int32)) * (100 : Int32)) - (-p0))).toInt8.toInt32))] : List Value) else if -1000000 < ((-p0)).toInt then ([(.int ((own_d2 (-(((-p0) / (100 : Int32)) / (100 : Int32)))).toInt8.toInt32)), (.int ((own_d1 (-(((-p0) / (100 : Int32)) / (100 : Int32)))).toInt8.toInt32)), (.int ((own_d2 (((((-p0) / (100 : Int32)) / (100 : Int32)) * (100 : Int32)) - ((-p0) / (100 : Int32)))).toInt8.toInt32)), (.int ((own_d1 (((((-p0) / (100 : Int32)) / (100 : Int32)) * (100 : Int32)) - ((-p0) / (100 : Int32)))).toInt8.toInt32)), (.int ((own_d2 ((((-p0) / (100 : Int32)) * (100 : Int32)) - (-p0))).toInt8.toInt32)), (.int ((own_d1 ((((-p0) / (100 : Int32)) * (100 : Int32)) - (-p0))).toInt8.toInt32))] : List Value) else if -10000000 < ((-p0)).toInt then ([(.int ((own_d1 (-((((-p0) / (100 : Int32)) / (100 : Int32)) / (100 : Int32)))).toInt8.toInt32)), (.int ((own_d2 ((((((-p0) / (100 : Int32)) / (100 : Int32)) / (100 : Int32)) * (100 : Int32)) - (((-p0) / (100 : Int32)) / (100 : Int32)))).toInt8.toInt32)), (.int ((own_d1 ((((((-p0) / (100 : Int32)) / (100 : Int32)) / (100 : Int32)) * (100 : Int32)) - (((-p0) / (100 : Int32)) / (100 : Int32)))).toInt8.toInt32)), (.int ((own_d2 (((((-p0) / (100 : Int32)) / (100 : Int32)) * (100 : Int32)) - ((-p0) / (100 : Int32)))).toInt8.toInt32)), (.int ((own_d1 (((((-p0) / (100 : Int32)) / (100 : Int32)) * (100 : Int32)) - ((-p0) / (100 : Int32)))).toInt8.toInt32)), (.int ((own_d2 ((((-p0) / (100 : Int32)) * (100 : Int32)) - (-p0))).toInt8.toInt32)), (.int ((own_d1 ((((-p0) / (100 : Int32)) * (100 : Int32)) - (-p0))).toInt8.toInt32))] : List Value) else if -100000000 < ((-p0)).toInt then ([(.int ((own_d2 (-((((-p0) / (100 : Int32)) / (100 : Int32)) / (100 : Int32)))).toInt8.toInt32)), (.int ((own_d1 (-((((-p0) / (100 : Int32)) / (100 : Int32)) / (100 : Int32)))).toInt8.toInt32)), (.int ((own_d2 ((((((-p0) / (100 : Int32)) / (100 : Int32)) / (100 : Int32)) * (100 : Int32)) - (((-p0) / (100 : Int32)) / (100 : Int32)))).toInt8.toInt32)), (.int ((own_d1 ((((((-p0) / (100 : Int32)) / (100 : Int32)) / (100 : Int32)) * (100 : Int32)) - (((-p0) / (100 : Int32)) / (100 : Int32)))).toInt8.toInt32)), (.int ((own_d2 (((((-p0) / (100 : Int32)) / (100 : Int32)) * (100 : Int32)) - ((-p0) / (100 : Int32)))).toInt8.toInt32)), (.int ((own_d1 (((((-p0) / (100 : Int32)) / (100 : Int32)) * (100 : Int32)) - ((-p0) / (100 : Int32)))).toInt8.toInt32)), (.int ((own_d2 ((((-p0) / (100 : Int32)) * (100 : Int32)) - (-p0))).toInt8.toInt32)), (.int ((own_d1 ((((-p0) / (100 : Int32)) * (100 : Int32)) - (-p0))).toInt8.toInt32))] : List Value) else if -1000000000 < ((-p0)).toInt then ([(.int ((own_d1 (-(((((-p0) / (100 : Int32)) / (100 : Int32)) / (100 : Int32)) / (100 : Int32)))).toInt8.toInt32)), (.int ((own_d2 (((((((-p0) / (100 : Int32)) / (100 : Int32)) / (100 : Int32)) / (100 : Int32)) * (100 : Int32)) - ((((-p0) / (100 : Int32)) / (100 : Int32)) / (100 : Int32)))).toInt8.toInt32)), (.int ((own_d1 (((((((-p0) / (100 : Int32)) / (100 : Int32)) / (100 : Int32)) / (100 : Int32)) * (100 : Int32)) - ((((-p0) / (100 : Int32)) / (100 : Int32)) / (100 : Int32)))).toInt8.toInt32)), (.int ((own_d2 ((((((-p0) / (100 : Int32)) / (100 : Int32)) / (100 : Int32)) * (100 : Int32)) - (((-p0) / (100 : Int32)) / (100 : Int32)))).toInt8.toInt32)), (.int ((own_d1 ((((((-p0) / (100 : Int32)) / (100 : Int32)) / (100 : Int32)) * (100 : Int32)) - (((-p0) / (100 : Int32)) / (100 : Int32)))).toInt8.toInt32)), (.int ((own_d2 (((((-p0) / (100 : Int32)) / (100 : Int32)) * (100 : Int32)) - ((-p0) / (100 : Int32)))).toInt8.toInt32)), (.int ((own_d1 (((((-p0) / (100 : Int32)) / (100 : Int32)) * (100 : Int32)) - ((-p0) / (100 : Int32)))).toInt8.toInt32)), (.int ((own_d2 ((((-p0) / (100 : Int32)) * (100 : Int32)) - (-p0))).toInt8.toInt32)), (.int ((own_d1 ((((-p0) / (100 : Int32)) * (100 : Int32)) - (-p0))).toInt8.toInt32))] : List Value) else ([(.int ((own_d2 (-(((((-p0) / (100 : Int32)) / (100 : Int32)) / (100 : Int32)) / (100 : Int32)))).toInt8.toInt32)), (.int ((own_d1 (-(((((-p0) / (100 : Int32)) / (100 : Int32)) / (100 : Int32)) / (100 : Int32)))).toInt8.toInt32)), (.int ((own_d2 (((((((-p0) / (100 : Int32)) / (100 : Int32)) / (100 : Int32)) / (100 : Int32)) * (100 : Int32)) - ((((-p0) / (100 : Int32)) / (100 : Int32)) / (100 : Int32)))).toInt8.toInt32)), (.int ((own_d1 (((((((-p0) / (100 : Int32)) / (100 : Int32)) / (100 : Int32)) / (100 : Int32)) * (100 : Int32)) - ((((-p0) / (100 : Int32)) / (100 : Int32)) / (100 : Int32)))).toInt8.toInt32)), (.int ((own_d2 ((((((-p0) / (100 : Int32)) / (100 : Int32)) / (100 : Int32)) * (100 : Int32)) - (((-p0) / (100 : Int32)) / (100 : Int32)))).toInt8.toInt32)), (.int ((own_d1 ((((((-p0) / (100 : Int32)) / (100 : Int32)) / (100 : Int32)) * (100 : Int32)) - (((-p0) / (100 : Int32)) / (100 : Int32)))).toInt8.toInt32)), (.int ((own_d2 (((((-p0) / (100 : Int32)) / (100 : Int32)) * (100 : Int32)) - ((-p0) / (100 : Int32)))).toInt8.toInt32)), (.int ((own_d1 (((((-p0) / (100 : Int32)) / (100 : Int32)) * (100 : Int32)) - ((-p0) / (100 : Int32)))).toInt8.toInt32)), (.int ((own_d2 ((((-p0) / (100 : Int32)) * (100 : Int32)) - (-p0))).toInt8.toInt32)), (.int ((own_d1 ((((-p0) / (100 : Int32)) * (100 : Int32)) - (-p0))).toInt8.toInt32))] : List Value))
def own_sz (p0 : Int32) : Int32 := Int32.ofNat (own_dg p0).length
def own_pre (p0 : Int32) : List Value := ((([(.int 108), (.int 105), (.int 110), (.int 101), (.int 32)] : List Value) ++ own_dg p0) ++ ([(.int 58), (.int 32)] : List Value))
def own_tot (p0 : Int32) : Int32 := ((((5 : Int32) + (own_sz p0)) + (2 : Int32)) + (34 : Int32))
theorem own_dg_0_1 (p0 : Int32) (hs : ¬ p0 < (0 : Int32)) (hlo0 : ((-p0)).toInt ≤ 0) (hhi0 : -10 < ((-p0)).toInt) : own_dg p0 = ([(.int ((own_d1 (-(-p0))).toInt8.toInt32))] : List Value) := by
  unfold own_dg
  rw [if_neg hs, if_pos hhi0]
theorem own_sz_0_1 (p0 : Int32) (hs : ¬ p0 < (0 : Int32)) (hlo0 : ((-p0)).toInt ≤ 0) (hhi0 : -10 < ((-p0)).toInt) : own_sz p0 = (1 : Int32) := by
  unfold own_sz
  rw [own_dg_0_1 p0 hs hlo0 hhi0]
  rfl
theorem own_dg_0_2 (p0 : Int32) (hs : ¬ p0 < (0 : Int32)) (hlo0 : ((-p0)).toInt ≤ -10) (hhi0 : -100 < ((-p0)).toInt) : own_dg p0 = ([(.int ((own_d2 (-(-p0))).toInt8.toInt32)), (.int ((own_d1 (-(-p0))).toInt8.toInt32))] : List Value) := by
  unfold own_dg
  rw [if_neg hs, if_neg (by omega : ¬ -10 < ((-p0)).toInt), if_pos hhi0]
theorem own_sz_0_2 (p0 : Int32) (hs : ¬ p0 < (0 : Int32)) (hlo0 : ((-p0)).toInt ≤ -10) (hhi0 : -100 < ((-p0)).toInt) : own_sz p0 = (2 : Int32) := by
  unfold own_sz
  rw [own_dg_0_2 p0 hs hlo0 hhi0]
  rfl
theorem own_dg_0_3 (p0 : Int32) (hs : ¬ p0 < (0 : Int32)) (hlo0 : ((-p0)).toInt ≤ -100) (hhi0 : -1000 < ((-p0)).toInt) : own_dg p0 = ([(.int ((own_d1 (-((-p0) / (100 : Int32)))).toInt8.toInt32)), (.int ((own_d2 ((((-p0) / (100 : Int32)) * (100 : Int32)) - (-p0))).toInt8.toInt32)), (.int ((own_d1 ((((-p0) / (100 : Int32)) * (100 : Int32)) - (-p0))).toInt8.toInt32))] : List Value) := by
  unfold own_dg
  rw [if_neg hs, if_neg (by omega : ¬ -10 < ((-p0)).toInt), if_neg (by omega : ¬ -100 < ((-p0)).toInt), if_pos hhi0]
theorem own_sz_0_3 (p0 : Int32) (hs : ¬ p0 < (0 : Int32)) (hlo0 : ((-p0)).toInt ≤ -100) (hhi0 : -1000 < ((-p0)).toInt) : own_sz p0 = (3 : Int32) := by
  unfold own_sz
  rw [own_dg_0_3 p0 hs hlo0 hhi0]
  rfl
theorem own_dg_0_4 (p0 : Int32) (hs : ¬ p0 < (0 : Int32)) (hlo0 : ((-p0)).toInt ≤ -1000) (hhi0 : -10000 < ((-p0)).toInt) : own_dg p0 = ([(.int ((own_d2 (-((-p0) / (100 : Int32)))).toInt8.toInt32)), (.int ((own_d1 (-((-p0) / (100 : Int32)))).toInt8.toInt32)), (.int ((own_d2 ((((-p0) / (100 : Int32)) * (100 : Int32)) - (-p0))).toInt8.toInt32)), (.int ((own_d1 ((((-p0) / (100 : Int32)) * (100 : Int32)) - (-p0))).toInt8.toInt32))] : List Value) := by
  unfold own_dg
  rw [if_neg hs, if_neg (by omega : ¬ -10 < ((-p0)).toInt), if_neg (by omega : ¬ -100 < ((-p0)).toInt), if_neg (by omega : ¬ -1000 < ((-p0)).toInt), if_pos hhi0]
theorem own_sz_0_4 (p0 : Int32) (hs : ¬ p0 < (0 : Int32)) (hlo0 : ((-p0)).toInt ≤ -1000) (hhi0 : -10000 < ((-p0)).toInt) : own_sz p0 = (4 : Int32) := by
  unfold own_sz
  rw [own_dg_0_4 p0 hs hlo0 hhi0]
  rfl
theorem own_dg_0_5 (p0 : Int32) (hs : ¬ p0 < (0 : Int32)) (hlo0 : ((-p0)).toInt ≤ -10000) (hhi0 : -100000 < ((-p0)).toInt) : own_dg p0 = ([(.int ((own_d1 (-(((-p0) / (100 : Int32)) / (100 : Int32)))).toInt8.toInt32)), (.int ((own_d2 (((((-p0) / (100 : Int32)) / (100 : Int32)) * (100 : Int32)) - ((-p0) / (100 : Int32)))).toInt8.toInt32)), (.int ((own_d1 (((((-p0) / (100 : Int32)) / (100 : Int32)) * (100 : Int32)) - ((-p0) / (100 : Int32)))).toInt8.toInt32)), (.int ((own_d2 ((((-p0) / (100 : Int32)) * (100 : Int32)) - (-p0))).toInt8.toInt32)), (.int ((own_d1 ((((-p0) / (100 : Int32)) * (100 : Int32)) - (-p0))).toInt8.toInt32))] : List Value) := by
  unfold own_dg
  rw [if_neg hs, if_neg (by omega : ¬ -10 < ((-p0)).toInt), if_neg (by omega : ¬ -100 < ((-p0)).toInt), if_neg (by omega : ¬ -1000 < ((-p0)).toInt), if_neg (by omega : ¬ -10000 < ((-p0)).toInt), if_pos hhi0]
theorem own_sz_0_5 (p0 : Int32) (hs : ¬ p0 < (0 : Int32)) (hlo0 : ((-p0)).toInt ≤ -10000) (hhi0 : -100000 < ((-p0)).toInt) : own_sz p0 = (5 : Int32) := by
  unfold own_sz
  rw [own_dg_0_5 p0 hs hlo0 hhi0]
  rfl
theorem own_dg_0_6 (p0 : Int32) (hs : ¬ p0 < (0 : Int32)) (hlo0 : ((-p0)).toInt ≤ -100000) (hhi0 : -1000000 < ((-p0)).toInt) : own_dg p0 = ([(.int ((own_d2 (-(((-p0) / (100 : Int32)) / (100 : Int32)))).toInt8.toInt32)), (.int ((own_d1 (-(((-p0) / (100 : Int32)) / (100 : Int32)))).toInt8.toInt32)), (.int ((own_d2 (((((-p0) / (100 : Int32)) / (100 : Int32)) * (100 : Int32)) - ((-p0) / (100 : Int32)))).toInt8.toInt32)), (.int ((own_d1 (((((-p0) / (100 : Int32)) / (100 : Int32)) * (100 : Int32)) - ((-p0) / (100 : Int32)))).toInt8.toInt32)), (.int ((own_d2 ((((-p0) / (100 : Int32)) * (100 : Int32)) - (-p0))).toInt8.toInt32)), (.int ((own_d1 ((((-p0) / (100 : Int32)) * (100 : Int32)) - (-p0))).toInt8.toInt32))] : List Value) := by
  unfold own_dg
  rw [if_neg hs, if_neg (by omega : ¬ -10 < ((-p0)).toInt), if_neg (by omega : ¬ -100 < ((-p0)).toInt), if_neg (by omega : ¬ -1000 < ((-p0)).toInt), if_neg (by omega : ¬ -10000 < ((-p0)).toInt), if_neg (by omega : ¬ -100000 < ((-p0)).toInt), if_pos hhi0]
theorem own_sz_0_6 (p0 : Int32) (hs : ¬ p0 < (0 : Int32)) (hlo0 : ((-p0)).toInt ≤ -100000) (hhi0 : -1000000 < ((-p0)).toInt) : own_sz p0 = (6 : Int32) := by
  unfold own_sz
  rw [own_dg_0_6 p0 hs hlo0 hhi0]
  rfl
theorem own_dg_0_7 (p0 : Int32) (hs : ¬ p0 < (0 : Int32)) (hlo0 : ((-p0)).toInt ≤ -1000000) (hhi0 : -10000000 < ((-p0)).toInt) : own_dg p0 = ([(.int ((own_d1 (-((((-p0) / (100 : Int32)) / (100 : Int32)) / (100 : Int32)))).toInt8.toInt32)), (.int ((own_d2 ((((((-p0) / (100 : Int32)) / (100 : Int32)) / (100 : Int32)) * (100 : Int32)) - (((-p0) / (100 : Int32)) / (100 : Int32)))).toInt8.toInt32)), (.int ((own_d1 ((((((-p0) / (100 : Int32)) / (100 : Int32)) / (100 : Int32)) * (100 : Int32)) - (((-p0) / (100 : Int32)) / (100 : Int32)))).toInt8.toInt32)), (.int ((own_d2 (((((-p0) / (100 : Int32)) / (100 : Int32)) * (100 : Int32)) - ((-p0) / (100 : Int32)))).toInt8.toInt32)), (.int ((own_d1 (((((-p0) / (100 : Int32)) / (100 : Int32)) * (100 : Int32)) - ((-p0) / (100 : Int32)))).toInt8.toInt32)), (.int ((own_d2 ((((-p0) / (100 : Int32)) * (100 : Int32)) - (-p0))).toInt8.toInt32)), (.int ((own_d1 ((((-p0) / (100 : Int32)) * (100 : Int32)) - (-p0))).toInt8.toInt32))] : List Value) := by
  unfold own_dg
  rw [if_neg hs, if_neg (by omega : ¬ -10 < ((-p0)).toInt), if_neg (by omega : ¬ -100 < ((-p0)).toInt), if_neg (by omega : ¬ -1000 < ((-p0)).toInt), if_neg (by omega : ¬ -10000 < ((-p0)).toInt), if_neg (by omega : ¬ -100000 < ((-p0)).toInt), if_neg (by omega : ¬ -1000000 < ((-p0)).toInt), if_pos hhi0]
theorem own_sz_0_7 (p0 : Int32) (hs : ¬ p0 < (0 : Int32)) (hlo0 : ((-p0)).toInt ≤ -1000000) (hhi0 : -10000000 < ((-p0)).toInt) : own_sz p0 = (7 : Int32) := by
  unfold own_sz
  rw [own_dg_0_7 p0 hs hlo0 hhi0]
  rfl
theorem own_dg_0_8 (p0 : Int32) (hs : ¬ p0 < (0 : Int32)) (hlo0 : ((-p0)).toInt ≤ -10000000) (hhi0 : -100000000 < ((-p0)).toInt) : own_dg p0 = ([(.int ((own_d2 (-((((-p0) / (100 : Int32)) / (100 : Int32)) / (100 : Int32)))).toInt8.toInt32)), (.int ((own_d1 (-((((-p0) / (100 : Int32)) / (100 : Int32)) / (100 : Int32)))).toInt8.toInt32)), (.int ((own_d2 ((((((-p0) / (100 : Int32)) / (100 : Int32)) / (100 : Int32)) * (100 : Int32)) - (((-p0) / (100 : Int32)) / (100 : Int32)))).toInt8.toInt32)), (.int ((own_d1 ((((((-p0) / (100 : Int32)) / (100 : Int32)) / (100 : Int32)) * (100 : Int32)) - (((-p0) / (100 : Int32)) / (100 : Int32)))).toInt8.toInt32)), (.int ((own_d2 (((((-p0) / (100 : Int32)) / (100 : Int32)) * (100 : Int32)) - ((-p0) / (100 : Int32)))).toInt8.toInt32)), (.int ((own_d1 (((((-p0) / (100 : Int32)) / (100 : Int32)) * (100 : Int32)) - ((-p0) / (100 : Int32)))).toInt8.toInt32)), (.int ((own_d2 ((((-p0) / (100 : Int32)) * (100 : Int32)) - (-p0))).toInt8.toInt32)), (.int ((own_d1 ((((-p0) / (100 : Int32)) * (100 : Int32)) - (-p0))).toInt8.toInt32))] : List Value) := by
  unfold own_dg
  rw [if_neg hs, if_neg (by omega : ¬ -10 < ((-p0)).toInt), if_neg (by omega : ¬ -100 < ((-p0)).toInt), if_neg (by omega : ¬ -1000 < ((-p0)).toInt), if_neg (by omega : ¬ -10000 < ((-p0)).toInt), if_neg (by omega : ¬ -100000 < ((-p0)).toInt), if_neg (by omega : ¬ -1000000 < ((-p0)).toInt), if_neg (by omega : ¬ -10000000 < ((-p0)).toInt), if_pos hhi0]
theorem own_sz_0_8 (p0 : Int32) (hs : ¬ p0 < (0 : Int32)) (hlo0 : ((-p0)).toInt ≤ -10000000) (hhi0 : -100000000 < ((-p0)).toInt) : own_sz p0 = (8 : Int32) := by
  unfold own_sz
  rw [own_dg_0_8 p0 hs hlo0 hhi0]
  rfl
theorem own_dg_0_9 (p0 : Int32) (hs : ¬ p0 < (0 : Int32)) (hlo0 : ((-p0)).toInt ≤ -100000000) (hhi0 : -1000000000 < ((-p0)).toInt) : own_dg p0 = ([(.int ((own_d1 (-(((((-p0) / (100 : Int32)) / (100 : Int32)) / (100 : Int32)) / (100 : Int32)))).toInt8.toInt32)), (.int ((own_d2 (((((((-p0) / (100 : Int32)) / (100 : Int32)) / (100 : Int32)) / (100 : Int32)) * (100 : Int32)) - ((((-p0) / (100 : Int32)) / (100 : Int32)) / (100 : Int32)))).toInt8.toInt32)), (.int ((own_d1 (((((((-p0) / (100 : Int32)) / (100 : Int32)) / (100 : Int32)) / (100 : Int32)) * (100 : Int32)) - ((((-p0) / (100 : Int32)) / (100 : Int32)) / (100 : Int32)))).toInt8.toInt32)), (.int ((own_d2 ((((((-p0) / (100 : Int32)) / (100 : Int32)) / (100 : Int32)) * (100 : Int32)) - (((-p0) / (100 : Int32)) / (100 : Int32)))).toInt8.toInt32)), (.int ((own_d1 ((((((-p0) / (100 : Int32)) / (100 : Int32)) / (100 : Int32)) * (100 : Int32)) - (((-p0) / (100 : Int32)) / (100 : Int32)))).toInt8.toInt32)), (.int ((own_d2 (((((-p0) / (100 : Int32)) / (100 : Int32)) * (100 : Int32)) - ((-p0) / (100 : Int32)))).toInt8.toInt32)), (.int ((own_d1 (((((-p0) / (100 : Int32)) / (100 : Int32)) * (100 : Int32)) - ((-p0) / (100 : Int32)))).toInt8.toInt32)), (.int ((own_d2 ((((-p0) / (100 : Int32)) * (100 : Int32)) - (-p0))).toInt8.toInt32)), (.int ((own_d1 ((((-p0) / (100 : Int32)) * (100 : Int32)) - (-p0))).toInt8.toInt32))] : List Value) := by
  unfold own_dg
  rw [if_neg hs, if_neg (by omega : ¬ -10 < ((-p0)).toInt), if_neg (by omega : ¬ -100 < ((-p0)).toInt), if_neg (by omega : ¬ -1000 < ((-p0)).toInt), if_neg (by omega : ¬ -10000 < ((-p0)).toInt), if_neg (by omega : ¬ -100000 < ((-p0)).toInt), if_neg (by omega : ¬ -1000000 < ((-p0)).toInt), if_neg (by omega : ¬ -10000000 < ((-p0)).toInt), if_neg (by omega : ¬ -100000000 < ((-p0)).toInt), if_pos hhi0]
theorem own_sz_0_9 (p0 : Int32) (hs : ¬ p0 < (0 : Int32)) (hlo0 : ((-p0)).toInt ≤ -100000000) (hhi0 : -1000000000 < ((-p0)).toInt) : own_sz p0 = (9 : Int32) := by
  unfold own_sz
  rw [own_dg_0_9 p0 hs hlo0 hhi0]
  rfl
theorem own_dg_0_10 (p0 : Int32) (hs : ¬ p0 < (0 : Int32)) (hlo0 : ((-p0)).toInt ≤ -1000000000) (hhi0 : -10000000000 < ((-p0)).toInt) : own_dg p0 = ([(.int ((own_d2 (-(((((-p0) / (100 : Int32)) / (100 : Int32)) / (100 : Int32)) / (100 : Int32)))).toInt8.toInt32)), (.int ((own_d1 (-(((((-p0) / (100 : Int32)) / (100 : Int32)) / (100 : Int32)) / (100 : Int32)))).toInt8.toInt32)), (.int ((own_d2 (((((((-p0) / (100 : Int32)) / (100 : Int32)) / (100 : Int32)) / (100 : Int32)) * (100 : Int32)) - ((((-p0) / (100 : Int32)) / (100 : Int32)) / (100 : Int32)))).toInt8.toInt32)), (.int ((own_d1 (((((((-p0) / (100 : Int32)) / (100 : Int32)) / (100 : Int32)) / (100 : Int32)) * (100 : Int32)) - ((((-p0) / (100 : Int32)) / (100 : Int32)) / (100 : Int32)))).toInt8.toInt32)), (.int ((own_d2 ((((((-p0) / (100 : Int32)) / (100 : Int32)) / (100 : Int32)) * (100 : Int32)) - (((-p0) / (100 : Int32)) / (100 : Int32)))).toInt8.toInt32)), (.int ((own_d1 ((((((-p0) / (100 : Int32)) / (100 : Int32)) / (100 : Int32)) * (100 : Int32)) - (((-p0) / (100 : Int32)) / (100 : Int32)))).toInt8.toInt32)), (.int ((own_d2 (((((-p0) / (100 : Int32)) / (100 : Int32)) * (100 : Int32)) - ((-p0) / (100 : Int32)))).toInt8.toInt32)), (.int ((own_d1 (((((-p0) / (100 : Int32)) / (100 : Int32)) * (100 : Int32)) - ((-p0) / (100 : Int32)))).toInt8.toInt32)), (.int ((own_d2 ((((-p0) / (100 : Int32)) * (100 : Int32)) - (-p0))).toInt8.toInt32)), (.int ((own_d1 ((((-p0) / (100 : Int32)) * (100 : Int32)) - (-p0))).toInt8.toInt32))] : List Value) := by
  unfold own_dg
  rw [if_neg hs, if_neg (by omega : ¬ -10 < ((-p0)).toInt), if_neg (by omega : ¬ -100 < ((-p0)).toInt), if_neg (by omega : ¬ -1000 < ((-p0)).toInt), if_neg (by omega : ¬ -10000 < ((-p0)).toInt), if_neg (by omega : ¬ -100000 < ((-p0)).toInt), if_neg (by omega : ¬ -1000000 < ((-p0)).toInt), if_neg (by omega : ¬ -10000000 < ((-p0)).toInt), if_neg (by omega : ¬ -100000000 < ((-p0)).toInt), if_neg (by omega : ¬ -1000000000 < ((-p0)).toInt)]
theorem own_sz_0_10 (p0 : Int32) (hs : ¬ p0 < (0 : Int32)) (hlo0 : ((-p0)).toInt ≤ -1000000000) (hhi0 : -10000000000 < ((-p0)).toInt) : own_sz p0 = (10 : Int32) := by
  unfold own_sz
  rw [own_dg_0_10 p0 hs hlo0 hhi0]
  rfl
theorem own_dg_1_1 (p0 : Int32) (hs : p0 < (0 : Int32)) (hlo0 : (p0).toInt ≤ 0) (hhi0 : -10 < (p0).toInt) : own_dg p0 = ([(.int 45), (.int ((own_d1 (-p0)).toInt8.toInt32))] : List Value) := by
  unfold own_dg
  rw [if_pos hs, if_pos hhi0]
theorem own_sz_1_1 (p0 : Int32) (hs : p0 < (0 : Int32)) (hlo0 : (p0).toInt ≤ 0) (hhi0 : -10 < (p0).toInt) : own_sz p0 = (2 : Int32) := by
  unfold own_sz
  rw [own_dg_1_1 p0 hs hlo0 hhi0]
  rfl
theorem own_dg_1_2 (p0 : Int32) (hs : p0 < (0 : Int32)) (hlo0 : (p0).toInt ≤ -10) (hhi0 : -100 < (p0).toInt) : own_dg p0 = ([(.int 45), (.int ((own_d2 (-p0)).toInt8.toInt32)), (.int ((own_d1 (-p0)).toInt8.toInt32))] : List Value) := by
  unfold own_dg
  rw [if_pos hs, if_neg (by omega : ¬ -10 < (p0).toInt), if_pos hhi0]
theorem own_sz_1_2 (p0 : Int32) (hs : p0 < (0 : Int32)) (hlo0 : (p0).toInt ≤ -10) (hhi0 : -100 < (p0).toInt) : own_sz p0 = (3 : Int32) := by
  unfold own_sz
  rw [own_dg_1_2 p0 hs hlo0 hhi0]
  rfl
theorem own_dg_1_3 (p0 : Int32) (hs : p0 < (0 : Int32)) (hlo0 : (p0).toInt ≤ -100) (hhi0 : -1000 < (p0).toInt) : own_dg p0 = ([(.int 45), (.int ((own_d1 (-(p0 / (100 : Int32)))).toInt8.toInt32)), (.int ((own_d2 (((p0 / (100 : Int32)) * (100 : Int32)) - p0)).toInt8.toInt32)), (.int ((own_d1 (((p0 / (100 : Int32)) * (100 : Int32)) - p0)).toInt8.toInt32))] : List Value) := by
  unfold own_dg
  rw [if_pos hs, if_neg (by omega : ¬ -10 < (p0).toInt), if_neg (by omega : ¬ -100 < (p0).toInt), if_pos hhi0]
theorem own_sz_1_3 (p0 : Int32) (hs : p0 < (0 : Int32)) (hlo0 : (p0).toInt ≤ -100) (hhi0 : -1000 < (p0).toInt) : own_sz p0 = (4 : Int32) := by
  unfold own_sz
  rw [own_dg_1_3 p0 hs hlo0 hhi0]
  rfl
theorem own_dg_1_4 (p0 : Int32) (hs : p0 < (0 : Int32)) (hlo0 : (p0).toInt ≤ -1000) (hhi0 : -10000 < (p0).toInt) : own_dg p0 = ([(.int 45), (.int ((own_d2 (-(p0 / (100 : Int32)))).toInt8.toInt32)), (.int ((own_d1 (-(p0 / (100 : Int32)))).toInt8.toInt32)), (.int ((own_d2 (((p0 / (100 : Int32)) * (100 : Int32)) - p0)).toInt8.toInt32)), (.int ((own_d1 (((p0 / (100 : Int32)) * (100 : Int32)) - p0)).toInt8.toInt32))] : List Value) := by
  unfold own_dg
  rw [if_pos hs, if_neg (by omega : ¬ -10 < (p0).toInt), if_neg (by omega : ¬ -100 < (p0).toInt), if_neg (by omega : ¬ -1000 < (p0).toInt), if_pos hhi0]
theorem own_sz_1_4 (p0 : Int32) (hs : p0 < (0 : Int32)) (hlo0 : (p0).toInt ≤ -1000) (hhi0 : -10000 < (p0).toInt) : own_sz p0 = (5 : Int32) := by
  unfold own_sz
  rw [own_dg_1_4 p0 hs hlo0 hhi0]
  rfl
theorem own_dg_1_5 (p0 : Int32) (hs : p0 < (0 : Int32)) (hlo0 : (p0).toInt ≤ -10000) (hhi0 : -100000 < (p0).toInt) : own_dg p0 = ([(.int 45), (.int ((own_d1 (-((p0 / (100 : Int32)) / (100 : Int32)))).toInt8.toInt32)), (.int ((own_d2 ((((p0 / (100 : Int32)) / (100 : Int32)) * (100 : Int32)) - (p0 / (100 : Int32)))).toInt8.toInt32)), (.int ((own_d1 ((((p0 / (100 : Int32)) / (100 : Int32)) * (100 : Int32)) - (p0 / (100 : Int32)))).toInt8.toInt32)), (.int ((own_d2 (((p0 / (100 : Int32)) * (100 : Int32)) - p0)).toInt8.toInt32)), (.int ((own_d1 (((p0 / (100 : Int32)) * (100 : Int32)) - p0)).toInt8.toInt32))] : List Value) := by
  unfold own_dg
  rw [if_pos hs, if_neg (by omega : ¬ -10 < (p0).toInt), if_neg (by omega : ¬ -100 < (p0).toInt), if_neg (by omega : ¬ -1000 < (p0).toInt), if_neg (by omega : ¬ -10000 < (p0).toInt), if_pos hhi0]
theorem own_sz_1_5 (p0 : Int32) (hs : p0 < (0 : Int32)) (hlo0 : (p0).toInt ≤ -10000) (hhi0 : -100000 < (p0).toInt) : own_sz p0 = (6 : Int32) := by
  unfold own_sz
  rw [own_dg_1_5 p0 hs hlo0 hhi0]
  rfl
theorem own_dg_1_6 (p0 : Int32) (hs : p0 < (0 : Int32)) (hlo0 : (p0).toInt ≤ -100000) (hhi0 : -1000000 < (p0).toInt) : own_dg p0 = ([(.int 45), (.int ((own_d2 (-((p0 / (100 : Int32)) / (100 : Int32)))).toInt8.toInt32)), (.int ((own_d1 (-((p0 / (100 : Int32)) / (100 : Int32)))).toInt8.toInt32)), (.int ((own_d2 ((((p0 / (100 : Int32)) / (100 : Int32)) * (100 : Int32)) - (p0 / (100 : Int32)))).toInt8.toInt32)), (.int ((own_d1 ((((p0 / (100 : Int32)) / (100 : Int32)) * (100 : Int32)) - (p0 / (100 : Int32)))).toInt8.toInt32)), (.int ((own_d2 (((p0 / (100 : Int32)) * (100 : Int32)) - p0)).toInt8.toInt32)), (.int ((own_d1 (((p0 / (100 : Int32)) * (100 : Int32)) - p0)).toInt8.toInt32))] : List Value) := by
  unfold own_dg
  rw [if_pos hs, if_neg (by omega : ¬ -10 < (p0).toInt), if_neg (by omega : ¬ -100 < (p0).toInt), if_neg (by omega : ¬ -1000 < (p0).toInt), if_neg (by omega : ¬ -10000 < (p0).toInt), if_neg (by omega : ¬ -100000 < (p0).toInt), if_pos hhi0]
theorem own_sz_1_6 (p0 : Int32) (hs : p0 < (0 : Int32)) (hlo0 : (p0).toInt ≤ -100000) (hhi0 : -1000000 < (p0).toInt) : own_sz p0 = (7 : Int32) := by
  unfold own_sz
  rw [own_dg_1_6 p0 hs hlo0 hhi0]
  rfl
theorem own_dg_1_7 (p0 : Int32) (hs : p0 < (0 : Int32)) (hlo0 : (p0).toInt ≤ -1000000) (hhi0 : -10000000 < (p0).toInt) : own_dg p0 = ([(.int 45), (.int ((own_d1 (-(((p0 / (100 : Int32)) / (100 : Int32)) / (100 : Int32)))).toInt8.toInt32)), (.int ((own_d2 (((((p0 / (100 : Int32)) / (100 : Int32)) / (100 : Int32)) * (100 : Int32)) - ((p0 / (100 : Int32)) / (100 : Int32)))).toInt8.toInt32)), (.int ((own_d1 (((((p0 / (100 : Int32)) / (100 : Int32)) / (100 : Int32)) * (100 : Int32)) - ((p0 / (100 : Int32)) / (100 : Int32)))).toInt8.toInt32)), (.int ((own_d2 ((((p0 / (100 : Int32)) / (100 : Int32)) * (100 : Int32)) - (p0 / (100 : Int32)))).toInt8.toInt32)), (.int ((own_d1 ((((p0 / (100 : Int32)) / (100 : Int32)) * (100 : Int32)) - (p0 / (100 : Int32)))).toInt8.toInt32)), (.int ((own_d2 (((p0 / (100 : Int32)) * (100 : Int32)) - p0)).toInt8.toInt32)), (.int ((own_d1 (((p0 / (100 : Int32)) * (100 : Int32)) - p0)).toInt8.toInt32))] : List Value) := by
  unfold own_dg
  rw [if_pos hs, if_neg (by omega : ¬ -10 < (p0).toInt), if_neg (by omega : ¬ -100 < (p0).toInt), if_neg (by omega : ¬ -1000 < (p0).toInt), if_neg (by omega : ¬ -10000 < (p0).toInt), if_neg (by omega : ¬ -100000 < (p0).toInt), if_neg (by omega : ¬ -1000000 < (p0).toInt), if_pos hhi0]
theorem own_sz_1_7 (p0 : Int32) (hs : p0 < (0 : Int32)) (hlo0 : (p0).toInt ≤ -1000000) (hhi0 : -10000000 < (p0).toInt) : own_sz p0 = (8 : Int32) := by
  unfold own_sz
  rw [own_dg_1_7 p0 hs hlo0 hhi0]
  rfl
theorem own_dg_1_8 (p0 : Int32) (hs : p0 < (0 : Int32)) (hlo0 : (p0).toInt ≤ -10000000) (hhi0 : -100000000 < (p0).toInt) : own_dg p0 = ([(.int 45), (.int ((own_d2 (-(((p0 / (100 : Int32)) / (100 : Int32)) / (100 : Int32)))).toInt8.toInt32)), (.int ((own_d1 (-(((p0 / (100 : Int32)) / (100 : Int32)) / (100 : Int32)))).toInt8.toInt32)), (.int ((own_d2 (((((p0 / (100 : Int32)) / (100 : Int32)) / (100 : Int32)) * (100 : Int32)) - ((p0 / (100 : Int32)) / (100 : Int32)))).toInt8.toInt32)), (.int ((own_d1 (((((p0 / (100 : Int32)) / (100 : Int32)) / (100 : Int32)) * (100 : Int32)) - ((p0 / (100 : Int32)) / (100 : Int32)))).toInt8.toInt32)), (.int ((own_d2 ((((p0 / (100 : Int32)) / (100 : Int32)) * (100 : Int32)) - (p0 / (100 : Int32)))).toInt8.toInt32)), (.int ((own_d1 ((((p0 / (100 : Int32)) / (100 : Int32)) * (100 : Int32)) - (p0 / (100 : Int32)))).toInt8.toInt32)), (.int ((own_d2 (((p0 / (100 : Int32)) * (100 : Int32)) - p0)).toInt8.toInt32)), (.int ((own_d1 (((p0 / (100 : Int32)) * (100 : Int32)) - p0)).toInt8.toInt32))] : List Value) := by
  unfold own_dg
  rw [if_pos hs, if_neg (by omega : ¬ -10 < (p0).toInt), if_neg (by omega : ¬ -100 < (p0).toInt), if_neg (by omega : ¬ -1000 < (p0).toInt), if_neg (by omega : ¬ -10000 < (p0).toInt), if_neg (by omega : ¬ -100000 < (p0).toInt), if_neg (by omega : ¬ -1000000 < (p0).toInt), if_neg (by omega : ¬ -10000000 < (p0).toInt), if_pos hhi0]
theorem own_sz_1_8 (p0 : Int32) (hs : p0 < (0 : Int32)) (hlo0 : (p0).toInt ≤ -10000000) (hhi0 : -100000000 < (p0).toInt) : own_sz p0 = (9 : Int32) := by
  unfold own_sz
  rw [own_dg_1_8 p0 hs hlo0 hhi0]
  rfl
theorem own_dg_1_9 (p0 : Int32) (hs : p0 < (0 : Int32)) (hlo0 : (p0).toInt ≤ -100000000) (hhi0 : -1000000000 < (p0).toInt) : own_dg p0 = ([(.int 45), (.int ((own_d1 (-((((p0 / (100 : Int32)) / (100 : Int32)) / (100 : Int32)) / (100 : Int32)))).toInt8.toInt32)), (.int ((own_d2 ((((((p0 / (100 : Int32)) / (100 : Int32)) / (100 : Int32)) / (100 : Int32)) * (100 : Int32)) - (((p0 / (100 : Int32)) / (100 : Int32)) / (100 : Int32)))).toInt8.toInt32)), (.int ((own_d1 ((((((p0 / (100 : Int32)) / (100 : Int32)) / (100 : Int32)) / (100 : Int32)) * (100 : Int32)) - (((p0 / (100 : Int32)) / (100 : Int32)) / (100 : Int32)))).toInt8.toInt32)), (.int ((own_d2 (((((p0 / (100 : Int32)) / (100 : Int32)) / (100 : Int32)) * (100 : Int32)) - ((p0 / (100 : Int32)) / (100 : Int32)))).toInt8.toInt32)), (.int ((own_d1 (((((p0 / (100 : Int32)) / (100 : Int32)) / (100 : Int32)) * (100 : Int32)) - ((p0 / (100 : Int32)) / (100 : Int32)))).toInt8.toInt32)), (.int ((own_d2 ((((p0 / (100 : Int32)) / (100 : Int32)) * (100 : Int32)) - (p0 / (100 : Int32)))).toInt8.toInt32)), (.int ((own_d1 ((((p0 / (100 : Int32)) / (100 : Int32)) * (100 : Int32)) - (p0 / (100 : Int32)))).toInt8.toInt32)), (.int ((own_d2 (((p0 / (100 : Int32)) * (100 : Int32)) - p0)).toInt8.toInt32)), (.int ((own_d1 (((p0 / (100 : Int32)) * (100 : Int32)) - p0)).toInt8.toInt32))] : List Value) := by
  unfold own_dg
  rw [if_pos hs, if_neg (by omega : ¬ -10 < (p0).toInt), if_neg (by omega : ¬ -100 < (p0).toInt), if_neg (by omega : ¬ -1000 < (p0).toInt), if_neg (by omega : ¬ -10000 < (p0).toInt), if_neg (by omega : ¬ -100000 < (p0).toInt), if_neg (by omega : ¬ -1000000 < (p0).toInt), if_neg (by omega : ¬ -10000000 < (p0).toInt), if_neg (by omega : ¬ -100000000 < (p0).toInt), if_pos hhi0]
theorem own_sz_1_9 (p0 : Int32) (hs : p0 < (0 : Int32)) (hlo0 : (p0).toInt ≤ -100000000) (hhi0 : -1000000000 < (p0).toInt) : own_sz p0 = (10 : Int32) := by
  unfold own_sz
  rw [own_dg_1_9 p0 hs hlo0 hhi0]
  rfl
theorem own_dg_1_10 (p0 : Int32) (hs : p0 < (0 : Int32)) (hlo0 : (p0).toInt ≤ -1000000000) (hhi0 : -10000000000 < (p0).toInt) : own_dg p0 = ([(.int 45), (.int ((own_d2 (-((((p0 / (100 : Int32)) / (100 : Int32)) / (100 : Int32)) / (100 : Int32)))).toInt8.toInt32)), (.int ((own_d1 (-((((p0 / (100 : Int32)) / (100 : Int32)) / (100 : Int32)) / (100 : Int32)))).toInt8.toInt32)), (.int ((own_d2 ((((((p0 / (100 : Int32)) / (100 : Int32)) / (100 : Int32)) / (100 : Int32)) * (100 : Int32)) - (((p0 / (100 : Int32)) / (100 : Int32)) / (100 : Int32)))).toInt8.toInt32)), (.int ((own_d1 ((((((p0 / (100 : Int32)) / (100 : Int32)) / (100 : Int32)) / (100 : Int32)) * (100 : Int32)) - (((p0 / (100 : Int32)) / (100 : Int32)) / (100 : Int32)))).toInt8.toInt32)), (.int ((own_d2 (((((p0 / (100 : Int32)) / (100 : Int32)) / (100 : Int32)) * (100 : Int32)) - ((p0 / (100 : Int32)) / (100 : Int32)))).toInt8.toInt32)), (.int ((own_d1 (((((p0 / (100 : Int32)) / (100 : Int32)) / (100 : Int32)) * (100 : Int32)) - ((p0 / (100 : Int32)) / (100 : Int32)))).toInt8.toInt32)), (.int ((own_d2 ((((p0 / (100 : Int32)) / (100 : Int32)) * (100 : Int32)) - (p0 / (100 : Int32)))).toInt8.toInt32)), (.int ((own_d1 ((((p0 / (100 : Int32)) / (100 : Int32)) * (100 : Int32)) - (p0 / (100 : Int32)))).toInt8.toInt32)), (.int ((own_d2 (((p0 / (100 : Int32)) * (100 : Int32)) - p0)).toInt8.toInt32)), (.int ((own_d1 (((p0 / (100 : Int32)) * (100 : Int32)) - p0)).toInt8.toInt32))] : List Value) := by
  unfold own_dg
  rw [if_pos hs, if_neg (by omega : ¬ -10 < (p0).toInt), if_neg (by omega : ¬ -100 < (p0).toInt), if_neg (by omega : ¬ -1000 < (p0).toInt), if_neg (by omega : ¬ -10000 < (p0).toInt), if_neg (by omega : ¬ -100000 < (p0).toInt), if_neg (by omega : ¬ -1000000 < (p0).toInt), if_neg (by omega : ¬ -10000000 < (p0).toInt), if_neg (by omega : ¬ -100000000 < (p0).toInt), if_neg (by omega : ¬ -1000000000 < (p0).toInt)]
theorem own_sz_1_10 (p0 : Int32) (hs : p0 < (0 : Int32)) (hlo0 : (p0).toInt ≤ -1000000000) (hhi0 : -10000000000 < (p0).toInt) : own_sz p0 = (11 : Int32) := by
  unfold own_sz
  rw [own_dg_1_10 p0 hs hlo0 hhi0]
  rfl
theorem own_nltI {q X : Int32} {k : Int} (hq : q.toInt = k) (h : ¬ q < X) : X.toInt ≤ k := by rw [Int32.lt_iff_toInt_lt] at h; omega
theorem own_yltI {q X : Int32} {k : Int} (hq : q.toInt = k) (h : q < X) : k < X.toInt := by rw [Int32.lt_iff_toInt_lt] at h; omega
theorem own_neg0 {p : Int32} (h : ¬ p < (0 : Int32)) : (-p).toInt ≤ 0 := by
  have e := c_ineg p
  have a := Int32.le_toInt p
  have b := Int32.toInt_lt p
  have a' := Int32.le_toInt (-p)
  have b' := Int32.toInt_lt (-p)
  have z0 : (0 : Int32).toInt = 0 := rfl
  rw [Int32.lt_iff_toInt_lt] at h
  omega
theorem own_pos0 {p : Int32} (h : p < (0 : Int32)) : p.toInt ≤ 0 := by
  have z0 : (0 : Int32).toInt = 0 := rfl
  rw [Int32.lt_iff_toInt_lt] at h
  omega
theorem own_min10 (X : Int32) : -10000000000 < X.toInt := by
  have a := Int32.le_toInt X
  omega
theorem own_shape (p0 : Int32) : (¬ p0 < (0 : Int32) ∧ ((((-p0)).toInt ≤ 0 ∧ -10 < ((-p0)).toInt) ∨ (((-p0)).toInt ≤ -10 ∧ -100 < ((-p0)).toInt) ∨ (((-p0)).toInt ≤ -100 ∧ -1000 < ((-p0)).toInt) ∨ (((-p0)).toInt ≤ -1000 ∧ -10000 < ((-p0)).toInt) ∨ (((-p0)).toInt ≤ -10000 ∧ -100000 < ((-p0)).toInt) ∨ (((-p0)).toInt ≤ -100000 ∧ -1000000 < ((-p0)).toInt) ∨ (((-p0)).toInt ≤ -1000000 ∧ -10000000 < ((-p0)).toInt) ∨ (((-p0)).toInt ≤ -10000000 ∧ -100000000 < ((-p0)).toInt) ∨ (((-p0)).toInt ≤ -100000000 ∧ -1000000000 < ((-p0)).toInt) ∨ (((-p0)).toInt ≤ -1000000000 ∧ -10000000000 < ((-p0)).toInt))) ∨ (p0 < (0 : Int32) ∧ (((p0).toInt ≤ 0 ∧ -10 < (p0).toInt) ∨ ((p0).toInt ≤ -10 ∧ -100 < (p0).toInt) ∨ ((p0).toInt ≤ -100 ∧ -1000 < (p0).toInt) ∨ ((p0).toInt ≤ -1000 ∧ -10000 < (p0).toInt) ∨ ((p0).toInt ≤ -10000 ∧ -100000 < (p0).toInt) ∨ ((p0).toInt ≤ -100000 ∧ -1000000 < (p0).toInt) ∨ ((p0).toInt ≤ -1000000 ∧ -10000000 < (p0).toInt) ∨ ((p0).toInt ≤ -10000000 ∧ -100000000 < (p0).toInt) ∨ ((p0).toInt ≤ -100000000 ∧ -1000000000 < (p0).toInt) ∨ ((p0).toInt ≤ -1000000000 ∧ -10000000000 < (p0).toInt))) := by
  have e := c_ineg p0
  have a := Int32.le_toInt p0
  have b := Int32.toInt_lt p0
  have a' := Int32.le_toInt (-p0)
  have b' := Int32.toInt_lt (-p0)
  have z0 : (0 : Int32).toInt = 0 := rfl
  by_cases hs : p0 < (0 : Int32)
  · refine Or.inr ⟨hs, ?_⟩
    rw [Int32.lt_iff_toInt_lt] at hs
    omega
  · refine Or.inl ⟨hs, ?_⟩
    rw [Int32.lt_iff_toInt_lt] at hs
    have q : (-p0).toInt = -p0.toInt := by omega
    omega
theorem own_dgl (p0 : Int32) : (([(.int 108), (.int 105), (.int 110), (.int 101), (.int 32)] : List Value) ++ own_dg p0).length = (((5 : Int32) + (own_sz p0))).toNatClampNeg := by
  rcases own_shape p0 with ⟨hs, hh⟩ | ⟨hs, hh⟩
  · rcases hh with ⟨hlo0, hhi0⟩ | ⟨hlo0, hhi0⟩ | ⟨hlo0, hhi0⟩ | ⟨hlo0, hhi0⟩ | ⟨hlo0, hhi0⟩ | ⟨hlo0, hhi0⟩ | ⟨hlo0, hhi0⟩ | ⟨hlo0, hhi0⟩ | ⟨hlo0, hhi0⟩ | ⟨hlo0, hhi0⟩
    · rw [own_dg_0_1 p0 hs hlo0 hhi0, own_sz_0_1 p0 hs hlo0 hhi0]; rfl
    · rw [own_dg_0_2 p0 hs hlo0 hhi0, own_sz_0_2 p0 hs hlo0 hhi0]; rfl
    · rw [own_dg_0_3 p0 hs hlo0 hhi0, own_sz_0_3 p0 hs hlo0 hhi0]; rfl
    · rw [own_dg_0_4 p0 hs hlo0 hhi0, own_sz_0_4 p0 hs hlo0 hhi0]; rfl
    · rw [own_dg_0_5 p0 hs hlo0 hhi0, own_sz_0_5 p0 hs hlo0 hhi0]; rfl
    · rw [own_dg_0_6 p0 hs hlo0 hhi0, own_sz_0_6 p0 hs hlo0 hhi0]; rfl
    · rw [own_dg_0_7 p0 hs hlo0 hhi0, own_sz_0_7 p0 hs hlo0 hhi0]; rfl
    · rw [own_dg_0_8 p0 hs hlo0 hhi0, own_sz_0_8 p0 hs hlo0 hhi0]; rfl
    · rw [own_dg_0_9 p0 hs hlo0 hhi0, own_sz_0_9 p0 hs hlo0 hhi0]; rfl
    · rw [own_dg_0_10 p0 hs hlo0 hhi0, own_sz_0_10 p0 hs hlo0 hhi0]; rfl
  · rcases hh with ⟨hlo0, hhi0⟩ | ⟨hlo0, hhi0⟩ | ⟨hlo0, hhi0⟩ | ⟨hlo0, hhi0⟩ | ⟨hlo0, hhi0⟩ | ⟨hlo0, hhi0⟩ | ⟨hlo0, hhi0⟩ | ⟨hlo0, hhi0⟩ | ⟨hlo0, hhi0⟩ | ⟨hlo0, hhi0⟩
    · rw [own_dg_1_1 p0 hs hlo0 hhi0, own_sz_1_1 p0 hs hlo0 hhi0]; rfl
    · rw [own_dg_1_2 p0 hs hlo0 hhi0, own_sz_1_2 p0 hs hlo0 hhi0]; rfl
    · rw [own_dg_1_3 p0 hs hlo0 hhi0, own_sz_1_3 p0 hs hlo0 hhi0]; rfl
    · rw [own_dg_1_4 p0 hs hlo0 hhi0, own_sz_1_4 p0 hs hlo0 hhi0]; rfl
    · rw [own_dg_1_5 p0 hs hlo0 hhi0, own_sz_1_5 p0 hs hlo0 hhi0]; rfl
    · rw [own_dg_1_6 p0 hs hlo0 hhi0, own_sz_1_6 p0 hs hlo0 hhi0]; rfl
    · rw [own_dg_1_7 p0 hs hlo0 hhi0, own_sz_1_7 p0 hs hlo0 hhi0]; rfl
    · rw [own_dg_1_8 p0 hs hlo0 hhi0, own_sz_1_8 p0 hs hlo0 hhi0]; rfl
    · rw [own_dg_1_9 p0 hs hlo0 hhi0, own_sz_1_9 p0 hs hlo0 hhi0]; rfl
    · rw [own_dg_1_10 p0 hs hlo0 hhi0, own_sz_1_10 p0 hs hlo0 hhi0]; rfl
theorem own_cnr (p0 : Int32) : (((5 : Int32) + (own_sz p0)) = (6 : Int32) ∨ ((5 : Int32) + (own_sz p0)) = (7 : Int32) ∨ ((5 : Int32) + (own_sz p0)) = (8 : Int32) ∨ ((5 : Int32) + (own_sz p0)) = (9 : Int32) ∨ ((5 : Int32) + (own_sz p0)) = (10 : Int32) ∨ ((5 : Int32) + (own_sz p0)) = (11 : Int32) ∨ ((5 : Int32) + (own_sz p0)) = (12 : Int32) ∨ ((5 : Int32) + (own_sz p0)) = (13 : Int32) ∨ ((5 : Int32) + (own_sz p0)) = (14 : Int32)) ∨ (((5 : Int32) + (own_sz p0)) = (15 : Int32) ∨ ((5 : Int32) + (own_sz p0)) = (16 : Int32)) := by
  rcases own_shape p0 with ⟨hs, hh⟩ | ⟨hs, hh⟩
  · rcases hh with ⟨hlo0, hhi0⟩ | ⟨hlo0, hhi0⟩ | ⟨hlo0, hhi0⟩ | ⟨hlo0, hhi0⟩ | ⟨hlo0, hhi0⟩ | ⟨hlo0, hhi0⟩ | ⟨hlo0, hhi0⟩ | ⟨hlo0, hhi0⟩ | ⟨hlo0, hhi0⟩ | ⟨hlo0, hhi0⟩
    · rw [own_sz_0_1 p0 hs hlo0 hhi0]; decide
    · rw [own_sz_0_2 p0 hs hlo0 hhi0]; decide
    · rw [own_sz_0_3 p0 hs hlo0 hhi0]; decide
    · rw [own_sz_0_4 p0 hs hlo0 hhi0]; decide
    · rw [own_sz_0_5 p0 hs hlo0 hhi0]; decide
    · rw [own_sz_0_6 p0 hs hlo0 hhi0]; decide
    · rw [own_sz_0_7 p0 hs hlo0 hhi0]; decide
    · rw [own_sz_0_8 p0 hs hlo0 hhi0]; decide
    · rw [own_sz_0_9 p0 hs hlo0 hhi0]; decide
    · rw [own_sz_0_10 p0 hs hlo0 hhi0]; decide
  · rcases hh with ⟨hlo0, hhi0⟩ | ⟨hlo0, hhi0⟩ | ⟨hlo0, hhi0⟩ | ⟨hlo0, hhi0⟩ | ⟨hlo0, hhi0⟩ | ⟨hlo0, hhi0⟩ | ⟨hlo0, hhi0⟩ | ⟨hlo0, hhi0⟩ | ⟨hlo0, hhi0⟩ | ⟨hlo0, hhi0⟩
    · rw [own_sz_1_1 p0 hs hlo0 hhi0]; decide
    · rw [own_sz_1_2 p0 hs hlo0 hhi0]; decide
    · rw [own_sz_1_3 p0 hs hlo0 hhi0]; decide
    · rw [own_sz_1_4 p0 hs hlo0 hhi0]; decide
    · rw [own_sz_1_5 p0 hs hlo0 hhi0]; decide
    · rw [own_sz_1_6 p0 hs hlo0 hhi0]; decide
    · rw [own_sz_1_7 p0 hs hlo0 hhi0]; decide
    · rw [own_sz_1_8 p0 hs hlo0 hhi0]; decide
    · rw [own_sz_1_9 p0 hs hlo0 hhi0]; decide
    · rw [own_sz_1_10 p0 hs hlo0 hhi0]; decide
theorem own_szm (p0 : Int32) : ¬ (0 : Int32) < (((5 : Int32) + (own_sz p0)) - (16 : Int32)) := by
  rcases own_cnr p0 with h | h
  · rcases h with h | h | h | h | h | h | h | h | h <;> rw [h] <;> decide
  · rcases h with h | h <;> rw [h] <;> decide
theorem own_nA0 {cn : Int32} (h : cn = (6 : Int32) ∨ cn = (7 : Int32) ∨ cn = (8 : Int32) ∨ cn = (9 : Int32) ∨ cn = (10 : Int32) ∨ cn = (11 : Int32) ∨ cn = (12 : Int32) ∨ cn = (13 : Int32) ∨ cn = (14 : Int32)) : ¬ cn < (0 : Int32) := by
  rcases h with rfl | rfl | rfl | rfl | rfl | rfl | rfl | rfl | rfl <;> decide
theorem own_nA1 {cn : Int32} (h : cn = (6 : Int32) ∨ cn = (7 : Int32) ∨ cn = (8 : Int32) ∨ cn = (9 : Int32) ∨ cn = (10 : Int32) ∨ cn = (11 : Int32) ∨ cn = (12 : Int32) ∨ cn = (13 : Int32) ∨ cn = (14 : Int32)) : (cn).toNatClampNeg + ((2 : Int32)).toNatClampNeg ≤ 16 := by
  rcases h with rfl | rfl | rfl | rfl | rfl | rfl | rfl | rfl | rfl <;> decide
theorem own_nA2 {cn : Int32} (h : cn = (6 : Int32) ∨ cn = (7 : Int32) ∨ cn = (8 : Int32) ∨ cn = (9 : Int32) ∨ cn = (10 : Int32) ∨ cn = (11 : Int32) ∨ cn = (12 : Int32) ∨ cn = (13 : Int32) ∨ cn = (14 : Int32)) : ¬ (0 : Int32) < ((cn + (2 : Int32)) - (16 : Int32)) := by
  rcases h with rfl | rfl | rfl | rfl | rfl | rfl | rfl | rfl | rfl <;> decide
theorem own_nA3 {cn : Int32} (h : cn = (6 : Int32) ∨ cn = (7 : Int32) ∨ cn = (8 : Int32) ∨ cn = (9 : Int32) ∨ cn = (10 : Int32) ∨ cn = (11 : Int32) ∨ cn = (12 : Int32) ∨ cn = (13 : Int32) ∨ cn = (14 : Int32)) : (cn).toNatClampNeg + ([(.int 58), (.int 32)] : List Value).length = ((cn + (2 : Int32))).toNatClampNeg := by
  rcases h with rfl | rfl | rfl | rfl | rfl | rfl | rfl | rfl | rfl <;> decide
theorem own_nA4 {cn : Int32} (h : cn = (6 : Int32) ∨ cn = (7 : Int32) ∨ cn = (8 : Int32) ∨ cn = (9 : Int32) ∨ cn = (10 : Int32) ∨ cn = (11 : Int32) ∨ cn = (12 : Int32) ∨ cn = (13 : Int32) ∨ cn = (14 : Int32)) : ¬ (cn + (2 : Int32)) < (0 : Int32) := by
  rcases h with rfl | rfl | rfl | rfl | rfl | rfl | rfl | rfl | rfl <;> decide
theorem own_nA5 {cn : Int32} (h : cn = (6 : Int32) ∨ cn = (7 : Int32) ∨ cn = (8 : Int32) ∨ cn = (9 : Int32) ∨ cn = (10 : Int32) ∨ cn = (11 : Int32) ∨ cn = (12 : Int32) ∨ cn = (13 : Int32) ∨ cn = (14 : Int32)) : ((cn + (2 : Int32))).toNatClampNeg + ((34 : Int32)).toNatClampNeg ≤ (((cn + (2 : Int32)) + (34 : Int32))).toNatClampNeg := by
  rcases h with rfl | rfl | rfl | rfl | rfl | rfl | rfl | rfl | rfl <;> decide
theorem own_nA6 {cn : Int32} (h : cn = (6 : Int32) ∨ cn = (7 : Int32) ∨ cn = (8 : Int32) ∨ cn = (9 : Int32) ∨ cn = (10 : Int32) ∨ cn = (11 : Int32) ∨ cn = (12 : Int32) ∨ cn = (13 : Int32) ∨ cn = (14 : Int32)) : (0 : Int32) < (((cn + (2 : Int32)) + (34 : Int32)) - (16 : Int32)) := by
  rcases h with rfl | rfl | rfl | rfl | rfl | rfl | rfl | rfl | rfl <;> decide
theorem own_nA7 {cn : Int32} (h : cn = (6 : Int32) ∨ cn = (7 : Int32) ∨ cn = (8 : Int32) ∨ cn = (9 : Int32) ∨ cn = (10 : Int32) ∨ cn = (11 : Int32) ∨ cn = (12 : Int32) ∨ cn = (13 : Int32) ∨ cn = (14 : Int32)) : (((cn + (2 : Int32)) + (34 : Int32)) - (16 : Int32)) = if (((cn + (2 : Int32)) + (34 : Int32)) - (16 : Int32)) < ((16 : Int32) + (2 : Int32)) then ((16 : Int32) + (2 : Int32)) else (((cn + (2 : Int32)) + (34 : Int32)) - (16 : Int32)) := by
  rcases h with rfl | rfl | rfl | rfl | rfl | rfl | rfl | rfl | rfl <;> decide
theorem own_nA8 {cn : Int32} (h : cn = (6 : Int32) ∨ cn = (7 : Int32) ∨ cn = (8 : Int32) ∨ cn = (9 : Int32) ∨ cn = (10 : Int32) ∨ cn = (11 : Int32) ∨ cn = (12 : Int32) ∨ cn = (13 : Int32) ∨ cn = (14 : Int32)) : ((16 : Int32) + (((cn + (2 : Int32)) + (34 : Int32)) - (16 : Int32))) = ((cn + (2 : Int32)) + (34 : Int32)) := by
  rcases h with rfl | rfl | rfl | rfl | rfl | rfl | rfl | rfl | rfl <;> decide
theorem own_nA9 {cn : Int32} (h : cn = (6 : Int32) ∨ cn = (7 : Int32) ∨ cn = (8 : Int32) ∨ cn = (9 : Int32) ∨ cn = (10 : Int32) ∨ cn = (11 : Int32) ∨ cn = (12 : Int32) ∨ cn = (13 : Int32) ∨ cn = (14 : Int32)) : (0 : Int32) < ((cn + (2 : Int32)) + (34 : Int32)) := by
  rcases h with rfl | rfl | rfl | rfl | rfl | rfl | rfl | rfl | rfl <;> decide
theorem own_nA10 {cn : Int32} (h : cn = (6 : Int32) ∨ cn = (7 : Int32) ∨ cn = (8 : Int32) ∨ cn = (9 : Int32) ∨ cn = (10 : Int32) ∨ cn = (11 : Int32) ∨ cn = (12 : Int32) ∨ cn = (13 : Int32) ∨ cn = (14 : Int32)) : ¬ (2147483639 : Int32) < ((cn + (2 : Int32)) + (34 : Int32)) := by
  rcases h with rfl | rfl | rfl | rfl | rfl | rfl | rfl | rfl | rfl <;> decide
theorem own_nA11 {cn : Int32} (h : cn = (6 : Int32) ∨ cn = (7 : Int32) ∨ cn = (8 : Int32) ∨ cn = (9 : Int32) ∨ cn = (10 : Int32) ∨ cn = (11 : Int32) ∨ cn = (12 : Int32) ∨ cn = (13 : Int32) ∨ cn = (14 : Int32)) : ¬ ((cn + (2 : Int32)) + (34 : Int32)) = (2147483647 : Int32) := by
  rcases h with rfl | rfl | rfl | rfl | rfl | rfl | rfl | rfl | rfl <;> decide
theorem own_nA12 {cn : Int32} (h : cn = (6 : Int32) ∨ cn = (7 : Int32) ∨ cn = (8 : Int32) ∨ cn = (9 : Int32) ∨ cn = (10 : Int32) ∨ cn = (11 : Int32) ∨ cn = (12 : Int32) ∨ cn = (13 : Int32) ∨ cn = (14 : Int32)) : ((cn + (2 : Int32))).toNatClampNeg ≤ 16 := by
  rcases h with rfl | rfl | rfl | rfl | rfl | rfl | rfl | rfl | rfl <;> decide
theorem own_nA13 {cn : Int32} (h : cn = (6 : Int32) ∨ cn = (7 : Int32) ∨ cn = (8 : Int32) ∨ cn = (9 : Int32) ∨ cn = (10 : Int32) ∨ cn = (11 : Int32) ∨ cn = (12 : Int32) ∨ cn = (13 : Int32) ∨ cn = (14 : Int32)) : ¬ ((cn + (2 : Int32)) + (34 : Int32)) = (16 : Int32) := by
  rcases h with rfl | rfl | rfl | rfl | rfl | rfl | rfl | rfl | rfl <;> decide
theorem own_nA14 {cn : Int32} (h : cn = (6 : Int32) ∨ cn = (7 : Int32) ∨ cn = (8 : Int32) ∨ cn = (9 : Int32) ∨ cn = (10 : Int32) ∨ cn = (11 : Int32) ∨ cn = (12 : Int32) ∨ cn = (13 : Int32) ∨ cn = (14 : Int32)) : ¬ ((cn + (2 : Int32)) + (34 : Int32)) < (0 : Int32) := by
  rcases h with rfl | rfl | rfl | rfl | rfl | rfl | rfl | rfl | rfl <;> decide
theorem own_nA15 {cn : Int32} (h : cn = (6 : Int32) ∨ cn = (7 : Int32) ∨ cn = (8 : Int32) ∨ cn = (9 : Int32) ∨ cn = (10 : Int32) ∨ cn = (11 : Int32) ∨ cn = (12 : Int32) ∨ cn = (13 : Int32) ∨ cn = (14 : Int32)) : 16 ≤ (((cn + (2 : Int32)) + (34 : Int32))).toNatClampNeg := by
  rcases h with rfl | rfl | rfl | rfl | rfl | rfl | rfl | rfl | rfl <;> decide
theorem own_nA16 {cn : Int32} (h : cn = (6 : Int32) ∨ cn = (7 : Int32) ∨ cn = (8 : Int32) ∨ cn = (9 : Int32) ∨ cn = (10 : Int32) ∨ cn = (11 : Int32) ∨ cn = (12 : Int32) ∨ cn = (13 : Int32) ∨ cn = (14 : Int32)) : (((cn + (2 : Int32)) + (34 : Int32))).toNatClampNeg ≤ 128 := by
  rcases h with rfl | rfl | rfl | rfl | rfl | rfl | rfl | rfl | rfl <;> decide
theorem own_nA17 {cn : Int32} (h : cn = (6 : Int32) ∨ cn = (7 : Int32) ∨ cn = (8 : Int32) ∨ cn = (9 : Int32) ∨ cn = (10 : Int32) ∨ cn = (11 : Int32) ∨ cn = (12 : Int32) ∨ cn = (13 : Int32) ∨ cn = (14 : Int32)) : (16 : Int32) = if ((cn + (2 : Int32)) + (34 : Int32)) < (16 : Int32) then ((cn + (2 : Int32)) + (34 : Int32)) else (16 : Int32) := by
  rcases h with rfl | rfl | rfl | rfl | rfl | rfl | rfl | rfl | rfl <;> decide
theorem own_nA18 {cn : Int32} (h : cn = (6 : Int32) ∨ cn = (7 : Int32) ∨ cn = (8 : Int32) ∨ cn = (9 : Int32) ∨ cn = (10 : Int32) ∨ cn = (11 : Int32) ∨ cn = (12 : Int32) ∨ cn = (13 : Int32) ∨ cn = (14 : Int32)) : ((cn + (2 : Int32))).toNatClampNeg + ((34 : Int32)).toNatClampNeg = (((cn + (2 : Int32)) + (34 : Int32))).toNatClampNeg := by
  rcases h with rfl | rfl | rfl | rfl | rfl | rfl | rfl | rfl | rfl <;> decide
theorem own_nB19 {cn : Int32} (h : cn = (15 : Int32) ∨ cn = (16 : Int32)) : ¬ cn < (0 : Int32) := by
  rcases h with rfl | rfl <;> decide
theorem own_nB20 {cn : Int32} (h : cn = (15 : Int32) ∨ cn = (16 : Int32)) : (cn).toNatClampNeg + ((2 : Int32)).toNatClampNeg ≤ 34 := by
  rcases h with rfl | rfl <;> decide
theorem own_nB21 {cn : Int32} (h : cn = (15 : Int32) ∨ cn = (16 : Int32)) : (0 : Int32) < ((cn + (2 : Int32)) - (16 : Int32)) := by
  rcases h with rfl | rfl <;> decide
theorem own_nB22 {cn : Int32} (h : cn = (15 : Int32) ∨ cn = (16 : Int32)) : (18 : Int32) = if ((cn + (2 : Int32)) - (16 : Int32)) < ((16 : Int32) + (2 : Int32)) then ((16 : Int32) + (2 : Int32)) else ((cn + (2 : Int32)) - (16 : Int32)) := by
  rcases h with rfl | rfl <;> decide
theorem own_nB23 {cn : Int32} (h : cn = (15 : Int32) ∨ cn = (16 : Int32)) : (cn).toNatClampNeg ≤ 16 := by
  rcases h with rfl | rfl <;> decide
theorem own_nB24 {cn : Int32} (h : cn = (15 : Int32) ∨ cn = (16 : Int32)) : (cn).toNatClampNeg + ([(.int 58), (.int 32)] : List Value).length = ((cn + (2 : Int32))).toNatClampNeg := by
  rcases h with rfl | rfl <;> decide
theorem own_nB25 {cn : Int32} (h : cn = (15 : Int32) ∨ cn = (16 : Int32)) : ¬ (cn + (2 : Int32)) < (0 : Int32) := by
  rcases h with rfl | rfl <;> decide
theorem own_nB26 {cn : Int32} (h : cn = (15 : Int32) ∨ cn = (16 : Int32)) : ((cn + (2 : Int32))).toNatClampNeg + ((34 : Int32)).toNatClampNeg ≤ 70 := by
  rcases h with rfl | rfl <;> decide
theorem own_nB27 {cn : Int32} (h : cn = (15 : Int32) ∨ cn = (16 : Int32)) : (0 : Int32) < (((cn + (2 : Int32)) + (34 : Int32)) - (34 : Int32)) := by
  rcases h with rfl | rfl <;> decide
theorem own_nB28 {cn : Int32} (h : cn = (15 : Int32) ∨ cn = (16 : Int32)) : (36 : Int32) = if (((cn + (2 : Int32)) + (34 : Int32)) - (34 : Int32)) < ((34 : Int32) + (2 : Int32)) then ((34 : Int32) + (2 : Int32)) else (((cn + (2 : Int32)) + (34 : Int32)) - (34 : Int32)) := by
  rcases h with rfl | rfl <;> decide
theorem own_nB29 {cn : Int32} (h : cn = (15 : Int32) ∨ cn = (16 : Int32)) : ((cn + (2 : Int32))).toNatClampNeg ≤ 34 := by
  rcases h with rfl | rfl <;> decide
theorem own_nB30 {cn : Int32} (h : cn = (15 : Int32) ∨ cn = (16 : Int32)) : ((cn + (2 : Int32))).toNatClampNeg + ((34 : Int32)).toNatClampNeg = (((cn + (2 : Int32)) + (34 : Int32))).toNatClampNeg := by
  rcases h with rfl | rfl <;> decide
theorem own_nB31 {cn : Int32} (h : cn = (15 : Int32) ∨ cn = (16 : Int32)) : ¬ ((cn + (2 : Int32)) + (34 : Int32)) < (0 : Int32) := by
  rcases h with rfl | rfl <;> decide
theorem own_nB32 {cn : Int32} (h : cn = (15 : Int32) ∨ cn = (16 : Int32)) : (((cn + (2 : Int32)) + (34 : Int32))).toNatClampNeg ≤ 70 := by
  rcases h with rfl | rfl <;> decide
theorem own_nB33 {cn : Int32} (h : cn = (15 : Int32) ∨ cn = (16 : Int32)) : ((cn + (2 : Int32)) + (34 : Int32)) = if ((cn + (2 : Int32)) + (34 : Int32)) < (70 : Int32) then ((cn + (2 : Int32)) + (34 : Int32)) else (70 : Int32) := by
  rcases h with rfl | rfl <;> decide
theorem own_nB34 {cn : Int32} (h : cn = (15 : Int32) ∨ cn = (16 : Int32)) : ¬ ((cn + (2 : Int32)) + (34 : Int32)) = (70 : Int32) := by
  rcases h with rfl | rfl <;> decide
def Q_coder (Z : State) (a0_ : Addr) (cs : Int32) (h0 : Heap) (n0 : Nat) (v : Option Value) (h : Heap) (L : List Loc) : Prop := v = some (.int 0) ∧ Fr n0 L ∧ h = h0
theorem ef_coder (m : MethodId) (a0_ : Addr) (cs : Int32) : entryFrame m #[(.ref a0_)] 1 = mkF m 0 #[(vR a0_)] [] := by first | (simp [entryFrame, mkF, argsToLocals, Value.category]; done) | rfl
set_option maxRecDepth 65536 in
set_option maxHeartbeats 40000000 in
theorem rm_coder (l : Launch) (Z : State) (a0 : Array Value) (hw : oW a0 Z) (ws : List Jvm.Cond) (a0_ : Addr) (cs : Int32) (h0 : Heap) (n0 : Nat) (Z0 : n0 ≤ h0.size) (O0 : Old Z n0 h0) (Scs : Sta Z Z.heap "java/lang/String" "COMPACT_STRINGS" "Z" (.int cs)) (hcs : ¬ cs = (0 : Int32)) (FC : Fld Z h0 a0_ "java/lang/String" "coder" "B" (.int 0)) :
    oM l oY3 jdk_42_method_152_code 1 (some .byte) ws (own_R 0 0 0 0) #[(.ref a0_)] Z h0 (Q_coder Z a0_ cs h0 n0) := by
  refine own_open (n0 := n0) (cn := "java/lang/String") rfl (plainFor_of_name pn_java_lang_String) (fun m => ef_coder m a0_ cs) ?_
  intro p e s m below meth c s₁ P hx hby hml hown hnm X0 e0 N0 hlk hret hZ hP
  obtain ⟨T11, X11, e11, st11⟩ := getS2 X0 hx hZ hown (host := "") (Or.inl (tw_15 hw)) Via.refl e0 (Scs.ext O0.2) (g := (mkF m 0 #[(vR a0_)] [])) rfl (hb hby dj42_152_0)
  refine Go.by st11 ?_
  show oG p e below P m T11 3 #[(vR a0_)] [(.int cs)]
  refine w_ifNo X11 hx hby dj42_152_3 (XT.i0_eq_f hcs) ?_
  refine w_aloadN X11 hx hby dj42_152_6 rfl rfl ?_
  obtain ⟨T12, X12, e12, st12⟩ := getF X11 hx hZ hown (host := "") (Or.inl (tw_27 hw)) Via.refl e11 FC (g := (mkF m 7 #[(vR a0_)] [(.ref a0_)])) rfl rfl (hb hby dj42_152_7)
  refine Go.by st12 ?_
  show oG p e below P m T12 10 #[(vR a0_)] [(.int 0)]
  refine w_goto X12 hx hby dj42_152_10 (pc' := 14) (by decide) ?_
  refine own_fin hP hlk X12 (v := some (.int 0)) (fun h => by rw [hret] at h; cases h) (by decide) (by decide) ?_ (fun fs hr => retOut X12 hx hret rfl (Or.inl ⟨rfl, Or.inr (Or.inr (Or.inl rfl)), _, rfl⟩) (hb hby dj42_152_14) hr)
  rw [e12]
  exact ⟨rfl, N0, rfl⟩
def Q_slen (Z : State) (a0_ : Addr) (d : Addr) (kd : ClassId) (z : Int32) (vs : List Value) (cs : Int32) (h0 : Heap) (n0 : Nat) (v : Option Value) (h : Heap) (L : List Loc) : Prop := v = some (.int z) ∧ Fr n0 L ∧ h = h0
theorem ef_slen (m : MethodId) (a0_ : Addr) (d : Addr) (kd : ClassId) (z : Int32) (vs : List Value) (cs : Int32) : entryFrame m #[(.ref a0_)] 1 = mkF m 0 #[(vR a0_)] [] := by first | (simp [entryFrame, mkF, argsToLocals, Value.category]; done) | rfl
set_option maxRecDepth 65536 in
set_option maxHeartbeats 40000000 in
theorem rm_slen (l : Launch) (Z : State) (a0 : Array Value) (hw : oW a0 Z) (ws : List Jvm.Cond) (a0_ : Addr) (d : Addr) (kd : ClassId) (z : Int32) (vs : List Value) (cs : Int32) (h0 : Heap) (n0 : Nat) (Z0 : n0 ≤ h0.size) (O0 : Old Z n0 h0) (Scs : Sta Z Z.heap "java/lang/String" "COMPACT_STRINGS" "Z" (.int cs)) (hcs : ¬ cs = (0 : Int32)) (E0 : Exa Z h0 a0_ "java/lang/String") (FC : Fld Z h0 a0_ "java/lang/String" "coder" "B" (.int 0)) (FV : Fld Z h0 a0_ "java/lang/String" "value" "[B" (.ref d)) (V0 : Arv Z h0 d kd .byte z vs (.int 0)) :
    oM l oY6 jdk_42_method_54_code 1 (some .int) ws (own_R 1 0 0 14) #[(.ref a0_)] Z h0 (Q_slen Z a0_ d kd z vs cs h0 n0) := by
  refine own_open (n0 := n0) (cn := "java/lang/String") rfl (plainFor_of_name pn_java_lang_String) (fun m => ef_slen m a0_ d kd z vs cs) ?_
  intro p e s m below meth c s₁ P hx hby hml hown hnm X0 e0 N0 hlk hret hZ hP
  refine w_aloadN X0 hx hby dj42_54_0 rfl rfl ?_
  obtain ⟨T11, X11, e11, st11⟩ := getF X0 hx hZ hown (host := "") (Or.inl (tw_29 hw)) Via.refl e0 FV (g := (mkF m 1 #[(vR a0_)] [(.ref a0_)])) rfl rfl (hb hby dj42_54_1)
  refine Go.by st11 ?_
  have av12 := V0
  obtain ⟨cl12, Ar12, -, Sz12, Nn12, -, -⟩ := av12
  refine Go.by (X11.arraylength hx (by rw [e11]; exact Ar12.1) (State.isArrayOf_alike hZ.alike Ar12.2.1) (g := (mkF m 4 #[(vR a0_)] [(.ref d)])) rfl rfl (hb hby dj42_54_4)) ?_
  rw [len_of Sz12 Nn12]
  show oG p e below P m T11 5 #[(vR a0_)] [(.int z)]
  refine w_aloadN X11 hx hby dj42_54_5 rfl rfl ?_
  obtain ⟨cq13, kq13, q13a, q13b, q13c⟩ := isOf hZ e11 E0
  obtain ⟨_, _, ⟨T13, L13, k13, n13⟩, -, X13, ⟨Lc13, hQ13, l13, y13, z13⟩, st13⟩ := X11.virtualBack hx (y := oY3) (z := oY3) hown (mvT hZ (tw_73 hw)) (mvT hZ (tw_74 hw)) (notFace_of_selects (args := #[]) (mvT hZ (tw_76 hw))) (mvT hZ (tw_76 hw)) (mvT hZ (tw_75 hw)) (by decide) (backOf (W := 1) (rm_coder l Z a0 hw [] a0_ cs h0 n0 Z0 O0 Scs hcs FC) hZ (tw_77 hw) (tw_4 hw) (by decide) (by decide)) q13a q13c (g := (mkF m 6 #[(vR a0_)] [(.ref a0_), (.int z)])) rfl (by rw [hml]; rfl) (Steps.refl _) (argsL := []) (rest := [(.int z)]) (lenOf pd___B rfl) rfl (by show 2 * 0 + _ ≤ _; exact Nat.le_of_eq rfl) (hb hby dj42_54_6) (fun _ _ => ⟨rfl, e11, (by decide : 0 + 0 ≤ _), (by decide : 0 + 0 ≤ _)⟩)
  dsimp only [Pt.U, Pt.locs, Pt.cells, Pt.slots] at X13 l13 y13 z13 st13 hQ13
  subst l13 y13 z13
  obtain ⟨rfl, N13q, q13⟩ := hQ13
  have N13 := Fr.app N0 N13q
  refine Go.by (fun t k => st13.trans k) ?_
  show oG p e below P m T13 9 #[(vR a0_)] [(.int 0), (.int z)]
  refine Go.by (fun _ => XS.ishr X13.here hx rfl (hb hby dj42_54_9) rfl) ?_
  show oG p e below P m T13 10 #[(vR a0_)] [(.int (z >>> ((0 : Int32) &&& 31)))]
  refine own_fin hP hlk X13 (v := some (.int (z >>> ((0 : Int32) &&& 31)))) (fun h => by rw [hret] at h; cases h) (by decide) (by decide) ?_ (fun fs hr => retOut X13 hx hret rfl (Or.inl ⟨rfl, Or.inl rfl, _, rfl⟩) (hb hby dj42_54_10) hr)
  rw [q13]
  exact ⟨by rw [own_shr0], N13, rfl⟩
def Q_sbInfl (Z : State) (a0_ : Addr) (a1_ : Addr) (cs : Int32) (h0 : Heap) (n0 : Nat) (v : Option Value) (h : Heap) (L : List Loc) : Prop := v = none ∧ Fr n0 L ∧ h = h0
theorem ef_sbInfl (m : MethodId) (a0_ : Addr) (a1_ : Addr) (cs : Int32) : entryFrame m #[(.ref a0_), (.ref a1_)] 2 = mkF m 0 #[(vR a0_), (vR a1_)] [] := by first | (simp [entryFrame, mkF, argsToLocals, Value.category]; done) | rfl
set_option maxRecDepth 65536 in
set_option maxHeartbeats 40000000 in
theorem rm_sbInfl (l : Launch) (Z : State) (a0 : Array Value) (hw : oW a0 Z) (ws : List Jvm.Cond) (a0_ : Addr) (a1_ : Addr) (cs : Int32) (h0 : Heap) (n0 : Nat) (Z0 : n0 ≤ h0.size) (O0 : Old Z n0 h0) (Scs : Sta Z Z.heap "java/lang/String" "COMPACT_STRINGS" "Z" (.int cs)) (hcs : ¬ cs = (0 : Int32)) (FBc : Fld Z h0 a0_ "java/lang/AbstractStringBuilder" "coder" "B" (.int 0)) (E1 : Exa Z h0 a1_ "java/lang/String") (F1c : Fld Z h0 a1_ "java/lang/String" "coder" "B" (.int 0)) :
    oM l oY31 jdk_68_method_71_code 2 none ws (own_R 1 0 0 14) #[(.ref a0_), (.ref a1_)] Z h0 (Q_sbInfl Z a0_ a1_ cs h0 n0) := by
  refine own_open (n0 := n0) (cn := "java/lang/AbstractStringBuilder") rfl (plainFor_of_name pn_java_lang_AbstractStringBuilder) (fun m => ef_sbInfl m a0_ a1_ cs) ?_
  intro p e s m below meth c s₁ P hx hby hml hown hnm X0 e0 N0 hlk hret hZ hP
  obtain ⟨T11, X11, e11, st11⟩ := getS2 X0 hx hZ hown (host := "") (Or.inl (tw_50 hw)) Via.refl e0 (Scs.ext O0.2) (g := (mkF m 0 #[(vR a0_), (vR a1_)] [])) rfl (hb hby dj68_71_0)
  refine Go.by st11 ?_
  show oG p e below P m T11 3 #[(vR a0_), (vR a1_)] [(.int cs)]
  refine w_ifNo X11 hx hby dj68_71_3 (XT.i0_eq_f hcs) ?_
  refine w_aloadN X11 hx hby dj68_71_6 rfl rfl ?_
  obtain ⟨T12, X12, e12, st12⟩ := getF X11 hx hZ hown (host := "") (Or.inl (tw_53 hw)) Via.refl e11 FBc (g := (mkF m 7 #[(vR a0_), (vR a1_)] [(.ref a0_)])) rfl rfl (hb hby dj68_71_7)
  refine Go.by st12 ?_
  show oG p e below P m T12 10 #[(vR a0_), (vR a1_)] [(.int 0)]
  refine w_aloadN X12 hx hby dj68_71_10 rfl rfl ?_
  obtain ⟨cq13, kq13, q13a, q13b, q13c⟩ := isOf hZ e12 E1
  obtain ⟨_, _, ⟨T13, L13, k13, n13⟩, -, X13, ⟨Lc13, hQ13, l13, y13, z13⟩, st13⟩ := X12.virtualBack hx (y := oY3) (z := oY3) hown (mvT hZ (tw_95 hw)) (mvT hZ (tw_74 hw)) (notFace_of_selects (args := #[]) (mvT hZ (tw_76 hw))) (mvT hZ (tw_76 hw)) (mvT hZ (tw_75 hw)) (by decide) (backOf (W := 1) (rm_coder l Z a0 hw [] a1_ cs h0 n0 Z0 O0 Scs hcs F1c) hZ (tw_77 hw) (tw_4 hw) (by decide) (by decide)) q13a q13c (g := (mkF m 11 #[(vR a0_), (vR a1_)] [(.ref a1_), (.int 0)])) rfl (by rw [hml]; rfl) (Steps.refl _) (argsL := []) (rest := [(.int 0)]) (lenOf pd___B rfl) rfl (by show 2 * 0 + _ ≤ _; exact Nat.le_of_eq rfl) (hb hby dj68_71_11) (fun _ _ => ⟨rfl, e12, (by decide : 0 + 0 ≤ _), (by decide : 0 + 0 ≤ _)⟩)
  dsimp only [Pt.U, Pt.locs, Pt.cells, Pt.slots] at X13 l13 y13 z13 st13 hQ13
  subst l13 y13 z13
  obtain ⟨rfl, N13q, q13⟩ := hQ13
  have N13 := Fr.app N0 N13q
  refine Go.by (fun t k => st13.trans k) ?_
  show oG p e below P m T13 14 #[(vR a0_), (vR a1_)] [(.int 0), (.int 0)]
  refine w_icmpYes X13 hx hby dj68_71_14 (pc' := 21) (XT.ii_eq_t (by decide : (0 : Int32) = (0 : Int32))) (by decide) ?_
  refine own_fin hP hlk X13 (v := none) (fun _ => rfl) (by decide) (by decide) ?_ (fun fs hr => X13.returnOut hx hret (hb hby dj68_71_21) hr)
  rw [q13]
  exact ⟨rfl, N13, rfl⟩
def Q_sGetB (Z : State) (a1_ : Addr) (d1 : Addr) (k1 : ClassId) (z1 : Int32) (us : List Value) (d : Addr) (kd : ClassId) (z : Int32) (vd : List Value) (j : Int32) (cs : Int32) (h0 : Heap) (n0 : Nat) (v : Option Value) (h : Heap) (L : List Loc) : Prop := v = none ∧ Fr n0 L ∧ Keep h0 h [d] ∧ Arv Z h d kd .byte z (vd.take j.toNatClampNeg ++ us ++ vd.drop (j.toNatClampNeg + z1.toNatClampNeg)) (.int 0)
theorem ef_sGetB (m : MethodId) (a1_ : Addr) (d1 : Addr) (k1 : ClassId) (z1 : Int32) (us : List Value) (d : Addr) (kd : ClassId) (z : Int32) (vd : List Value) (j : Int32) (cs : Int32) : entryFrame m #[(.ref a1_), (.ref d), (.int j), (.int 0)] 4 = mkF m 0 #[(vR a1_), (vR d), (vI j), (vI 0)] [] := by first | (simp [entryFrame, mkF, argsToLocals, Value.category]; done) | rfl
set_option maxRecDepth 65536 in
set_option maxHeartbeats 40000000 in
theorem rm_sGetB (l : Launch) (Z : State) (a0 : Array Value) (hw : oW a0 Z) (ws : List Jvm.Cond) (a1_ : Addr) (d1 : Addr) (k1 : ClassId) (z1 : Int32) (us : List Value) (d : Addr) (kd : ClassId) (z : Int32) (vd : List Value) (j : Int32) (cs : Int32) (h0 : Heap) (n0 : Nat) (Z0 : n0 ≤ h0.size) (O0 : Old Z n0 h0) (Scs : Sta Z Z.heap "java/lang/String" "COMPACT_STRINGS" "Z" (.int cs)) (hcs : ¬ cs = (0 : Int32)) (E1 : Exa Z h0 a1_ "java/lang/String") (F1c : Fld Z h0 a1_ "java/lang/String" "coder" "B" (.int 0)) (F1v : Fld Z h0 a1_ "java/lang/String" "value" "[B" (.ref d1)) (V1 : Arv Z h0 d1 k1 .byte z1 us (.int 0)) (hul : z1.toNatClampNeg = us.length) (ne1d : d1 ≠ d) (g_d : n0 ≤ d) (VB : Arv Z h0 d kd .byte z vd (.int 0)) (hj : ¬ j < (0 : Int32)) (hin : j.toNatClampNeg + z1.toNatClampNeg ≤ z.toNatClampNeg) (hvd : z.toNatClampNeg = vd.length) :
    oM l oY21 jdk_42_method_147_code 4 none ws (own_R 1 0 0 34) #[(.ref a1_), (.ref d), (.int j), (.int 0)] Z h0 (Q_sGetB Z a1_ d1 k1 z1 us d kd z vd j cs h0 n0) := by
  refine own_open (n0 := n0) (cn := "java/lang/String") rfl (plainFor_of_name pn_java_lang_String) (fun m => ef_sGetB m a1_ d1 k1 z1 us d kd z vd j cs) ?_
  intro p e s m below meth c s₁ P hx hby hml hown hnm X0 e0 N0 hlk hret hZ hP
  refine w_aloadN X0 hx hby dj42_147_0 rfl rfl ?_
  obtain ⟨cq11, kq11, q11a, q11b, q11c⟩ := isOf hZ e0 E1
  obtain ⟨_, _, ⟨T11, L11, k11, n11⟩, -, X11, ⟨Lc11, hQ11, l11, y11, z11⟩, st11⟩ := X0.virtualBack hx (y := oY3) (z := oY3) hown (mvT hZ (tw_73 hw)) (mvT hZ (tw_74 hw)) (notFace_of_selects (args := #[]) (mvT hZ (tw_76 hw))) (mvT hZ (tw_76 hw)) (mvT hZ (tw_75 hw)) (by decide) (backOf (W := 0) (rm_coder l Z a0 hw [] a1_ cs h0 n0 Z0 O0 Scs hcs F1c) hZ (tw_77 hw) (tw_4 hw) (by decide) (by decide)) q11a q11c (g := (mkF m 1 #[(vR a1_), (vR d), (vI j), (vI 0)] [(.ref a1_)])) rfl (by rw [hml]; rfl) (Steps.refl _) (argsL := []) (rest := []) (lenOf pd___B rfl) rfl (by show 2 * 0 + _ ≤ _; exact Nat.le_of_eq rfl) (hb hby dj42_147_1) (fun _ _ => ⟨rfl, e0, (by decide : 0 + 0 ≤ _), (by decide : 0 + 0 ≤ _)⟩)
  dsimp only [Pt.U, Pt.locs, Pt.cells, Pt.slots] at X11 l11 y11 z11 st11 hQ11
  subst l11 y11 z11
  obtain ⟨rfl, N11q, q11⟩ := hQ11
  have N11 := Fr.app N0 N11q
  refine Go.by (fun t k => st11.trans k) ?_
  show oG p e below P m T11 4 #[(vR a1_), (vR d), (vI j), (vI 0)] [(.int 0)]
  refine w_iloadN X11 hx hby dj42_147_4 rfl ?_
  refine w_icmpNo X11 hx hby dj42_147_5 (XT.ii_ne_f (by decide : (0 : Int32) = (0 : Int32))) ?_
  refine w_aloadN X11 hx hby dj42_147_8 rfl rfl ?_
  obtain ⟨T12, X12, e12, st12⟩ := getF X11 hx hZ hown (host := "") (Or.inl (tw_29 hw)) Via.refl q11 F1v (g := (mkF m 9 #[(vR a1_), (vR d), (vI j), (vI 0)] [(.ref a1_)])) rfl rfl (hb hby dj42_147_9)
  refine Go.by st12 ?_
  show oG p e below P m T12 12 #[(vR a1_), (vR d), (vI j), (vI 0)] [(.ref d1)]
  refine w_iconst X12 hx hby dj42_147_12 (v := 0) rfl ?_
  refine w_aloadN X12 hx hby dj42_147_13 rfl rfl ?_
  refine w_iloadN X12 hx hby dj42_147_14 rfl ?_
  refine w_iloadN X12 hx hby dj42_147_15 rfl ?_
  refine Go.by (fun _ => XS.ishl X12.here hx rfl (hb hby dj42_147_16) rfl) ?_
  show oG p e below P m T12 17 #[(vR a1_), (vR d), (vI j), (vI 0)] [(.int (j <<< ((0 : Int32) &&& 31))), (.ref d), (.int 0), (.ref d1)]
  rw [own_shl0]
  show oG p e below P m T12 17 #[(vR a1_), (vR d), (vI j), (vI 0)] [(.int j), (.ref d), (.int 0), (.ref d1)]
  refine w_aloadN X12 hx hby dj42_147_17 rfl rfl ?_
  obtain ⟨T13, X13, e13, st13⟩ := getF X12 hx hZ hown (host := "") (Or.inl (tw_29 hw)) Via.refl e12 F1v (g := (mkF m 18 #[(vR a1_), (vR d), (vI j), (vI 0)] [(.ref a1_), (.int j), (.ref d), (.int 0), (.ref d1)])) rfl rfl (hb hby dj42_147_18)
  refine Go.by st13 ?_
  have av14 := V1
  obtain ⟨cl14, Ar14, -, Sz14, Nn14, -, -⟩ := av14
  refine Go.by (X13.arraylength hx (by rw [e13]; exact Ar14.1) (State.isArrayOf_alike hZ.alike Ar14.2.1) (g := (mkF m 21 #[(vR a1_), (vR d), (vI j), (vI 0)] [(.ref d1), (.int j), (.ref d), (.int 0), (.ref d1)])) rfl rfl (hb hby dj42_147_21)) ?_
  rw [len_of Sz14 Nn14]
  show oG p e below P m T13 22 #[(vR a1_), (vR d), (vI j), (vI 0)] [(.int z1), (.int j), (.ref d), (.int 0), (.ref d1)]
  have nz15 : ¬ z1 < (0 : Int32) := by obtain ⟨_, _, _, _, q, _⟩ := V1; exact q
  obtain ⟨T16, h16, Lc16, X16, e16, N16, K16, V16, st16⟩ := cpA X13 hx hZ hown (tw_101 hw) (tw_104 hw) (tw_102 hw) (tw_103 hw) e13 V1 VB (us := us) (Or.inl ⟨rfl, rfl⟩) (by decide) hj nz15 (by show 0 + _ ≤ _; omega) hin (by rw [hul]; exact (own_range _ _).symm) (by rw [← hvd]; exact hin) N11 g_d (g := (mkF m 22 #[(vR a1_), (vR d), (vI j), (vI 0)] [(.int z1), (.int j), (.ref d), (.int 0), (.ref d1)])) rfl (by rw [hml]; rfl) rfl (hb hby dj42_147_22) (by decide) (W := 0) (by show 2 * 0 + _ ≤ _; exact Nat.le_of_eq rfl) (by decide)
  have V16' : Arv Z h16 d kd .byte z (vd.take j.toNatClampNeg ++ us ++ vd.drop (j.toNatClampNeg + z1.toNatClampNeg)) (.int 0) := V16
  have f16_0 := (Nat.le_trans Z0 K16.1)
  have f16_1 := (Keep.trans (Keep.refl h0 [d]) K16 (allS (Or.inl (List.mem_of_getElem? (i := 0) rfl)) all0))
  have f16_2 := (Old.keep O0 K16 (allS g_d all0))
  have f16_3 := (Arv.keep V1 K16 (ninS ne1d nin0))
  refine Go.by st16 ?_
  show oG p e below P m T16 25 #[(vR a1_), (vR d), (vI j), (vI 0)] []
  refine w_goto X16 hx hby dj42_147_25 (pc' := 43) (by decide) ?_
  refine own_fin hP hlk X16 (v := none) (fun _ => rfl) (by decide) (by decide) ?_ (fun fs hr => X16.returnOut hx hret (hb hby dj42_147_43) hr)
  rw [e16]
  exact ⟨rfl, N16, f16_1, V16'⟩
def Q_sbPutS (Z : State) (a0_ : Addr) (d : Addr) (kd : ClassId) (z : Int32) (zn : Nat) (bs : List Value) (cn : Int32) (a1_ : Addr) (d1 : Addr) (k1 : ClassId) (z1 : Int32) (us : List Value) (cs : Int32) (h0 : Heap) (n0 : Nat) (v : Option Value) (h : Heap) (L : List Loc) : Prop := v = none ∧ Fr n0 L ∧ Keep h0 h [d] ∧ Arv Z h d kd .byte z (own_full zn (bs ++ us)) (.int 0)
theorem ef_sbPutS (m : MethodId) (a0_ : Addr) (d : Addr) (kd : ClassId) (z : Int32) (zn : Nat) (bs : List Value) (cn : Int32) (a1_ : Addr) (d1 : Addr) (k1 : ClassId) (z1 : Int32) (us : List Value) (cs : Int32) : entryFrame m #[(.ref a0_), (.int cn), (.ref a1_)] 3 = mkF m 0 #[(vR a0_), (vI cn), (vR a1_)] [] := by first | (simp [entryFrame, mkF, argsToLocals, Value.category]; done) | rfl
set_option maxRecDepth 65536 in
set_option maxHeartbeats 40000000 in
theorem rm_sbPutS (l : Launch) (Z : State) (a0 : Array Value) (hw : oW a0 Z) (ws : List Jvm.Cond) (a0_ : Addr) (d : Addr) (kd : ClassId) (z : Int32) (zn : Nat) (bs : List Value) (cn : Int32) (a1_ : Addr) (d1 : Addr) (k1 : ClassId) (z1 : Int32) (us : List Value) (cs : Int32) (h0 : Heap) (n0 : Nat) (Z0 : n0 ≤ h0.size) (O0 : Old Z n0 h0) (Scs : Sta Z Z.heap "java/lang/String" "COMPACT_STRINGS" "Z" (.int cs)) (hcs : ¬ cs = (0 : Int32)) (E0 : Exa Z h0 a0_ "java/lang/StringBuilder") (g_a0_ : n0 ≤ a0_) (FBv : Fld Z h0 a0_ "java/lang/AbstractStringBuilder" "value" "[B" (.ref d)) (FBc : Fld Z h0 a0_ "java/lang/AbstractStringBuilder" "coder" "B" (.int 0)) (FBn : Fld Z h0 a0_ "java/lang/AbstractStringBuilder" "count" "I" (.int cn)) (g_d : n0 ≤ d) (VB : Arv Z h0 d kd .byte z (own_full zn bs) (.int 0)) (ne0d : a0_ ≠ d) (E1 : Exa Z h0 a1_ "java/lang/String") (F1c : Fld Z h0 a1_ "java/lang/String" "coder" "B" (.int 0)) (F1v : Fld Z h0 a1_ "java/lang/String" "value" "[B" (.ref d1)) (V1 : Arv Z h0 d1 k1 .byte z1 us (.int 0)) (hul : z1.toNatClampNeg = us.length) (ne1d : d1 ≠ d) (ne10 : d1 ≠ a0_) (nes0 : a1_ ≠ a0_) (nesd : a1_ ≠ d) (hbl : bs.length = cn.toNatClampNeg) (hzn : z.toNatClampNeg = zn) (hc0 : ¬ cn < (0 : Int32)) (hin : cn.toNatClampNeg + z1.toNatClampNeg ≤ zn) :
    oM l oY22 jdk_68_method_73_code 3 none ws (own_R 2 0 0 52) #[(.ref a0_), (.int cn), (.ref a1_)] Z h0 (Q_sbPutS Z a0_ d kd z zn bs cn a1_ d1 k1 z1 us cs h0 n0) := by
  refine own_open (n0 := n0) (cn := "java/lang/AbstractStringBuilder") rfl (plainFor_of_name pn_java_lang_AbstractStringBuilder) (fun m => ef_sbPutS m a0_ d kd z zn bs cn a1_ d1 k1 z1 us cs) ?_
  intro p e s m below meth c s₁ P hx hby hml hown hnm X0 e0 N0 hlk hret hZ hP
  refine w_aloadN X0 hx hby dj68_73_0 rfl rfl ?_
  refine w_aloadN X0 hx hby dj68_73_1 rfl rfl ?_
  obtain ⟨cq11, q11a, q11b⟩ := Exa.cell E0
  obtain ⟨_, _, ⟨T11, L11, k11, n11⟩, -, X11, ⟨Lc11, hQ11, l11, y11, z11⟩, st11⟩ := X0.privateBack hx (y := oY31) hown (mvT hZ (tw_90 hw)) (mvT hZ (tw_91 hw)) (own_selfP (args := #[(.ref a0_), (.int cn), (.ref a1_)]) (mvT hZ (tw_93 hw)) (mvT hZ (tw_91 hw)) (mvP hZ (tw_92 hw)) (by decide)) (Cond.privateMethod_at (args := #[]) (mvP hZ (tw_92 hw))) (mvT hZ (tw_94 hw)) (by decide) (backOf (W := 0) (rm_sbInfl l Z a0 hw [] a0_ a1_ cs h0 n0 Z0 O0 Scs hcs FBc E1 F1c) hZ (tw_94 hw) (tw_47 hw) (by decide) (by decide)) (g := (mkF m 2 #[(vR a0_), (vI cn), (vR a1_)] [(.ref a1_), (.ref a0_)])) rfl (by rw [hml]; rfl) (Steps.refl _) (a := a0_) (by rw [e0]; exact q11a) q11b (argsL := [(.ref a1_)]) (rest := []) (lenOf pd__Ljava_lang_String__V rfl) rfl (by show 2 * 0 + _ ≤ _; exact Nat.le_of_eq rfl) (hb hby dj68_73_2) (fun _ _ => ⟨rfl, e0, (by decide : 0 + 0 ≤ _), (by decide : 0 + 0 ≤ _)⟩)
  dsimp only [Pt.U, Pt.locs, Pt.cells, Pt.slots] at X11 l11 y11 z11 st11 hQ11
  subst l11 y11 z11
  obtain ⟨rfl, N11q, q11⟩ := hQ11
  have N11 := Fr.app N0 N11q
  refine Go.by (fun t k => st11.trans k) ?_
  show oG p e below P m T11 5 #[(vR a0_), (vI cn), (vR a1_)] []
  refine w_aloadN X11 hx hby dj68_73_5 rfl rfl ?_
  refine w_aloadN X11 hx hby dj68_73_6 rfl rfl ?_
  obtain ⟨T12, X12, e12, st12⟩ := getF X11 hx hZ hown (host := "") (Or.inl (tw_51 hw)) Via.refl q11 FBv (g := (mkF m 7 #[(vR a0_), (vI cn), (vR a1_)] [(.ref a0_), (.ref a1_)])) rfl rfl (hb hby dj68_73_7)
  refine Go.by st12 ?_
  show oG p e below P m T12 10 #[(vR a0_), (vI cn), (vR a1_)] [(.ref d), (.ref a1_)]
  refine w_iloadN X12 hx hby dj68_73_10 rfl ?_
  refine w_aloadN X12 hx hby dj68_73_11 rfl rfl ?_
  obtain ⟨T13, X13, e13, st13⟩ := getF X12 hx hZ hown (host := "") (Or.inl (tw_53 hw)) Via.refl e12 FBc (g := (mkF m 12 #[(vR a0_), (vI cn), (vR a1_)] [(.ref a0_), (.int cn), (.ref d), (.ref a1_)])) rfl rfl (hb hby dj68_73_12)
  refine Go.by st13 ?_
  obtain ⟨cq14, kq14, q14a, q14b, q14c⟩ := isOf hZ e13 E1
  obtain ⟨_, _, ⟨T14, L14, k14, n14⟩, -, X14, ⟨Lc14, hQ14, l14, y14, z14⟩, st14⟩ := X13.virtualBack hx (y := oY21) (z := oY21) hown (mvT hZ (tw_96 hw)) (mvT hZ (tw_97 hw)) (notFace_of_selects (args := #[]) (mvT hZ (tw_99 hw))) (mvT hZ (tw_99 hw)) (mvT hZ (tw_98 hw)) (by decide) (backOf (W := 0) (rm_sGetB l Z a0 hw [] a1_ d1 k1 z1 us d kd z (own_full zn bs) cn cs h0 n0 Z0 O0 Scs hcs E1 F1c F1v V1 hul ne1d g_d VB hc0 (by rw [hzn]; exact hin) (by rw [hzn, own_full_len (by omega)])) hZ (tw_100 hw) (tw_4 hw) (by decide) (by decide)) q14a q14c (g := (mkF m 15 #[(vR a0_), (vI cn), (vR a1_)] [(.int 0), (.int cn), (.ref d), (.ref a1_)])) rfl (by rw [hml]; rfl) (Steps.refl _) (argsL := [(.ref d), (.int cn), (.int 0)]) (rest := []) (lenOf pd___BIB_V rfl) rfl (by show 2 * 0 + _ ≤ _; exact Nat.le_of_eq rfl) (hb hby dj68_73_15) (fun _ _ => ⟨rfl, e13, (by decide : 0 + 0 ≤ _), (by decide : 0 + 0 ≤ _)⟩)
  dsimp only [Pt.U, Pt.locs, Pt.cells, Pt.slots] at X14 l14 y14 z14 st14 hQ14
  subst l14 y14 z14
  obtain ⟨rfl, N14q, K14, V14⟩ := hQ14
  have N14 := Fr.app N11 N14q
  refine Go.by (fun t k => st14.trans k) ?_
  have f14_0 := (Nat.le_trans Z0 K14.1)
  have f14_1 := (Keep.trans (Keep.refl h0 [d]) K14 (allS (Or.inl (List.mem_of_getElem? (i := 0) rfl)) all0))
  have f14_2 := (Old.keep O0 K14 (allS g_d all0))
  have f14_3 := (Exa.keep E0 K14)
  have f14_4 := (Fld.keep FBv K14 (ninS ne0d nin0))
  have f14_5 := (Fld.keep FBc K14 (ninS ne0d nin0))
  have f14_6 := (Fld.keep FBn K14 (ninS ne0d nin0))
  have f14_7 := (Exa.keep E1 K14)
  have f14_8 := (Fld.keep F1c K14 (ninS nesd nin0))
  have f14_9 := (Fld.keep F1v K14 (ninS nesd nin0))
  have f14_10 := (Arv.keep V1 K14 (ninS ne1d nin0))
  have V14' : Arv Z T14.heap d kd .byte z (own_full zn (bs ++ us)) (.int 0) := by have q := V14; rw [own_ins hbl hul.symm hin] at q; exact q
  show oG p e below P m T14 18 #[(vR a0_), (vI cn), (vR a1_)] []
  refine own_fin hP hlk X14 (v := none) (fun _ => rfl) (by decide) (by decide) ?_ (fun fs hr => X14.returnOut hx hret (hb hby dj68_73_18) hr)
  exact ⟨rfl, N14, f14_1, V14'⟩
def Q_sbEnsN (Z : State) (a0_ : Addr) (d : Addr) (kd : ClassId) (z : Int32) (vd : List Value) (m0 : Int32) (h0 : Heap) (n0 : Nat) (v : Option Value) (h : Heap) (L : List Loc) : Prop := v = none ∧ Fr n0 L ∧ h = h0
theorem ef_sbEnsN (m : MethodId) (a0_ : Addr) (d : Addr) (kd : ClassId) (z : Int32) (vd : List Value) (m0 : Int32) : entryFrame m #[(.ref a0_), (.int m0)] 3 = mkF m 0 #[(vR a0_), (vI m0), .unset] [] := by first | (simp [entryFrame, mkF, argsToLocals, Value.category]; done) | rfl
set_option maxRecDepth 65536 in
set_option maxHeartbeats 40000000 in
theorem rm_sbEnsN (l : Launch) (Z : State) (a0 : Array Value) (hw : oW a0 Z) (ws : List Jvm.Cond) (a0_ : Addr) (d : Addr) (kd : ClassId) (z : Int32) (vd : List Value) (m0 : Int32) (h0 : Heap) (n0 : Nat) (Z0 : n0 ≤ h0.size) (FBv : Fld Z h0 a0_ "java/lang/AbstractStringBuilder" "value" "[B" (.ref d)) (FBc : Fld Z h0 a0_ "java/lang/AbstractStringBuilder" "coder" "B" (.int 0)) (VB : Arv Z h0 d kd .byte z vd (.int 0)) (hm : ¬ (0 : Int32) < (m0 - z)) :
    oM l oY4 jdk_68_method_9_code 3 none ws (own_R 0 0 0 0) #[(.ref a0_), (.int m0)] Z h0 (Q_sbEnsN Z a0_ d kd z vd m0 h0 n0) := by
  refine own_open (n0 := n0) (cn := "java/lang/AbstractStringBuilder") rfl (plainFor_of_name pn_java_lang_AbstractStringBuilder) (fun m => ef_sbEnsN m a0_ d kd z vd m0) ?_
  intro p e s m below meth c s₁ P hx hby hml hown hnm X0 e0 N0 hlk hret hZ hP
  refine w_aloadN X0 hx hby dj68_9_0 rfl rfl ?_
  obtain ⟨T11, X11, e11, st11⟩ := getF X0 hx hZ hown (host := "") (Or.inl (tw_51 hw)) Via.refl e0 FBv (g := (mkF m 1 #[(vR a0_), (vI m0), .unset] [(.ref a0_)])) rfl rfl (hb hby dj68_9_1)
  refine Go.by st11 ?_
  have av12 := VB
  obtain ⟨cl12, Ar12, -, Sz12, Nn12, -, -⟩ := av12
  refine Go.by (X11.arraylength hx (by rw [e11]; exact Ar12.1) (State.isArrayOf_alike hZ.alike Ar12.2.1) (g := (mkF m 4 #[(vR a0_), (vI m0), .unset] [(.ref d)])) rfl rfl (hb hby dj68_9_4)) ?_
  rw [len_of Sz12 Nn12]
  show oG p e below P m T11 5 #[(vR a0_), (vI m0), .unset] [(.int z)]
  refine w_aloadN X11 hx hby dj68_9_5 rfl rfl ?_
  obtain ⟨T13, X13, e13, st13⟩ := getF X11 hx hZ hown (host := "") (Or.inl (tw_53 hw)) Via.refl e11 FBc (g := (mkF m 6 #[(vR a0_), (vI m0), .unset] [(.ref a0_), (.int z)])) rfl rfl (hb hby dj68_9_6)
  refine Go.by st13 ?_
  show oG p e below P m T13 9 #[(vR a0_), (vI m0), .unset] [(.int 0), (.int z)]
  refine Go.by (fun _ => XS.ishr X13.here hx rfl (hb hby dj68_9_9) rfl) ?_
  show oG p e below P m T13 10 #[(vR a0_), (vI m0), .unset] [(.int (z >>> ((0 : Int32) &&& 31)))]
  rw [own_shr0]
  show oG p e below P m T13 10 #[(vR a0_), (vI m0), .unset] [(.int z)]
  refine w_istoreN X13 hx hby dj68_9_10 (l' := #[(vR a0_), (vI m0), (vI z)]) rfl ?_
  refine w_iloadN X13 hx hby dj68_9_11 rfl ?_
  refine w_iloadN X13 hx hby dj68_9_12 rfl ?_
  refine w_isub X13 hx hby dj68_9_13 (v := (m0 - z)) rfl ?_
  refine w_ifYes X13 hx hby dj68_9_14 (pc' := 38) (XT.i0_le_t hm) (by decide) ?_
  refine own_fin hP hlk X13 (v := none) (fun _ => rfl) (by decide) (by decide) ?_ (fun fs hr => X13.returnOut hx hret (hb hby dj68_9_38) hr)
  rw [e13]
  exact ⟨rfl, N0, rfl⟩
def Q_asbAppN (Z : State) (a0_ : Addr) (d : Addr) (kd : ClassId) (z : Int32) (zn : Nat) (bs : List Value) (cn : Int32) (a1_ : Addr) (d1 : Addr) (k1 : ClassId) (z1 : Int32) (us : List Value) (cz : Int32) (cs : Int32) (h0 : Heap) (n0 : Nat) (v : Option Value) (h : Heap) (L : List Loc) : Prop := v = some (.ref a0_) ∧ Fr n0 L ∧ Keep h0 h [a0_, d] ∧ Fld Z h a0_ "java/lang/AbstractStringBuilder" "value" "[B" (.ref d) ∧ Fld Z h a0_ "java/lang/AbstractStringBuilder" "coder" "B" (.int 0) ∧ Fld Z h a0_ "java/lang/AbstractStringBuilder" "count" "I" (.int cz) ∧ Arv Z h d kd .byte z (own_full zn (bs ++ us)) (.int 0)
theorem ef_asbAppN (m : MethodId) (a0_ : Addr) (d : Addr) (kd : ClassId) (z : Int32) (zn : Nat) (bs : List Value) (cn : Int32) (a1_ : Addr) (d1 : Addr) (k1 : ClassId) (z1 : Int32) (us : List Value) (cz : Int32) (cs : Int32) : entryFrame m #[(.ref a0_), (.ref a1_)] 3 = mkF m 0 #[(vR a0_), (vR a1_), .unset] [] := by first | (simp [entryFrame, mkF, argsToLocals, Value.category]; done) | rfl
set_option maxRecDepth 65536 in
set_option maxHeartbeats 40000000 in
theorem rm_asbAppN (l : Launch) (Z : State) (a0 : Array Value) (hw : oW a0 Z) (ws : List Jvm.Cond) (a0_ : Addr) (d : Addr) (kd : ClassId) (z : Int32) (zn : Nat) (bs : List Value) (cn : Int32) (a1_ : Addr) (d1 : Addr) (k1 : ClassId) (z1 : Int32) (us : List Value) (cz : Int32) (cs : Int32) (h0 : Heap) (n0 : Nat) (Z0 : n0 ≤ h0.size) (O0 : Old Z n0 h0) (Scs : Sta Z Z.heap "java/lang/String" "COMPACT_STRINGS" "Z" (.int cs)) (hcs : ¬ cs = (0 : Int32)) (E0 : Exa Z h0 a0_ "java/lang/StringBuilder") (g_a0_ : n0 ≤ a0_) (FBv : Fld Z h0 a0_ "java/lang/AbstractStringBuilder" "value" "[B" (.ref d)) (FBc : Fld Z h0 a0_ "java/lang/AbstractStringBuilder" "coder" "B" (.int 0)) (FBn : Fld Z h0 a0_ "java/lang/AbstractStringBuilder" "count" "I" (.int cn)) (g_d : n0 ≤ d) (VB : Arv Z h0 d kd .byte z (own_full zn bs) (.int 0)) (ne0d : a0_ ≠ d) (E1 : Exa Z h0 a1_ "java/lang/String") (F1c : Fld Z h0 a1_ "java/lang/String" "coder" "B" (.int 0)) (F1v : Fld Z h0 a1_ "java/lang/String" "value" "[B" (.ref d1)) (V1 : Arv Z h0 d1 k1 .byte z1 us (.int 0)) (hul : z1.toNatClampNeg = us.length) (ne1d : d1 ≠ d) (ne10 : d1 ≠ a0_) (nes0 : a1_ ≠ a0_) (nesd : a1_ ≠ d) (hbl : bs.length = cn.toNatClampNeg) (hzn : z.toNatClampNeg = zn) (hc0 : ¬ cn < (0 : Int32)) (hin : cn.toNatClampNeg + z1.toNatClampNeg ≤ zn) (hsum : (cn + z1) = cz) (hm : ¬ (0 : Int32) < (cz - z)) :
    oM l oY7 jdk_68_method_22_code 3 (some (.object "java/lang/AbstractStringBuilder")) ws (own_R 3 0 0 80) #[(.ref a0_), (.ref a1_)] Z h0 (Q_asbAppN Z a0_ d kd z zn bs cn a1_ d1 k1 z1 us cz cs h0 n0) := by
  refine own_open (n0 := n0) (cn := "java/lang/AbstractStringBuilder") rfl (plainFor_of_name pn_java_lang_AbstractStringBuilder) (fun m => ef_asbAppN m a0_ d kd z zn bs cn a1_ d1 k1 z1 us cz cs) ?_
  intro p e s m below meth c s₁ P hx hby hml hown hnm X0 e0 N0 hlk hret hZ hP
  refine w_aloadN X0 hx hby dj68_22_0 rfl rfl ?_
  refine w_ifnonnullYes X0 hx hby dj68_22_1 (pc' := 9) (by decide) ?_
  refine w_aloadN X0 hx hby dj68_22_9 rfl rfl ?_
  obtain ⟨cq11, kq11, q11a, q11b, q11c⟩ := isOf hZ e0 E1
  obtain ⟨_, _, ⟨T11, L11, k11, n11⟩, -, X11, ⟨Lc11, hQ11, l11, y11, z11⟩, st11⟩ := X0.virtualBack hx (y := oY6) (z := oY6) hown (mvT hZ (tw_68 hw)) (mvT hZ (tw_69 hw)) (notFace_of_selects (args := #[]) (mvT hZ (tw_71 hw))) (mvT hZ (tw_71 hw)) (mvT hZ (tw_70 hw)) (by decide) (backOf (W := 0) (rm_slen l Z a0 hw [] a1_ d1 k1 z1 us cs h0 n0 Z0 O0 Scs hcs E1 F1c F1v V1) hZ (tw_72 hw) (tw_4 hw) (by decide) (by decide)) q11a q11c (g := (mkF m 10 #[(vR a0_), (vR a1_), .unset] [(.ref a1_)])) rfl (by rw [hml]; rfl) (Steps.refl _) (argsL := []) (rest := []) (lenOf pd___I rfl) rfl (by show 2 * 0 + _ ≤ _; exact Nat.le_of_eq rfl) (hb hby dj68_22_10) (fun _ _ => ⟨rfl, e0, (by decide : 0 + 0 ≤ _), (by decide : 0 + 0 ≤ _)⟩)
  dsimp only [Pt.U, Pt.locs, Pt.cells, Pt.slots] at X11 l11 y11 z11 st11 hQ11
  subst l11 y11 z11
  obtain ⟨rfl, N11q, q11⟩ := hQ11
  have N11 := Fr.app N0 N11q
  refine Go.by (fun t k => st11.trans k) ?_
  show oG p e below P m T11 13 #[(vR a0_), (vR a1_), .unset] [(.int z1)]
  refine w_istoreN X11 hx hby dj68_22_13 (l' := #[(vR a0_), (vR a1_), (vI z1)]) rfl ?_
  refine w_aloadN X11 hx hby dj68_22_14 rfl rfl ?_
  refine w_aloadN X11 hx hby dj68_22_15 rfl rfl ?_
  obtain ⟨T12, X12, e12, st12⟩ := getF X11 hx hZ hown (host := "") (Or.inl (tw_78 hw)) Via.refl q11 FBn (g := (mkF m 16 #[(vR a0_), (vR a1_), (vI z1)] [(.ref a0_), (.ref a0_)])) rfl rfl (hb hby dj68_22_16)
  refine Go.by st12 ?_
  show oG p e below P m T12 19 #[(vR a0_), (vR a1_), (vI z1)] [(.int cn), (.ref a0_)]
  refine w_iloadN X12 hx hby dj68_22_19 rfl ?_
  refine w_iadd X12 hx hby dj68_22_20 (v := (cn + z1)) rfl ?_
  rw [hsum]
  show oG p e below P m T12 21 #[(vR a0_), (vR a1_), (vI z1)] [(.int cz), (.ref a0_)]
  obtain ⟨cq13, q13a, q13b⟩ := Exa.cell E0
  obtain ⟨_, _, ⟨T13, L13, k13, n13⟩, -, X13, ⟨Lc13, hQ13, l13, y13, z13⟩, st13⟩ := X12.privateBack hx (y := oY4) hown (mvT hZ (tw_80 hw)) (mvT hZ (tw_81 hw)) (own_selfP (args := #[(.ref a0_), (.ref a1_)]) (mvT hZ (tw_83 hw)) (mvT hZ (tw_81 hw)) (mvP hZ (tw_82 hw)) (by decide)) (Cond.privateMethod_at (args := #[]) (mvP hZ (tw_82 hw))) (mvT hZ (tw_84 hw)) (by decide) (backOf (W := 0) (rm_sbEnsN l Z a0 hw [] a0_ d kd z (own_full zn bs) cz h0 n0 Z0 FBv FBc VB hm) hZ (tw_84 hw) (tw_47 hw) (by decide) (by decide)) (g := (mkF m 21 #[(vR a0_), (vR a1_), (vI z1)] [(.int cz), (.ref a0_)])) rfl (by rw [hml]; rfl) (Steps.refl _) (a := a0_) (by rw [e12]; exact q13a) q13b (argsL := [(.int cz)]) (rest := []) (lenOf pd__I_V rfl) rfl (by show 2 * 0 + _ ≤ _; exact Nat.le_of_eq rfl) (hb hby dj68_22_21) (fun _ _ => ⟨rfl, e12, (by decide : 0 + 0 ≤ _), (by decide : 0 + 0 ≤ _)⟩)
  dsimp only [Pt.U, Pt.locs, Pt.cells, Pt.slots] at X13 l13 y13 z13 st13 hQ13
  subst l13 y13 z13
  obtain ⟨rfl, N13q, q13⟩ := hQ13
  have N13 := Fr.app N11 N13q
  refine Go.by (fun t k => st13.trans k) ?_
  show oG p e below P m T13 24 #[(vR a0_), (vR a1_), (vI z1)] []
  refine w_aloadN X13 hx hby dj68_22_24 rfl rfl ?_
  refine w_aloadN X13 hx hby dj68_22_25 rfl rfl ?_
  obtain ⟨T14, X14, e14, st14⟩ := getF X13 hx hZ hown (host := "") (Or.inl (tw_78 hw)) Via.refl q13 FBn (g := (mkF m 26 #[(vR a0_), (vR a1_), (vI z1)] [(.ref a0_), (.ref a0_)])) rfl rfl (hb hby dj68_22_26)
  refine Go.by st14 ?_
  show oG p e below P m T14 29 #[(vR a0_), (vR a1_), (vI z1)] [(.int cn), (.ref a0_)]
  refine w_aloadN X14 hx hby dj68_22_29 rfl rfl ?_
  obtain ⟨cq15, q15a, q15b⟩ := Exa.cell E0
  obtain ⟨_, _, ⟨T15, L15, k15, n15⟩, -, X15, ⟨Lc15, hQ15, l15, y15, z15⟩, st15⟩ := X14.privateBack hx (y := oY22) hown (mvT hZ (tw_85 hw)) (mvT hZ (tw_86 hw)) (own_selfP (args := #[(.ref a0_), (.ref a1_)]) (mvT hZ (tw_88 hw)) (mvT hZ (tw_86 hw)) (mvP hZ (tw_87 hw)) (by decide)) (Cond.privateMethod_at (args := #[]) (mvP hZ (tw_87 hw))) (mvT hZ (tw_89 hw)) (by decide) (backOf (W := 0) (rm_sbPutS l Z a0 hw [] a0_ d kd z zn bs cn a1_ d1 k1 z1 us cs h0 n0 Z0 O0 Scs hcs E0 g_a0_ FBv FBc FBn g_d VB ne0d E1 F1c F1v V1 hul ne1d ne10 nes0 nesd hbl hzn hc0 hin) hZ (tw_89 hw) (tw_47 hw) (by decide) (by decide)) (g := (mkF m 30 #[(vR a0_), (vR a1_), (vI z1)] [(.ref a1_), (.int cn), (.ref a0_)])) rfl (by rw [hml]; rfl) (Steps.refl _) (a := a0_) (by rw [e14]; exact q15a) q15b (argsL := [(.int cn), (.ref a1_)]) (rest := []) (lenOf pd__ILjava_lang_String__V rfl) rfl (by show 2 * 0 + _ ≤ _; exact Nat.le_of_eq rfl) (hb hby dj68_22_30) (fun _ _ => ⟨rfl, e14, (by decide : 0 + 0 ≤ _), (by decide : 0 + 0 ≤ _)⟩)
  dsimp only [Pt.U, Pt.locs, Pt.cells, Pt.slots] at X15 l15 y15 z15 st15 hQ15
  subst l15 y15 z15
  obtain ⟨rfl, N15q, K15, V15⟩ := hQ15
  have N15 := Fr.app N13 N15q
  refine Go.by (fun t k => st15.trans k) ?_
  have f15_0 := (Nat.le_trans Z0 K15.1)
  have f15_1 := (Keep.trans (Keep.refl h0 [a0_, d]) K15 (allS (Or.inl (List.mem_of_getElem? (i := 1) rfl)) all0))
  have f15_2 := (Old.keep O0 K15 (allS g_d all0))
  have f15_3 := (Exa.keep E0 K15)
  have f15_4 := (Fld.keep FBv K15 (ninS ne0d nin0))
  have f15_5 := (Fld.keep FBc K15 (ninS ne0d nin0))
  have f15_6 := (Fld.keep FBn K15 (ninS ne0d nin0))
  have f15_7 := (Exa.keep E1 K15)
  have f15_8 := (Fld.keep F1c K15 (ninS nesd nin0))
  have f15_9 := (Fld.keep F1v K15 (ninS nesd nin0))
  have f15_10 := (Arv.keep V1 K15 (ninS ne1d nin0))
  show oG p e below P m T15 33 #[(vR a0_), (vR a1_), (vI z1)] []
  refine w_aloadN X15 hx hby dj68_22_33 rfl rfl ?_
  refine w_dup X15 hx hby dj68_22_34 rfl ?_
  obtain ⟨T16, X16, e16, st16⟩ := getF X15 hx hZ hown (host := "") (Or.inl (tw_78 hw)) Via.refl rfl f15_6 (g := (mkF m 35 #[(vR a0_), (vR a1_), (vI z1)] [(.ref a0_), (.ref a0_)])) rfl rfl (hb hby dj68_22_35)
  refine Go.by st16 ?_
  show oG p e below P m T16 38 #[(vR a0_), (vR a1_), (vI z1)] [(.int cn), (.ref a0_)]
  refine w_iloadN X16 hx hby dj68_22_38 rfl ?_
  refine w_iadd X16 hx hby dj68_22_39 (v := (cn + z1)) rfl ?_
  rw [hsum]
  show oG p e below P m T16 40 #[(vR a0_), (vR a1_), (vI z1)] [(.int cz), (.ref a0_)]
  obtain ⟨T17, h17, X17, e17, W17, st17⟩ := putF X16 hx hZ hown (host := "") (Or.inl (tw_78 hw)) Via.refl e16 f15_6 f15_3 (Or.inl (tw_79 hw)) (tw_38 hw) (ty := .int) (by decide) rfl rfl (g := (mkF m 40 #[(vR a0_), (vR a1_), (vI z1)] [(.int cz), (.ref a0_)])) rfl rfl (hb hby dj68_22_40)
  refine Go.by st17 ?_
  have N17 := Fr.snoc X17 N15 g_a0_
  have f17_0 := (Nat.le_trans f15_0 (Keep.of_wr W17).1)
  have f17_1 := (Keep.wr f15_1 W17 (Or.inl (List.mem_of_getElem? (i := 0) rfl)))
  have f17_2 := (Old.wr f15_2 W17 g_a0_)
  have f17_3 := (Exa.wr W17 f15_3)
  have f17_4 := (Fld.other W17 f15_4 (Or.inr (slot_ne (Or.inl (tw_52 hw)) (Or.inl (tw_79 hw)) (by decide) (t := (.array .byte)) (t' := .int) (by decide) (by decide))))
  have f17_5 := (Fld.other W17 f15_5 (Or.inr (slot_ne (Or.inl (tw_54 hw)) (Or.inl (tw_79 hw)) (by decide) (t := .byte) (t' := .int) (by decide) (by decide))))
  have f17_6 := (Fld.same W17 f15_6)
  have f17_7 := (Exa.wr W17 f15_7)
  have f17_8 := (Fld.other W17 f15_8 (Or.inl nes0))
  have f17_9 := (Fld.other W17 f15_9 (Or.inl nes0))
  have f17_10 := (Arv.other f15_10 W17 ne10)
  have f17_11 := (Arv.other V15 W17 (Ne.symm ne0d))
  show oG p e below P m T17 43 #[(vR a0_), (vR a1_), (vI z1)] []
  refine w_aloadN X17 hx hby dj68_22_43 rfl rfl ?_
  refine own_fin hP hlk X17 (v := some (.ref a0_)) (fun h => by rw [hret] at h; cases h) (by decide) (by decide) ?_ (fun fs hr => retOut X17 hx hret rfl (Or.inr (Or.inr (Or.inr (Or.inr ⟨rfl, rfl, rfl⟩)))) (hb hby dj68_22_44) hr)
  rw [e17]
  exact ⟨rfl, N17, f17_1, f17_4, f17_5, f17_6, f17_11⟩
def Q_sbAppN (Z : State) (a0_ : Addr) (d : Addr) (kd : ClassId) (z : Int32) (zn : Nat) (bs : List Value) (cn : Int32) (a1_ : Addr) (d1 : Addr) (k1 : ClassId) (z1 : Int32) (us : List Value) (cz : Int32) (cs : Int32) (h0 : Heap) (n0 : Nat) (v : Option Value) (h : Heap) (L : List Loc) : Prop := v = some (.ref a0_) ∧ Fr n0 L ∧ Keep h0 h [a0_, d] ∧ Fld Z h a0_ "java/lang/AbstractStringBuilder" "value" "[B" (.ref d) ∧ Fld Z h a0_ "java/lang/AbstractStringBuilder" "coder" "B" (.int 0) ∧ Fld Z h a0_ "java/lang/AbstractStringBuilder" "count" "I" (.int cz) ∧ Arv Z h d kd .byte z (own_full zn (bs ++ us)) (.int 0)
theorem ef_sbAppN (m : MethodId) (a0_ : Addr) (d : Addr) (kd : ClassId) (z : Int32) (zn : Nat) (bs : List Value) (cn : Int32) (a1_ : Addr) (d1 : Addr) (k1 : ClassId) (z1 : Int32) (us : List Value) (cz : Int32) (cs : Int32) : entryFrame m #[(.ref a0_), (.ref a1_)] 2 = mkF m 0 #[(vR a0_), (vR a1_)] [] := by first | (simp [entryFrame, mkF, argsToLocals, Value.category]; done) | rfl
set_option maxRecDepth 65536 in
set_option maxHeartbeats 40000000 in
theorem rm_sbAppN (l : Launch) (Z : State) (a0 : Array Value) (hw : oW a0 Z) (ws : List Jvm.Cond) (a0_ : Addr) (d : Addr) (kd : ClassId) (z : Int32) (zn : Nat) (bs : List Value) (cn : Int32) (a1_ : Addr) (d1 : Addr) (k1 : ClassId) (z1 : Int32) (us : List Value) (cz : Int32) (cs : Int32) (h0 : Heap) (n0 : Nat) (Z0 : n0 ≤ h0.size) (O0 : Old Z n0 h0) (Scs : Sta Z Z.heap "java/lang/String" "COMPACT_STRINGS" "Z" (.int cs)) (hcs : ¬ cs = (0 : Int32)) (E0 : Exa Z h0 a0_ "java/lang/StringBuilder") (g_a0_ : n0 ≤ a0_) (FBv : Fld Z h0 a0_ "java/lang/AbstractStringBuilder" "value" "[B" (.ref d)) (FBc : Fld Z h0 a0_ "java/lang/AbstractStringBuilder" "coder" "B" (.int 0)) (FBn : Fld Z h0 a0_ "java/lang/AbstractStringBuilder" "count" "I" (.int cn)) (g_d : n0 ≤ d) (VB : Arv Z h0 d kd .byte z (own_full zn bs) (.int 0)) (ne0d : a0_ ≠ d) (E1 : Exa Z h0 a1_ "java/lang/String") (F1c : Fld Z h0 a1_ "java/lang/String" "coder" "B" (.int 0)) (F1v : Fld Z h0 a1_ "java/lang/String" "value" "[B" (.ref d1)) (V1 : Arv Z h0 d1 k1 .byte z1 us (.int 0)) (hul : z1.toNatClampNeg = us.length) (ne1d : d1 ≠ d) (ne10 : d1 ≠ a0_) (nes0 : a1_ ≠ a0_) (nesd : a1_ ≠ d) (hbl : bs.length = cn.toNatClampNeg) (hzn : z.toNatClampNeg = zn) (hc0 : ¬ cn < (0 : Int32)) (hin : cn.toNatClampNeg + z1.toNatClampNeg ≤ zn) (hsum : (cn + z1) = cz) (hm : ¬ (0 : Int32) < (cz - z)) :
    oM l oY0 jdk_67_method_7_code 2 (some (.object "java/lang/StringBuilder")) ws (own_R 4 0 0 96) #[(.ref a0_), (.ref a1_)] Z h0 (Q_sbAppN Z a0_ d kd z zn bs cn a1_ d1 k1 z1 us cz cs h0 n0) := by
  refine own_open (n0 := n0) (cn := "java/lang/StringBuilder") rfl (plainFor_of_name pn_java_lang_StringBuilder) (fun m => ef_sbAppN m a0_ d kd z zn bs cn a1_ d1 k1 z1 us cz cs) ?_
  intro p e s m below meth c s₁ P hx hby hml hown hnm X0 e0 N0 hlk hret hZ hP
  refine w_aloadN X0 hx hby dj67_7_0 rfl rfl ?_
  refine w_aloadN X0 hx hby dj67_7_1 rfl rfl ?_
  obtain ⟨_, _, ⟨T11, L11, k11, n11⟩, -, X11, ⟨Lc11, hQ11, l11, y11, z11⟩, st11⟩ := superBack X0 hx hZ (K := "java/lang/StringBuilder") (y := oY7) hown (tw_63 hw) (own_sameP (tw_66 hw) (tw_83 hw) rfl (by decide)) (tw_64 hw) (tw_65 hw) (by decide) (backOf (W := 0) (rm_asbAppN l Z a0 hw [] a0_ d kd z zn bs cn a1_ d1 k1 z1 us cz cs h0 n0 Z0 O0 Scs hcs E0 g_a0_ FBv FBc FBn g_d VB ne0d E1 F1c F1v V1 hul ne1d ne10 nes0 nesd hbl hzn hc0 hin hsum hm) hZ (tw_67 hw) (tw_47 hw) (by decide) (by decide)) e0 (Ins.self E0) (g := (mkF m 2 #[(vR a0_), (vR a1_)] [(.ref a1_), (.ref a0_)])) rfl (by rw [hml]; rfl) (tw_67 hw) (argsL := [(.ref a1_)]) (rest := []) (lenOf pd__Ljava_lang_String__Ljava_lang_AbstractStringBuilder_ rfl) rfl (by show 2 * 0 + _ ≤ _; exact Nat.le_of_eq rfl) (hb hby dj67_7_2) (fun _ _ => ⟨rfl, e0, (by decide : 0 + 0 ≤ _), (by decide : 0 + 0 ≤ _)⟩)
  dsimp only [Pt.U, Pt.locs, Pt.cells, Pt.slots] at X11 l11 y11 z11 st11 hQ11
  subst l11 y11 z11
  obtain ⟨rfl, N11q, K11, Gv11, Gc11, Gn11, V11⟩ := hQ11
  have N11 := Fr.app N0 N11q
  refine Go.by (fun t k => st11.trans k) ?_
  have f11_0 := (Nat.le_trans Z0 K11.1)
  have f11_1 := (Keep.trans (Keep.refl h0 [a0_, d]) K11 (allS (Or.inl (List.mem_of_getElem? (i := 0) rfl)) (allS (Or.inl (List.mem_of_getElem? (i := 1) rfl)) all0)))
  have f11_2 := (Old.keep O0 K11 (allS g_a0_ (allS g_d all0)))
  have f11_3 := (Exa.keep E0 K11)
  have f11_4 := (Exa.keep E1 K11)
  have f11_5 := (Fld.keep F1c K11 (ninS nes0 (ninS nesd nin0)))
  have f11_6 := (Fld.keep F1v K11 (ninS nes0 (ninS nesd nin0)))
  have f11_7 := (Arv.keep V1 K11 (ninS ne10 (ninS ne1d nin0)))
  show oG p e below P m T11 5 #[(vR a0_), (vR a1_)] [(.ref a0_)]
  refine w_pop X11 hx hby dj67_7_5 rfl ?_
  refine w_aloadN X11 hx hby dj67_7_6 rfl rfl ?_
  refine own_fin hP hlk X11 (v := some (.ref a0_)) (fun h => by rw [hret] at h; cases h) (by decide) (by decide) ?_ (fun fs hr => retOut X11 hx hret rfl (Or.inr (Or.inr (Or.inr (Or.inr ⟨rfl, rfl, rfl⟩)))) (hb hby dj67_7_7) hr)
  exact ⟨rfl, N11, f11_1, Gv11, Gc11, Gn11, V11⟩
def Q_max (Z : State) (p0 : Int32) (p1 : Int32) (r : Int32) (h0 : Heap) (n0 : Nat) (v : Option Value) (h : Heap) (L : List Loc) : Prop := v = some (.int r) ∧ Fr n0 L ∧ h = h0
theorem ef_max (m : MethodId) (p0 : Int32) (p1 : Int32) (r : Int32) : entryFrame m #[(.int p0), (.int p1)] 2 = mkF m 0 #[(vI p0), (vI p1)] [] := by first | (simp [entryFrame, mkF, argsToLocals, Value.category]; done) | rfl
set_option maxRecDepth 65536 in
set_option maxHeartbeats 40000000 in
theorem rm_max (l : Launch) (Z : State) (a0 : Array Value) (hw : oW a0 Z) (ws : List Jvm.Cond) (p0 : Int32) (p1 : Int32) (r : Int32) (h0 : Heap) (n0 : Nat) (Z0 : n0 ≤ h0.size) (hr0 : r = if p0 < p1 then p1 else p0) :
    oM l oY32 jdk_29_method_65_code 2 (some .int) ws (own_R 0 0 0 0) #[(.int p0), (.int p1)] Z h0 (Q_max Z p0 p1 r h0 n0) := by
  refine own_open (n0 := n0) (cn := "java/lang/Math") rfl (Jvm.Free.JP.mathPlain rfl (by decide +kernel)) (fun m => ef_max m p0 p1 r) ?_
  intro p e s m below meth c s₁ P hx hby hml hown hnm X0 e0 N0 hlk hret hZ hP
  refine w_iloadN X0 hx hby dj29_65_0 rfl ?_
  refine w_iloadN X0 hx hby dj29_65_1 rfl ?_
  by_cases hc2_11 : p0 < p1
  · refine w_icmpYes X0 hx hby dj29_65_2 (pc' := 9) (XT.ii_lt_t hc2_11) (by decide) ?_
    refine w_iloadN X0 hx hby dj29_65_9 rfl ?_
    refine own_fin hP hlk X0 (v := some (.int p1)) (fun h => by rw [hret] at h; cases h) (by decide) (by decide) ?_ (fun fs hr => retOut X0 hx hret rfl (Or.inl ⟨rfl, Or.inl rfl, _, rfl⟩) (hb hby dj29_65_10) hr)
    rw [e0]
    exact ⟨by rw [hr0, if_pos hc2_11], N0, rfl⟩
  · refine w_icmpNo X0 hx hby dj29_65_2 (XT.ii_lt_f hc2_11) ?_
    refine w_iloadN X0 hx hby dj29_65_5 rfl ?_
    refine w_goto X0 hx hby dj29_65_6 (pc' := 10) (by decide) ?_
    refine own_fin hP hlk X0 (v := some (.int p0)) (fun h => by rw [hret] at h; cases h) (by decide) (by decide) ?_ (fun fs hr => retOut X0 hx hret rfl (Or.inl ⟨rfl, Or.inl rfl, _, rfl⟩) (hb hby dj29_65_10) hr)
    rw [e0]
    exact ⟨by rw [hr0, if_neg hc2_11], N0, rfl⟩
def Q_min (Z : State) (p0 : Int32) (p1 : Int32) (r : Int32) (h0 : Heap) (n0 : Nat) (v : Option Value) (h : Heap) (L : List Loc) : Prop := v = some (.int r) ∧ Fr n0 L ∧ h = h0
theorem ef_min (m : MethodId) (p0 : Int32) (p1 : Int32) (r : Int32) : entryFrame m #[(.int p0), (.int p1)] 2 = mkF m 0 #[(vI p0), (vI p1)] [] := by first | (simp [entryFrame, mkF, argsToLocals, Value.category]; done) | rfl
set_option maxRecDepth 65536 in
set_option maxHeartbeats 40000000 in
theorem rm_min (l : Launch) (Z : State) (a0 : Array Value) (hw : oW a0 Z) (ws : List Jvm.Cond) (p0 : Int32) (p1 : Int32) (r : Int32) (h0 : Heap) (n0 : Nat) (Z0 : n0 ≤ h0.size) (hr0 : r = if p1 < p0 then p1 else p0) :
    oM l oY23 jdk_29_method_69_code 2 (some .int) ws (own_R 0 0 0 0) #[(.int p0), (.int p1)] Z h0 (Q_min Z p0 p1 r h0 n0) := by
  refine own_open (n0 := n0) (cn := "java/lang/Math") rfl (Jvm.Free.JP.mathPlain rfl (by decide +kernel)) (fun m => ef_min m p0 p1 r) ?_
  intro p e s m below meth c s₁ P hx hby hml hown hnm X0 e0 N0 hlk hret hZ hP
  refine w_iloadN X0 hx hby dj29_69_0 rfl ?_
  refine w_iloadN X0 hx hby dj29_69_1 rfl ?_
  by_cases hc2_11 : p1 < p0
  · refine w_icmpYes X0 hx hby dj29_69_2 (pc' := 9) (XT.ii_gt_t hc2_11) (by decide) ?_
    refine w_iloadN X0 hx hby dj29_69_9 rfl ?_
    refine own_fin hP hlk X0 (v := some (.int p1)) (fun h => by rw [hret] at h; cases h) (by decide) (by decide) ?_ (fun fs hr => retOut X0 hx hret rfl (Or.inl ⟨rfl, Or.inl rfl, _, rfl⟩) (hb hby dj29_69_10) hr)
    rw [e0]
    exact ⟨by rw [hr0, if_pos hc2_11], N0, rfl⟩
  · refine w_icmpNo X0 hx hby dj29_69_2 (XT.ii_gt_f hc2_11) ?_
    refine w_iloadN X0 hx hby dj29_69_5 rfl ?_
    refine w_goto X0 hx hby dj29_69_6 (pc' := 10) (by decide) ?_
    refine own_fin hP hlk X0 (v := some (.int p0)) (fun h => by rw [hret] at h; cases h) (by decide) (by decide) ?_ (fun fs hr => retOut X0 hx hret rfl (Or.inl ⟨rfl, Or.inl rfl, _, rfl⟩) (hb hby dj29_69_10) hr)
    rw [e0]
    exact ⟨by rw [hr0, if_neg hc2_11], N0, rfl⟩
def Q_newLen (Z : State) (p0 : Int32) (p1 : Int32) (p2 : Int32) (r : Int32) (s0 : Int32) (h0 : Heap) (n0 : Nat) (v : Option Value) (h : Heap) (L : List Loc) : Prop := v = some (.int s0) ∧ Fr n0 L ∧ h = h0
theorem ef_newLen (m : MethodId) (p0 : Int32) (p1 : Int32) (p2 : Int32) (r : Int32) (s0 : Int32) : entryFrame m #[(.int p0), (.int p1), (.int p2)] 4 = mkF m 0 #[(vI p0), (vI p1), (vI p2), .unset] [] := by first | (simp [entryFrame, mkF, argsToLocals, Value.category]; done) | rfl
set_option maxRecDepth 65536 in
set_option maxHeartbeats 40000000 in
theorem rm_newLen (l : Launch) (Z : State) (a0 : Array Value) (hw : oW a0 Z) (ws : List Jvm.Cond) (p0 : Int32) (p1 : Int32) (p2 : Int32) (r : Int32) (s0 : Int32) (h0 : Heap) (n0 : Nat) (Z0 : n0 ≤ h0.size) (hr : r = if p1 < p2 then p2 else p1) (hs : (p0 + r) = s0) (h1 : (0 : Int32) < s0) (h2 : ¬ (2147483639 : Int32) < s0) :
    oM l oY33 jdk_48_method_27_code 4 (some .int) ws (own_R 1 0 0 16) #[(.int p0), (.int p1), (.int p2)] Z h0 (Q_newLen Z p0 p1 p2 r s0 h0 n0) := by
  refine own_open (n0 := n0) (cn := "jdk/internal/util/ArraysSupport") rfl (plainFor_of_name pn_jdk_internal_util_ArraysSupport) (fun m => ef_newLen m p0 p1 p2 r s0) ?_
  intro p e s m below meth c s₁ P hx hby hml hown hnm X0 e0 N0 hlk hret hZ hP
  refine w_iloadN X0 hx hby dj48_27_0 rfl ?_
  refine w_iloadN X0 hx hby dj48_27_1 rfl ?_
  refine w_iloadN X0 hx hby dj48_27_2 rfl ?_
  obtain ⟨_, _, ⟨T11, L11, k11, n11⟩, -, X11, ⟨Lc11, hQ11, l11, y11, z11⟩, st11⟩ := Jvm.LawKit.callS X0 hx (y := oY32) hown (mvT hZ (tw_137 hw)) (mvT hZ (tw_138 hw)) (mvT hZ (tw_139 hw)) (mvT hZ (tw_140 hw)) (by decide) (backOf (W := 1) (rm_max l Z a0 hw [] p1 p2 r h0 n0 Z0 hr) hZ (tw_140 hw) (tw_139 hw) (by decide) (by decide)) (g := (mkF m 3 #[(vI p0), (vI p1), (vI p2), .unset] [(.int p2), (.int p1), (.int p0)])) rfl (by rw [hml]; rfl) (argsL := [(.int p1), (.int p2)]) (rest := [(.int p0)]) (lenOf pd__II_I rfl) rfl (by show 2 * 0 + _ ≤ _; exact Nat.le_of_eq rfl) (hb hby dj48_27_3) (fun _ _ => ⟨rfl, e0, (by decide : 0 + 0 ≤ _), (by decide : 0 + 0 ≤ _)⟩)
  dsimp only [Pt.U, Pt.locs, Pt.cells, Pt.slots] at X11 l11 y11 z11 st11 hQ11
  subst l11 y11 z11
  obtain ⟨rfl, N11q, q11⟩ := hQ11
  have N11 := Fr.app N0 N11q
  refine Go.by (fun t k => st11 t k) ?_
  show oG p e below P m T11 6 #[(vI p0), (vI p1), (vI p2), .unset] [(.int r), (.int p0)]
  refine w_iadd X11 hx hby dj48_27_6 (v := (p0 + r)) rfl ?_
  rw [hs]
  show oG p e below P m T11 7 #[(vI p0), (vI p1), (vI p2), .unset] [(.int s0)]
  refine w_istoreN X11 hx hby dj48_27_7 (l' := #[(vI p0), (vI p1), (vI p2), (vI s0)]) rfl ?_
  refine w_iconst X11 hx hby dj48_27_8 (v := 0) rfl ?_
  refine w_iloadN X11 hx hby dj48_27_9 rfl ?_
  refine w_icmpNo X11 hx hby dj48_27_10 (XT.ii_ge_f h1) ?_
  refine w_iloadN X11 hx hby dj48_27_13 rfl ?_
  refine Go.by (fun _ => Jvm.Stand.ldcI X11 hx hown (mvT hZ (tw_141 hw)) rfl (hb hby dj48_27_14)) ?_
  show oG p e below P m T11 16 #[(vI p0), (vI p1), (vI p2), (vI s0)] [(.int 2147483639), (.int s0)]
  refine w_icmpNo X11 hx hby dj48_27_16 (XT.ii_gt_f h2) ?_
  refine w_iloadN X11 hx hby dj48_27_19 rfl ?_
  refine own_fin hP hlk X11 (v := some (.int s0)) (fun h => by rw [hret] at h; cases h) (by decide) (by decide) ?_ (fun fs hr => retOut X11 hx hret rfl (Or.inl ⟨rfl, Or.inl rfl, _, rfl⟩) (hb hby dj48_27_20) hr)
  rw [q11]
  exact ⟨rfl, N11, rfl⟩
def Q_newCap (Z : State) (a0_ : Addr) (d : Addr) (kd : ClassId) (z : Int32) (vd : List Value) (m0 : Int32) (r : Int32) (nc : Int32) (h0 : Heap) (n0 : Nat) (v : Option Value) (h : Heap) (L : List Loc) : Prop := v = some (.int nc) ∧ Fr n0 L ∧ h = h0
theorem ef_newCap (m : MethodId) (a0_ : Addr) (d : Addr) (kd : ClassId) (z : Int32) (vd : List Value) (m0 : Int32) (r : Int32) (nc : Int32) : entryFrame m #[(.ref a0_), (.int m0)] 6 = mkF m 0 #[(vR a0_), (vI m0), .unset, .unset, .unset, .unset] [] := by first | (simp [entryFrame, mkF, argsToLocals, Value.category]; done) | rfl
set_option maxRecDepth 65536 in
set_option maxHeartbeats 40000000 in
theorem rm_newCap (l : Launch) (Z : State) (a0 : Array Value) (hw : oW a0 Z) (ws : List Jvm.Cond) (a0_ : Addr) (d : Addr) (kd : ClassId) (z : Int32) (vd : List Value) (m0 : Int32) (r : Int32) (nc : Int32) (h0 : Heap) (n0 : Nat) (Z0 : n0 ≤ h0.size) (FBv : Fld Z h0 a0_ "java/lang/AbstractStringBuilder" "value" "[B" (.ref d)) (FBc : Fld Z h0 a0_ "java/lang/AbstractStringBuilder" "coder" "B" (.int 0)) (VB : Arv Z h0 d kd .byte z vd (.int 0)) (hr : r = if (m0 - z) < (z + (2 : Int32)) then (z + (2 : Int32)) else (m0 - z)) (hs : (z + r) = nc) (h1 : (0 : Int32) < nc) (h2 : ¬ (2147483639 : Int32) < nc) (h3 : ¬ nc = (2147483647 : Int32)) :
    oM l oY34 jdk_68_method_10_code 6 (some .int) ws (own_R 2 0 0 34) #[(.ref a0_), (.int m0)] Z h0 (Q_newCap Z a0_ d kd z vd m0 r nc h0 n0) := by
  refine own_open (n0 := n0) (cn := "java/lang/AbstractStringBuilder") rfl (plainFor_of_name pn_java_lang_AbstractStringBuilder) (fun m => ef_newCap m a0_ d kd z vd m0 r nc) ?_
  intro p e s m below meth c s₁ P hx hby hml hown hnm X0 e0 N0 hlk hret hZ hP
  refine w_aloadN X0 hx hby dj68_10_0 rfl rfl ?_
  obtain ⟨T11, X11, e11, st11⟩ := getF X0 hx hZ hown (host := "") (Or.inl (tw_51 hw)) Via.refl e0 FBv (g := (mkF m 1 #[(vR a0_), (vI m0), .unset, .unset, .unset, .unset] [(.ref a0_)])) rfl rfl (hb hby dj68_10_1)
  refine Go.by st11 ?_
  have av12 := VB
  obtain ⟨cl12, Ar12, -, Sz12, Nn12, -, -⟩ := av12
  refine Go.by (X11.arraylength hx (by rw [e11]; exact Ar12.1) (State.isArrayOf_alike hZ.alike Ar12.2.1) (g := (mkF m 4 #[(vR a0_), (vI m0), .unset, .unset, .unset, .unset] [(.ref d)])) rfl rfl (hb hby dj68_10_4)) ?_
  rw [len_of Sz12 Nn12]
  show oG p e below P m T11 5 #[(vR a0_), (vI m0), .unset, .unset, .unset, .unset] [(.int z)]
  refine w_istoreN X11 hx hby dj68_10_5 (l' := #[(vR a0_), (vI m0), (vI z), .unset, .unset, .unset]) rfl ?_
  refine w_iloadN X11 hx hby dj68_10_6 rfl ?_
  refine w_aloadN X11 hx hby dj68_10_7 rfl rfl ?_
  obtain ⟨T13, X13, e13, st13⟩ := getF X11 hx hZ hown (host := "") (Or.inl (tw_53 hw)) Via.refl e11 FBc (g := (mkF m 8 #[(vR a0_), (vI m0), (vI z), .unset, .unset, .unset] [(.ref a0_), (.int m0)])) rfl rfl (hb hby dj68_10_8)
  refine Go.by st13 ?_
  show oG p e below P m T13 11 #[(vR a0_), (vI m0), (vI z), .unset, .unset, .unset] [(.int 0), (.int m0)]
  refine Go.by (fun _ => XS.ishl X13.here hx rfl (hb hby dj68_10_11) rfl) ?_
  show oG p e below P m T13 12 #[(vR a0_), (vI m0), (vI z), .unset, .unset, .unset] [(.int (m0 <<< ((0 : Int32) &&& 31)))]
  rw [own_shl0]
  show oG p e below P m T13 12 #[(vR a0_), (vI m0), (vI z), .unset, .unset, .unset] [(.int m0)]
  refine w_istoreN X13 hx hby dj68_10_12 (l' := #[(vR a0_), (vI m0), (vI z), (vI m0), .unset, .unset]) rfl ?_
  refine w_iloadN X13 hx hby dj68_10_13 rfl ?_
  refine w_iloadN X13 hx hby dj68_10_14 rfl ?_
  refine w_isub X13 hx hby dj68_10_15 (v := (m0 - z)) rfl ?_
  refine w_istore X13 hx hby dj68_10_16 (l' := #[(vR a0_), (vI m0), (vI z), (vI m0), (vI (m0 - z)), .unset]) rfl ?_
  refine w_iloadN X13 hx hby dj68_10_18 rfl ?_
  refine w_iload X13 hx hby dj68_10_19 rfl ?_
  refine w_iloadN X13 hx hby dj68_10_21 rfl ?_
  refine w_iconst X13 hx hby dj68_10_22 (v := 2) rfl ?_
  refine w_aloadN X13 hx hby dj68_10_23 rfl rfl ?_
  obtain ⟨T14, X14, e14, st14⟩ := getF X13 hx hZ hown (host := "") (Or.inl (tw_53 hw)) Via.refl e13 FBc (g := (mkF m 24 #[(vR a0_), (vI m0), (vI z), (vI m0), (vI (m0 - z)), .unset] [(.ref a0_), (.int 2), (.int z), (.int (m0 - z)), (.int z)])) rfl rfl (hb hby dj68_10_24)
  refine Go.by st14 ?_
  show oG p e below P m T14 27 #[(vR a0_), (vI m0), (vI z), (vI m0), (vI (m0 - z)), .unset] [(.int 0), (.int 2), (.int z), (.int (m0 - z)), (.int z)]
  refine Go.by (fun _ => XS.ishl X14.here hx rfl (hb hby dj68_10_27) rfl) ?_
  show oG p e below P m T14 28 #[(vR a0_), (vI m0), (vI z), (vI m0), (vI (m0 - z)), .unset] [(.int ((2 : Int32) <<< ((0 : Int32) &&& 31))), (.int z), (.int (m0 - z)), (.int z)]
  rw [own_shl0]
  show oG p e below P m T14 28 #[(vR a0_), (vI m0), (vI z), (vI m0), (vI (m0 - z)), .unset] [(.int 2), (.int z), (.int (m0 - z)), (.int z)]
  refine w_iadd X14 hx hby dj68_10_28 (v := (z + (2 : Int32))) rfl ?_
  obtain ⟨_, _, ⟨T15, L15, k15, n15⟩, -, X15, ⟨Lc15, hQ15, l15, y15, z15⟩, st15⟩ := Jvm.LawKit.callS X14 hx (y := oY33) hown (mvT hZ (tw_133 hw)) (mvT hZ (tw_134 hw)) (mvT hZ (tw_135 hw)) (mvT hZ (tw_136 hw)) (by decide) (backOf (W := 0) (rm_newLen l Z a0 hw [] z (m0 - z) (z + (2 : Int32)) r nc h0 n0 Z0 hr hs h1 h2) hZ (tw_136 hw) (tw_135 hw) (by decide) (by decide)) (g := (mkF m 29 #[(vR a0_), (vI m0), (vI z), (vI m0), (vI (m0 - z)), .unset] [(.int (z + (2 : Int32))), (.int (m0 - z)), (.int z)])) rfl (by rw [hml]; rfl) (argsL := [(.int z), (.int (m0 - z)), (.int (z + (2 : Int32)))]) (rest := []) (lenOf pd__III_I rfl) rfl (by show 2 * 0 + _ ≤ _; exact Nat.le_of_eq rfl) (hb hby dj68_10_29) (fun _ _ => ⟨rfl, e14, (by decide : 0 + 0 ≤ _), (by decide : 0 + 0 ≤ _)⟩)
  dsimp only [Pt.U, Pt.locs, Pt.cells, Pt.slots] at X15 l15 y15 z15 st15 hQ15
  subst l15 y15 z15
  obtain ⟨rfl, N15q, q15⟩ := hQ15
  have N15 := Fr.app N0 N15q
  refine Go.by (fun t k => st15 t k) ?_
  show oG p e below P m T15 32 #[(vR a0_), (vI m0), (vI z), (vI m0), (vI (m0 - z)), .unset] [(.int nc)]
  refine w_istore X15 hx hby dj68_10_32 (l' := #[(vR a0_), (vI m0), (vI z), (vI m0), (vI (m0 - z)), (vI nc)]) rfl ?_
  refine w_iload X15 hx hby dj68_10_34 rfl ?_
  refine Go.by (fun _ => Jvm.Stand.ldcI X15 hx hown (mvT hZ (tw_142 hw)) rfl (hb hby dj68_10_36)) ?_
  show oG p e below P m T15 38 #[(vR a0_), (vI m0), (vI z), (vI m0), (vI (m0 - z)), (vI nc)] [(.int 2147483647), (.int nc)]
  refine w_icmpYes X15 hx hby dj68_10_38 (pc' := 51) (XT.ii_ne_t h3) (by decide) ?_
  refine w_iload X15 hx hby dj68_10_51 rfl ?_
  refine w_aloadN X15 hx hby dj68_10_53 rfl rfl ?_
  obtain ⟨T16, X16, e16, st16⟩ := getF X15 hx hZ hown (host := "") (Or.inl (tw_53 hw)) Via.refl q15 FBc (g := (mkF m 54 #[(vR a0_), (vI m0), (vI z), (vI m0), (vI (m0 - z)), (vI nc)] [(.ref a0_), (.int nc)])) rfl rfl (hb hby dj68_10_54)
  refine Go.by st16 ?_
  show oG p e below P m T16 57 #[(vR a0_), (vI m0), (vI z), (vI m0), (vI (m0 - z)), (vI nc)] [(.int 0), (.int nc)]
  refine Go.by (fun _ => XS.ishr X16.here hx rfl (hb hby dj68_10_57) rfl) ?_
  show oG p e below P m T16 58 #[(vR a0_), (vI m0), (vI z), (vI m0), (vI (m0 - z)), (vI nc)] [(.int (nc >>> ((0 : Int32) &&& 31)))]
  refine own_fin hP hlk X16 (v := some (.int (nc >>> ((0 : Int32) &&& 31)))) (fun h => by rw [hret] at h; cases h) (by decide) (by decide) ?_ (fun fs hr => retOut X16 hx hret rfl (Or.inl ⟨rfl, Or.inl rfl, _, rfl⟩) (hb hby dj68_10_58) hr)
  rw [e16]
  exact ⟨by rw [own_shr0], N15, rfl⟩
def Q_copyOf (Z : State) (a1 : Addr) (k1 : ClassId) (z : Int32) (zn : Nat) (bs : List Value) (nc : Int32) (ncn : Nat) (h0 : Heap) (n0 : Nat) (v : Option Value) (h : Heap) (L : List Loc) : Prop := ∃ b k, v = some (.ref b) ∧ Fr n0 L ∧ Keep h0 h [] ∧ h0.size ≤ b ∧ Exa Z h b "[B" ∧ Arv Z h b k .byte nc (own_full ncn bs) (.int 0)
theorem ef_copyOf (m : MethodId) (a1 : Addr) (k1 : ClassId) (z : Int32) (zn : Nat) (bs : List Value) (nc : Int32) (ncn : Nat) : entryFrame m #[(.ref a1), (.int nc)] 3 = mkF m 0 #[(vR a1), (vI nc), .unset] [] := by first | (simp [entryFrame, mkF, argsToLocals, Value.category]; done) | rfl
set_option maxRecDepth 65536 in
set_option maxHeartbeats 40000000 in
theorem rm_copyOf (l : Launch) (Z : State) (a0 : Array Value) (hw : oW a0 Z) (ws : List Jvm.Cond) (a1 : Addr) (k1 : ClassId) (z : Int32) (zn : Nat) (bs : List Value) (nc : Int32) (ncn : Nat) (h0 : Heap) (n0 : Nat) (Z0 : n0 ≤ h0.size) (V1 : Arv Z h0 a1 k1 .byte z (own_full zn bs) (.int 0)) (hzn : z.toNatClampNeg = zn) (hbz : bs.length ≤ zn) (hne : ¬ nc = z) (hnc : ¬ nc < (0 : Int32)) (hncn : nc.toNatClampNeg = ncn) (hle : zn ≤ ncn) (hcap : ncn ≤ 128) (hmin : z = if nc < z then nc else z) :
    oM l oY35 jdk_65_method_121_code 3 (some (.array .byte)) ws (own_R 1 1 128 40) #[(.ref a1), (.int nc)] Z h0 (Q_copyOf Z a1 k1 z zn bs nc ncn h0 n0) := by
  refine own_open (n0 := n0) (cn := "java/util/Arrays") rfl (plainFor_of_name pn_java_util_Arrays) (fun m => ef_copyOf m a1 k1 z zn bs nc ncn) ?_
  intro p e s m below meth c s₁ P hx hby hml hown hnm X0 e0 N0 hlk hret hZ hP
  refine w_iloadN X0 hx hby dj65_121_0 rfl ?_
  refine w_aloadN X0 hx hby dj65_121_1 rfl rfl ?_
  have av11 := V1
  obtain ⟨cl11, Ar11, -, Sz11, Nn11, -, -⟩ := av11
  refine Go.by (X0.arraylength hx (by rw [e0]; exact Ar11.1) (State.isArrayOf_alike hZ.alike Ar11.2.1) (g := (mkF m 2 #[(vR a1), (vI nc), .unset] [(.ref a1), (.int nc)])) rfl rfl (hb hby dj65_121_2)) ?_
  rw [len_of Sz11 Nn11]
  show oG p e below P m s₁ 3 #[(vR a1), (vI nc), .unset] [(.int z), (.int nc)]
  refine w_icmpYes X0 hx hby dj65_121_3 (pc' := 14) (XT.ii_ne_t hne) (by decide) ?_
  refine w_iloadN X0 hx hby dj65_121_14 rfl ?_
  obtain ⟨T12, h12, k12, X12, e12, E12, A12, Ex12, st12⟩ := newPE X0 hx hZ (aty := .byte) (tw_20 hw) e0 (g := (mkF m 15 #[(vR a1), (vI nc), .unset] [(.int nc)])) rfl (hb hby dj65_121_15) rfl hnc (cap := 128) (by rw [hncn]; exact hcap) (by decide) (by decide) (by decide) (ad := "[B") (by decide)
  obtain ⟨b12, g12⟩ : ∃ z, z = h0.size := ⟨_, rfl⟩
  rw [← g12] at A12 Ex12 st12
  have g_b12 : n0 ≤ b12 := Nat.le_trans Z0 (Nat.le_of_eq g12.symm)
  have sz_b12 : h0.size ≤ b12 := Nat.le_trans (Keep.refl h0 []).1 (Nat.le_of_eq g12.symm)
  have ne_a1_b12 : a1 ≠ b12 := Nat.ne_of_lt (Nat.lt_of_lt_of_le (V1.lt) (Nat.le_of_eq g12.symm))
  have f12_0 := (Nat.le_trans Z0 E12.1)
  have f12_1 := (Keep.ext (Keep.refl h0 []) E12)
  have f12_2 := (Arv.ext V1 E12)
  refine Go.by st12 ?_
  have V12 : Arv Z h12 b12 k12 .byte nc (own_full ncn []) (.int 0) := (Arv.new A12 hnc).pad (own_padfull ncn)
  show oG p e below P m T12 17 #[(vR a1), (vI nc), .unset] [(.ref b12)]
  refine w_astoreN X12 hx hby dj65_121_17 rfl (l' := #[(vR a1), (vI nc), (vR b12)]) rfl ?_
  refine w_aloadN X12 hx hby dj65_121_18 rfl rfl ?_
  refine w_iconst X12 hx hby dj65_121_19 (v := 0) rfl ?_
  refine w_aloadN X12 hx hby dj65_121_20 rfl rfl ?_
  refine w_iconst X12 hx hby dj65_121_21 (v := 0) rfl ?_
  refine w_aloadN X12 hx hby dj65_121_22 rfl rfl ?_
  have av13 := f12_2
  obtain ⟨cl13, Ar13, -, Sz13, Nn13, -, -⟩ := av13
  refine Go.by (X12.arraylength hx (by rw [e12]; exact Ar13.1) (State.isArrayOf_alike hZ.alike Ar13.2.1) (g := (mkF m 23 #[(vR a1), (vI nc), (vR b12)] [(.ref a1), (.int 0), (.ref b12), (.int 0), (.ref a1)])) rfl rfl (hb hby dj65_121_23)) ?_
  rw [len_of Sz13 Nn13]
  show oG p e below P m T12 24 #[(vR a1), (vI nc), (vR b12)] [(.int z), (.int 0), (.ref b12), (.int 0), (.ref a1)]
  refine w_iloadN X12 hx hby dj65_121_24 rfl ?_
  obtain ⟨_, _, ⟨T14, L14, k14, n14⟩, -, X14, ⟨Lc14, hQ14, l14, y14, z14⟩, st14⟩ := Jvm.LawKit.callS X12 hx (y := oY23) hown (mvT hZ (tw_147 hw)) (mvT hZ (tw_148 hw)) (mvT hZ (tw_139 hw)) (mvT hZ (tw_149 hw)) (by decide) (backOf (W := 4) (rm_min l Z a0 hw [] z nc z h12 n0 f12_0 hmin) hZ (tw_149 hw) (tw_139 hw) (by decide) (by decide)) (g := (mkF m 25 #[(vR a1), (vI nc), (vR b12)] [(.int nc), (.int z), (.int 0), (.ref b12), (.int 0), (.ref a1)])) rfl (by rw [hml]; rfl) (argsL := [(.int z), (.int nc)]) (rest := [(.int 0), (.ref b12), (.int 0), (.ref a1)]) (lenOf pd__II_I rfl) rfl (by show 2 * 0 + _ ≤ _; exact Nat.le_of_eq rfl) (hb hby dj65_121_25) (fun _ _ => ⟨rfl, e12, (by decide : 1 + 0 ≤ _), (by decide : 128 + 0 ≤ _)⟩)
  dsimp only [Pt.U, Pt.locs, Pt.cells, Pt.slots] at X14 l14 y14 z14 st14 hQ14
  subst l14 y14 z14
  obtain ⟨rfl, N14q, q14⟩ := hQ14
  have N14 := Fr.app N0 N14q
  refine Go.by (fun t k => st14 t k) ?_
  have nz15 : ¬ z < (0 : Int32) := by obtain ⟨_, _, _, _, q, _⟩ := V1; exact q
  have fl15 := own_full_len hbz
  obtain ⟨T16, h16, Lc16, X16, e16, N16, K16, V16, st16⟩ := cpA X14 hx hZ hown (tw_150 hw) (tw_104 hw) (tw_102 hw) (tw_103 hw) q14 f12_2 V12 (us := (own_full zn bs)) (Or.inl ⟨rfl, rfl⟩) (by decide) (by decide) nz15 (by show 0 + _ ≤ _; omega) (by show 0 + _ ≤ _; rw [hzn, hncn]; omega) (by rw [hzn]; have q := own_range (own_full zn bs) (.int 0); rw [fl15] at q; exact q.symm) (by show 0 + _ ≤ _; rw [hzn, own_full_len (Nat.zero_le _)]; omega) N14 g_b12 (g := (mkF m 28 #[(vR a1), (vI nc), (vR b12)] [(.int z), (.int 0), (.ref b12), (.int 0), (.ref a1)])) rfl (by rw [hml]; rfl) rfl (hb hby dj65_121_28) (by decide) (W := 0) (by show 2 * 0 + _ ≤ _; exact Nat.le_of_eq rfl) (by decide)
  have V16' : Arv Z h16 b12 k12 .byte nc (own_full ncn bs) (.int 0) := (by have q := V16; rw [hzn] at q; exact (own_grow hbz hle) ▸ q)
  have f16_0 := (Nat.le_trans f12_0 K16.1)
  have f16_1 := (Keep.trans f12_1 K16 (allS (Or.inr sz_b12) all0))
  have f16_2 := (Arv.keep f12_2 K16 (ninS ne_a1_b12 nin0))
  have f16_3 := (Exa.keep Ex12 K16)
  refine Go.by st16 ?_
  show oG p e below P m T16 31 #[(vR a1), (vI nc), (vR b12)] []
  refine w_aloadN X16 hx hby dj65_121_31 rfl rfl ?_
  refine own_fin hP hlk X16 (v := some (.ref b12)) (fun h => by rw [hret] at h; cases h) (by decide) (by decide) ?_ (fun fs hr => retOut X16 hx hret rfl (Or.inr (Or.inr (Or.inr (Or.inr ⟨rfl, rfl, rfl⟩)))) (hb hby dj65_121_32) hr)
  rw [e16]
  exact ⟨b12, k12, rfl, N16, f16_1, sz_b12, f16_3, V16'⟩
def Q_sbEnsG (Z : State) (a0_ : Addr) (d : Addr) (kd : ClassId) (z : Int32) (zn : Nat) (bs : List Value) (cn : Int32) (m0 : Int32) (r : Int32) (nc : Int32) (ncn : Nat) (h0 : Heap) (n0 : Nat) (v : Option Value) (h : Heap) (L : List Loc) : Prop := v = none ∧ Fr n0 L ∧ ∃ d2 k2, Keep h0 h [a0_] ∧ h0.size ≤ d2 ∧ Fld Z h a0_ "java/lang/AbstractStringBuilder" "value" "[B" (.ref d2) ∧ Fld Z h a0_ "java/lang/AbstractStringBuilder" "coder" "B" (.int 0) ∧ Fld Z h a0_ "java/lang/AbstractStringBuilder" "count" "I" (.int cn) ∧ Exa Z h d2 "[B" ∧ Arv Z h d2 k2 .byte nc (own_full ncn bs) (.int 0)
theorem ef_sbEnsG (m : MethodId) (a0_ : Addr) (d : Addr) (kd : ClassId) (z : Int32) (zn : Nat) (bs : List Value) (cn : Int32) (m0 : Int32) (r : Int32) (nc : Int32) (ncn : Nat) : entryFrame m #[(.ref a0_), (.int m0)] 3 = mkF m 0 #[(vR a0_), (vI m0), .unset] [] := by first | (simp [entryFrame, mkF, argsToLocals, Value.category]; done) | rfl
set_option maxRecDepth 65536 in
set_option maxHeartbeats 40000000 in
theorem rm_sbEnsG (l : Launch) (Z : State) (a0 : Array Value) (hw : oW a0 Z) (ws : List Jvm.Cond) (a0_ : Addr) (d : Addr) (kd : ClassId) (z : Int32) (zn : Nat) (bs : List Value) (cn : Int32) (m0 : Int32) (r : Int32) (nc : Int32) (ncn : Nat) (h0 : Heap) (n0 : Nat) (Z0 : n0 ≤ h0.size) (E0 : Exa Z h0 a0_ "java/lang/StringBuilder") (g_a0_ : n0 ≤ a0_) (FBv : Fld Z h0 a0_ "java/lang/AbstractStringBuilder" "value" "[B" (.ref d)) (FBc : Fld Z h0 a0_ "java/lang/AbstractStringBuilder" "coder" "B" (.int 0)) (FBn : Fld Z h0 a0_ "java/lang/AbstractStringBuilder" "count" "I" (.int cn)) (g_d : n0 ≤ d) (VB : Arv Z h0 d kd .byte z (own_full zn bs) (.int 0)) (ne0d : a0_ ≠ d) (hm : (0 : Int32) < (m0 - z)) (hr : r = if (m0 - z) < (z + (2 : Int32)) then (z + (2 : Int32)) else (m0 - z)) (hs : (z + r) = nc) (h1 : (0 : Int32) < nc) (h2 : ¬ (2147483639 : Int32) < nc) (h3 : ¬ nc = (2147483647 : Int32)) (hzn : z.toNatClampNeg = zn) (hbz : bs.length ≤ zn) (hne : ¬ nc = z) (hnc : ¬ nc < (0 : Int32)) (hncn : nc.toNatClampNeg = ncn) (hle : zn ≤ ncn) (hcap : ncn ≤ 128) (hmin : z = if nc < z then nc else z) :
    oM l oY4 jdk_68_method_9_code 3 none ws (own_R 3 1 128 60) #[(.ref a0_), (.int m0)] Z h0 (Q_sbEnsG Z a0_ d kd z zn bs cn m0 r nc ncn h0 n0) := by
  refine own_open (n0 := n0) (cn := "java/lang/AbstractStringBuilder") rfl (plainFor_of_name pn_java_lang_AbstractStringBuilder) (fun m => ef_sbEnsG m a0_ d kd z zn bs cn m0 r nc ncn) ?_
  intro p e s m below meth c s₁ P hx hby hml hown hnm X0 e0 N0 hlk hret hZ hP
  refine w_aloadN X0 hx hby dj68_9_0 rfl rfl ?_
  obtain ⟨T11, X11, e11, st11⟩ := getF X0 hx hZ hown (host := "") (Or.inl (tw_51 hw)) Via.refl e0 FBv (g := (mkF m 1 #[(vR a0_), (vI m0), .unset] [(.ref a0_)])) rfl rfl (hb hby dj68_9_1)
  refine Go.by st11 ?_
  have av12 := VB
  obtain ⟨cl12, Ar12, -, Sz12, Nn12, -, -⟩ := av12
  refine Go.by (X11.arraylength hx (by rw [e11]; exact Ar12.1) (State.isArrayOf_alike hZ.alike Ar12.2.1) (g := (mkF m 4 #[(vR a0_), (vI m0), .unset] [(.ref d)])) rfl rfl (hb hby dj68_9_4)) ?_
  rw [len_of Sz12 Nn12]
  show oG p e below P m T11 5 #[(vR a0_), (vI m0), .unset] [(.int z)]
  refine w_aloadN X11 hx hby dj68_9_5 rfl rfl ?_
  obtain ⟨T13, X13, e13, st13⟩ := getF X11 hx hZ hown (host := "") (Or.inl (tw_53 hw)) Via.refl e11 FBc (g := (mkF m 6 #[(vR a0_), (vI m0), .unset] [(.ref a0_), (.int z)])) rfl rfl (hb hby dj68_9_6)
  refine Go.by st13 ?_
  show oG p e below P m T13 9 #[(vR a0_), (vI m0), .unset] [(.int 0), (.int z)]
  refine Go.by (fun _ => XS.ishr X13.here hx rfl (hb hby dj68_9_9) rfl) ?_
  show oG p e below P m T13 10 #[(vR a0_), (vI m0), .unset] [(.int (z >>> ((0 : Int32) &&& 31)))]
  rw [own_shr0]
  show oG p e below P m T13 10 #[(vR a0_), (vI m0), .unset] [(.int z)]
  refine w_istoreN X13 hx hby dj68_9_10 (l' := #[(vR a0_), (vI m0), (vI z)]) rfl ?_
  refine w_iloadN X13 hx hby dj68_9_11 rfl ?_
  refine w_iloadN X13 hx hby dj68_9_12 rfl ?_
  refine w_isub X13 hx hby dj68_9_13 (v := (m0 - z)) rfl ?_
  refine w_ifNo X13 hx hby dj68_9_14 (XT.i0_le_f hm) ?_
  refine w_aloadN X13 hx hby dj68_9_17 rfl rfl ?_
  refine w_aloadN X13 hx hby dj68_9_18 rfl rfl ?_
  obtain ⟨T14, X14, e14, st14⟩ := getF X13 hx hZ hown (host := "") (Or.inl (tw_51 hw)) Via.refl e13 FBv (g := (mkF m 19 #[(vR a0_), (vI m0), (vI z)] [(.ref a0_), (.ref a0_)])) rfl rfl (hb hby dj68_9_19)
  refine Go.by st14 ?_
  show oG p e below P m T14 22 #[(vR a0_), (vI m0), (vI z)] [(.ref d), (.ref a0_)]
  refine w_aloadN X14 hx hby dj68_9_22 rfl rfl ?_
  refine w_iloadN X14 hx hby dj68_9_23 rfl ?_
  obtain ⟨cq15, q15a, q15b⟩ := Exa.cell E0
  obtain ⟨_, _, ⟨T15, L15, k15, n15⟩, -, X15, ⟨Lc15, hQ15, l15, y15, z15⟩, st15⟩ := X14.privateBack hx (y := oY34) hown (mvT hZ (tw_128 hw)) (mvT hZ (tw_129 hw)) (own_selfP (args := #[(.ref a0_), (.int m0)]) (mvT hZ (tw_131 hw)) (mvT hZ (tw_129 hw)) (mvP hZ (tw_130 hw)) (by decide)) (Cond.privateMethod_at (args := #[]) (mvP hZ (tw_130 hw))) (mvT hZ (tw_132 hw)) (by decide) (backOf (W := 2) (rm_newCap l Z a0 hw [] a0_ d kd z (own_full zn bs) m0 r nc h0 n0 Z0 FBv FBc VB hr hs h1 h2 h3) hZ (tw_132 hw) (tw_47 hw) (by decide) (by decide)) (g := (mkF m 24 #[(vR a0_), (vI m0), (vI z)] [(.int m0), (.ref a0_), (.ref d), (.ref a0_)])) rfl (by rw [hml]; rfl) (Steps.refl _) (a := a0_) (by rw [e14]; exact q15a) q15b (argsL := [(.int m0)]) (rest := [(.ref d), (.ref a0_)]) (lenOf pd__I_I rfl) rfl (by show 2 * 0 + _ ≤ _; exact Nat.le_of_eq rfl) (hb hby dj68_9_24) (fun _ _ => ⟨rfl, e14, (by decide : 0 + 0 ≤ _), (by decide : 0 + 0 ≤ _)⟩)
  dsimp only [Pt.U, Pt.locs, Pt.cells, Pt.slots] at X15 l15 y15 z15 st15 hQ15
  subst l15 y15 z15
  obtain ⟨rfl, N15q, q15⟩ := hQ15
  have N15 := Fr.app N0 N15q
  refine Go.by (fun t k => st15.trans k) ?_
  show oG p e below P m T15 27 #[(vR a0_), (vI m0), (vI z)] [(.int nc), (.ref d), (.ref a0_)]
  refine w_aloadN X15 hx hby dj68_9_27 rfl rfl ?_
  obtain ⟨T16, X16, e16, st16⟩ := getF X15 hx hZ hown (host := "") (Or.inl (tw_53 hw)) Via.refl q15 FBc (g := (mkF m 28 #[(vR a0_), (vI m0), (vI z)] [(.ref a0_), (.int nc), (.ref d), (.ref a0_)])) rfl rfl (hb hby dj68_9_28)
  refine Go.by st16 ?_
  show oG p e below P m T16 31 #[(vR a0_), (vI m0), (vI z)] [(.int 0), (.int nc), (.ref d), (.ref a0_)]
  refine Go.by (fun _ => XS.ishl X16.here hx rfl (hb hby dj68_9_31) rfl) ?_
  show oG p e below P m T16 32 #[(vR a0_), (vI m0), (vI z)] [(.int (nc <<< ((0 : Int32) &&& 31))), (.ref d), (.ref a0_)]
  rw [own_shl0]
  show oG p e below P m T16 32 #[(vR a0_), (vI m0), (vI z)] [(.int nc), (.ref d), (.ref a0_)]
  obtain ⟨_, _, ⟨T17, L17, k17, n17⟩, -, X17, ⟨Lc17, hQ17, l17, y17, z17⟩, st17⟩ := Jvm.LawKit.callS X16 hx (y := oY35) hown (mvT hZ (tw_143 hw)) (mvT hZ (tw_144 hw)) (mvT hZ (tw_145 hw)) (mvT hZ (tw_146 hw)) (by decide) (backOf (W := 1) (rm_copyOf l Z a0 hw [] d kd z zn bs nc ncn h0 n0 Z0 VB hzn hbz hne hnc hncn hle hcap hmin) hZ (tw_146 hw) (tw_145 hw) (by decide) (by decide)) (g := (mkF m 32 #[(vR a0_), (vI m0), (vI z)] [(.int nc), (.ref d), (.ref a0_)])) rfl (by rw [hml]; rfl) (argsL := [(.ref d), (.int nc)]) (rest := [(.ref a0_)]) (lenOf pd___BI__B rfl) rfl (by show 2 * 0 + _ ≤ _; exact Nat.le_of_eq rfl) (hb hby dj68_9_32) (fun _ _ => ⟨rfl, e16, (by decide : 0 + 1 ≤ _), (by decide : 0 + 128 ≤ _)⟩)
  dsimp only [Pt.U, Pt.locs, Pt.cells, Pt.slots] at X17 l17 y17 z17 st17 hQ17
  subst l17 y17 z17
  obtain ⟨d17, kd17, rfl, N17q, K17, z17, Ex17, V17⟩ := hQ17
  have N17 := Fr.app N15 N17q
  refine Go.by (fun t k => st17 t k) ?_
  have f17_0 := (Nat.le_trans Z0 K17.1)
  have f17_1 := (Keep.trans (Keep.refl h0 [a0_]) K17 all0)
  have f17_2 := (Exa.keep E0 K17)
  have f17_3 := (Fld.keep FBv K17 nin0)
  have f17_4 := (Fld.keep FBc K17 nin0)
  have f17_5 := (Fld.keep FBn K17 nin0)
  have f17_6 := (Arv.keep VB K17 nin0)
  have g_d17 : n0 ≤ d17 := Nat.le_trans Z0 z17
  have sz_d17 : h0.size ≤ d17 := Nat.le_trans (Keep.refl h0 [a0_]).1 z17
  have ne0d17 : a0_ ≠ d17 := Nat.ne_of_lt (Nat.lt_of_lt_of_le (E0.lt) z17)
  have nedd17 : d ≠ d17 := Nat.ne_of_lt (Nat.lt_of_lt_of_le (VB.lt) z17)
  show oG p e below P m T17 35 #[(vR a0_), (vI m0), (vI z)] [(.ref d17), (.ref a0_)]
  obtain ⟨T18, h18, X18, e18, W18, st18⟩ := putF X17 hx hZ hown (host := "") (Or.inl (tw_51 hw)) Via.refl rfl f17_3 f17_2 (Or.inl (tw_52 hw)) (tw_38 hw) (ty := (.array .byte)) (by decide) rfl rfl (g := (mkF m 35 #[(vR a0_), (vI m0), (vI z)] [(.ref d17), (.ref a0_)])) rfl rfl (hb hby dj68_9_35)
  refine Go.by st18 ?_
  have N18 := Fr.snoc X18 N17 g_a0_
  have f18_0 := (Nat.le_trans f17_0 (Keep.of_wr W18).1)
  have f18_1 := (Keep.wr f17_1 W18 (Or.inl (List.mem_of_getElem? (i := 0) rfl)))
  have f18_2 := (Exa.wr W18 f17_2)
  have f18_3 := (Fld.same W18 f17_3)
  have f18_4 := (Fld.other W18 f17_4 (Or.inr (slot_ne (Or.inl (tw_54 hw)) (Or.inl (tw_52 hw)) (by decide) (t := .byte) (t' := (.array .byte)) (by decide) (by decide))))
  have f18_5 := (Fld.other W18 f17_5 (Or.inr (slot_ne (Or.inl (tw_79 hw)) (Or.inl (tw_52 hw)) (by decide) (t := .int) (t' := (.array .byte)) (by decide) (by decide))))
  have f18_6 := (Arv.other f17_6 W18 (Ne.symm ne0d))
  have f18_7 := (Arv.other V17 W18 (Ne.symm ne0d17))
  have f18_8 := (Exa.wr W18 Ex17)
  show oG p e below P m T18 38 #[(vR a0_), (vI m0), (vI z)] []
  refine own_fin hP hlk X18 (v := none) (fun _ => rfl) (by decide) (by decide) ?_ (fun fs hr => X18.returnOut hx hret (hb hby dj68_9_38) hr)
  rw [e18]
  exact ⟨rfl, N18, d17, kd17, f18_1, sz_d17, f18_3, f18_4, f18_5, f18_8, f18_7⟩
def Q_asbAppG (Z : State) (a0_ : Addr) (d : Addr) (kd : ClassId) (z : Int32) (zn : Nat) (bs : List Value) (cn : Int32) (a1_ : Addr) (d1 : Addr) (k1 : ClassId) (z1 : Int32) (us : List Value) (cz : Int32) (r : Int32) (nc : Int32) (ncn : Nat) (cs : Int32) (h0 : Heap) (n0 : Nat) (v : Option Value) (h : Heap) (L : List Loc) : Prop := v = some (.ref a0_) ∧ Fr n0 L ∧ ∃ d2 k2, Keep h0 h [a0_] ∧ h0.size ≤ d2 ∧ Fld Z h a0_ "java/lang/AbstractStringBuilder" "value" "[B" (.ref d2) ∧ Fld Z h a0_ "java/lang/AbstractStringBuilder" "coder" "B" (.int 0) ∧ Fld Z h a0_ "java/lang/AbstractStringBuilder" "count" "I" (.int cz) ∧ Exa Z h d2 "[B" ∧ Arv Z h d2 k2 .byte nc (own_full ncn (bs ++ us)) (.int 0)
theorem ef_asbAppG (m : MethodId) (a0_ : Addr) (d : Addr) (kd : ClassId) (z : Int32) (zn : Nat) (bs : List Value) (cn : Int32) (a1_ : Addr) (d1 : Addr) (k1 : ClassId) (z1 : Int32) (us : List Value) (cz : Int32) (r : Int32) (nc : Int32) (ncn : Nat) (cs : Int32) : entryFrame m #[(.ref a0_), (.ref a1_)] 3 = mkF m 0 #[(vR a0_), (vR a1_), .unset] [] := by first | (simp [entryFrame, mkF, argsToLocals, Value.category]; done) | rfl
set_option maxRecDepth 65536 in
set_option maxHeartbeats 40000000 in
theorem rm_asbAppG (l : Launch) (Z : State) (a0 : Array Value) (hw : oW a0 Z) (ws : List Jvm.Cond) (a0_ : Addr) (d : Addr) (kd : ClassId) (z : Int32) (zn : Nat) (bs : List Value) (cn : Int32) (a1_ : Addr) (d1 : Addr) (k1 : ClassId) (z1 : Int32) (us : List Value) (cz : Int32) (r : Int32) (nc : Int32) (ncn : Nat) (cs : Int32) (h0 : Heap) (n0 : Nat) (Z0 : n0 ≤ h0.size) (O0 : Old Z n0 h0) (Scs : Sta Z Z.heap "java/lang/String" "COMPACT_STRINGS" "Z" (.int cs)) (hcs : ¬ cs = (0 : Int32)) (E0 : Exa Z h0 a0_ "java/lang/StringBuilder") (g_a0_ : n0 ≤ a0_) (FBv : Fld Z h0 a0_ "java/lang/AbstractStringBuilder" "value" "[B" (.ref d)) (FBc : Fld Z h0 a0_ "java/lang/AbstractStringBuilder" "coder" "B" (.int 0)) (FBn : Fld Z h0 a0_ "java/lang/AbstractStringBuilder" "count" "I" (.int cn)) (g_d : n0 ≤ d) (VB : Arv Z h0 d kd .byte z (own_full zn bs) (.int 0)) (ne0d : a0_ ≠ d) (E1 : Exa Z h0 a1_ "java/lang/String") (F1c : Fld Z h0 a1_ "java/lang/String" "coder" "B" (.int 0)) (F1v : Fld Z h0 a1_ "java/lang/String" "value" "[B" (.ref d1)) (V1 : Arv Z h0 d1 k1 .byte z1 us (.int 0)) (hul : z1.toNatClampNeg = us.length) (ne1d : d1 ≠ d) (ne10 : d1 ≠ a0_) (nes0 : a1_ ≠ a0_) (nesd : a1_ ≠ d) (hbl : bs.length = cn.toNatClampNeg) (hc0 : ¬ cn < (0 : Int32)) (hin : cn.toNatClampNeg + z1.toNatClampNeg ≤ ncn) (hsum : (cn + z1) = cz) (hm : (0 : Int32) < (cz - z)) (hr : r = if (cz - z) < (z + (2 : Int32)) then (z + (2 : Int32)) else (cz - z)) (hs : (z + r) = nc) (h1 : (0 : Int32) < nc) (h2 : ¬ (2147483639 : Int32) < nc) (h3 : ¬ nc = (2147483647 : Int32)) (hzn : z.toNatClampNeg = zn) (hbz : bs.length ≤ zn) (hne : ¬ nc = z) (hnc : ¬ nc < (0 : Int32)) (hncn : nc.toNatClampNeg = ncn) (hle : zn ≤ ncn) (hcap : ncn ≤ 128) (hmin : z = if nc < z then nc else z) :
    oM l oY7 jdk_68_method_22_code 3 (some (.object "java/lang/AbstractStringBuilder")) ws (own_R 4 1 128 80) #[(.ref a0_), (.ref a1_)] Z h0 (Q_asbAppG Z a0_ d kd z zn bs cn a1_ d1 k1 z1 us cz r nc ncn cs h0 n0) := by
  refine own_open (n0 := n0) (cn := "java/lang/AbstractStringBuilder") rfl (plainFor_of_name pn_java_lang_AbstractStringBuilder) (fun m => ef_asbAppG m a0_ d kd z zn bs cn a1_ d1 k1 z1 us cz r nc ncn cs) ?_
  intro p e s m below meth c s₁ P hx hby hml hown hnm X0 e0 N0 hlk hret hZ hP
  refine w_aloadN X0 hx hby dj68_22_0 rfl rfl ?_
  refine w_ifnonnullYes X0 hx hby dj68_22_1 (pc' := 9) (by decide) ?_
  refine w_aloadN X0 hx hby dj68_22_9 rfl rfl ?_
  obtain ⟨cq11, kq11, q11a, q11b, q11c⟩ := isOf hZ e0 E1
  obtain ⟨_, _, ⟨T11, L11, k11, n11⟩, -, X11, ⟨Lc11, hQ11, l11, y11, z11⟩, st11⟩ := X0.virtualBack hx (y := oY6) (z := oY6) hown (mvT hZ (tw_68 hw)) (mvT hZ (tw_69 hw)) (notFace_of_selects (args := #[]) (mvT hZ (tw_71 hw))) (mvT hZ (tw_71 hw)) (mvT hZ (tw_70 hw)) (by decide) (backOf (W := 0) (rm_slen l Z a0 hw [] a1_ d1 k1 z1 us cs h0 n0 Z0 O0 Scs hcs E1 F1c F1v V1) hZ (tw_72 hw) (tw_4 hw) (by decide) (by decide)) q11a q11c (g := (mkF m 10 #[(vR a0_), (vR a1_), .unset] [(.ref a1_)])) rfl (by rw [hml]; rfl) (Steps.refl _) (argsL := []) (rest := []) (lenOf pd___I rfl) rfl (by show 2 * 0 + _ ≤ _; exact Nat.le_of_eq rfl) (hb hby dj68_22_10) (fun _ _ => ⟨rfl, e0, (by decide : 0 + 0 ≤ _), (by decide : 0 + 0 ≤ _)⟩)
  dsimp only [Pt.U, Pt.locs, Pt.cells, Pt.slots] at X11 l11 y11 z11 st11 hQ11
  subst l11 y11 z11
  obtain ⟨rfl, N11q, q11⟩ := hQ11
  have N11 := Fr.app N0 N11q
  refine Go.by (fun t k => st11.trans k) ?_
  show oG p e below P m T11 13 #[(vR a0_), (vR a1_), .unset] [(.int z1)]
  refine w_istoreN X11 hx hby dj68_22_13 (l' := #[(vR a0_), (vR a1_), (vI z1)]) rfl ?_
  refine w_aloadN X11 hx hby dj68_22_14 rfl rfl ?_
  refine w_aloadN X11 hx hby dj68_22_15 rfl rfl ?_
  obtain ⟨T12, X12, e12, st12⟩ := getF X11 hx hZ hown (host := "") (Or.inl (tw_78 hw)) Via.refl q11 FBn (g := (mkF m 16 #[(vR a0_), (vR a1_), (vI z1)] [(.ref a0_), (.ref a0_)])) rfl rfl (hb hby dj68_22_16)
  refine Go.by st12 ?_
  show oG p e below P m T12 19 #[(vR a0_), (vR a1_), (vI z1)] [(.int cn), (.ref a0_)]
  refine w_iloadN X12 hx hby dj68_22_19 rfl ?_
  refine w_iadd X12 hx hby dj68_22_20 (v := (cn + z1)) rfl ?_
  rw [hsum]
  show oG p e below P m T12 21 #[(vR a0_), (vR a1_), (vI z1)] [(.int cz), (.ref a0_)]
  obtain ⟨cq13, q13a, q13b⟩ := Exa.cell E0
  obtain ⟨_, _, ⟨T13, L13, k13, n13⟩, -, X13, ⟨Lc13, hQ13, l13, y13, z13⟩, st13⟩ := X12.privateBack hx (y := oY4) hown (mvT hZ (tw_80 hw)) (mvT hZ (tw_81 hw)) (own_selfP (args := #[(.ref a0_), (.ref a1_)]) (mvT hZ (tw_83 hw)) (mvT hZ (tw_81 hw)) (mvP hZ (tw_82 hw)) (by decide)) (Cond.privateMethod_at (args := #[]) (mvP hZ (tw_82 hw))) (mvT hZ (tw_84 hw)) (by decide) (backOf (W := 0) (rm_sbEnsG l Z a0 hw [] a0_ d kd z zn bs cn cz r nc ncn h0 n0 Z0 E0 g_a0_ FBv FBc FBn g_d VB ne0d hm hr hs h1 h2 h3 hzn hbz hne hnc hncn hle hcap hmin) hZ (tw_84 hw) (tw_47 hw) (by decide) (by decide)) (g := (mkF m 21 #[(vR a0_), (vR a1_), (vI z1)] [(.int cz), (.ref a0_)])) rfl (by rw [hml]; rfl) (Steps.refl _) (a := a0_) (by rw [e12]; exact q13a) q13b (argsL := [(.int cz)]) (rest := []) (lenOf pd__I_V rfl) rfl (by show 2 * 0 + _ ≤ _; exact Nat.le_of_eq rfl) (hb hby dj68_22_21) (fun _ _ => ⟨rfl, e12, (by decide : 0 + 1 ≤ _), (by decide : 0 + 128 ≤ _)⟩)
  dsimp only [Pt.U, Pt.locs, Pt.cells, Pt.slots] at X13 l13 y13 z13 st13 hQ13
  subst l13 y13 z13
  obtain ⟨rfl, N13q, d13, kd13, K13, z13, Gv13, Gc13, Gn13, Ex13, V13⟩ := hQ13
  have N13 := Fr.app N11 N13q
  refine Go.by (fun t k => st13.trans k) ?_
  have f13_0 := (Nat.le_trans Z0 K13.1)
  have f13_1 := (Keep.trans (Keep.refl h0 [a0_]) K13 (allS (Or.inl (List.mem_of_getElem? (i := 0) rfl)) all0))
  have f13_2 := (Old.keep O0 K13 (allS g_a0_ all0))
  have f13_3 := (Exa.keep E0 K13)
  have f13_4 := (Arv.keep VB K13 (ninS (Ne.symm ne0d) nin0))
  have f13_5 := (Exa.keep E1 K13)
  have f13_6 := (Fld.keep F1c K13 (ninS nes0 nin0))
  have f13_7 := (Fld.keep F1v K13 (ninS nes0 nin0))
  have f13_8 := (Arv.keep V1 K13 (ninS ne10 nin0))
  have g_d13 : n0 ≤ d13 := Nat.le_trans Z0 z13
  have sz_d13 : h0.size ≤ d13 := Nat.le_trans (Keep.refl h0 [a0_]).1 z13
  have nea0_d13 : a0_ ≠ d13 := Nat.ne_of_lt (Nat.lt_of_lt_of_le (E0.lt) z13)
  have nedd13 : d ≠ d13 := Nat.ne_of_lt (Nat.lt_of_lt_of_le (VB.lt) z13)
  have nea1_d13 : a1_ ≠ d13 := Nat.ne_of_lt (Nat.lt_of_lt_of_le (E1.lt) z13)
  have ned1d13 : d1 ≠ d13 := Nat.ne_of_lt (Nat.lt_of_lt_of_le (V1.lt) z13)
  show oG p e below P m T13 24 #[(vR a0_), (vR a1_), (vI z1)] []
  refine w_aloadN X13 hx hby dj68_22_24 rfl rfl ?_
  refine w_aloadN X13 hx hby dj68_22_25 rfl rfl ?_
  obtain ⟨T14, X14, e14, st14⟩ := getF X13 hx hZ hown (host := "") (Or.inl (tw_78 hw)) Via.refl rfl Gn13 (g := (mkF m 26 #[(vR a0_), (vR a1_), (vI z1)] [(.ref a0_), (.ref a0_)])) rfl rfl (hb hby dj68_22_26)
  refine Go.by st14 ?_
  show oG p e below P m T14 29 #[(vR a0_), (vR a1_), (vI z1)] [(.int cn), (.ref a0_)]
  refine w_aloadN X14 hx hby dj68_22_29 rfl rfl ?_
  obtain ⟨cq15, q15a, q15b⟩ := Exa.cell f13_3
  obtain ⟨_, _, ⟨T15, L15, k15, n15⟩, -, X15, ⟨Lc15, hQ15, l15, y15, z15⟩, st15⟩ := X14.privateBack hx (y := oY22) hown (mvT hZ (tw_85 hw)) (mvT hZ (tw_86 hw)) (own_selfP (args := #[(.ref a0_), (.ref a1_)]) (mvT hZ (tw_88 hw)) (mvT hZ (tw_86 hw)) (mvP hZ (tw_87 hw)) (by decide)) (Cond.privateMethod_at (args := #[]) (mvP hZ (tw_87 hw))) (mvT hZ (tw_89 hw)) (by decide) (backOf (W := 0) (rm_sbPutS l Z a0 hw [] a0_ d13 kd13 nc ncn bs cn a1_ d1 k1 z1 us cs T13.heap n0 f13_0 f13_2 Scs hcs f13_3 g_a0_ Gv13 Gc13 Gn13 g_d13 V13 nea0_d13 f13_5 f13_6 f13_7 f13_8 hul ned1d13 ne10 nes0 nea1_d13 hbl hncn hc0 hin) hZ (tw_89 hw) (tw_47 hw) (by decide) (by decide)) (g := (mkF m 30 #[(vR a0_), (vR a1_), (vI z1)] [(.ref a1_), (.int cn), (.ref a0_)])) rfl (by rw [hml]; rfl) (Steps.refl _) (a := a0_) (by rw [e14]; exact q15a) q15b (argsL := [(.int cn), (.ref a1_)]) (rest := []) (lenOf pd__ILjava_lang_String__V rfl) rfl (by show 2 * 0 + _ ≤ _; exact Nat.le_of_eq rfl) (hb hby dj68_22_30) (fun _ _ => ⟨rfl, e14, (by decide : 1 + 0 ≤ _), (by decide : 128 + 0 ≤ _)⟩)
  dsimp only [Pt.U, Pt.locs, Pt.cells, Pt.slots] at X15 l15 y15 z15 st15 hQ15
  subst l15 y15 z15
  obtain ⟨rfl, N15q, K15, V15⟩ := hQ15
  have N15 := Fr.app N13 N15q
  refine Go.by (fun t k => st15.trans k) ?_
  have f15_0 := (Nat.le_trans f13_0 K15.1)
  have f15_1 := (Keep.trans f13_1 K15 (allS (Or.inr sz_d13) all0))
  have f15_2 := (Old.keep f13_2 K15 (allS g_d13 all0))
  have f15_3 := (Exa.keep f13_3 K15)
  have f15_4 := (Arv.keep f13_4 K15 (ninS nedd13 nin0))
  have f15_5 := (Exa.keep f13_5 K15)
  have f15_6 := (Fld.keep f13_6 K15 (ninS nea1_d13 nin0))
  have f15_7 := (Fld.keep f13_7 K15 (ninS nea1_d13 nin0))
  have f15_8 := (Arv.keep f13_8 K15 (ninS ned1d13 nin0))
  have f15_9 := (Fld.keep Gv13 K15 (ninS nea0_d13 nin0))
  have f15_10 := (Fld.keep Gc13 K15 (ninS nea0_d13 nin0))
  have f15_11 := (Fld.keep Gn13 K15 (ninS nea0_d13 nin0))
  have f15_12 := (Exa.keep Ex13 K15)
  show oG p e below P m T15 33 #[(vR a0_), (vR a1_), (vI z1)] []
  refine w_aloadN X15 hx hby dj68_22_33 rfl rfl ?_
  refine w_dup X15 hx hby dj68_22_34 rfl ?_
  obtain ⟨T16, X16, e16, st16⟩ := getF X15 hx hZ hown (host := "") (Or.inl (tw_78 hw)) Via.refl rfl f15_11 (g := (mkF m 35 #[(vR a0_), (vR a1_), (vI z1)] [(.ref a0_), (.ref a0_)])) rfl rfl (hb hby dj68_22_35)
  refine Go.by st16 ?_
  show oG p e below P m T16 38 #[(vR a0_), (vR a1_), (vI z1)] [(.int cn), (.ref a0_)]
  refine w_iloadN X16 hx hby dj68_22_38 rfl ?_
  refine w_iadd X16 hx hby dj68_22_39 (v := (cn + z1)) rfl ?_
  rw [hsum]
  show oG p e below P m T16 40 #[(vR a0_), (vR a1_), (vI z1)] [(.int cz), (.ref a0_)]
  obtain ⟨T17, h17, X17, e17, W17, st17⟩ := putF X16 hx hZ hown (host := "") (Or.inl (tw_78 hw)) Via.refl e16 f15_11 f15_3 (Or.inl (tw_79 hw)) (tw_38 hw) (ty := .int) (by decide) rfl rfl (g := (mkF m 40 #[(vR a0_), (vR a1_), (vI z1)] [(.int cz), (.ref a0_)])) rfl rfl (hb hby dj68_22_40)
  refine Go.by st17 ?_
  have N17 := Fr.snoc X17 N15 g_a0_
  have f17_0 := (Nat.le_trans f15_0 (Keep.of_wr W17).1)
  have f17_1 := (Keep.wr f15_1 W17 (Or.inl (List.mem_of_getElem? (i := 0) rfl)))
  have f17_2 := (Old.wr f15_2 W17 g_a0_)
  have f17_3 := (Exa.wr W17 f15_3)
  have f17_4 := (Arv.other f15_4 W17 (Ne.symm ne0d))
  have f17_5 := (Exa.wr W17 f15_5)
  have f17_6 := (Fld.other W17 f15_6 (Or.inl nes0))
  have f17_7 := (Fld.other W17 f15_7 (Or.inl nes0))
  have f17_8 := (Arv.other f15_8 W17 ne10)
  have f17_9 := (Fld.other W17 f15_9 (Or.inr (slot_ne (Or.inl (tw_52 hw)) (Or.inl (tw_79 hw)) (by decide) (t := (.array .byte)) (t' := .int) (by decide) (by decide))))
  have f17_10 := (Fld.other W17 f15_10 (Or.inr (slot_ne (Or.inl (tw_54 hw)) (Or.inl (tw_79 hw)) (by decide) (t := .byte) (t' := .int) (by decide) (by decide))))
  have f17_11 := (Fld.same W17 f15_11)
  have f17_12 := (Exa.wr W17 f15_12)
  have f17_13 := (Arv.other V15 W17 (Ne.symm nea0_d13))
  show oG p e below P m T17 43 #[(vR a0_), (vR a1_), (vI z1)] []
  refine w_aloadN X17 hx hby dj68_22_43 rfl rfl ?_
  refine own_fin hP hlk X17 (v := some (.ref a0_)) (fun h => by rw [hret] at h; cases h) (by decide) (by decide) ?_ (fun fs hr => retOut X17 hx hret rfl (Or.inr (Or.inr (Or.inr (Or.inr ⟨rfl, rfl, rfl⟩)))) (hb hby dj68_22_44) hr)
  rw [e17]
  exact ⟨rfl, N17, d13, kd13, f17_1, sz_d13, f17_9, f17_10, f17_11, f17_12, f17_13⟩
def Q_sbAppG (Z : State) (a0_ : Addr) (d : Addr) (kd : ClassId) (z : Int32) (zn : Nat) (bs : List Value) (cn : Int32) (a1_ : Addr) (d1 : Addr) (k1 : ClassId) (z1 : Int32) (us : List Value) (cz : Int32) (r : Int32) (nc : Int32) (ncn : Nat) (cs : Int32) (h0 : Heap) (n0 : Nat) (v : Option Value) (h : Heap) (L : List Loc) : Prop := v = some (.ref a0_) ∧ Fr n0 L ∧ ∃ d2 k2, Keep h0 h [a0_] ∧ h0.size ≤ d2 ∧ Fld Z h a0_ "java/lang/AbstractStringBuilder" "value" "[B" (.ref d2) ∧ Fld Z h a0_ "java/lang/AbstractStringBuilder" "coder" "B" (.int 0) ∧ Fld Z h a0_ "java/lang/AbstractStringBuilder" "count" "I" (.int cz) ∧ Exa Z h d2 "[B" ∧ Arv Z h d2 k2 .byte nc (own_full ncn (bs ++ us)) (.int 0)
theorem ef_sbAppG (m : MethodId) (a0_ : Addr) (d : Addr) (kd : ClassId) (z : Int32) (zn : Nat) (bs : List Value) (cn : Int32) (a1_ : Addr) (d1 : Addr) (k1 : ClassId) (z1 : Int32) (us : List Value) (cz : Int32) (r : Int32) (nc : Int32) (ncn : Nat) (cs : Int32) : entryFrame m #[(.ref a0_), (.ref a1_)] 2 = mkF m 0 #[(vR a0_), (vR a1_)] [] := by first | (simp [entryFrame, mkF, argsToLocals, Value.category]; done) | rfl
set_option maxRecDepth 65536 in
set_option maxHeartbeats 40000000 in
theorem rm_sbAppG (l : Launch) (Z : State) (a0 : Array Value) (hw : oW a0 Z) (ws : List Jvm.Cond) (a0_ : Addr) (d : Addr) (kd : ClassId) (z : Int32) (zn : Nat) (bs : List Value) (cn : Int32) (a1_ : Addr) (d1 : Addr) (k1 : ClassId) (z1 : Int32) (us : List Value) (cz : Int32) (r : Int32) (nc : Int32) (ncn : Nat) (cs : Int32) (h0 : Heap) (n0 : Nat) (Z0 : n0 ≤ h0.size) (O0 : Old Z n0 h0) (Scs : Sta Z Z.heap "java/lang/String" "COMPACT_STRINGS" "Z" (.int cs)) (hcs : ¬ cs = (0 : Int32)) (E0 : Exa Z h0 a0_ "java/lang/StringBuilder") (g_a0_ : n0 ≤ a0_) (FBv : Fld Z h0 a0_ "java/lang/AbstractStringBuilder" "value" "[B" (.ref d)) (FBc : Fld Z h0 a0_ "java/lang/AbstractStringBuilder" "coder" "B" (.int 0)) (FBn : Fld Z h0 a0_ "java/lang/AbstractStringBuilder" "count" "I" (.int cn)) (g_d : n0 ≤ d) (VB : Arv Z h0 d kd .byte z (own_full zn bs) (.int 0)) (ne0d : a0_ ≠ d) (E1 : Exa Z h0 a1_ "java/lang/String") (F1c : Fld Z h0 a1_ "java/lang/String" "coder" "B" (.int 0)) (F1v : Fld Z h0 a1_ "java/lang/String" "value" "[B" (.ref d1)) (V1 : Arv Z h0 d1 k1 .byte z1 us (.int 0)) (hul : z1.toNatClampNeg = us.length) (ne1d : d1 ≠ d) (ne10 : d1 ≠ a0_) (nes0 : a1_ ≠ a0_) (nesd : a1_ ≠ d) (hbl : bs.length = cn.toNatClampNeg) (hc0 : ¬ cn < (0 : Int32)) (hin : cn.toNatClampNeg + z1.toNatClampNeg ≤ ncn) (hsum : (cn + z1) = cz) (hm : (0 : Int32) < (cz - z)) (hr : r = if (cz - z) < (z + (2 : Int32)) then (z + (2 : Int32)) else (cz - z)) (hs : (z + r) = nc) (h1 : (0 : Int32) < nc) (h2 : ¬ (2147483639 : Int32) < nc) (h3 : ¬ nc = (2147483647 : Int32)) (hzn : z.toNatClampNeg = zn) (hbz : bs.length ≤ zn) (hne : ¬ nc = z) (hnc : ¬ nc < (0 : Int32)) (hncn : nc.toNatClampNeg = ncn) (hle : zn ≤ ncn) (hcap : ncn ≤ 128) (hmin : z = if nc < z then nc else z) :
    oM l oY0 jdk_67_method_7_code 2 (some (.object "java/lang/StringBuilder")) ws (own_R 5 1 128 96) #[(.ref a0_), (.ref a1_)] Z h0 (Q_sbAppG Z a0_ d kd z zn bs cn a1_ d1 k1 z1 us cz r nc ncn cs h0 n0) := by
  refine own_open (n0 := n0) (cn := "java/lang/StringBuilder") rfl (plainFor_of_name pn_java_lang_StringBuilder) (fun m => ef_sbAppG m a0_ d kd z zn bs cn a1_ d1 k1 z1 us cz r nc ncn cs) ?_
  intro p e s m below meth c s₁ P hx hby hml hown hnm X0 e0 N0 hlk hret hZ hP
  refine w_aloadN X0 hx hby dj67_7_0 rfl rfl ?_
  refine w_aloadN X0 hx hby dj67_7_1 rfl rfl ?_
  obtain ⟨_, _, ⟨T11, L11, k11, n11⟩, -, X11, ⟨Lc11, hQ11, l11, y11, z11⟩, st11⟩ := superBack X0 hx hZ (K := "java/lang/StringBuilder") (y := oY7) hown (tw_63 hw) (own_sameP (tw_66 hw) (tw_83 hw) rfl (by decide)) (tw_64 hw) (tw_65 hw) (by decide) (backOf (W := 0) (rm_asbAppG l Z a0 hw [] a0_ d kd z zn bs cn a1_ d1 k1 z1 us cz r nc ncn cs h0 n0 Z0 O0 Scs hcs E0 g_a0_ FBv FBc FBn g_d VB ne0d E1 F1c F1v V1 hul ne1d ne10 nes0 nesd hbl hc0 hin hsum hm hr hs h1 h2 h3 hzn hbz hne hnc hncn hle hcap hmin) hZ (tw_67 hw) (tw_47 hw) (by decide) (by decide)) e0 (Ins.self E0) (g := (mkF m 2 #[(vR a0_), (vR a1_)] [(.ref a1_), (.ref a0_)])) rfl (by rw [hml]; rfl) (tw_67 hw) (argsL := [(.ref a1_)]) (rest := []) (lenOf pd__Ljava_lang_String__Ljava_lang_AbstractStringBuilder_ rfl) rfl (by show 2 * 0 + _ ≤ _; exact Nat.le_of_eq rfl) (hb hby dj67_7_2) (fun _ _ => ⟨rfl, e0, (by decide : 0 + 1 ≤ _), (by decide : 0 + 128 ≤ _)⟩)
  dsimp only [Pt.U, Pt.locs, Pt.cells, Pt.slots] at X11 l11 y11 z11 st11 hQ11
  subst l11 y11 z11
  obtain ⟨rfl, N11q, d11, kd11, K11, z11, Gv11, Gc11, Gn11, Ex11, V11⟩ := hQ11
  have N11 := Fr.app N0 N11q
  refine Go.by (fun t k => st11.trans k) ?_
  have f11_0 := (Nat.le_trans Z0 K11.1)
  have f11_1 := (Keep.trans (Keep.refl h0 [a0_]) K11 (allS (Or.inl (List.mem_of_getElem? (i := 0) rfl)) all0))
  have f11_2 := (Old.keep O0 K11 (allS g_a0_ all0))
  have f11_3 := (Exa.keep E0 K11)
  have f11_4 := (Arv.keep VB K11 (ninS (Ne.symm ne0d) nin0))
  have f11_5 := (Exa.keep E1 K11)
  have f11_6 := (Fld.keep F1c K11 (ninS nes0 nin0))
  have f11_7 := (Fld.keep F1v K11 (ninS nes0 nin0))
  have f11_8 := (Arv.keep V1 K11 (ninS ne10 nin0))
  have sz_d11 : h0.size ≤ d11 := Nat.le_trans (Keep.refl h0 [a0_]).1 z11
  show oG p e below P m T11 5 #[(vR a0_), (vR a1_)] [(.ref a0_)]
  refine w_pop X11 hx hby dj67_7_5 rfl ?_
  refine w_aloadN X11 hx hby dj67_7_6 rfl rfl ?_
  refine own_fin hP hlk X11 (v := some (.ref a0_)) (fun h => by rw [hret] at h; cases h) (by decide) (by decide) ?_ (fun fs hr => retOut X11 hx hret rfl (Or.inr (Or.inr (Or.inr (Or.inr ⟨rfl, rfl, rfl⟩)))) (hb hby dj67_7_7) hr)
  exact ⟨rfl, N11, d11, kd11, f11_1, sz_d11, Gv11, Gc11, Gn11, Ex11, V11⟩
def Q_asbInit (Z : State) (a0_ : Addr) (cs : Int32) (h0 : Heap) (n0 : Nat) (v : Option Value) (h : Heap) (L : List Loc) : Prop := v = none ∧ Fr n0 L ∧ ∃ d2 k2, Keep h0 h [a0_] ∧ h0.size ≤ d2 ∧ Fld Z h a0_ "java/lang/AbstractStringBuilder" "value" "[B" (.ref d2) ∧ Fld Z h a0_ "java/lang/AbstractStringBuilder" "coder" "B" (.int 0) ∧ Fld Z h a0_ "java/lang/AbstractStringBuilder" "count" "I" (.int 0) ∧ Arv Z h d2 k2 .byte (16 : Int32) (own_full 16 []) (.int 0)
theorem ef_asbInit (m : MethodId) (a0_ : Addr) (cs : Int32) : entryFrame m #[(.ref a0_), (.int 16)] 2 = mkF m 0 #[(vR a0_), (vI 16)] [] := by first | (simp [entryFrame, mkF, argsToLocals, Value.category]; done) | rfl
set_option maxRecDepth 65536 in
set_option maxHeartbeats 40000000 in
theorem rm_asbInit (l : Launch) (Z : State) (a0 : Array Value) (hw : oW a0 Z) (ws : List Jvm.Cond) (a0_ : Addr) (cs : Int32) (h0 : Heap) (n0 : Nat) (Z0 : n0 ≤ h0.size) (O0 : Old Z n0 h0) (Scs : Sta Z Z.heap "java/lang/String" "COMPACT_STRINGS" "Z" (.int cs)) (hcs : ¬ cs = (0 : Int32)) (E0 : Exa Z h0 a0_ "java/lang/StringBuilder") (g_a0_ : n0 ≤ a0_) (FBv : Fld Z h0 a0_ "java/lang/AbstractStringBuilder" "value" "[B" .null) (FBc : Fld Z h0 a0_ "java/lang/AbstractStringBuilder" "coder" "B" (.int 0)) (FBn : Fld Z h0 a0_ "java/lang/AbstractStringBuilder" "count" "I" (.int 0)) :
    oM l oY36 jdk_68_method_2_code 2 none ws (own_R 1 1 16 14) #[(.ref a0_), (.int 16)] Z h0 (Q_asbInit Z a0_ cs h0 n0) := by
  refine own_open (n0 := n0) (cn := "java/lang/AbstractStringBuilder") rfl (plainFor_of_name pn_java_lang_AbstractStringBuilder) (fun m => ef_asbInit m a0_ cs) ?_
  intro p e s m below meth c s₁ P hx hby hml hown hnm X0 e0 N0 hlk hret hZ hP
  refine w_aloadN X0 hx hby dj68_2_0 rfl rfl ?_
  obtain ⟨T11, X11, e11, st11⟩ := initO X0 hx hZ hown (tw_49 hw) (tw_13 hw) (tw_14 hw) e0 (g := (mkF m 1 #[(vR a0_), (vI 16)] [(.ref a0_)])) rfl (by rw [hml]; rfl) rfl (hb hby dj68_2_1) (by decide) (W := 0) (by show 2 * 0 + _ ≤ _; exact Nat.le_of_eq rfl) (by decide)
  refine Go.by st11 ?_
  obtain ⟨T12, X12, e12, st12⟩ := getS2 X11 hx hZ hown (host := "") (Or.inl (tw_50 hw)) Via.refl e11 (Scs.ext O0.2) (g := (mkF m 4 #[(vR a0_), (vI 16)] [])) rfl (hb hby dj68_2_4)
  refine Go.by st12 ?_
  show oG p e below P m T12 7 #[(vR a0_), (vI 16)] [(.int cs)]
  refine w_ifNo X12 hx hby dj68_2_7 (XT.i0_eq_f hcs) ?_
  refine w_aloadN X12 hx hby dj68_2_10 rfl rfl ?_
  refine w_iloadN X12 hx hby dj68_2_11 rfl ?_
  obtain ⟨T13, h13, k13, X13, e13, E13, A13, st13⟩ := newP X12 hx hZ (aty := .byte) (tw_20 hw) e12 (g := (mkF m 12 #[(vR a0_), (vI 16)] [(.int 16), (.ref a0_)])) rfl (hb hby dj68_2_12) rfl (by decide) (cap := 16) (by decide) (by decide) (by decide) (by decide)
  obtain ⟨b13, g13⟩ : ∃ z, z = h0.size := ⟨_, rfl⟩
  rw [← g13] at A13 st13
  have g_b13 : n0 ≤ b13 := Nat.le_trans Z0 (Nat.le_of_eq g13.symm)
  have sz_b13 : h0.size ≤ b13 := Nat.le_trans (Keep.refl h0 [a0_]).1 (Nat.le_of_eq g13.symm)
  have ne_a0__b13 : a0_ ≠ b13 := Nat.ne_of_lt (Nat.lt_of_lt_of_le (E0.lt) (Nat.le_of_eq g13.symm))
  have f13_0 := (Nat.le_trans Z0 E13.1)
  have f13_1 := (Keep.ext (Keep.refl h0 [a0_]) E13)
  have f13_2 := (Old.ext O0 E13)
  have f13_3 := (Exa.ext E13 E0)
  have f13_4 := (Fld.ext E13 FBv)
  have f13_5 := (Fld.ext E13 FBc)
  have f13_6 := (Fld.ext E13 FBn)
  refine Go.by st13 ?_
  have V13 : Arv Z h13 b13 k13 .byte (16 : Int32) [(.int 0), (.int 0), (.int 0), (.int 0), (.int 0), (.int 0), (.int 0), (.int 0), (.int 0), (.int 0), (.int 0), (.int 0), (.int 0), (.int 0), (.int 0), (.int 0)] (.int 0) := (Arv.new A13 (by decide)).pad (pad_rep [] (.int 0) 16)
  show oG p e below P m T13 14 #[(vR a0_), (vI 16)] [(.ref b13), (.ref a0_)]
  obtain ⟨T14, h14, X14, e14, W14, st14⟩ := putF X13 hx hZ hown (host := "") (Or.inl (tw_51 hw)) Via.refl e13 f13_4 f13_3 (Or.inl (tw_52 hw)) (tw_38 hw) (ty := (.array .byte)) (by decide) rfl rfl (g := (mkF m 14 #[(vR a0_), (vI 16)] [(.ref b13), (.ref a0_)])) rfl rfl (hb hby dj68_2_14)
  refine Go.by st14 ?_
  have N14 := Fr.snoc X14 N0 g_a0_
  have f14_0 := (Nat.le_trans f13_0 (Keep.of_wr W14).1)
  have f14_1 := (Keep.wr f13_1 W14 (Or.inl (List.mem_of_getElem? (i := 0) rfl)))
  have f14_2 := (Old.wr f13_2 W14 g_a0_)
  have f14_3 := (Exa.wr W14 f13_3)
  have f14_4 := (Fld.same W14 f13_4)
  have f14_5 := (Fld.other W14 f13_5 (Or.inr (slot_ne (Or.inl (tw_54 hw)) (Or.inl (tw_52 hw)) (by decide) (t := .byte) (t' := (.array .byte)) (by decide) (by decide))))
  have f14_6 := (Fld.other W14 f13_6 (Or.inr (slot_ne (Or.inl (tw_79 hw)) (Or.inl (tw_52 hw)) (by decide) (t := .int) (t' := (.array .byte)) (by decide) (by decide))))
  have f14_7 := (Arv.other V13 W14 (Ne.symm ne_a0__b13))
  show oG p e below P m T14 17 #[(vR a0_), (vI 16)] []
  refine w_aloadN X14 hx hby dj68_2_17 rfl rfl ?_
  refine w_iconst X14 hx hby dj68_2_18 (v := 0) rfl ?_
  obtain ⟨T15, h15, X15, e15, W15, st15⟩ := putFN X14 hx hZ hown (tw_53 hw) Via.refl e14 f14_5 f14_3 (Or.inl (tw_54 hw)) (tw_38 hw) (ty := .byte) (v' := (.int 0)) (by decide) rfl rfl (g := (mkF m 19 #[(vR a0_), (vI 16)] [(.int 0), (.ref a0_)])) rfl rfl (hb hby dj68_2_19)
  refine Go.by st15 ?_
  have N15 := Fr.snoc X15 N14 g_a0_
  have f15_0 := (Nat.le_trans f14_0 (Keep.of_wr W15).1)
  have f15_1 := (Keep.wr f14_1 W15 (Or.inl (List.mem_of_getElem? (i := 0) rfl)))
  have f15_2 := (Old.wr f14_2 W15 g_a0_)
  have f15_3 := (Exa.wr W15 f14_3)
  have f15_4 := (Fld.other W15 f14_4 (Or.inr (slot_ne (Or.inl (tw_52 hw)) (Or.inl (tw_54 hw)) (by decide) (t := (.array .byte)) (t' := .byte) (by decide) (by decide))))
  have f15_5 := (Fld.same W15 f14_5)
  have f15_6 := (Fld.other W15 f14_6 (Or.inr (slot_ne (Or.inl (tw_79 hw)) (Or.inl (tw_54 hw)) (by decide) (t := .int) (t' := .byte) (by decide) (by decide))))
  have f15_7 := (Arv.other f14_7 W15 (Ne.symm ne_a0__b13))
  show oG p e below P m T15 22 #[(vR a0_), (vI 16)] []
  refine w_goto X15 hx hby dj68_2_22 (pc' := 38) (by decide) ?_
  refine own_fin hP hlk X15 (v := none) (fun _ => rfl) (by decide) (by decide) ?_ (fun fs hr => X15.returnOut hx hret (hb hby dj68_2_38) hr)
  rw [e15]
  exact ⟨rfl, N15, b13, k13, f15_1, sz_b13, f15_4, f15_5, f15_6, f15_7⟩
def Q_sbInit (Z : State) (a0_ : Addr) (cs : Int32) (h0 : Heap) (n0 : Nat) (v : Option Value) (h : Heap) (L : List Loc) : Prop := v = none ∧ Fr n0 L ∧ ∃ d2 k2, Keep h0 h [a0_] ∧ h0.size ≤ d2 ∧ Fld Z h a0_ "java/lang/AbstractStringBuilder" "value" "[B" (.ref d2) ∧ Fld Z h a0_ "java/lang/AbstractStringBuilder" "coder" "B" (.int 0) ∧ Fld Z h a0_ "java/lang/AbstractStringBuilder" "count" "I" (.int 0) ∧ Arv Z h d2 k2 .byte (16 : Int32) (own_full 16 []) (.int 0)
theorem ef_sbInit (m : MethodId) (a0_ : Addr) (cs : Int32) : entryFrame m #[(.ref a0_)] 1 = mkF m 0 #[(vR a0_)] [] := by first | (simp [entryFrame, mkF, argsToLocals, Value.category]; done) | rfl
set_option maxRecDepth 65536 in
set_option maxHeartbeats 40000000 in
theorem rm_sbInit (l : Launch) (Z : State) (a0 : Array Value) (hw : oW a0 Z) (ws : List Jvm.Cond) (a0_ : Addr) (cs : Int32) (h0 : Heap) (n0 : Nat) (Z0 : n0 ≤ h0.size) (O0 : Old Z n0 h0) (Scs : Sta Z Z.heap "java/lang/String" "COMPACT_STRINGS" "Z" (.int cs)) (hcs : ¬ cs = (0 : Int32)) (E0 : Exa Z h0 a0_ "java/lang/StringBuilder") (g_a0_ : n0 ≤ a0_) (FBv : Fld Z h0 a0_ "java/lang/AbstractStringBuilder" "value" "[B" .null) (FBc : Fld Z h0 a0_ "java/lang/AbstractStringBuilder" "coder" "B" (.int 0)) (FBn : Fld Z h0 a0_ "java/lang/AbstractStringBuilder" "count" "I" (.int 0)) :
    oM l oY24 jdk_67_method_1_code 1 none ws (own_R 2 1 16 30) #[(.ref a0_)] Z h0 (Q_sbInit Z a0_ cs h0 n0) := by
  refine own_open (n0 := n0) (cn := "java/lang/StringBuilder") rfl (plainFor_of_name pn_java_lang_StringBuilder) (fun m => ef_sbInit m a0_ cs) ?_
  intro p e s m below meth c s₁ P hx hby hml hown hnm X0 e0 N0 hlk hret hZ hP
  refine w_aloadN X0 hx hby dj67_1_0 rfl rfl ?_
  refine w_bipush X0 hx hby dj67_1_1 (v := 16) rfl ?_
  obtain ⟨_, _, ⟨T11, L11, k11, n11⟩, -, X11, ⟨Lc11, hQ11, l11, y11, z11⟩, st11⟩ := X0.specialBack hx (y := oY36) rfl hown (mvT hZ (tw_43 hw)) (mvT hZ (tw_44 hw)) (mvT hZ (tw_48 hw)) (by decide) (backOf (W := 0) (rm_asbInit l Z a0 hw [] a0_ cs h0 n0 Z0 O0 Scs hcs E0 g_a0_ FBv FBc FBn) hZ (tw_48 hw) (tw_47 hw) (by decide) (by decide)) (g := (mkF m 3 #[(vR a0_)] [(.int 16), (.ref a0_)])) rfl (by rw [hml]; rfl) (Steps.refl _) (a := a0_) (argsL := [(.int 16)]) (rest := []) (lenOf pd__I_V rfl) rfl (by show 2 * 0 + _ ≤ _; exact Nat.le_of_eq rfl) (hb hby dj67_1_3) (fun _ _ => ⟨rfl, e0, (by decide : 0 + 1 ≤ _), (by decide : 0 + 16 ≤ _)⟩)
  dsimp only [Pt.U, Pt.locs, Pt.cells, Pt.slots] at X11 l11 y11 z11 st11 hQ11
  subst l11 y11 z11
  obtain ⟨rfl, N11q, d11, kd11, K11, sz_d11, Gv11, Gc11, Gn11, V11⟩ := hQ11
  have N11 := Fr.app N0 N11q
  refine Go.by (fun t k => st11.trans k) ?_
  have f11_0 := (Nat.le_trans Z0 K11.1)
  have f11_1 := (Keep.trans (Keep.refl h0 [a0_]) K11 (allS (Or.inl (List.mem_of_getElem? (i := 0) rfl)) all0))
  have f11_2 := (Old.keep O0 K11 (allS g_a0_ all0))
  have f11_3 := (Exa.keep E0 K11)
  show oG p e below P m T11 6 #[(vR a0_)] []
  refine own_fin hP hlk X11 (v := none) (fun _ => rfl) (by decide) (by decide) ?_ (fun fs hr => X11.returnOut hx hret (hb hby dj67_1_6) hr)
  exact ⟨rfl, N11, d11, kd11, f11_1, sz_d11, Gv11, Gc11, Gn11, V11⟩
def Q_sbGetV (Z : State) (a0_ : Addr) (d : Addr) (h0 : Heap) (n0 : Nat) (v : Option Value) (h : Heap) (L : List Loc) : Prop := v = some (.ref d) ∧ Fr n0 L ∧ h = h0
theorem ef_sbGetV (m : MethodId) (a0_ : Addr) (d : Addr) : entryFrame m #[(.ref a0_)] 1 = mkF m 0 #[(vR a0_)] [] := by first | (simp [entryFrame, mkF, argsToLocals, Value.category]; done) | rfl
set_option maxRecDepth 65536 in
set_option maxHeartbeats 40000000 in
theorem rm_sbGetV (l : Launch) (Z : State) (a0 : Array Value) (hw : oW a0 Z) (ws : List Jvm.Cond) (a0_ : Addr) (d : Addr) (h0 : Heap) (n0 : Nat) (Z0 : n0 ≤ h0.size) (F0 : Fld Z h0 a0_ "java/lang/AbstractStringBuilder" "value" "[B" (.ref d)) :
    oM l oY8 jdk_68_method_64_code 1 (some (.array .byte)) ws (own_R 0 0 0 0) #[(.ref a0_)] Z h0 (Q_sbGetV Z a0_ d h0 n0) := by
  refine own_open (n0 := n0) (cn := "java/lang/AbstractStringBuilder") rfl (plainFor_of_name pn_java_lang_AbstractStringBuilder) (fun m => ef_sbGetV m a0_ d) ?_
  intro p e s m below meth c s₁ P hx hby hml hown hnm X0 e0 N0 hlk hret hZ hP
  refine w_aloadN X0 hx hby dj68_64_0 rfl rfl ?_
  obtain ⟨T11, X11, e11, st11⟩ := getF X0 hx hZ hown (host := "") (Or.inl (tw_51 hw)) Via.refl e0 F0 (g := (mkF m 1 #[(vR a0_)] [(.ref a0_)])) rfl rfl (hb hby dj68_64_1)
  refine Go.by st11 ?_
  show oG p e below P m T11 4 #[(vR a0_)] [(.ref d)]
  refine own_fin hP hlk X11 (v := some (.ref d)) (fun h => by rw [hret] at h; cases h) (by decide) (by decide) ?_ (fun fs hr => retOut X11 hx hret rfl (Or.inr (Or.inr (Or.inr (Or.inr ⟨rfl, rfl, rfl⟩)))) (hb hby dj68_64_4) hr)
  rw [e11]
  exact ⟨rfl, N0, rfl⟩
def Q_abLen (Z : State) (a0_ : Addr) (cn : Int32) (h0 : Heap) (n0 : Nat) (v : Option Value) (h : Heap) (L : List Loc) : Prop := v = some (.int cn) ∧ Fr n0 L ∧ h = h0
theorem ef_abLen (m : MethodId) (a0_ : Addr) (cn : Int32) : entryFrame m #[(.ref a0_)] 1 = mkF m 0 #[(vR a0_)] [] := by first | (simp [entryFrame, mkF, argsToLocals, Value.category]; done) | rfl
set_option maxRecDepth 65536 in
set_option maxHeartbeats 40000000 in
theorem rm_abLen (l : Launch) (Z : State) (a0 : Array Value) (hw : oW a0 Z) (ws : List Jvm.Cond) (a0_ : Addr) (cn : Int32) (h0 : Heap) (n0 : Nat) (Z0 : n0 ≤ h0.size) (F0 : Fld Z h0 a0_ "java/lang/AbstractStringBuilder" "count" "I" (.int cn)) :
    oM l oY20 jdk_68_method_6_code 1 (some .int) ws (own_R 0 0 0 0) #[(.ref a0_)] Z h0 (Q_abLen Z a0_ cn h0 n0) := by
  refine own_open (n0 := n0) (cn := "java/lang/AbstractStringBuilder") rfl (plainFor_of_name pn_java_lang_AbstractStringBuilder) (fun m => ef_abLen m a0_ cn) ?_
  intro p e s m below meth c s₁ P hx hby hml hown hnm X0 e0 N0 hlk hret hZ hP
  refine w_aloadN X0 hx hby dj68_6_0 rfl rfl ?_
  obtain ⟨T11, X11, e11, st11⟩ := getF X0 hx hZ hown (host := "") (Or.inl (tw_78 hw)) Via.refl e0 F0 (g := (mkF m 1 #[(vR a0_)] [(.ref a0_)])) rfl rfl (hb hby dj68_6_1)
  refine Go.by st11 ?_
  show oG p e below P m T11 4 #[(vR a0_)] [(.int cn)]
  refine own_fin hP hlk X11 (v := some (.int cn)) (fun h => by rw [hret] at h; cases h) (by decide) (by decide) ?_ (fun fs hr => retOut X11 hx hret rfl (Or.inl ⟨rfl, Or.inl rfl, _, rfl⟩) (hb hby dj68_6_4) hr)
  rw [e11]
  exact ⟨rfl, N0, rfl⟩
def Q_sbLen (Z : State) (a0_ : Addr) (cn : Int32) (h0 : Heap) (n0 : Nat) (v : Option Value) (h : Heap) (L : List Loc) : Prop := v = some (.int cn) ∧ Fr n0 L ∧ h = h0
theorem ef_sbLen (m : MethodId) (a0_ : Addr) (cn : Int32) : entryFrame m #[(.ref a0_)] 1 = mkF m 0 #[(vR a0_)] [] := by first | (simp [entryFrame, mkF, argsToLocals, Value.category]; done) | rfl
set_option maxRecDepth 65536 in
set_option maxHeartbeats 40000000 in
theorem rm_sbLen (l : Launch) (Z : State) (a0 : Array Value) (hw : oW a0 Z) (ws : List Jvm.Cond) (a0_ : Addr) (cn : Int32) (h0 : Heap) (n0 : Nat) (Z0 : n0 ≤ h0.size) (E0 : Exa Z h0 a0_ "java/lang/StringBuilder") (F0 : Fld Z h0 a0_ "java/lang/AbstractStringBuilder" "count" "I" (.int cn)) :
    oM l oY25 jdk_67_method_93_code 1 (some .int) ws (own_R 1 0 0 14) #[(.ref a0_)] Z h0 (Q_sbLen Z a0_ cn h0 n0) := by
  refine own_open (n0 := n0) (cn := "java/lang/StringBuilder") rfl (plainFor_of_name pn_java_lang_StringBuilder) (fun m => ef_sbLen m a0_ cn) ?_
  intro p e s m below meth c s₁ P hx hby hml hown hnm X0 e0 N0 hlk hret hZ hP
  refine w_aloadN X0 hx hby dj67_93_0 rfl rfl ?_
  obtain ⟨_, _, ⟨T11, L11, k11, n11⟩, -, X11, ⟨Lc11, hQ11, l11, y11, z11⟩, st11⟩ := superBack X0 hx hZ (K := "java/lang/StringBuilder") (y := oY20) hown (tw_174 hw) (own_sameP (tw_169 hw) (tw_83 hw) rfl (by decide)) (tw_170 hw) (tw_65 hw) (by decide) (backOf (W := 0) (rm_abLen l Z a0 hw [] a0_ cn h0 n0 Z0 F0) hZ (tw_175 hw) (tw_47 hw) (by decide) (by decide)) e0 (Ins.self E0) (g := (mkF m 1 #[(vR a0_)] [(.ref a0_)])) rfl (by rw [hml]; rfl) (tw_175 hw) (argsL := []) (rest := []) (lenOf pd___I rfl) rfl (by show 2 * 0 + _ ≤ _; exact Nat.le_of_eq rfl) (hb hby dj67_93_1) (fun _ _ => ⟨rfl, e0, (by decide : 0 + 0 ≤ _), (by decide : 0 + 0 ≤ _)⟩)
  dsimp only [Pt.U, Pt.locs, Pt.cells, Pt.slots] at X11 l11 y11 z11 st11 hQ11
  subst l11 y11 z11
  obtain ⟨rfl, N11q, q11⟩ := hQ11
  have N11 := Fr.app N0 N11q
  refine Go.by (fun t k => st11.trans k) ?_
  show oG p e below P m T11 4 #[(vR a0_)] [(.int cn)]
  refine own_fin hP hlk X11 (v := some (.int cn)) (fun h => by rw [hret] at h; cases h) (by decide) (by decide) ?_ (fun fs hr => retOut X11 hx hret rfl (Or.inl ⟨rfl, Or.inl rfl, _, rfl⟩) (hb hby dj67_93_4) hr)
  rw [q11]
  exact ⟨rfl, N11, rfl⟩
def Q_sbLat (Z : State) (a0_ : Addr) (cs : Int32) (h0 : Heap) (n0 : Nat) (v : Option Value) (h : Heap) (L : List Loc) : Prop := v = some (.int 1) ∧ Fr n0 L ∧ h = h0
theorem ef_sbLat (m : MethodId) (a0_ : Addr) (cs : Int32) : entryFrame m #[(.ref a0_)] 1 = mkF m 0 #[(vR a0_)] [] := by first | (simp [entryFrame, mkF, argsToLocals, Value.category]; done) | rfl
set_option maxRecDepth 65536 in
set_option maxHeartbeats 40000000 in
theorem rm_sbLat (l : Launch) (Z : State) (a0 : Array Value) (hw : oW a0 Z) (ws : List Jvm.Cond) (a0_ : Addr) (cs : Int32) (h0 : Heap) (n0 : Nat) (Z0 : n0 ≤ h0.size) (O0 : Old Z n0 h0) (Scs : Sta Z Z.heap "java/lang/String" "COMPACT_STRINGS" "Z" (.int cs)) (hcs : ¬ cs = (0 : Int32)) (FBc : Fld Z h0 a0_ "java/lang/AbstractStringBuilder" "coder" "B" (.int 0)) :
    oM l oY1 jdk_68_method_68_code 1 (some .boolean) ws (own_R 0 0 0 0) #[(.ref a0_)] Z h0 (Q_sbLat Z a0_ cs h0 n0) := by
  refine own_open (n0 := n0) (cn := "java/lang/AbstractStringBuilder") rfl (plainFor_of_name pn_java_lang_AbstractStringBuilder) (fun m => ef_sbLat m a0_ cs) ?_
  intro p e s m below meth c s₁ P hx hby hml hown hnm X0 e0 N0 hlk hret hZ hP
  obtain ⟨T11, X11, e11, st11⟩ := getS2 X0 hx hZ hown (host := "") (Or.inl (tw_50 hw)) Via.refl e0 (Scs.ext O0.2) (g := (mkF m 0 #[(vR a0_)] [])) rfl (hb hby dj68_68_0)
  refine Go.by st11 ?_
  show oG p e below P m T11 3 #[(vR a0_)] [(.int cs)]
  refine w_ifNo X11 hx hby dj68_68_3 (XT.i0_eq_f hcs) ?_
  refine w_aloadN X11 hx hby dj68_68_6 rfl rfl ?_
  obtain ⟨T12, X12, e12, st12⟩ := getF X11 hx hZ hown (host := "") (Or.inl (tw_53 hw)) Via.refl e11 FBc (g := (mkF m 7 #[(vR a0_)] [(.ref a0_)])) rfl rfl (hb hby dj68_68_7)
  refine Go.by st12 ?_
  show oG p e below P m T12 10 #[(vR a0_)] [(.int 0)]
  refine w_ifNo X12 hx hby dj68_68_10 (XT.i0_ne_f (by decide : (0 : Int32) = (0 : Int32))) ?_
  refine w_iconst X12 hx hby dj68_68_13 (v := 1) rfl ?_
  refine w_goto X12 hx hby dj68_68_14 (pc' := 18) (by decide) ?_
  refine own_fin hP hlk X12 (v := some (.int 1)) (fun h => by rw [hret] at h; cases h) (by decide) (by decide) ?_ (fun fs hr => retOut X12 hx hret rfl (Or.inl ⟨rfl, Or.inr (Or.inl rfl), _, rfl⟩) (hb hby dj68_68_18) hr)
  rw [e12]
  exact ⟨rfl, N0, rfl⟩
def Q_chkLen (Z : State) (p1 : Int32) (h0 : Heap) (n0 : Nat) (v : Option Value) (h : Heap) (L : List Loc) : Prop := v = none ∧ Fr n0 L ∧ h = h0
theorem ef_chkLen (m : MethodId) (p1 : Int32) : entryFrame m #[(.int 0), (.int p1)] 2 = mkF m 0 #[(vI 0), (vI p1)] [] := by first | (simp [entryFrame, mkF, argsToLocals, Value.category]; done) | rfl
set_option maxRecDepth 65536 in
set_option maxHeartbeats 40000000 in
theorem rm_chkLen (l : Launch) (Z : State) (a0 : Array Value) (hw : oW a0 Z) (ws : List Jvm.Cond) (p1 : Int32) (h0 : Heap) (n0 : Nat) (Z0 : n0 ≤ h0.size) (h1 : ¬ p1 < (0 : Int32)) :
    oM l oY37 jdk_65_method_131_code 2 none ws (own_R 0 0 0 0) #[(.int 0), (.int p1)] Z h0 (Q_chkLen Z p1 h0 n0) := by
  refine own_open (n0 := n0) (cn := "java/util/Arrays") rfl (plainFor_of_name pn_java_util_Arrays) (fun m => ef_chkLen m p1) ?_
  intro p e s m below meth c s₁ P hx hby hml hown hnm X0 e0 N0 hlk hret hZ hP
  refine w_iloadN X0 hx hby dj65_131_0 rfl ?_
  refine w_iloadN X0 hx hby dj65_131_1 rfl ?_
  refine w_icmpYes X0 hx hby dj65_131_2 (pc' := 37) (XT.ii_ge_t h1) (by decide) ?_
  refine own_fin hP hlk X0 (v := none) (fun _ => rfl) (by decide) (by decide) ?_ (fun fs hr => X0.returnOut hx hret (hb hby dj65_131_37) hr)
  rw [e0]
  exact ⟨rfl, N0, rfl⟩
def Q_corb (Z : State) (a1 : Addr) (k1 : ClassId) (z : Int32) (zn : Nat) (bs : List Value) (cn : Int32) (h0 : Heap) (n0 : Nat) (v : Option Value) (h : Heap) (L : List Loc) : Prop := ∃ b k, v = some (.ref b) ∧ Fr n0 L ∧ Keep h0 h [] ∧ h0.size ≤ b ∧ Arv Z h b k .byte cn bs (.int 0)
theorem ef_corb (m : MethodId) (a1 : Addr) (k1 : ClassId) (z : Int32) (zn : Nat) (bs : List Value) (cn : Int32) : entryFrame m #[(.ref a1), (.int 0), (.int cn)] 5 = mkF m 0 #[(vR a1), (vI 0), (vI cn), .unset, .unset] [] := by first | (simp [entryFrame, mkF, argsToLocals, Value.category]; done) | rfl
set_option maxRecDepth 65536 in
set_option maxHeartbeats 40000000 in
theorem rm_corb (l : Launch) (Z : State) (a0 : Array Value) (hw : oW a0 Z) (ws : List Jvm.Cond) (a1 : Addr) (k1 : ClassId) (z : Int32) (zn : Nat) (bs : List Value) (cn : Int32) (h0 : Heap) (n0 : Nat) (Z0 : n0 ≤ h0.size) (V1 : Arv Z h0 a1 k1 .byte z (own_full zn bs) (.int 0)) (hzn : z.toNatClampNeg = zn) (hbl : bs.length = cn.toNatClampNeg) (hc0 : ¬ cn < (0 : Int32)) (hcz : cn.toNatClampNeg ≤ zn) (hcap : zn ≤ 128) (hmin : cn = if cn < z then cn else z) :
    oM l oY38 jdk_65_method_133_code 5 (some (.array .byte)) ws (own_R 1 1 128 40) #[(.ref a1), (.int 0), (.int cn)] Z h0 (Q_corb Z a1 k1 z zn bs cn h0 n0) := by
  refine own_open (n0 := n0) (cn := "java/util/Arrays") rfl (plainFor_of_name pn_java_util_Arrays) (fun m => ef_corb m a1 k1 z zn bs cn) ?_
  intro p e s m below meth c s₁ P hx hby hml hown hnm X0 e0 N0 hlk hret hZ hP
  refine w_iloadN X0 hx hby dj65_133_0 rfl ?_
  refine w_iloadN X0 hx hby dj65_133_1 rfl ?_
  obtain ⟨_, _, ⟨T11, L11, k11, n11⟩, -, X11, ⟨Lc11, hQ11, l11, y11, z11⟩, st11⟩ := Jvm.LawKit.callS X0 hx (y := oY37) hown (mvT hZ (tw_276 hw)) (mvT hZ (tw_277 hw)) (mvT hZ (tw_145 hw)) (mvT hZ (tw_278 hw)) (by decide) (backOf (W := 0) (rm_chkLen l Z a0 hw [] cn h0 n0 Z0 hc0) hZ (tw_278 hw) (tw_145 hw) (by decide) (by decide)) (g := (mkF m 2 #[(vR a1), (vI 0), (vI cn), .unset, .unset] [(.int cn), (.int 0)])) rfl (by rw [hml]; rfl) (argsL := [(.int 0), (.int cn)]) (rest := []) (lenOf pd__II_V rfl) rfl (by show 2 * 0 + _ ≤ _; exact Nat.le_of_eq rfl) (hb hby dj65_133_2) (fun _ _ => ⟨rfl, e0, (by decide : 0 + 0 ≤ _), (by decide : 0 + 0 ≤ _)⟩)
  dsimp only [Pt.U, Pt.locs, Pt.cells, Pt.slots] at X11 l11 y11 z11 st11 hQ11
  subst l11 y11 z11
  obtain ⟨rfl, N11q, q11⟩ := hQ11
  have N11 := Fr.app N0 N11q
  refine Go.by (fun t k => st11 t k) ?_
  show oG p e below P m T11 5 #[(vR a1), (vI 0), (vI cn), .unset, .unset] []
  refine w_iloadN X11 hx hby dj65_133_5 rfl ?_
  refine w_iloadN X11 hx hby dj65_133_6 rfl ?_
  refine w_isub X11 hx hby dj65_133_7 (v := (cn - (0 : Int32))) rfl ?_
  rw [Int32.sub_zero]
  show oG p e below P m T11 8 #[(vR a1), (vI 0), (vI cn), .unset, .unset] [(.int cn)]
  refine w_istoreN X11 hx hby dj65_133_8 (l' := #[(vR a1), (vI 0), (vI cn), (vI cn), .unset]) rfl ?_
  refine w_iloadN X11 hx hby dj65_133_9 rfl ?_
  obtain ⟨T12, h12, k12, X12, e12, E12, A12, st12⟩ := newP X11 hx hZ (aty := .byte) (tw_20 hw) q11 (g := (mkF m 10 #[(vR a1), (vI 0), (vI cn), (vI cn), .unset] [(.int cn)])) rfl (hb hby dj65_133_10) rfl hc0 (cap := 128) (Nat.le_trans hcz hcap) (by decide) (by decide) (by decide)
  obtain ⟨b12, g12⟩ : ∃ z, z = h0.size := ⟨_, rfl⟩
  rw [← g12] at A12 st12
  have g_b12 : n0 ≤ b12 := Nat.le_trans Z0 (Nat.le_of_eq g12.symm)
  have sz_b12 : h0.size ≤ b12 := Nat.le_trans (Keep.refl h0 []).1 (Nat.le_of_eq g12.symm)
  have ne_a1_b12 : a1 ≠ b12 := Nat.ne_of_lt (Nat.lt_of_lt_of_le (V1.lt) (Nat.le_of_eq g12.symm))
  have f12_0 := (Nat.le_trans Z0 E12.1)
  have f12_1 := (Keep.ext (Keep.refl h0 []) E12)
  have f12_2 := (Arv.ext V1 E12)
  refine Go.by st12 ?_
  have V12 : Arv Z h12 b12 k12 .byte cn (own_full cn.toNatClampNeg []) (.int 0) := (Arv.new A12 hc0).pad (own_padfull _)
  show oG p e below P m T12 12 #[(vR a1), (vI 0), (vI cn), (vI cn), .unset] [(.ref b12)]
  refine w_astore X12 hx hby dj65_133_12 rfl (l' := #[(vR a1), (vI 0), (vI cn), (vI cn), (vR b12)]) rfl ?_
  refine w_aloadN X12 hx hby dj65_133_14 rfl rfl ?_
  refine w_iloadN X12 hx hby dj65_133_15 rfl ?_
  refine w_aload X12 hx hby dj65_133_16 rfl rfl ?_
  refine w_iconst X12 hx hby dj65_133_18 (v := 0) rfl ?_
  refine w_aloadN X12 hx hby dj65_133_19 rfl rfl ?_
  have av13 := f12_2
  obtain ⟨cl13, Ar13, -, Sz13, Nn13, -, -⟩ := av13
  refine Go.by (X12.arraylength hx (by rw [e12]; exact Ar13.1) (State.isArrayOf_alike hZ.alike Ar13.2.1) (g := (mkF m 20 #[(vR a1), (vI 0), (vI cn), (vI cn), (vR b12)] [(.ref a1), (.int 0), (.ref b12), (.int 0), (.ref a1)])) rfl rfl (hb hby dj65_133_20)) ?_
  rw [len_of Sz13 Nn13]
  show oG p e below P m T12 21 #[(vR a1), (vI 0), (vI cn), (vI cn), (vR b12)] [(.int z), (.int 0), (.ref b12), (.int 0), (.ref a1)]
  refine w_iloadN X12 hx hby dj65_133_21 rfl ?_
  refine w_isub X12 hx hby dj65_133_22 (v := (z - (0 : Int32))) rfl ?_
  rw [Int32.sub_zero]
  show oG p e below P m T12 23 #[(vR a1), (vI 0), (vI cn), (vI cn), (vR b12)] [(.int z), (.int 0), (.ref b12), (.int 0), (.ref a1)]
  refine w_iloadN X12 hx hby dj65_133_23 rfl ?_
  obtain ⟨_, _, ⟨T14, L14, k14, n14⟩, -, X14, ⟨Lc14, hQ14, l14, y14, z14⟩, st14⟩ := Jvm.LawKit.callS X12 hx (y := oY23) hown (mvT hZ (tw_147 hw)) (mvT hZ (tw_148 hw)) (mvT hZ (tw_139 hw)) (mvT hZ (tw_149 hw)) (by decide) (backOf (W := 4) (rm_min l Z a0 hw [] z cn cn h12 n0 f12_0 hmin) hZ (tw_149 hw) (tw_139 hw) (by decide) (by decide)) (g := (mkF m 24 #[(vR a1), (vI 0), (vI cn), (vI cn), (vR b12)] [(.int cn), (.int z), (.int 0), (.ref b12), (.int 0), (.ref a1)])) rfl (by rw [hml]; rfl) (argsL := [(.int z), (.int cn)]) (rest := [(.int 0), (.ref b12), (.int 0), (.ref a1)]) (lenOf pd__II_I rfl) rfl (by show 2 * 0 + _ ≤ _; exact Nat.le_of_eq rfl) (hb hby dj65_133_24) (fun _ _ => ⟨rfl, e12, (by decide : 1 + 0 ≤ _), (by decide : 128 + 0 ≤ _)⟩)
  dsimp only [Pt.U, Pt.locs, Pt.cells, Pt.slots] at X14 l14 y14 z14 st14 hQ14
  subst l14 y14 z14
  obtain ⟨rfl, N14q, q14⟩ := hQ14
  have N14 := Fr.app N11 N14q
  refine Go.by (fun t k => st14 t k) ?_
  have fl15 := own_full_len (n := zn) (bs := bs) (by omega)
  obtain ⟨T16, h16, Lc16, X16, e16, N16, K16, V16, st16⟩ := cpA X14 hx hZ hown (tw_150 hw) (tw_104 hw) (tw_102 hw) (tw_103 hw) q14 f12_2 V12 (us := bs) (Or.inl ⟨rfl, rfl⟩) (by decide) (by decide) hc0 (by show 0 + _ ≤ _; omega) (by show 0 + _ ≤ _; omega) (by have q := own_rangeT (own_full zn bs) (.int 0) cn.toNatClampNeg (by omega); rw [← hbl, own_fullT] at q; rw [← hbl]; exact q.symm) (by show 0 + _ ≤ _; rw [own_full_len (Nat.zero_le _)]; omega) N14 g_b12 (g := (mkF m 27 #[(vR a1), (vI 0), (vI cn), (vI cn), (vR b12)] [(.int cn), (.int 0), (.ref b12), (.int 0), (.ref a1)])) rfl (by rw [hml]; rfl) rfl (hb hby dj65_133_27) (by decide) (W := 0) (by show 2 * 0 + _ ≤ _; exact Nat.le_of_eq rfl) (by decide)
  have V16' : Arv Z h16 b12 k12 .byte cn bs (.int 0) := Eq.mp (congrArg (fun l => Arv Z h16 b12 k12 .byte cn l (.int 0)) (own_cr (n := cn.toNatClampNeg) (bs := bs))) V16
  have f16_0 := (Nat.le_trans f12_0 K16.1)
  have f16_1 := (Keep.trans f12_1 K16 (allS (Or.inr sz_b12) all0))
  have f16_2 := (Arv.keep f12_2 K16 (ninS ne_a1_b12 nin0))
  refine Go.by st16 ?_
  show oG p e below P m T16 30 #[(vR a1), (vI 0), (vI cn), (vI cn), (vR b12)] []
  refine w_aload X16 hx hby dj65_133_30 rfl rfl ?_
  refine own_fin hP hlk X16 (v := some (.ref b12)) (fun h => by rw [hret] at h; cases h) (by decide) (by decide) ?_ (fun fs hr => retOut X16 hx hret rfl (Or.inr (Or.inr (Or.inr (Or.inr ⟨rfl, rfl, rfl⟩)))) (hb hby dj65_133_32) hr)
  rw [e16]
  exact ⟨b12, k12, rfl, N16, f16_1, sz_b12, V16'⟩
def Q_corN (Z : State) (a1 : Addr) (k1 : ClassId) (z : Int32) (zn : Nat) (bs : List Value) (cn : Int32) (h0 : Heap) (n0 : Nat) (v : Option Value) (h : Heap) (L : List Loc) : Prop := ∃ b k, v = some (.ref b) ∧ Fr n0 L ∧ Keep h0 h [] ∧ h0.size ≤ b ∧ Arv Z h b k .byte cn bs (.int 0)
theorem ef_corN (m : MethodId) (a1 : Addr) (k1 : ClassId) (z : Int32) (zn : Nat) (bs : List Value) (cn : Int32) : entryFrame m #[(.ref a1), (.int 0), (.int cn)] 3 = mkF m 0 #[(vR a1), (vI 0), (vI cn)] [] := by first | (simp [entryFrame, mkF, argsToLocals, Value.category]; done) | rfl
set_option maxRecDepth 65536 in
set_option maxHeartbeats 40000000 in
theorem rm_corN (l : Launch) (Z : State) (a0 : Array Value) (hw : oW a0 Z) (ws : List Jvm.Cond) (a1 : Addr) (k1 : ClassId) (z : Int32) (zn : Nat) (bs : List Value) (cn : Int32) (h0 : Heap) (n0 : Nat) (Z0 : n0 ≤ h0.size) (V1 : Arv Z h0 a1 k1 .byte z (own_full zn bs) (.int 0)) (hzn : z.toNatClampNeg = zn) (hbl : bs.length = cn.toNatClampNeg) (hc0 : ¬ cn < (0 : Int32)) (hcz : cn.toNatClampNeg ≤ zn) (hcap : zn ≤ 128) (hmin : cn = if cn < z then cn else z) (hne : ¬ cn = z) :
    oM l oY9 jdk_65_method_132_code 3 (some (.array .byte)) ws (own_R 2 1 128 58) #[(.ref a1), (.int 0), (.int cn)] Z h0 (Q_corN Z a1 k1 z zn bs cn h0 n0) := by
  refine own_open (n0 := n0) (cn := "java/util/Arrays") rfl (plainFor_of_name pn_java_util_Arrays) (fun m => ef_corN m a1 k1 z zn bs cn) ?_
  intro p e s m below meth c s₁ P hx hby hml hown hnm X0 e0 N0 hlk hret hZ hP
  refine w_iloadN X0 hx hby dj65_132_0 rfl ?_
  refine w_ifNo X0 hx hby dj65_132_1 (XT.i0_ne_f (by decide : (0 : Int32) = (0 : Int32))) ?_
  refine w_iloadN X0 hx hby dj65_132_4 rfl ?_
  refine w_aloadN X0 hx hby dj65_132_5 rfl rfl ?_
  have av11 := V1
  obtain ⟨cl11, Ar11, -, Sz11, Nn11, -, -⟩ := av11
  refine Go.by (X0.arraylength hx (by rw [e0]; exact Ar11.1) (State.isArrayOf_alike hZ.alike Ar11.2.1) (g := (mkF m 6 #[(vR a1), (vI 0), (vI cn)] [(.ref a1), (.int cn)])) rfl rfl (hb hby dj65_132_6)) ?_
  rw [len_of Sz11 Nn11]
  show oG p e below P m s₁ 7 #[(vR a1), (vI 0), (vI cn)] [(.int z), (.int cn)]
  refine w_icmpNo X0 hx hby dj65_132_7 (XT.ii_eq_f hne) ?_
  refine w_aloadN X0 hx hby dj65_132_10 rfl rfl ?_
  refine w_iloadN X0 hx hby dj65_132_11 rfl ?_
  refine w_iloadN X0 hx hby dj65_132_12 rfl ?_
  obtain ⟨_, _, ⟨T12, L12, k12, n12⟩, -, X12, ⟨Lc12, hQ12, l12, y12, z12⟩, st12⟩ := Jvm.LawKit.callS X0 hx (y := oY38) hown (mvT hZ (tw_273 hw)) (mvT hZ (tw_274 hw)) (mvT hZ (tw_145 hw)) (mvT hZ (tw_275 hw)) (by decide) (backOf (W := 0) (rm_corb l Z a0 hw [] a1 k1 z zn bs cn h0 n0 Z0 V1 hzn hbl hc0 hcz hcap hmin) hZ (tw_275 hw) (tw_145 hw) (by decide) (by decide)) (g := (mkF m 13 #[(vR a1), (vI 0), (vI cn)] [(.int cn), (.int 0), (.ref a1)])) rfl (by rw [hml]; rfl) (argsL := [(.ref a1), (.int 0), (.int cn)]) (rest := []) (lenOf pd___BII__B rfl) rfl (by show 2 * 0 + _ ≤ _; exact Nat.le_of_eq rfl) (hb hby dj65_132_13) (fun _ _ => ⟨rfl, e0, (by decide : 0 + 1 ≤ _), (by decide : 0 + 128 ≤ _)⟩)
  dsimp only [Pt.U, Pt.locs, Pt.cells, Pt.slots] at X12 l12 y12 z12 st12 hQ12
  subst l12 y12 z12
  obtain ⟨d12, kd12, rfl, N12q, K12, sz_d12, V12⟩ := hQ12
  have N12 := Fr.app N0 N12q
  refine Go.by (fun t k => st12 t k) ?_
  have f12_0 := (Nat.le_trans Z0 K12.1)
  have f12_1 := (Keep.trans (Keep.refl h0 []) K12 all0)
  have f12_2 := (Arv.keep V1 K12 nin0)
  show oG p e below P m T12 16 #[(vR a1), (vI 0), (vI cn)] [(.ref d12)]
  refine own_fin hP hlk X12 (v := some (.ref d12)) (fun h => by rw [hret] at h; cases h) (by decide) (by decide) ?_ (fun fs hr => retOut X12 hx hret rfl (Or.inr (Or.inr (Or.inr (Or.inr ⟨rfl, rfl, rfl⟩)))) (hb hby dj65_132_16) hr)
  exact ⟨d12, kd12, rfl, N12, f12_1, sz_d12, V12⟩
def Q_corE (Z : State) (a1 : Addr) (k1 : ClassId) (z : Int32) (zn : Nat) (bs : List Value) (h0 : Heap) (n0 : Nat) (v : Option Value) (h : Heap) (L : List Loc) : Prop := ∃ b k, v = some (.ref b) ∧ Fr n0 L ∧ Keep h0 h [] ∧ h0.size ≤ b ∧ Arv Z h b k .byte z bs (.int 0)
theorem ef_corE (m : MethodId) (a1 : Addr) (k1 : ClassId) (z : Int32) (zn : Nat) (bs : List Value) : entryFrame m #[(.ref a1), (.int 0), (.int z)] 3 = mkF m 0 #[(vR a1), (vI 0), (vI z)] [] := by first | (simp [entryFrame, mkF, argsToLocals, Value.category]; done) | rfl
set_option maxRecDepth 65536 in
set_option maxHeartbeats 40000000 in
theorem rm_corE (l : Launch) (Z : State) (a0 : Array Value) (hw : oW a0 Z) (ws : List Jvm.Cond) (a1 : Addr) (k1 : ClassId) (z : Int32) (zn : Nat) (bs : List Value) (h0 : Heap) (n0 : Nat) (Z0 : n0 ≤ h0.size) (V1 : Arv Z h0 a1 k1 .byte z (own_full zn bs) (.int 0)) (Ex1 : Exa Z h0 a1 "[B") (hzn : z.toNatClampNeg = zn) (hbl : bs.length = zn) (hcap : zn ≤ 128) :
    oM l oY9 jdk_65_method_132_code 3 (some (.array .byte)) ws (own_R 2 1 128 58) #[(.ref a1), (.int 0), (.int z)] Z h0 (Q_corE Z a1 k1 z zn bs h0 n0) := by
  refine own_open (n0 := n0) (cn := "java/util/Arrays") rfl (plainFor_of_name pn_java_util_Arrays) (fun m => ef_corE m a1 k1 z zn bs) ?_
  intro p e s m below meth c s₁ P hx hby hml hown hnm X0 e0 N0 hlk hret hZ hP
  refine w_iloadN X0 hx hby dj65_132_0 rfl ?_
  refine w_ifNo X0 hx hby dj65_132_1 (XT.i0_ne_f (by decide : (0 : Int32) = (0 : Int32))) ?_
  refine w_iloadN X0 hx hby dj65_132_4 rfl ?_
  refine w_aloadN X0 hx hby dj65_132_5 rfl rfl ?_
  have av11 := V1
  obtain ⟨cl11, Ar11, -, Sz11, Nn11, -, -⟩ := av11
  refine Go.by (X0.arraylength hx (by rw [e0]; exact Ar11.1) (State.isArrayOf_alike hZ.alike Ar11.2.1) (g := (mkF m 6 #[(vR a1), (vI 0), (vI z)] [(.ref a1), (.int z)])) rfl rfl (hb hby dj65_132_6)) ?_
  rw [len_of Sz11 Nn11]
  show oG p e below P m s₁ 7 #[(vR a1), (vI 0), (vI z)] [(.int z), (.int z)]
  refine w_icmpYes X0 hx hby dj65_132_7 (pc' := 17) (XT.ii_eq_t rfl) (by decide) ?_
  refine w_aloadN X0 hx hby dj65_132_17 rfl rfl ?_
  obtain ⟨T12, h12, X12, e12, E12, A12, Ex12, st12⟩ := cloneH X0 hx hZ hown (tw_180 hw) (tw_181 hw) (tw_185 hw) (tw_183 hw) (tw_184 hw) (tw_186 hw) e0 (Arv.arh V1) Ex1 (g := (mkF m 18 #[(vR a1), (vI 0), (vI z)] [(.ref a1)])) rfl (by rw [hml]; rfl) rfl (hb hby dj65_132_18) (by decide) (W := 0) (cap := 128) (by show 2 * 0 + _ ≤ _; exact Nat.le_of_eq rfl) (by decide) (by rw [hzn]; exact hcap) (by decide) (by decide)
  obtain ⟨b12, g12⟩ : ∃ z, z = h0.size := ⟨_, rfl⟩
  rw [← g12] at A12 Ex12 st12
  have g_b12 : n0 ≤ b12 := Nat.le_trans Z0 (Nat.le_of_eq g12.symm)
  have sz_b12 : h0.size ≤ b12 := Nat.le_trans (Keep.refl h0 []).1 (Nat.le_of_eq g12.symm)
  have ne_a1_b12 : a1 ≠ b12 := Nat.ne_of_lt (Nat.lt_of_lt_of_le (V1.lt) (Nat.le_of_eq g12.symm))
  have f12_0 := (Nat.le_trans Z0 E12.1)
  have f12_1 := (Keep.ext (Keep.refl h0 []) E12)
  have f12_2 := (Arv.ext V1 E12)
  have f12_3 := (Exa.ext E12 Ex1)
  refine Go.by st12 ?_
  have V12 : Arv Z h12 b12 k1 .byte z bs (.int 0) := (own_fullE hbl) ▸ (show Arv Z h12 b12 k1 .byte z (own_full zn bs) (.int 0) from A12)
  show oG p e below P m T12 21 #[(vR a1), (vI 0), (vI z)] [(.ref b12)]
  obtain ⟨T13, X13, e13, st13⟩ := castY X12 hx hZ hown (tw_187 hw) e12 (Ins.self Ex12) (g := (mkF m 21 #[(vR a1), (vI 0), (vI z)] [(.ref b12)])) rfl rfl (hb hby dj65_132_21)
  refine Go.by st13 ?_
  show oG p e below P m T13 24 #[(vR a1), (vI 0), (vI z)] [(.ref b12)]
  refine own_fin hP hlk X13 (v := some (.ref b12)) (fun h => by rw [hret] at h; cases h) (by decide) (by decide) ?_ (fun fs hr => retOut X13 hx hret rfl (Or.inr (Or.inr (Or.inr (Or.inr ⟨rfl, rfl, rfl⟩)))) (hb hby dj65_132_24) hr)
  rw [e13]
  exact ⟨b12, k1, rfl, N0, f12_1, sz_b12, V12⟩
def Q_siAVN (Z : State) (s_ : Addr) (a0_ : Addr) (d : Addr) (kd : ClassId) (z : Int32) (zn : Nat) (bs : List Value) (cn : Int32) (cs : Int32) (h0 : Heap) (n0 : Nat) (v : Option Value) (h : Heap) (L : List Loc) : Prop := v = none ∧ Fr n0 L ∧ Keep h0 h [s_] ∧ Fld Z h s_ "java/lang/String" "coder" "B" (.int 0) ∧ ∃ d2 k2, h0.size ≤ d2 ∧ Fld Z h s_ "java/lang/String" "value" "[B" (.ref d2) ∧ Arv Z h d2 k2 .byte cn bs (.int 0)
theorem ef_siAVN (m : MethodId) (s_ : Addr) (a0_ : Addr) (d : Addr) (kd : ClassId) (z : Int32) (zn : Nat) (bs : List Value) (cn : Int32) (cs : Int32) : entryFrame m #[(.ref s_), (.ref a0_), .null] 5 = mkF m 0 #[(vR s_), (vR a0_), .val .null, .unset, .unset] [] := by first | (simp [entryFrame, mkF, argsToLocals, Value.category]; done) | rfl
set_option maxRecDepth 65536 in
set_option maxHeartbeats 40000000 in
theorem rm_siAVN (l : Launch) (Z : State) (a0 : Array Value) (hw : oW a0 Z) (ws : List Jvm.Cond) (s_ : Addr) (a0_ : Addr) (d : Addr) (kd : ClassId) (z : Int32) (zn : Nat) (bs : List Value) (cn : Int32) (cs : Int32) (h0 : Heap) (n0 : Nat) (Z0 : n0 ≤ h0.size) (O0 : Old Z n0 h0) (Scs : Sta Z Z.heap "java/lang/String" "COMPACT_STRINGS" "Z" (.int cs)) (hcs : ¬ cs = (0 : Int32)) (ES : Exa Z h0 s_ "java/lang/String") (g_s_ : n0 ≤ s_) (FSc : Fld Z h0 s_ "java/lang/String" "coder" "B" (.int 0)) (FSv : Fld Z h0 s_ "java/lang/String" "value" "[B" .null) (nes0 : s_ ≠ a0_) (nesd : s_ ≠ d) (E0 : Exa Z h0 a0_ "java/lang/StringBuilder") (g_a0_ : n0 ≤ a0_) (FBv : Fld Z h0 a0_ "java/lang/AbstractStringBuilder" "value" "[B" (.ref d)) (FBc : Fld Z h0 a0_ "java/lang/AbstractStringBuilder" "coder" "B" (.int 0)) (FBn : Fld Z h0 a0_ "java/lang/AbstractStringBuilder" "count" "I" (.int cn)) (g_d : n0 ≤ d) (VB : Arv Z h0 d kd .byte z (own_full zn bs) (.int 0)) (ne0d : a0_ ≠ d) (hzn : z.toNatClampNeg = zn) (hbl : bs.length = cn.toNatClampNeg) (hc0 : ¬ cn < (0 : Int32)) (hcz : cn.toNatClampNeg ≤ zn) (hcap : zn ≤ 128) (hmin : cn = if cn < z then cn else z) (hne : ¬ cn = z) :
    oM l oY10 jdk_42_method_150_code 5 none ws (own_R 3 1 128 76) #[(.ref s_), (.ref a0_), .null] Z h0 (Q_siAVN Z s_ a0_ d kd z zn bs cn cs h0 n0) := by
  refine own_open (n0 := n0) (cn := "java/lang/String") rfl (plainFor_of_name pn_java_lang_String) (fun m => ef_siAVN m s_ a0_ d kd z zn bs cn cs) ?_
  intro p e s m below meth c s₁ P hx hby hml hown hnm X0 e0 N0 hlk hret hZ hP
  refine w_aloadN X0 hx hby dj42_150_0 rfl rfl ?_
  obtain ⟨T11, X11, e11, st11⟩ := initO X0 hx hZ hown (tw_12 hw) (tw_13 hw) (tw_14 hw) e0 (g := (mkF m 1 #[(vR s_), (vR a0_), .val .null, .unset, .unset] [(.ref s_)])) rfl (by rw [hml]; rfl) rfl (hb hby dj42_150_1) (by decide) (W := 0) (by show 2 * 0 + _ ≤ _; exact Nat.le_of_eq rfl) (by decide)
  refine Go.by st11 ?_
  show oG p e below P m T11 4 #[(vR s_), (vR a0_), .val .null, .unset, .unset] []
  refine w_aloadN X11 hx hby dj42_150_4 rfl rfl ?_
  obtain ⟨cq12, kq12, q12a, q12b, q12c⟩ := isOf hZ e11 E0
  obtain ⟨_, _, ⟨T12, L12, k12, n12⟩, -, X12, ⟨Lc12, hQ12, l12, y12, z12⟩, st12⟩ := X11.virtualBack hx (y := oY8) (z := oY8) hown (mvT hZ (tw_163 hw)) (mvT hZ (tw_164 hw)) (notFace_of_selects (args := #[]) (mvT hZ (tw_166 hw))) (mvT hZ (tw_166 hw)) (mvT hZ (tw_165 hw)) (by decide) (backOf (W := 0) (rm_sbGetV l Z a0 hw [] a0_ d h0 n0 Z0 FBv) hZ (tw_167 hw) (tw_47 hw) (by decide) (by decide)) q12a q12c (g := (mkF m 5 #[(vR s_), (vR a0_), .val .null, .unset, .unset] [(.ref a0_)])) rfl (by rw [hml]; rfl) (Steps.refl _) (argsL := []) (rest := []) (lenOf pd____B rfl) rfl (by show 2 * 0 + _ ≤ _; exact Nat.le_of_eq rfl) (hb hby dj42_150_5) (fun _ _ => ⟨rfl, e11, (by decide : 0 + 0 ≤ _), (by decide : 0 + 0 ≤ _)⟩)
  dsimp only [Pt.U, Pt.locs, Pt.cells, Pt.slots] at X12 l12 y12 z12 st12 hQ12
  subst l12 y12 z12
  obtain ⟨rfl, N12q, q12⟩ := hQ12
  have N12 := Fr.app N0 N12q
  refine Go.by (fun t k => st12.trans k) ?_
  show oG p e below P m T12 8 #[(vR s_), (vR a0_), .val .null, .unset, .unset] [(.ref d)]
  refine w_astoreN X12 hx hby dj42_150_8 rfl (l' := #[(vR s_), (vR a0_), .val .null, (vR d), .unset]) rfl ?_
  refine w_aloadN X12 hx hby dj42_150_9 rfl rfl ?_
  obtain ⟨cq13, kq13, q13a, q13b, q13c⟩ := isOf hZ q12 E0
  obtain ⟨_, _, ⟨T13, L13, k13, n13⟩, -, X13, ⟨Lc13, hQ13, l13, y13, z13⟩, st13⟩ := X12.virtualBack hx (y := oY20) (z := oY25) hown (mvT hZ (tw_168 hw)) (mvT hZ (tw_169 hw)) (own_nf (args := #[]) (mvT hZ (tw_166 hw)) rfl) (mvT hZ (tw_171 hw)) (mvT hZ (tw_172 hw)) (by decide) (backOf (W := 0) (rm_sbLen l Z a0 hw [] a0_ cn h0 n0 Z0 E0 FBn) hZ (tw_173 hw) (tw_39 hw) (by decide) (by decide)) q13a q13c (g := (mkF m 10 #[(vR s_), (vR a0_), .val .null, (vR d), .unset] [(.ref a0_)])) rfl (by rw [hml]; rfl) (Steps.refl _) (argsL := []) (rest := []) (lenOf pd___I rfl) rfl (by show 2 * 0 + _ ≤ _; exact Nat.le_of_eq rfl) (hb hby dj42_150_10) (fun _ _ => ⟨rfl, q12, (by decide : 0 + 0 ≤ _), (by decide : 0 + 0 ≤ _)⟩)
  dsimp only [Pt.U, Pt.locs, Pt.cells, Pt.slots] at X13 l13 y13 z13 st13 hQ13
  subst l13 y13 z13
  obtain ⟨rfl, N13q, q13⟩ := hQ13
  have N13 := Fr.app N12 N13q
  refine Go.by (fun t k => st13.trans k) ?_
  show oG p e below P m T13 13 #[(vR s_), (vR a0_), .val .null, (vR d), .unset] [(.int cn)]
  refine w_istore X13 hx hby dj42_150_13 (l' := #[(vR s_), (vR a0_), .val .null, (vR d), (vI cn)]) rfl ?_
  refine w_aloadN X13 hx hby dj42_150_15 rfl rfl ?_
  obtain ⟨cq14, kq14, q14a, q14b, q14c⟩ := isOf hZ q13 E0
  obtain ⟨_, _, ⟨T14, L14, k14, n14⟩, -, X14, ⟨Lc14, hQ14, l14, y14, z14⟩, st14⟩ := X13.virtualBack hx (y := oY1) (z := oY1) hown (mvT hZ (tw_176 hw)) (mvT hZ (tw_119 hw)) (notFace_of_selects (args := #[]) (mvT hZ (tw_121 hw))) (mvT hZ (tw_121 hw)) (mvT hZ (tw_120 hw)) (by decide) (backOf (W := 0) (rm_sbLat l Z a0 hw [] a0_ cs h0 n0 Z0 O0 Scs hcs FBc) hZ (tw_122 hw) (tw_47 hw) (by decide) (by decide)) q14a q14c (g := (mkF m 16 #[(vR s_), (vR a0_), .val .null, (vR d), (vI cn)] [(.ref a0_)])) rfl (by rw [hml]; rfl) (Steps.refl _) (argsL := []) (rest := []) (lenOf pd___Z rfl) rfl (by show 2 * 0 + _ ≤ _; exact Nat.le_of_eq rfl) (hb hby dj42_150_16) (fun _ _ => ⟨rfl, q13, (by decide : 0 + 0 ≤ _), (by decide : 0 + 0 ≤ _)⟩)
  dsimp only [Pt.U, Pt.locs, Pt.cells, Pt.slots] at X14 l14 y14 z14 st14 hQ14
  subst l14 y14 z14
  obtain ⟨rfl, N14q, q14⟩ := hQ14
  have N14 := Fr.app N13 N14q
  refine Go.by (fun t k => st14.trans k) ?_
  show oG p e below P m T14 19 #[(vR s_), (vR a0_), .val .null, (vR d), (vI cn)] [(.int 1)]
  refine w_ifNo X14 hx hby dj42_150_19 (XT.i0_eq_f (by decide : ¬ (1 : Int32) = (0 : Int32))) ?_
  refine w_aloadN X14 hx hby dj42_150_22 rfl rfl ?_
  refine w_iconst X14 hx hby dj42_150_23 (v := 0) rfl ?_
  obtain ⟨T15, h15, X15, e15, W15, st15⟩ := putFN X14 hx hZ hown (tw_27 hw) Via.refl q14 FSc ES (Or.inr ⟨(tw_28 hw), rfl, hnm⟩) (tw_3 hw) (ty := .byte) (v' := (.int 0)) (by decide) rfl rfl (g := (mkF m 24 #[(vR s_), (vR a0_), .val .null, (vR d), (vI cn)] [(.int 0), (.ref s_)])) rfl rfl (hb hby dj42_150_24)
  refine Go.by st15 ?_
  have N15 := Fr.snoc X15 N14 g_s_
  have f15_0 := (Nat.le_trans Z0 (Keep.of_wr W15).1)
  have f15_1 := (Keep.wr (Keep.refl h0 [s_]) W15 (Or.inl (List.mem_of_getElem? (i := 0) rfl)))
  have f15_2 := (Old.wr O0 W15 g_s_)
  have f15_3 := (Exa.wr W15 E0)
  have f15_4 := (Fld.other W15 FBv (Or.inl (Ne.symm nes0)))
  have f15_5 := (Fld.other W15 FBc (Or.inl (Ne.symm nes0)))
  have f15_6 := (Fld.other W15 FBn (Or.inl (Ne.symm nes0)))
  have f15_7 := (Arv.other VB W15 (Ne.symm nesd))
  have f15_8 := (Exa.wr W15 ES)
  have f15_9 := (Fld.same W15 FSc)
  have f15_10 := (Fld.other W15 FSv (Or.inr (slot_ne (Or.inr (tw_30 hw)) (Or.inr (tw_28 hw)) (by decide) (t := (.array .byte)) (t' := .byte) (by decide) (by decide))))
  show oG p e below P m T15 27 #[(vR s_), (vR a0_), .val .null, (vR d), (vI cn)] []
  refine w_aloadN X15 hx hby dj42_150_27 rfl rfl ?_
  refine w_aloadN X15 hx hby dj42_150_28 rfl rfl ?_
  refine w_iconst X15 hx hby dj42_150_29 (v := 0) rfl ?_
  refine w_iload X15 hx hby dj42_150_30 rfl ?_
  obtain ⟨_, _, ⟨T16, L16, k16, n16⟩, -, X16, ⟨Lc16, hQ16, l16, y16, z16⟩, st16⟩ := Jvm.LawKit.callS X15 hx (y := oY9) hown (mvT hZ (tw_177 hw)) (mvT hZ (tw_178 hw)) (mvT hZ (tw_145 hw)) (mvT hZ (tw_179 hw)) (by decide) (backOf (W := 1) (rm_corN l Z a0 hw [] d kd z zn bs cn h15 n0 f15_0 f15_7 hzn hbl hc0 hcz hcap hmin hne) hZ (tw_179 hw) (tw_145 hw) (by decide) (by decide)) (g := (mkF m 32 #[(vR s_), (vR a0_), .val .null, (vR d), (vI cn)] [(.int cn), (.int 0), (.ref d), (.ref s_)])) rfl (by rw [hml]; rfl) (argsL := [(.ref d), (.int 0), (.int cn)]) (rest := [(.ref s_)]) (lenOf pd___BII__B rfl) rfl (by show 2 * 0 + _ ≤ _; exact Nat.le_of_eq rfl) (hb hby dj42_150_32) (fun _ _ => ⟨rfl, e15, (by decide : 0 + 1 ≤ _), (by decide : 0 + 128 ≤ _)⟩)
  dsimp only [Pt.U, Pt.locs, Pt.cells, Pt.slots] at X16 l16 y16 z16 st16 hQ16
  subst l16 y16 z16
  obtain ⟨d16, kd16, rfl, N16q, K16, z16, V16⟩ := hQ16
  have N16 := Fr.app N15 N16q
  refine Go.by (fun t k => st16 t k) ?_
  have f16_0 := (Nat.le_trans f15_0 K16.1)
  have f16_1 := (Keep.trans f15_1 K16 all0)
  have f16_2 := (Old.keep f15_2 K16 all0)
  have f16_3 := (Exa.keep f15_3 K16)
  have f16_4 := (Fld.keep f15_4 K16 nin0)
  have f16_5 := (Fld.keep f15_5 K16 nin0)
  have f16_6 := (Fld.keep f15_6 K16 nin0)
  have f16_7 := (Arv.keep f15_7 K16 nin0)
  have f16_8 := (Exa.keep f15_8 K16)
  have f16_9 := (Fld.keep f15_9 K16 nin0)
  have f16_10 := (Fld.keep f15_10 K16 nin0)
  have g_d16 : n0 ≤ d16 := Nat.le_trans f15_0 z16
  have sz_d16 : h0.size ≤ d16 := Nat.le_trans f15_1.1 z16
  have nea0_d16 : a0_ ≠ d16 := Nat.ne_of_lt (Nat.lt_of_lt_of_le (f15_3.lt) z16)
  have nedd16 : d ≠ d16 := Nat.ne_of_lt (Nat.lt_of_lt_of_le (f15_7.lt) z16)
  have nes_d16 : s_ ≠ d16 := Nat.ne_of_lt (Nat.lt_of_lt_of_le (f15_8.lt) z16)
  show oG p e below P m T16 35 #[(vR s_), (vR a0_), .val .null, (vR d), (vI cn)] [(.ref d16), (.ref s_)]
  obtain ⟨T17, h17, X17, e17, W17, st17⟩ := putF X16 hx hZ hown (host := "") (Or.inl (tw_29 hw)) Via.refl rfl f16_10 f16_8 (Or.inr ⟨(tw_30 hw), rfl, hnm⟩) (tw_3 hw) (ty := (.array .byte)) (by decide) rfl rfl (g := (mkF m 35 #[(vR s_), (vR a0_), .val .null, (vR d), (vI cn)] [(.ref d16), (.ref s_)])) rfl rfl (hb hby dj42_150_35)
  refine Go.by st17 ?_
  have N17 := Fr.snoc X17 N16 g_s_
  have f17_0 := (Nat.le_trans f16_0 (Keep.of_wr W17).1)
  have f17_1 := (Keep.wr f16_1 W17 (Or.inl (List.mem_of_getElem? (i := 0) rfl)))
  have f17_2 := (Old.wr f16_2 W17 g_s_)
  have f17_3 := (Exa.wr W17 f16_3)
  have f17_4 := (Fld.other W17 f16_4 (Or.inl (Ne.symm nes0)))
  have f17_5 := (Fld.other W17 f16_5 (Or.inl (Ne.symm nes0)))
  have f17_6 := (Fld.other W17 f16_6 (Or.inl (Ne.symm nes0)))
  have f17_7 := (Arv.other f16_7 W17 (Ne.symm nesd))
  have f17_8 := (Exa.wr W17 f16_8)
  have f17_9 := (Fld.other W17 f16_9 (Or.inr (slot_ne (Or.inr (tw_28 hw)) (Or.inr (tw_30 hw)) (by decide) (t := .byte) (t' := (.array .byte)) (by decide) (by decide))))
  have f17_10 := (Fld.same W17 f16_10)
  have f17_11 := (Arv.other V16 W17 (Ne.symm nes_d16))
  show oG p e below P m T17 38 #[(vR s_), (vR a0_), .val .null, (vR d), (vI cn)] []
  refine w_goto X17 hx hby dj42_150_38 (pc' := 97) (by decide) ?_
  refine own_fin hP hlk X17 (v := none) (fun _ => rfl) (by decide) (by decide) ?_ (fun fs hr => X17.returnOut hx hret (hb hby dj42_150_97) hr)
  rw [e17]
  exact ⟨rfl, N17, f17_1, f17_9, d16, kd16, sz_d16, f17_10, f17_11⟩
def Q_siSBN (Z : State) (s_ : Addr) (a0_ : Addr) (d : Addr) (kd : ClassId) (z : Int32) (zn : Nat) (bs : List Value) (cn : Int32) (cs : Int32) (h0 : Heap) (n0 : Nat) (v : Option Value) (h : Heap) (L : List Loc) : Prop := v = none ∧ Fr n0 L ∧ Keep h0 h [s_] ∧ Fld Z h s_ "java/lang/String" "coder" "B" (.int 0) ∧ ∃ d2 k2, h0.size ≤ d2 ∧ Fld Z h s_ "java/lang/String" "value" "[B" (.ref d2) ∧ Arv Z h d2 k2 .byte cn bs (.int 0)
theorem ef_siSBN (m : MethodId) (s_ : Addr) (a0_ : Addr) (d : Addr) (kd : ClassId) (z : Int32) (zn : Nat) (bs : List Value) (cn : Int32) (cs : Int32) : entryFrame m #[(.ref s_), (.ref a0_)] 2 = mkF m 0 #[(vR s_), (vR a0_)] [] := by first | (simp [entryFrame, mkF, argsToLocals, Value.category]; done) | rfl
set_option maxRecDepth 65536 in
set_option maxHeartbeats 40000000 in
theorem rm_siSBN (l : Launch) (Z : State) (a0 : Array Value) (hw : oW a0 Z) (ws : List Jvm.Cond) (s_ : Addr) (a0_ : Addr) (d : Addr) (kd : ClassId) (z : Int32) (zn : Nat) (bs : List Value) (cn : Int32) (cs : Int32) (h0 : Heap) (n0 : Nat) (Z0 : n0 ≤ h0.size) (O0 : Old Z n0 h0) (Scs : Sta Z Z.heap "java/lang/String" "COMPACT_STRINGS" "Z" (.int cs)) (hcs : ¬ cs = (0 : Int32)) (ES : Exa Z h0 s_ "java/lang/String") (g_s_ : n0 ≤ s_) (FSc : Fld Z h0 s_ "java/lang/String" "coder" "B" (.int 0)) (FSv : Fld Z h0 s_ "java/lang/String" "value" "[B" .null) (nes0 : s_ ≠ a0_) (nesd : s_ ≠ d) (E0 : Exa Z h0 a0_ "java/lang/StringBuilder") (g_a0_ : n0 ≤ a0_) (FBv : Fld Z h0 a0_ "java/lang/AbstractStringBuilder" "value" "[B" (.ref d)) (FBc : Fld Z h0 a0_ "java/lang/AbstractStringBuilder" "coder" "B" (.int 0)) (FBn : Fld Z h0 a0_ "java/lang/AbstractStringBuilder" "count" "I" (.int cn)) (g_d : n0 ≤ d) (VB : Arv Z h0 d kd .byte z (own_full zn bs) (.int 0)) (ne0d : a0_ ≠ d) (hzn : z.toNatClampNeg = zn) (hbl : bs.length = cn.toNatClampNeg) (hc0 : ¬ cn < (0 : Int32)) (hcz : cn.toNatClampNeg ≤ zn) (hcap : zn ≤ 128) (hmin : cn = if cn < z then cn else z) (hne : ¬ cn = z) :
    oM l oY11 jdk_42_method_53_code 2 none ws (own_R 4 1 128 94) #[(.ref s_), (.ref a0_)] Z h0 (Q_siSBN Z s_ a0_ d kd z zn bs cn cs h0 n0) := by
  refine own_open (n0 := n0) (cn := "java/lang/String") rfl (plainFor_of_name pn_java_lang_String) (fun m => ef_siSBN m s_ a0_ d kd z zn bs cn cs) ?_
  intro p e s m below meth c s₁ P hx hby hml hown hnm X0 e0 N0 hlk hret hZ hP
  refine w_aloadN X0 hx hby dj42_53_0 rfl rfl ?_
  refine w_aloadN X0 hx hby dj42_53_1 rfl rfl ?_
  refine w_aconstNull X0 hx hby dj42_53_2 ?_
  obtain ⟨_, _, ⟨T11, L11, k11, n11⟩, -, X11, ⟨Lc11, hQ11, l11, y11, z11⟩, st11⟩ := X0.specialBack hx (y := oY10) rfl hown (mvT hZ (tw_160 hw)) (mvT hZ (tw_161 hw)) (mvT hZ (tw_162 hw)) (by decide) (backOf (W := 0) (rm_siAVN l Z a0 hw [] s_ a0_ d kd z zn bs cn cs h0 n0 Z0 O0 Scs hcs ES g_s_ FSc FSv nes0 nesd E0 g_a0_ FBv FBc FBn g_d VB ne0d hzn hbl hc0 hcz hcap hmin hne) hZ (tw_162 hw) (tw_4 hw) (by decide) (by decide)) (g := (mkF m 3 #[(vR s_), (vR a0_)] [.null, (.ref a0_), (.ref s_)])) rfl (by rw [hml]; rfl) (Steps.refl _) (a := s_) (argsL := [(.ref a0_), .null]) (rest := []) (lenOf pd__Ljava_lang_AbstractStringBuilder_Ljava_lang_Void__V rfl) rfl (by show 2 * 0 + _ ≤ _; exact Nat.le_of_eq rfl) (hb hby dj42_53_3) (fun _ _ => ⟨rfl, e0, (by decide : 0 + 1 ≤ _), (by decide : 0 + 128 ≤ _)⟩)
  dsimp only [Pt.U, Pt.locs, Pt.cells, Pt.slots] at X11 l11 y11 z11 st11 hQ11
  subst l11 y11 z11
  obtain ⟨rfl, N11q, K11, Gc11, d11, kd11, sz_d11, Gv11, V11⟩ := hQ11
  have N11 := Fr.app N0 N11q
  refine Go.by (fun t k => st11.trans k) ?_
  have f11_0 := (Nat.le_trans Z0 K11.1)
  have f11_1 := (Keep.trans (Keep.refl h0 [s_]) K11 (allS (Or.inl (List.mem_of_getElem? (i := 0) rfl)) all0))
  have f11_2 := (Old.keep O0 K11 (allS g_s_ all0))
  have f11_3 := (Exa.keep E0 K11)
  have f11_4 := (Fld.keep FBv K11 (ninS (Ne.symm nes0) nin0))
  have f11_5 := (Fld.keep FBc K11 (ninS (Ne.symm nes0) nin0))
  have f11_6 := (Fld.keep FBn K11 (ninS (Ne.symm nes0) nin0))
  have f11_7 := (Arv.keep VB K11 (ninS (Ne.symm nesd) nin0))
  have f11_8 := (Exa.keep ES K11)
  show oG p e below P m T11 6 #[(vR s_), (vR a0_)] []
  refine own_fin hP hlk X11 (v := none) (fun _ => rfl) (by decide) (by decide) ?_ (fun fs hr => X11.returnOut hx hret (hb hby dj42_53_6) hr)
  exact ⟨rfl, N11, f11_1, Gc11, d11, kd11, sz_d11, Gv11, V11⟩
def Q_sbToSN (Z : State) (a0_ : Addr) (d : Addr) (kd : ClassId) (z : Int32) (zn : Nat) (bs : List Value) (cn : Int32) (cs : Int32) (h0 : Heap) (n0 : Nat) (v : Option Value) (h : Heap) (L : List Loc) : Prop := ∃ s2, v = some (.ref s2) ∧ Fr n0 L ∧ Keep h0 h [] ∧ h0.size ≤ s2 ∧ Exa Z h s2 "java/lang/String" ∧ Fld Z h s2 "java/lang/String" "coder" "B" (.int 0) ∧ ∃ d2 k2, h0.size ≤ d2 ∧ Fld Z h s2 "java/lang/String" "value" "[B" (.ref d2) ∧ Arv Z h d2 k2 .byte cn bs (.int 0)
theorem ef_sbToSN (m : MethodId) (a0_ : Addr) (d : Addr) (kd : ClassId) (z : Int32) (zn : Nat) (bs : List Value) (cn : Int32) (cs : Int32) : entryFrame m #[(.ref a0_)] 1 = mkF m 0 #[(vR a0_)] [] := by first | (simp [entryFrame, mkF, argsToLocals, Value.category]; done) | rfl
set_option maxRecDepth 65536 in
set_option maxHeartbeats 40000000 in
theorem rm_sbToSN (l : Launch) (Z : State) (a0 : Array Value) (hw : oW a0 Z) (ws : List Jvm.Cond) (a0_ : Addr) (d : Addr) (kd : ClassId) (z : Int32) (zn : Nat) (bs : List Value) (cn : Int32) (cs : Int32) (h0 : Heap) (n0 : Nat) (Z0 : n0 ≤ h0.size) (O0 : Old Z n0 h0) (Scs : Sta Z Z.heap "java/lang/String" "COMPACT_STRINGS" "Z" (.int cs)) (hcs : ¬ cs = (0 : Int32)) (E0 : Exa Z h0 a0_ "java/lang/StringBuilder") (g_a0_ : n0 ≤ a0_) (FBv : Fld Z h0 a0_ "java/lang/AbstractStringBuilder" "value" "[B" (.ref d)) (FBc : Fld Z h0 a0_ "java/lang/AbstractStringBuilder" "coder" "B" (.int 0)) (FBn : Fld Z h0 a0_ "java/lang/AbstractStringBuilder" "count" "I" (.int cn)) (g_d : n0 ≤ d) (VB : Arv Z h0 d kd .byte z (own_full zn bs) (.int 0)) (ne0d : a0_ ≠ d) (hzn : z.toNatClampNeg = zn) (hbl : bs.length = cn.toNatClampNeg) (hc0 : ¬ cn < (0 : Int32)) (hcz : cn.toNatClampNeg ≤ zn) (hcap : zn ≤ 128) (hmin : cn = if cn < z then cn else z) (hne : ¬ cn = z) :
    oM l oY2 jdk_67_method_42_code 1 (some (.object "java/lang/String")) ws (own_R 5 2 132 112) #[(.ref a0_)] Z h0 (Q_sbToSN Z a0_ d kd z zn bs cn cs h0 n0) := by
  refine own_open (n0 := n0) (cn := "java/lang/StringBuilder") rfl (plainFor_of_name pn_java_lang_StringBuilder) (fun m => ef_sbToSN m a0_ d kd z zn bs cn cs) ?_
  intro p e s m below meth c s₁ P hx hby hml hown hnm X0 e0 N0 hlk hret hZ hP
  obtain ⟨T11, h11, X11, e11, E11, A11, D11, U11, st11⟩ := newO X0 hx hZ hown (tw_156 hw) (tw_3 hw) (tw_4 hw) e0 (g := (mkF m 0 #[(vR a0_)] [])) rfl (hb hby dj67_42_0) (by decide) (by decide)
  obtain ⟨b11, g11⟩ : ∃ z, z = h0.size := ⟨_, rfl⟩
  rw [← g11] at A11 D11 U11 st11
  have g_b11 : n0 ≤ b11 := Nat.le_trans Z0 (Nat.le_of_eq g11.symm)
  have sz_b11 : h0.size ≤ b11 := Nat.le_trans (Keep.refl h0 []).1 (Nat.le_of_eq g11.symm)
  have ne_a0__b11 : a0_ ≠ b11 := Nat.ne_of_lt (Nat.lt_of_lt_of_le (E0.lt) (Nat.le_of_eq g11.symm))
  have ne_d_b11 : d ≠ b11 := Nat.ne_of_lt (Nat.lt_of_lt_of_le (VB.lt) (Nat.le_of_eq g11.symm))
  have f11_0 := (Nat.le_trans Z0 E11.1)
  have f11_1 := (Keep.ext (Keep.refl h0 []) E11)
  have f11_2 := (Old.ext O0 E11)
  have f11_3 := (Exa.ext E11 E0)
  have f11_4 := (Fld.ext E11 FBv)
  have f11_5 := (Fld.ext E11 FBc)
  have f11_6 := (Fld.ext E11 FBn)
  have f11_7 := (Arv.ext VB E11)
  refine Go.by st11 ?_
  have F11_coder : Fld Z h11 b11 "java/lang/String" "coder" "B" (.int 0) := D11 (Or.inr (tw_28 hw)) (ty := .byte) (by decide)
  have F11_value : Fld Z h11 b11 "java/lang/String" "value" "[B" .null := D11 (Or.inr (tw_30 hw)) (ty := (.array .byte)) (by decide)
  show oG p e below P m T11 3 #[(vR a0_)] [(.ref b11)]
  refine w_dup X11 hx hby dj67_42_3 rfl ?_
  refine w_aloadN X11 hx hby dj67_42_4 rfl rfl ?_
  obtain ⟨_, _, ⟨T12, L12, k12, n12⟩, -, X12, ⟨Lc12, hQ12, l12, y12, z12⟩, st12⟩ := X11.specialBack hx (y := oY11) rfl hown (mvT hZ (tw_157 hw)) (mvT hZ (tw_158 hw)) (mvT hZ (tw_159 hw)) (by decide) (backOf (W := 1) (rm_siSBN l Z a0 hw [] b11 a0_ d kd z zn bs cn cs h11 n0 f11_0 f11_2 Scs hcs A11 g_b11 F11_coder F11_value (Ne.symm ne_a0__b11) (Ne.symm ne_d_b11) f11_3 g_a0_ f11_4 f11_5 f11_6 g_d f11_7 ne0d hzn hbl hc0 hcz hcap hmin hne) hZ (tw_159 hw) (tw_4 hw) (by decide) (by decide)) (g := (mkF m 5 #[(vR a0_)] [(.ref a0_), (.ref b11), (.ref b11)])) rfl (by rw [hml]; rfl) (Steps.refl _) (a := b11) (argsL := [(.ref a0_)]) (rest := [(.ref b11)]) (lenOf pd__Ljava_lang_StringBuilder__V rfl) rfl (by show 2 * 0 + _ ≤ _; exact Nat.le_of_eq rfl) (hb hby dj67_42_5) (fun _ _ => ⟨rfl, e11, (by decide : 1 + 1 ≤ _), (by decide : 4 + 128 ≤ _)⟩)
  dsimp only [Pt.U, Pt.locs, Pt.cells, Pt.slots] at X12 l12 y12 z12 st12 hQ12
  subst l12 y12 z12
  obtain ⟨rfl, N12q, K12, Gc12, d12, kd12, z12, Gv12, V12⟩ := hQ12
  have N12 := Fr.app N0 N12q
  refine Go.by (fun t k => st12.trans k) ?_
  have f12_0 := (Nat.le_trans f11_0 K12.1)
  have f12_1 := (Keep.trans f11_1 K12 (allS (Or.inr sz_b11) all0))
  have f12_2 := (Old.keep f11_2 K12 (allS g_b11 all0))
  have f12_3 := (Exa.keep f11_3 K12)
  have f12_4 := (Fld.keep f11_4 K12 (ninS ne_a0__b11 nin0))
  have f12_5 := (Fld.keep f11_5 K12 (ninS ne_a0__b11 nin0))
  have f12_6 := (Fld.keep f11_6 K12 (ninS ne_a0__b11 nin0))
  have f12_7 := (Arv.keep f11_7 K12 (ninS ne_d_b11 nin0))
  have f12_8 := (Exa.keep A11 K12)
  have sz_d12 : h0.size ≤ d12 := Nat.le_trans f11_1.1 z12
  show oG p e below P m T12 8 #[(vR a0_)] [(.ref b11)]
  refine own_fin hP hlk X12 (v := some (.ref b11)) (fun h => by rw [hret] at h; cases h) (by decide) (by decide) ?_ (fun fs hr => retOut X12 hx hret rfl (Or.inr (Or.inr (Or.inr (Or.inr ⟨rfl, rfl, rfl⟩)))) (hb hby dj67_42_8) hr)
  exact ⟨b11, rfl, N12, f12_1, sz_b11, f12_8, Gc12, d12, kd12, sz_d12, Gv12, V12⟩
def Q_siAVE (Z : State) (s_ : Addr) (a0_ : Addr) (d : Addr) (kd : ClassId) (z : Int32) (zn : Nat) (bs : List Value) (cs : Int32) (h0 : Heap) (n0 : Nat) (v : Option Value) (h : Heap) (L : List Loc) : Prop := v = none ∧ Fr n0 L ∧ Keep h0 h [s_] ∧ Fld Z h s_ "java/lang/String" "coder" "B" (.int 0) ∧ ∃ d2 k2, h0.size ≤ d2 ∧ Fld Z h s_ "java/lang/String" "value" "[B" (.ref d2) ∧ Arv Z h d2 k2 .byte z bs (.int 0)
theorem ef_siAVE (m : MethodId) (s_ : Addr) (a0_ : Addr) (d : Addr) (kd : ClassId) (z : Int32) (zn : Nat) (bs : List Value) (cs : Int32) : entryFrame m #[(.ref s_), (.ref a0_), .null] 5 = mkF m 0 #[(vR s_), (vR a0_), .val .null, .unset, .unset] [] := by first | (simp [entryFrame, mkF, argsToLocals, Value.category]; done) | rfl
set_option maxRecDepth 65536 in
set_option maxHeartbeats 40000000 in
theorem rm_siAVE (l : Launch) (Z : State) (a0 : Array Value) (hw : oW a0 Z) (ws : List Jvm.Cond) (s_ : Addr) (a0_ : Addr) (d : Addr) (kd : ClassId) (z : Int32) (zn : Nat) (bs : List Value) (cs : Int32) (h0 : Heap) (n0 : Nat) (Z0 : n0 ≤ h0.size) (O0 : Old Z n0 h0) (Scs : Sta Z Z.heap "java/lang/String" "COMPACT_STRINGS" "Z" (.int cs)) (hcs : ¬ cs = (0 : Int32)) (ES : Exa Z h0 s_ "java/lang/String") (g_s_ : n0 ≤ s_) (FSc : Fld Z h0 s_ "java/lang/String" "coder" "B" (.int 0)) (FSv : Fld Z h0 s_ "java/lang/String" "value" "[B" .null) (nes0 : s_ ≠ a0_) (nesd : s_ ≠ d) (E0 : Exa Z h0 a0_ "java/lang/StringBuilder") (g_a0_ : n0 ≤ a0_) (FBv : Fld Z h0 a0_ "java/lang/AbstractStringBuilder" "value" "[B" (.ref d)) (FBc : Fld Z h0 a0_ "java/lang/AbstractStringBuilder" "coder" "B" (.int 0)) (FBn : Fld Z h0 a0_ "java/lang/AbstractStringBuilder" "count" "I" (.int z)) (g_d : n0 ≤ d) (VB : Arv Z h0 d kd .byte z (own_full zn bs) (.int 0)) (ne0d : a0_ ≠ d) (Exd : Exa Z h0 d "[B") (hzn : z.toNatClampNeg = zn) (hbl : bs.length = zn) (hcap : zn ≤ 128) :
    oM l oY10 jdk_42_method_150_code 5 none ws (own_R 3 1 128 76) #[(.ref s_), (.ref a0_), .null] Z h0 (Q_siAVE Z s_ a0_ d kd z zn bs cs h0 n0) := by
  refine own_open (n0 := n0) (cn := "java/lang/String") rfl (plainFor_of_name pn_java_lang_String) (fun m => ef_siAVE m s_ a0_ d kd z zn bs cs) ?_
  intro p e s m below meth c s₁ P hx hby hml hown hnm X0 e0 N0 hlk hret hZ hP
  refine w_aloadN X0 hx hby dj42_150_0 rfl rfl ?_
  obtain ⟨T11, X11, e11, st11⟩ := initO X0 hx hZ hown (tw_12 hw) (tw_13 hw) (tw_14 hw) e0 (g := (mkF m 1 #[(vR s_), (vR a0_), .val .null, .unset, .unset] [(.ref s_)])) rfl (by rw [hml]; rfl) rfl (hb hby dj42_150_1) (by decide) (W := 0) (by show 2 * 0 + _ ≤ _; exact Nat.le_of_eq rfl) (by decide)
  refine Go.by st11 ?_
  show oG p e below P m T11 4 #[(vR s_), (vR a0_), .val .null, .unset, .unset] []
  refine w_aloadN X11 hx hby dj42_150_4 rfl rfl ?_
  obtain ⟨cq12, kq12, q12a, q12b, q12c⟩ := isOf hZ e11 E0
  obtain ⟨_, _, ⟨T12, L12, k12, n12⟩, -, X12, ⟨Lc12, hQ12, l12, y12, z12⟩, st12⟩ := X11.virtualBack hx (y := oY8) (z := oY8) hown (mvT hZ (tw_163 hw)) (mvT hZ (tw_164 hw)) (notFace_of_selects (args := #[]) (mvT hZ (tw_166 hw))) (mvT hZ (tw_166 hw)) (mvT hZ (tw_165 hw)) (by decide) (backOf (W := 0) (rm_sbGetV l Z a0 hw [] a0_ d h0 n0 Z0 FBv) hZ (tw_167 hw) (tw_47 hw) (by decide) (by decide)) q12a q12c (g := (mkF m 5 #[(vR s_), (vR a0_), .val .null, .unset, .unset] [(.ref a0_)])) rfl (by rw [hml]; rfl) (Steps.refl _) (argsL := []) (rest := []) (lenOf pd____B rfl) rfl (by show 2 * 0 + _ ≤ _; exact Nat.le_of_eq rfl) (hb hby dj42_150_5) (fun _ _ => ⟨rfl, e11, (by decide : 0 + 0 ≤ _), (by decide : 0 + 0 ≤ _)⟩)
  dsimp only [Pt.U, Pt.locs, Pt.cells, Pt.slots] at X12 l12 y12 z12 st12 hQ12
  subst l12 y12 z12
  obtain ⟨rfl, N12q, q12⟩ := hQ12
  have N12 := Fr.app N0 N12q
  refine Go.by (fun t k => st12.trans k) ?_
  show oG p e below P m T12 8 #[(vR s_), (vR a0_), .val .null, .unset, .unset] [(.ref d)]
  refine w_astoreN X12 hx hby dj42_150_8 rfl (l' := #[(vR s_), (vR a0_), .val .null, (vR d), .unset]) rfl ?_
  refine w_aloadN X12 hx hby dj42_150_9 rfl rfl ?_
  obtain ⟨cq13, kq13, q13a, q13b, q13c⟩ := isOf hZ q12 E0
  obtain ⟨_, _, ⟨T13, L13, k13, n13⟩, -, X13, ⟨Lc13, hQ13, l13, y13, z13⟩, st13⟩ := X12.virtualBack hx (y := oY20) (z := oY25) hown (mvT hZ (tw_168 hw)) (mvT hZ (tw_169 hw)) (own_nf (args := #[]) (mvT hZ (tw_166 hw)) rfl) (mvT hZ (tw_171 hw)) (mvT hZ (tw_172 hw)) (by decide) (backOf (W := 0) (rm_sbLen l Z a0 hw [] a0_ z h0 n0 Z0 E0 FBn) hZ (tw_173 hw) (tw_39 hw) (by decide) (by decide)) q13a q13c (g := (mkF m 10 #[(vR s_), (vR a0_), .val .null, (vR d), .unset] [(.ref a0_)])) rfl (by rw [hml]; rfl) (Steps.refl _) (argsL := []) (rest := []) (lenOf pd___I rfl) rfl (by show 2 * 0 + _ ≤ _; exact Nat.le_of_eq rfl) (hb hby dj42_150_10) (fun _ _ => ⟨rfl, q12, (by decide : 0 + 0 ≤ _), (by decide : 0 + 0 ≤ _)⟩)
  dsimp only [Pt.U, Pt.locs, Pt.cells, Pt.slots] at X13 l13 y13 z13 st13 hQ13
  subst l13 y13 z13
  obtain ⟨rfl, N13q, q13⟩ := hQ13
  have N13 := Fr.app N12 N13q
  refine Go.by (fun t k => st13.trans k) ?_
  show oG p e below P m T13 13 #[(vR s_), (vR a0_), .val .null, (vR d), .unset] [(.int z)]
  refine w_istore X13 hx hby dj42_150_13 (l' := #[(vR s_), (vR a0_), .val .null, (vR d), (vI z)]) rfl ?_
  refine w_aloadN X13 hx hby dj42_150_15 rfl rfl ?_
  obtain ⟨cq14, kq14, q14a, q14b, q14c⟩ := isOf hZ q13 E0
  obtain ⟨_, _, ⟨T14, L14, k14, n14⟩, -, X14, ⟨Lc14, hQ14, l14, y14, z14⟩, st14⟩ := X13.virtualBack hx (y := oY1) (z := oY1) hown (mvT hZ (tw_176 hw)) (mvT hZ (tw_119 hw)) (notFace_of_selects (args := #[]) (mvT hZ (tw_121 hw))) (mvT hZ (tw_121 hw)) (mvT hZ (tw_120 hw)) (by decide) (backOf (W := 0) (rm_sbLat l Z a0 hw [] a0_ cs h0 n0 Z0 O0 Scs hcs FBc) hZ (tw_122 hw) (tw_47 hw) (by decide) (by decide)) q14a q14c (g := (mkF m 16 #[(vR s_), (vR a0_), .val .null, (vR d), (vI z)] [(.ref a0_)])) rfl (by rw [hml]; rfl) (Steps.refl _) (argsL := []) (rest := []) (lenOf pd___Z rfl) rfl (by show 2 * 0 + _ ≤ _; exact Nat.le_of_eq rfl) (hb hby dj42_150_16) (fun _ _ => ⟨rfl, q13, (by decide : 0 + 0 ≤ _), (by decide : 0 + 0 ≤ _)⟩)
  dsimp only [Pt.U, Pt.locs, Pt.cells, Pt.slots] at X14 l14 y14 z14 st14 hQ14
  subst l14 y14 z14
  obtain ⟨rfl, N14q, q14⟩ := hQ14
  have N14 := Fr.app N13 N14q
  refine Go.by (fun t k => st14.trans k) ?_
  show oG p e below P m T14 19 #[(vR s_), (vR a0_), .val .null, (vR d), (vI z)] [(.int 1)]
  refine w_ifNo X14 hx hby dj42_150_19 (XT.i0_eq_f (by decide : ¬ (1 : Int32) = (0 : Int32))) ?_
  refine w_aloadN X14 hx hby dj42_150_22 rfl rfl ?_
  refine w_iconst X14 hx hby dj42_150_23 (v := 0) rfl ?_
  obtain ⟨T15, h15, X15, e15, W15, st15⟩ := putFN X14 hx hZ hown (tw_27 hw) Via.refl q14 FSc ES (Or.inr ⟨(tw_28 hw), rfl, hnm⟩) (tw_3 hw) (ty := .byte) (v' := (.int 0)) (by decide) rfl rfl (g := (mkF m 24 #[(vR s_), (vR a0_), .val .null, (vR d), (vI z)] [(.int 0), (.ref s_)])) rfl rfl (hb hby dj42_150_24)
  refine Go.by st15 ?_
  have N15 := Fr.snoc X15 N14 g_s_
  have f15_0 := (Nat.le_trans Z0 (Keep.of_wr W15).1)
  have f15_1 := (Keep.wr (Keep.refl h0 [s_]) W15 (Or.inl (List.mem_of_getElem? (i := 0) rfl)))
  have f15_2 := (Old.wr O0 W15 g_s_)
  have f15_3 := (Exa.wr W15 E0)
  have f15_4 := (Fld.other W15 FBv (Or.inl (Ne.symm nes0)))
  have f15_5 := (Fld.other W15 FBc (Or.inl (Ne.symm nes0)))
  have f15_6 := (Fld.other W15 FBn (Or.inl (Ne.symm nes0)))
  have f15_7 := (Arv.other VB W15 (Ne.symm nesd))
  have f15_8 := (Exa.wr W15 Exd)
  have f15_9 := (Exa.wr W15 ES)
  have f15_10 := (Fld.same W15 FSc)
  have f15_11 := (Fld.other W15 FSv (Or.inr (slot_ne (Or.inr (tw_30 hw)) (Or.inr (tw_28 hw)) (by decide) (t := (.array .byte)) (t' := .byte) (by decide) (by decide))))
  show oG p e below P m T15 27 #[(vR s_), (vR a0_), .val .null, (vR d), (vI z)] []
  refine w_aloadN X15 hx hby dj42_150_27 rfl rfl ?_
  refine w_aloadN X15 hx hby dj42_150_28 rfl rfl ?_
  refine w_iconst X15 hx hby dj42_150_29 (v := 0) rfl ?_
  refine w_iload X15 hx hby dj42_150_30 rfl ?_
  obtain ⟨_, _, ⟨T16, L16, k16, n16⟩, -, X16, ⟨Lc16, hQ16, l16, y16, z16⟩, st16⟩ := Jvm.LawKit.callS X15 hx (y := oY9) hown (mvT hZ (tw_177 hw)) (mvT hZ (tw_178 hw)) (mvT hZ (tw_145 hw)) (mvT hZ (tw_179 hw)) (by decide) (backOf (W := 1) (rm_corE l Z a0 hw [] d kd z zn bs h15 n0 f15_0 f15_7 f15_8 hzn hbl hcap) hZ (tw_179 hw) (tw_145 hw) (by decide) (by decide)) (g := (mkF m 32 #[(vR s_), (vR a0_), .val .null, (vR d), (vI z)] [(.int z), (.int 0), (.ref d), (.ref s_)])) rfl (by rw [hml]; rfl) (argsL := [(.ref d), (.int 0), (.int z)]) (rest := [(.ref s_)]) (lenOf pd___BII__B rfl) rfl (by show 2 * 0 + _ ≤ _; exact Nat.le_of_eq rfl) (hb hby dj42_150_32) (fun _ _ => ⟨rfl, e15, (by decide : 0 + 1 ≤ _), (by decide : 0 + 128 ≤ _)⟩)
  dsimp only [Pt.U, Pt.locs, Pt.cells, Pt.slots] at X16 l16 y16 z16 st16 hQ16
  subst l16 y16 z16
  obtain ⟨d16, kd16, rfl, N16q, K16, z16, V16⟩ := hQ16
  have N16 := Fr.app N15 N16q
  refine Go.by (fun t k => st16 t k) ?_
  have f16_0 := (Nat.le_trans f15_0 K16.1)
  have f16_1 := (Keep.trans f15_1 K16 all0)
  have f16_2 := (Old.keep f15_2 K16 all0)
  have f16_3 := (Exa.keep f15_3 K16)
  have f16_4 := (Fld.keep f15_4 K16 nin0)
  have f16_5 := (Fld.keep f15_5 K16 nin0)
  have f16_6 := (Fld.keep f15_6 K16 nin0)
  have f16_7 := (Arv.keep f15_7 K16 nin0)
  have f16_8 := (Exa.keep f15_8 K16)
  have f16_9 := (Exa.keep f15_9 K16)
  have f16_10 := (Fld.keep f15_10 K16 nin0)
  have f16_11 := (Fld.keep f15_11 K16 nin0)
  have g_d16 : n0 ≤ d16 := Nat.le_trans f15_0 z16
  have sz_d16 : h0.size ≤ d16 := Nat.le_trans f15_1.1 z16
  have nea0_d16 : a0_ ≠ d16 := Nat.ne_of_lt (Nat.lt_of_lt_of_le (f15_3.lt) z16)
  have nedd16 : d ≠ d16 := Nat.ne_of_lt (Nat.lt_of_lt_of_le (f15_7.lt) z16)
  have nes_d16 : s_ ≠ d16 := Nat.ne_of_lt (Nat.lt_of_lt_of_le (f15_9.lt) z16)
  show oG p e below P m T16 35 #[(vR s_), (vR a0_), .val .null, (vR d), (vI z)] [(.ref d16), (.ref s_)]
  obtain ⟨T17, h17, X17, e17, W17, st17⟩ := putF X16 hx hZ hown (host := "") (Or.inl (tw_29 hw)) Via.refl rfl f16_11 f16_9 (Or.inr ⟨(tw_30 hw), rfl, hnm⟩) (tw_3 hw) (ty := (.array .byte)) (by decide) rfl rfl (g := (mkF m 35 #[(vR s_), (vR a0_), .val .null, (vR d), (vI z)] [(.ref d16), (.ref s_)])) rfl rfl (hb hby dj42_150_35)
  refine Go.by st17 ?_
  have N17 := Fr.snoc X17 N16 g_s_
  have f17_0 := (Nat.le_trans f16_0 (Keep.of_wr W17).1)
  have f17_1 := (Keep.wr f16_1 W17 (Or.inl (List.mem_of_getElem? (i := 0) rfl)))
  have f17_2 := (Old.wr f16_2 W17 g_s_)
  have f17_3 := (Exa.wr W17 f16_3)
  have f17_4 := (Fld.other W17 f16_4 (Or.inl (Ne.symm nes0)))
  have f17_5 := (Fld.other W17 f16_5 (Or.inl (Ne.symm nes0)))
  have f17_6 := (Fld.other W17 f16_6 (Or.inl (Ne.symm nes0)))
  have f17_7 := (Arv.other f16_7 W17 (Ne.symm nesd))
  have f17_8 := (Exa.wr W17 f16_8)
  have f17_9 := (Exa.wr W17 f16_9)
  have f17_10 := (Fld.other W17 f16_10 (Or.inr (slot_ne (Or.inr (tw_28 hw)) (Or.inr (tw_30 hw)) (by decide) (t := .byte) (t' := (.array .byte)) (by decide) (by decide))))
  have f17_11 := (Fld.same W17 f16_11)
  have f17_12 := (Arv.other V16 W17 (Ne.symm nes_d16))
  show oG p e below P m T17 38 #[(vR s_), (vR a0_), .val .null, (vR d), (vI z)] []
  refine w_goto X17 hx hby dj42_150_38 (pc' := 97) (by decide) ?_
  refine own_fin hP hlk X17 (v := none) (fun _ => rfl) (by decide) (by decide) ?_ (fun fs hr => X17.returnOut hx hret (hb hby dj42_150_97) hr)
  rw [e17]
  exact ⟨rfl, N17, f17_1, f17_10, d16, kd16, sz_d16, f17_11, f17_12⟩
def Q_siSBE (Z : State) (s_ : Addr) (a0_ : Addr) (d : Addr) (kd : ClassId) (z : Int32) (zn : Nat) (bs : List Value) (cs : Int32) (h0 : Heap) (n0 : Nat) (v : Option Value) (h : Heap) (L : List Loc) : Prop := v = none ∧ Fr n0 L ∧ Keep h0 h [s_] ∧ Fld Z h s_ "java/lang/String" "coder" "B" (.int 0) ∧ ∃ d2 k2, h0.size ≤ d2 ∧ Fld Z h s_ "java/lang/String" "value" "[B" (.ref d2) ∧ Arv Z h d2 k2 .byte z bs (.int 0)
theorem ef_siSBE (m : MethodId) (s_ : Addr) (a0_ : Addr) (d : Addr) (kd : ClassId) (z : Int32) (zn : Nat) (bs : List Value) (cs : Int32) : entryFrame m #[(.ref s_), (.ref a0_)] 2 = mkF m 0 #[(vR s_), (vR a0_)] [] := by first | (simp [entryFrame, mkF, argsToLocals, Value.category]; done) | rfl
set_option maxRecDepth 65536 in
set_option maxHeartbeats 40000000 in
theorem rm_siSBE (l : Launch) (Z : State) (a0 : Array Value) (hw : oW a0 Z) (ws : List Jvm.Cond) (s_ : Addr) (a0_ : Addr) (d : Addr) (kd : ClassId) (z : Int32) (zn : Nat) (bs : List Value) (cs : Int32) (h0 : Heap) (n0 : Nat) (Z0 : n0 ≤ h0.size) (O0 : Old Z n0 h0) (Scs : Sta Z Z.heap "java/lang/String" "COMPACT_STRINGS" "Z" (.int cs)) (hcs : ¬ cs = (0 : Int32)) (ES : Exa Z h0 s_ "java/lang/String") (g_s_ : n0 ≤ s_) (FSc : Fld Z h0 s_ "java/lang/String" "coder" "B" (.int 0)) (FSv : Fld Z h0 s_ "java/lang/String" "value" "[B" .null) (nes0 : s_ ≠ a0_) (nesd : s_ ≠ d) (E0 : Exa Z h0 a0_ "java/lang/StringBuilder") (g_a0_ : n0 ≤ a0_) (FBv : Fld Z h0 a0_ "java/lang/AbstractStringBuilder" "value" "[B" (.ref d)) (FBc : Fld Z h0 a0_ "java/lang/AbstractStringBuilder" "coder" "B" (.int 0)) (FBn : Fld Z h0 a0_ "java/lang/AbstractStringBuilder" "count" "I" (.int z)) (g_d : n0 ≤ d) (VB : Arv Z h0 d kd .byte z (own_full zn bs) (.int 0)) (ne0d : a0_ ≠ d) (Exd : Exa Z h0 d "[B") (hzn : z.toNatClampNeg = zn) (hbl : bs.length = zn) (hcap : zn ≤ 128) :
    oM l oY11 jdk_42_method_53_code 2 none ws (own_R 4 1 128 94) #[(.ref s_), (.ref a0_)] Z h0 (Q_siSBE Z s_ a0_ d kd z zn bs cs h0 n0) := by
  refine own_open (n0 := n0) (cn := "java/lang/String") rfl (plainFor_of_name pn_java_lang_String) (fun m => ef_siSBE m s_ a0_ d kd z zn bs cs) ?_
  intro p e s m below meth c s₁ P hx hby hml hown hnm X0 e0 N0 hlk hret hZ hP
  refine w_aloadN X0 hx hby dj42_53_0 rfl rfl ?_
  refine w_aloadN X0 hx hby dj42_53_1 rfl rfl ?_
  refine w_aconstNull X0 hx hby dj42_53_2 ?_
  obtain ⟨_, _, ⟨T11, L11, k11, n11⟩, -, X11, ⟨Lc11, hQ11, l11, y11, z11⟩, st11⟩ := X0.specialBack hx (y := oY10) rfl hown (mvT hZ (tw_160 hw)) (mvT hZ (tw_161 hw)) (mvT hZ (tw_162 hw)) (by decide) (backOf (W := 0) (rm_siAVE l Z a0 hw [] s_ a0_ d kd z zn bs cs h0 n0 Z0 O0 Scs hcs ES g_s_ FSc FSv nes0 nesd E0 g_a0_ FBv FBc FBn g_d VB ne0d Exd hzn hbl hcap) hZ (tw_162 hw) (tw_4 hw) (by decide) (by decide)) (g := (mkF m 3 #[(vR s_), (vR a0_)] [.null, (.ref a0_), (.ref s_)])) rfl (by rw [hml]; rfl) (Steps.refl _) (a := s_) (argsL := [(.ref a0_), .null]) (rest := []) (lenOf pd__Ljava_lang_AbstractStringBuilder_Ljava_lang_Void__V rfl) rfl (by show 2 * 0 + _ ≤ _; exact Nat.le_of_eq rfl) (hb hby dj42_53_3) (fun _ _ => ⟨rfl, e0, (by decide : 0 + 1 ≤ _), (by decide : 0 + 128 ≤ _)⟩)
  dsimp only [Pt.U, Pt.locs, Pt.cells, Pt.slots] at X11 l11 y11 z11 st11 hQ11
  subst l11 y11 z11
  obtain ⟨rfl, N11q, K11, Gc11, d11, kd11, sz_d11, Gv11, V11⟩ := hQ11
  have N11 := Fr.app N0 N11q
  refine Go.by (fun t k => st11.trans k) ?_
  have f11_0 := (Nat.le_trans Z0 K11.1)
  have f11_1 := (Keep.trans (Keep.refl h0 [s_]) K11 (allS (Or.inl (List.mem_of_getElem? (i := 0) rfl)) all0))
  have f11_2 := (Old.keep O0 K11 (allS g_s_ all0))
  have f11_3 := (Exa.keep E0 K11)
  have f11_4 := (Fld.keep FBv K11 (ninS (Ne.symm nes0) nin0))
  have f11_5 := (Fld.keep FBc K11 (ninS (Ne.symm nes0) nin0))
  have f11_6 := (Fld.keep FBn K11 (ninS (Ne.symm nes0) nin0))
  have f11_7 := (Arv.keep VB K11 (ninS (Ne.symm nesd) nin0))
  have f11_8 := (Exa.keep Exd K11)
  have f11_9 := (Exa.keep ES K11)
  show oG p e below P m T11 6 #[(vR s_), (vR a0_)] []
  refine own_fin hP hlk X11 (v := none) (fun _ => rfl) (by decide) (by decide) ?_ (fun fs hr => X11.returnOut hx hret (hb hby dj42_53_6) hr)
  exact ⟨rfl, N11, f11_1, Gc11, d11, kd11, sz_d11, Gv11, V11⟩
def Q_sbToSE (Z : State) (a0_ : Addr) (d : Addr) (kd : ClassId) (z : Int32) (zn : Nat) (bs : List Value) (cs : Int32) (h0 : Heap) (n0 : Nat) (v : Option Value) (h : Heap) (L : List Loc) : Prop := ∃ s2, v = some (.ref s2) ∧ Fr n0 L ∧ Keep h0 h [] ∧ h0.size ≤ s2 ∧ Exa Z h s2 "java/lang/String" ∧ Fld Z h s2 "java/lang/String" "coder" "B" (.int 0) ∧ ∃ d2 k2, h0.size ≤ d2 ∧ Fld Z h s2 "java/lang/String" "value" "[B" (.ref d2) ∧ Arv Z h d2 k2 .byte z bs (.int 0)
theorem ef_sbToSE (m : MethodId) (a0_ : Addr) (d : Addr) (kd : ClassId) (z : Int32) (zn : Nat) (bs : List Value) (cs : Int32) : entryFrame m #[(.ref a0_)] 1 = mkF m 0 #[(vR a0_)] [] := by first | (simp [entryFrame, mkF, argsToLocals, Value.category]; done) | rfl
set_option maxRecDepth 65536 in
set_option maxHeartbeats 40000000 in
theorem rm_sbToSE (l : Launch) (Z : State) (a0 : Array Value) (hw : oW a0 Z) (ws : List Jvm.Cond) (a0_ : Addr) (d : Addr) (kd : ClassId) (z : Int32) (zn : Nat) (bs : List Value) (cs : Int32) (h0 : Heap) (n0 : Nat) (Z0 : n0 ≤ h0.size) (O0 : Old Z n0 h0) (Scs : Sta Z Z.heap "java/lang/String" "COMPACT_STRINGS" "Z" (.int cs)) (hcs : ¬ cs = (0 : Int32)) (E0 : Exa Z h0 a0_ "java/lang/StringBuilder") (g_a0_ : n0 ≤ a0_) (FBv : Fld Z h0 a0_ "java/lang/AbstractStringBuilder" "value" "[B" (.ref d)) (FBc : Fld Z h0 a0_ "java/lang/AbstractStringBuilder" "coder" "B" (.int 0)) (FBn : Fld Z h0 a0_ "java/lang/AbstractStringBuilder" "count" "I" (.int z)) (g_d : n0 ≤ d) (VB : Arv Z h0 d kd .byte z (own_full zn bs) (.int 0)) (ne0d : a0_ ≠ d) (Exd : Exa Z h0 d "[B") (hzn : z.toNatClampNeg = zn) (hbl : bs.length = zn) (hcap : zn ≤ 128) :
    oM l oY2 jdk_67_method_42_code 1 (some (.object "java/lang/String")) ws (own_R 5 2 132 112) #[(.ref a0_)] Z h0 (Q_sbToSE Z a0_ d kd z zn bs cs h0 n0) := by
  refine own_open (n0 := n0) (cn := "java/lang/StringBuilder") rfl (plainFor_of_name pn_java_lang_StringBuilder) (fun m => ef_sbToSE m a0_ d kd z zn bs cs) ?_
  intro p e s m below meth c s₁ P hx hby hml hown hnm X0 e0 N0 hlk hret hZ hP
  obtain ⟨T11, h11, X11, e11, E11, A11, D11, U11, st11⟩ := newO X0 hx hZ hown (tw_156 hw) (tw_3 hw) (tw_4 hw) e0 (g := (mkF m 0 #[(vR a0_)] [])) rfl (hb hby dj67_42_0) (by decide) (by decide)
  obtain ⟨b11, g11⟩ : ∃ z, z = h0.size := ⟨_, rfl⟩
  rw [← g11] at A11 D11 U11 st11
  have g_b11 : n0 ≤ b11 := Nat.le_trans Z0 (Nat.le_of_eq g11.symm)
  have sz_b11 : h0.size ≤ b11 := Nat.le_trans (Keep.refl h0 []).1 (Nat.le_of_eq g11.symm)
  have ne_a0__b11 : a0_ ≠ b11 := Nat.ne_of_lt (Nat.lt_of_lt_of_le (E0.lt) (Nat.le_of_eq g11.symm))
  have ne_d_b11 : d ≠ b11 := Nat.ne_of_lt (Nat.lt_of_lt_of_le (VB.lt) (Nat.le_of_eq g11.symm))
  have f11_0 := (Nat.le_trans Z0 E11.1)
  have f11_1 := (Keep.ext (Keep.refl h0 []) E11)
  have f11_2 := (Old.ext O0 E11)
  have f11_3 := (Exa.ext E11 E0)
  have f11_4 := (Fld.ext E11 FBv)
  have f11_5 := (Fld.ext E11 FBc)
  have f11_6 := (Fld.ext E11 FBn)
  have f11_7 := (Arv.ext VB E11)
  have f11_8 := (Exa.ext E11 Exd)
  refine Go.by st11 ?_
  have F11_coder : Fld Z h11 b11 "java/lang/String" "coder" "B" (.int 0) := D11 (Or.inr (tw_28 hw)) (ty := .byte) (by decide)
  have F11_value : Fld Z h11 b11 "java/lang/String" "value" "[B" .null := D11 (Or.inr (tw_30 hw)) (ty := (.array .byte)) (by decide)
  show oG p e below P m T11 3 #[(vR a0_)] [(.ref b11)]
  refine w_dup X11 hx hby dj67_42_3 rfl ?_
  refine w_aloadN X11 hx hby dj67_42_4 rfl rfl ?_
  obtain ⟨_, _, ⟨T12, L12, k12, n12⟩, -, X12, ⟨Lc12, hQ12, l12, y12, z12⟩, st12⟩ := X11.specialBack hx (y := oY11) rfl hown (mvT hZ (tw_157 hw)) (mvT hZ (tw_158 hw)) (mvT hZ (tw_159 hw)) (by decide) (backOf (W := 1) (rm_siSBE l Z a0 hw [] b11 a0_ d kd z zn bs cs h11 n0 f11_0 f11_2 Scs hcs A11 g_b11 F11_coder F11_value (Ne.symm ne_a0__b11) (Ne.symm ne_d_b11) f11_3 g_a0_ f11_4 f11_5 f11_6 g_d f11_7 ne0d f11_8 hzn hbl hcap) hZ (tw_159 hw) (tw_4 hw) (by decide) (by decide)) (g := (mkF m 5 #[(vR a0_)] [(.ref a0_), (.ref b11), (.ref b11)])) rfl (by rw [hml]; rfl) (Steps.refl _) (a := b11) (argsL := [(.ref a0_)]) (rest := [(.ref b11)]) (lenOf pd__Ljava_lang_StringBuilder__V rfl) rfl (by show 2 * 0 + _ ≤ _; exact Nat.le_of_eq rfl) (hb hby dj67_42_5) (fun _ _ => ⟨rfl, e11, (by decide : 1 + 1 ≤ _), (by decide : 4 + 128 ≤ _)⟩)
  dsimp only [Pt.U, Pt.locs, Pt.cells, Pt.slots] at X12 l12 y12 z12 st12 hQ12
  subst l12 y12 z12
  obtain ⟨rfl, N12q, K12, Gc12, d12, kd12, z12, Gv12, V12⟩ := hQ12
  have N12 := Fr.app N0 N12q
  refine Go.by (fun t k => st12.trans k) ?_
  have f12_0 := (Nat.le_trans f11_0 K12.1)
  have f12_1 := (Keep.trans f11_1 K12 (allS (Or.inr sz_b11) all0))
  have f12_2 := (Old.keep f11_2 K12 (allS g_b11 all0))
  have f12_3 := (Exa.keep f11_3 K12)
  have f12_4 := (Fld.keep f11_4 K12 (ninS ne_a0__b11 nin0))
  have f12_5 := (Fld.keep f11_5 K12 (ninS ne_a0__b11 nin0))
  have f12_6 := (Fld.keep f11_6 K12 (ninS ne_a0__b11 nin0))
  have f12_7 := (Arv.keep f11_7 K12 (ninS ne_d_b11 nin0))
  have f12_8 := (Exa.keep f11_8 K12)
  have f12_9 := (Exa.keep A11 K12)
  have sz_d12 : h0.size ≤ d12 := Nat.le_trans f11_1.1 z12
  show oG p e below P m T12 8 #[(vR a0_)] [(.ref b11)]
  refine own_fin hP hlk X12 (v := some (.ref b11)) (fun h => by rw [hret] at h; cases h) (by decide) (by decide) ?_ (fun fs hr => retOut X12 hx hret rfl (Or.inr (Or.inr (Or.inr (Or.inr ⟨rfl, rfl, rfl⟩)))) (hb hby dj67_42_8) hr)
  exact ⟨b11, rfl, N12, f12_1, sz_b11, f12_9, Gc12, d12, kd12, sz_d12, Gv12, V12⟩
def Q_ssizeA (Z : State) (p0 : Int32) (h0 : Heap) (n0 : Nat) (v : Option Value) (h : Heap) (L : List Loc) : Prop := v = some (.int (own_sz p0)) ∧ Fr n0 L ∧ h = h0
theorem ef_ssizeA (m : MethodId) (p0 : Int32) : entryFrame m #[(.int p0)] 4 = mkF m 0 #[(vI p0), .unset, .unset, .unset] [] := by first | (simp [entryFrame, mkF, argsToLocals, Value.category]; done) | rfl
set_option maxRecDepth 65536 in
set_option maxHeartbeats 40000000 in
theorem rm_ssizeA (l : Launch) (Z : State) (a0 : Array Value) (hw : oW a0 Z) (ws : List Jvm.Cond) (p0 : Int32) (h0 : Heap) (n0 : Nat) (Z0 : n0 ≤ h0.size) :
    MetFree l oY12 (head1 (Jvm.Cond.code oY12 jdk_33_method_13_code 4 (some .int) :: ws) (own_R 0 0 0 0)) (fun a U => a = #[(.int p0)] ∧ Z.Warmed39 U.vm ∧ U.heap = h0) (fun _ _ _ _ _ => True) (fun _ U o U' => ∃ v L, o = .returned v ∧ Q_ssizeA Z p0 h0 n0 v U'.heap L ∧ FrameEnd U o U' L (own_R 0 0 0 0).cells (own_R 0 0 0 0).slots) := by
  refine MetFree.of_bodySF (plainFor_of_name pn_java_lang_Integer) hisR ?_
  intro p e s m args below meth c s₁ Bd hml0 hP hK
  obtain ⟨rfl, hZ, hh⟩ := hP
  have hx := Bd.exec
  have hby := Bd.bytes
  have hml : c.maxLocals = 4 := hml0
  have hown : s.vm.findClass "java/lang/Integer" = some m.cls := findClass_of_methodNamed Bd.named
  have hnm := (name_of_methodNamed Bd.named Bd.method).1
  have X0 : Stand p l e (own_R 0 0 0 0) s m #[(.int p0)] below meth c s₁ [] 0 0 := Stand.of_body Bd
  have e0 : s₁.heap = h0 := by rw [← hh, Bd.state]; rfl
  have N0 := Fr.nil n0
  have hlk : meth.locks = false := Bd.notSynchronized
  obtain ⟨P, hP⟩ : ∃ P : Outcome → State → Prop, P = PQ s (Q_ssizeA Z p0 h0 n0) (own_R 0 0 0 0).cells (own_R 0 0 0 0).slots := ⟨_, rfl⟩
  suffices hgo : Go p e below P (s₁.setTop (mkF m 0 #[(vI p0), .unset, .unset, .unset] [])) by
    rw [hP] at hgo
    exact Go.by (fun t k => castTop (ef_ssizeA m p0) k) hgo
  show oG p e below P m s₁ 0 #[(vI p0), .unset, .unset, .unset] []
  refine w_iconst X0 hx hby dj33_13_0 (v := 1) rfl ?_
  refine w_istoreN X0 hx hby dj33_13_1 (l' := #[(vI p0), (vI 1), .unset, .unset]) rfl ?_
  refine w_iloadN X0 hx hby dj33_13_2 rfl ?_
  by_cases hc3_11 : p0 < (0 : Int32)
  · refine w_ifYes X0 hx hby dj33_13_3 (pc' := 11) (XT.i0_lt_t hc3_11) (by decide) ?_
    refine w_bipush X0 hx hby dj33_13_11 (v := (-10)) rfl ?_
    refine w_istoreN X0 hx hby dj33_13_13 (l' := #[(vI p0), (vI 1), (vI (-10)), .unset]) rfl ?_
    refine w_iconst X0 hx hby dj33_13_14 (v := 1) rfl ?_
    refine w_istoreN X0 hx hby dj33_13_15 (l' := #[(vI p0), (vI 1), (vI (-10)), (vI 1)]) rfl ?_
    refine w_iloadN X0 hx hby dj33_13_16 rfl ?_
    refine w_bipush X0 hx hby dj33_13_17 (v := 10) rfl ?_
    refine w_icmpNo X0 hx hby dj33_13_19 (XT.ii_ge_f (by decide : (1 : Int32) < (10 : Int32))) ?_
    refine w_iloadN X0 hx hby dj33_13_22 rfl ?_
    refine w_iloadN X0 hx hby dj33_13_23 rfl ?_
    by_cases hc24_12 : (-10 : Int32) < p0
    · refine w_icmpNo X0 hx hby dj33_13_24 (XT.ii_le_f hc24_12) ?_
      refine w_iloadN X0 hx hby dj33_13_27 rfl ?_
      refine w_iloadN X0 hx hby dj33_13_28 rfl ?_
      refine w_iadd X0 hx hby dj33_13_29 (v := 2) rfl ?_
      refine own_fin hP hlk X0 (v := some (.int 2)) (fun h => by rw [Bd.returns] at h; cases h) (by decide) (by decide) ?_ (fun fs hr => retOut X0 hx Bd.returns rfl (Or.inl ⟨rfl, Or.inl rfl, _, rfl⟩) (hb hby dj33_13_30) hr)
      rw [e0]
      exact ⟨by rw [own_sz_1_1 p0 hc3_11 (own_pos0 hc3_11) (own_yltI (k := -10) (by decide) hc24_12)], N0, rfl⟩
    · refine w_icmpYes X0 hx hby dj33_13_24 (pc' := 31) (XT.ii_le_t hc24_12) (by decide) ?_
      refine w_bipush X0 hx hby dj33_13_31 (v := 10) rfl ?_
      refine w_iloadN X0 hx hby dj33_13_33 rfl ?_
      refine w_imul X0 hx hby dj33_13_34 (v := (-100)) rfl ?_
      refine w_istoreN X0 hx hby dj33_13_35 (l' := #[(vI p0), (vI 1), (vI (-100)), (vI 1)]) rfl ?_
      refine w_iinc X0 hx hby dj33_13_36 rfl (l' := #[(vI p0), (vI 1), (vI (-100)), (vI 2)]) rfl ?_
      refine w_goto X0 hx hby dj33_13_39 (pc' := 16) (by decide) ?_
      refine w_iloadN X0 hx hby dj33_13_16 rfl ?_
      refine w_bipush X0 hx hby dj33_13_17 (v := 10) rfl ?_
      refine w_icmpNo X0 hx hby dj33_13_19 (XT.ii_ge_f (by decide : (2 : Int32) < (10 : Int32))) ?_
      refine w_iloadN X0 hx hby dj33_13_22 rfl ?_
      refine w_iloadN X0 hx hby dj33_13_23 rfl ?_
      by_cases hc24_13 : (-100 : Int32) < p0
      · refine w_icmpNo X0 hx hby dj33_13_24 (XT.ii_le_f hc24_13) ?_
        refine w_iloadN X0 hx hby dj33_13_27 rfl ?_
        refine w_iloadN X0 hx hby dj33_13_28 rfl ?_
        refine w_iadd X0 hx hby dj33_13_29 (v := 3) rfl ?_
        refine own_fin hP hlk X0 (v := some (.int 3)) (fun h => by rw [Bd.returns] at h; cases h) (by decide) (by decide) ?_ (fun fs hr => retOut X0 hx Bd.returns rfl (Or.inl ⟨rfl, Or.inl rfl, _, rfl⟩) (hb hby dj33_13_30) hr)
        rw [e0]
        exact ⟨by rw [own_sz_1_2 p0 hc3_11 (own_nltI (k := -10) (by decide) hc24_12) (own_yltI (k := -100) (by decide) hc24_13)], N0, rfl⟩
      · refine w_icmpYes X0 hx hby dj33_13_24 (pc' := 31) (XT.ii_le_t hc24_13) (by decide) ?_
        refine w_bipush X0 hx hby dj33_13_31 (v := 10) rfl ?_
        refine w_iloadN X0 hx hby dj33_13_33 rfl ?_
        refine w_imul X0 hx hby dj33_13_34 (v := (-1000)) rfl ?_
        refine w_istoreN X0 hx hby dj33_13_35 (l' := #[(vI p0), (vI 1), (vI (-1000)), (vI 2)]) rfl ?_
        refine w_iinc X0 hx hby dj33_13_36 rfl (l' := #[(vI p0), (vI 1), (vI (-1000)), (vI 3)]) rfl ?_
        refine w_goto X0 hx hby dj33_13_39 (pc' := 16) (by decide) ?_
        refine w_iloadN X0 hx hby dj33_13_16 rfl ?_
        refine w_bipush X0 hx hby dj33_13_17 (v := 10) rfl ?_
        refine w_icmpNo X0 hx hby dj33_13_19 (XT.ii_ge_f (by decide : (3 : Int32) < (10 : Int32))) ?_
        refine w_iloadN X0 hx hby dj33_13_22 rfl ?_
        refine w_iloadN X0 hx hby dj33_13_23 rfl ?_
        by_cases hc24_14 : (-1000 : Int32) < p0
        · refine w_icmpNo X0 hx hby dj33_13_24 (XT.ii_le_f hc24_14) ?_
          refine w_iloadN X0 hx hby dj33_13_27 rfl ?_
          refine w_iloadN X0 hx hby dj33_13_28 rfl ?_
          refine w_iadd X0 hx hby dj33_13_29 (v := 4) rfl ?_
          refine own_fin hP hlk X0 (v := some (.int 4)) (fun h => by rw [Bd.returns] at h; cases h) (by decide) (by decide) ?_ (fun fs hr => retOut X0 hx Bd.returns rfl (Or.inl ⟨rfl, Or.inl rfl, _, rfl⟩) (hb hby dj33_13_30) hr)
          rw [e0]
          exact ⟨by rw [own_sz_1_3 p0 hc3_11 (own_nltI (k := -100) (by decide) hc24_13) (own_yltI (k := -1000) (by decide) hc24_14)], N0, rfl⟩
        · refine w_icmpYes X0 hx hby dj33_13_24 (pc' := 31) (XT.ii_le_t hc24_14) (by decide) ?_
          refine w_bipush X0 hx hby dj33_13_31 (v := 10) rfl ?_
          refine w_iloadN X0 hx hby dj33_13_33 rfl ?_
          refine w_imul X0 hx hby dj33_13_34 (v := (-10000)) rfl ?_
          refine w_istoreN X0 hx hby dj33_13_35 (l' := #[(vI p0), (vI 1), (vI (-10000)), (vI 3)]) rfl ?_
          refine w_iinc X0 hx hby dj33_13_36 rfl (l' := #[(vI p0), (vI 1), (vI (-10000)), (vI 4)]) rfl ?_
          refine w_goto X0 hx hby dj33_13_39 (pc' := 16) (by decide) ?_
          refine w_iloadN X0 hx hby dj33_13_16 rfl ?_
          refine w_bipush X0 hx hby dj33_13_17 (v := 10) rfl ?_
          refine w_icmpNo X0 hx hby dj33_13_19 (XT.ii_ge_f (by decide : (4 : Int32) < (10 : Int32))) ?_
          refine w_iloadN X0 hx hby dj33_13_22 rfl ?_
          refine w_iloadN X0 hx hby dj33_13_23 rfl ?_
          by_cases hc24_15 : (-10000 : Int32) < p0
          · refine w_icmpNo X0 hx hby dj33_13_24 (XT.ii_le_f hc24_15) ?_
            refine w_iloadN X0 hx hby dj33_13_27 rfl ?_
            refine w_iloadN X0 hx hby dj33_13_28 rfl ?_
            refine w_iadd X0 hx hby dj33_13_29 (v := 5) rfl ?_
            refine own_fin hP hlk X0 (v := some (.int 5)) (fun h => by rw [Bd.returns] at h; cases h) (by decide) (by decide) ?_ (fun fs hr => retOut X0 hx Bd.returns rfl (Or.inl ⟨rfl, Or.inl rfl, _, rfl⟩) (hb hby dj33_13_30) hr)
            rw [e0]
            exact ⟨by rw [own_sz_1_4 p0 hc3_11 (own_nltI (k := -1000) (by decide) hc24_14) (own_yltI (k := -10000) (by decide) hc24_15)], N0, rfl⟩
          · refine w_icmpYes X0 hx hby dj33_13_24 (pc' := 31) (XT.ii_le_t hc24_15) (by decide) ?_
            refine w_bipush X0 hx hby dj33_13_31 (v := 10) rfl ?_
            refine w_iloadN X0 hx hby dj33_13_33 rfl ?_
            refine w_imul X0 hx hby dj33_13_34 (v := (-100000)) rfl ?_
            refine w_istoreN X0 hx hby dj33_13_35 (l' := #[(vI p0), (vI 1), (vI (-100000)), (vI 4)]) rfl ?_
            refine w_iinc X0 hx hby dj33_13_36 rfl (l' := #[(vI p0), (vI 1), (vI (-100000)), (vI 5)]) rfl ?_
            refine w_goto X0 hx hby dj33_13_39 (pc' := 16) (by decide) ?_
            refine w_iloadN X0 hx hby dj33_13_16 rfl ?_
            refine w_bipush X0 hx hby dj33_13_17 (v := 10) rfl ?_
            refine w_icmpNo X0 hx hby dj33_13_19 (XT.ii_ge_f (by decide : (5 : Int32) < (10 : Int32))) ?_
            refine w_iloadN X0 hx hby dj33_13_22 rfl ?_
            refine w_iloadN X0 hx hby dj33_13_23 rfl ?_
            by_cases hc24_16 : (-100000 : Int32) < p0
            · refine w_icmpNo X0 hx hby dj33_13_24 (XT.ii_le_f hc24_16) ?_
              refine w_iloadN X0 hx hby dj33_13_27 rfl ?_
              refine w_iloadN X0 hx hby dj33_13_28 rfl ?_
              refine w_iadd X0 hx hby dj33_13_29 (v := 6) rfl ?_
              refine own_fin hP hlk X0 (v := some (.int 6)) (fun h => by rw [Bd.returns] at h; cases h) (by decide) (by decide) ?_ (fun fs hr => retOut X0 hx Bd.returns rfl (Or.inl ⟨rfl, Or.inl rfl, _, rfl⟩) (hb hby dj33_13_30) hr)
              rw [e0]
              exact ⟨by rw [own_sz_1_5 p0 hc3_11 (own_nltI (k := -10000) (by decide) hc24_15) (own_yltI (k := -100000) (by decide) hc24_16)], N0, rfl⟩
            · refine w_icmpYes X0 hx hby dj33_13_24 (pc' := 31) (XT.ii_le_t hc24_16) (by decide) ?_
              refine w_bipush X0 hx hby dj33_13_31 (v := 10) rfl ?_
              refine w_iloadN X0 hx hby dj33_13_33 rfl ?_
              refine w_imul X0 hx hby dj33_13_34 (v := (-1000000)) rfl ?_
              refine w_istoreN X0 hx hby dj33_13_35 (l' := #[(vI p0), (vI 1), (vI (-1000000)), (vI 5)]) rfl ?_
              refine w_iinc X0 hx hby dj33_13_36 rfl (l' := #[(vI p0), (vI 1), (vI (-1000000)), (vI 6)]) rfl ?_
              refine w_goto X0 hx hby dj33_13_39 (pc' := 16) (by decide) ?_
              refine w_iloadN X0 hx hby dj33_13_16 rfl ?_
              refine w_bipush X0 hx hby dj33_13_17 (v := 10) rfl ?_
              refine w_icmpNo X0 hx hby dj33_13_19 (XT.ii_ge_f (by decide : (6 : Int32) < (10 : Int32))) ?_
              refine w_iloadN X0 hx hby dj33_13_22 rfl ?_
              refine w_iloadN X0 hx hby dj33_13_23 rfl ?_
              by_cases hc24_17 : (-1000000 : Int32) < p0
              · refine w_icmpNo X0 hx hby dj33_13_24 (XT.ii_le_f hc24_17) ?_
                refine w_iloadN X0 hx hby dj33_13_27 rfl ?_
                refine w_iloadN X0 hx hby dj33_13_28 rfl ?_
                refine w_iadd X0 hx hby dj33_13_29 (v := 7) rfl ?_
                refine own_fin hP hlk X0 (v := some (.int 7)) (fun h => by rw [Bd.returns] at h; cases h) (by decide) (by decide) ?_ (fun fs hr => retOut X0 hx Bd.returns rfl (Or.inl ⟨rfl, Or.inl rfl, _, rfl⟩) (hb hby dj33_13_30) hr)
                rw [e0]
                exact ⟨by rw [own_sz_1_6 p0 hc3_11 (own_nltI (k := -100000) (by decide) hc24_16) (own_yltI (k := -1000000) (by decide) hc24_17)], N0, rfl⟩
              · refine w_icmpYes X0 hx hby dj33_13_24 (pc' := 31) (XT.ii_le_t hc24_17) (by decide) ?_
                refine w_bipush X0 hx hby dj33_13_31 (v := 10) rfl ?_
                refine w_iloadN X0 hx hby dj33_13_33 rfl ?_
                refine w_imul X0 hx hby dj33_13_34 (v := (-10000000)) rfl ?_
                refine w_istoreN X0 hx hby dj33_13_35 (l' := #[(vI p0), (vI 1), (vI (-10000000)), (vI 6)]) rfl ?_
                refine w_iinc X0 hx hby dj33_13_36 rfl (l' := #[(vI p0), (vI 1), (vI (-10000000)), (vI 7)]) rfl ?_
                refine w_goto X0 hx hby dj33_13_39 (pc' := 16) (by decide) ?_
                refine w_iloadN X0 hx hby dj33_13_16 rfl ?_
                refine w_bipush X0 hx hby dj33_13_17 (v := 10) rfl ?_
                refine w_icmpNo X0 hx hby dj33_13_19 (XT.ii_ge_f (by decide : (7 : Int32) < (10 : Int32))) ?_
                refine w_iloadN X0 hx hby dj33_13_22 rfl ?_
                refine w_iloadN X0 hx hby dj33_13_23 rfl ?_
                by_cases hc24_18 : (-10000000 : Int32) < p0
                · refine w_icmpNo X0 hx hby dj33_13_24 (XT.ii_le_f hc24_18) ?_
                  refine w_iloadN X0 hx hby dj33_13_27 rfl ?_
                  refine w_iloadN X0 hx hby dj33_13_28 rfl ?_
                  refine w_iadd X0 hx hby dj33_13_29 (v := 8) rfl ?_
                  refine own_fin hP hlk X0 (v := some (.int 8)) (fun h => by rw [Bd.returns] at h; cases h) (by decide) (by decide) ?_ (fun fs hr => retOut X0 hx Bd.returns rfl (Or.inl ⟨rfl, Or.inl rfl, _, rfl⟩) (hb hby dj33_13_30) hr)
                  rw [e0]
                  exact ⟨by rw [own_sz_1_7 p0 hc3_11 (own_nltI (k := -1000000) (by decide) hc24_17) (own_yltI (k := -10000000) (by decide) hc24_18)], N0, rfl⟩
                · refine w_icmpYes X0 hx hby dj33_13_24 (pc' := 31) (XT.ii_le_t hc24_18) (by decide) ?_
                  refine w_bipush X0 hx hby dj33_13_31 (v := 10) rfl ?_
                  refine w_iloadN X0 hx hby dj33_13_33 rfl ?_
                  refine w_imul X0 hx hby dj33_13_34 (v := (-100000000)) rfl ?_
                  refine w_istoreN X0 hx hby dj33_13_35 (l' := #[(vI p0), (vI 1), (vI (-100000000)), (vI 7)]) rfl ?_
                  refine w_iinc X0 hx hby dj33_13_36 rfl (l' := #[(vI p0), (vI 1), (vI (-100000000)), (vI 8)]) rfl ?_
                  refine w_goto X0 hx hby dj33_13_39 (pc' := 16) (by decide) ?_
                  refine w_iloadN X0 hx hby dj33_13_16 rfl ?_
                  refine w_bipush X0 hx hby dj33_13_17 (v := 10) rfl ?_
                  refine w_icmpNo X0 hx hby dj33_13_19 (XT.ii_ge_f (by decide : (8 : Int32) < (10 : Int32))) ?_
                  refine w_iloadN X0 hx hby dj33_13_22 rfl ?_
                  refine w_iloadN X0 hx hby dj33_13_23 rfl ?_
                  by_cases hc24_19 : (-100000000 : Int32) < p0
                  · refine w_icmpNo X0 hx hby dj33_13_24 (XT.ii_le_f hc24_19) ?_
                    refine w_iloadN X0 hx hby dj33_13_27 rfl ?_
                    refine w_iloadN X0 hx hby dj33_13_28 rfl ?_
                    refine w_iadd X0 hx hby dj33_13_29 (v := 9) rfl ?_
                    refine own_fin hP hlk X0 (v := some (.int 9)) (fun h => by rw [Bd.returns] at h; cases h) (by decide) (by decide) ?_ (fun fs hr => retOut X0 hx Bd.returns rfl (Or.inl ⟨rfl, Or.inl rfl, _, rfl⟩) (hb hby dj33_13_30) hr)
                    rw [e0]
                    exact ⟨by rw [own_sz_1_8 p0 hc3_11 (own_nltI (k := -10000000) (by decide) hc24_18) (own_yltI (k := -100000000) (by decide) hc24_19)], N0, rfl⟩
                  · refine w_icmpYes X0 hx hby dj33_13_24 (pc' := 31) (XT.ii_le_t hc24_19) (by decide) ?_
                    refine w_bipush X0 hx hby dj33_13_31 (v := 10) rfl ?_
                    refine w_iloadN X0 hx hby dj33_13_33 rfl ?_
                    refine w_imul X0 hx hby dj33_13_34 (v := (-1000000000)) rfl ?_
                    refine w_istoreN X0 hx hby dj33_13_35 (l' := #[(vI p0), (vI 1), (vI (-1000000000)), (vI 8)]) rfl ?_
                    refine w_iinc X0 hx hby dj33_13_36 rfl (l' := #[(vI p0), (vI 1), (vI (-1000000000)), (vI 9)]) rfl ?_
                    refine w_goto X0 hx hby dj33_13_39 (pc' := 16) (by decide) ?_
                    refine w_iloadN X0 hx hby dj33_13_16 rfl ?_
                    refine w_bipush X0 hx hby dj33_13_17 (v := 10) rfl ?_
                    refine w_icmpNo X0 hx hby dj33_13_19 (XT.ii_ge_f (by decide : (9 : Int32) < (10 : Int32))) ?_
                    refine w_iloadN X0 hx hby dj33_13_22 rfl ?_
                    refine w_iloadN X0 hx hby dj33_13_23 rfl ?_
                    by_cases hc24_20 : (-1000000000 : Int32) < p0
                    · refine w_icmpNo X0 hx hby dj33_13_24 (XT.ii_le_f hc24_20) ?_
                      refine w_iloadN X0 hx hby dj33_13_27 rfl ?_
                      refine w_iloadN X0 hx hby dj33_13_28 rfl ?_
                      refine w_iadd X0 hx hby dj33_13_29 (v := 10) rfl ?_
                      refine own_fin hP hlk X0 (v := some (.int 10)) (fun h => by rw [Bd.returns] at h; cases h) (by decide) (by decide) ?_ (fun fs hr => retOut X0 hx Bd.returns rfl (Or.inl ⟨rfl, Or.inl rfl, _, rfl⟩) (hb hby dj33_13_30) hr)
                      rw [e0]
                      exact ⟨by rw [own_sz_1_9 p0 hc3_11 (own_nltI (k := -100000000) (by decide) hc24_19) (own_yltI (k := -1000000000) (by decide) hc24_20)], N0, rfl⟩
                    · refine w_icmpYes X0 hx hby dj33_13_24 (pc' := 31) (XT.ii_le_t hc24_20) (by decide) ?_
                      refine w_bipush X0 hx hby dj33_13_31 (v := 10) rfl ?_
                      refine w_iloadN X0 hx hby dj33_13_33 rfl ?_
                      refine w_imul X0 hx hby dj33_13_34 (v := (-1410065408)) rfl ?_
                      refine w_istoreN X0 hx hby dj33_13_35 (l' := #[(vI p0), (vI 1), (vI (-1410065408)), (vI 9)]) rfl ?_
                      refine w_iinc X0 hx hby dj33_13_36 rfl (l' := #[(vI p0), (vI 1), (vI (-1410065408)), (vI 10)]) rfl ?_
                      refine w_goto X0 hx hby dj33_13_39 (pc' := 16) (by decide) ?_
                      refine w_iloadN X0 hx hby dj33_13_16 rfl ?_
                      refine w_bipush X0 hx hby dj33_13_17 (v := 10) rfl ?_
                      refine w_icmpYes X0 hx hby dj33_13_19 (pc' := 42) (XT.ii_ge_t (by decide : ¬ (10 : Int32) < (10 : Int32))) (by decide) ?_
                      refine w_bipush X0 hx hby dj33_13_42 (v := 10) rfl ?_
                      refine w_iloadN X0 hx hby dj33_13_44 rfl ?_
                      refine w_iadd X0 hx hby dj33_13_45 (v := 11) rfl ?_
                      refine own_fin hP hlk X0 (v := some (.int 11)) (fun h => by rw [Bd.returns] at h; cases h) (by decide) (by decide) ?_ (fun fs hr => retOut X0 hx Bd.returns rfl (Or.inl ⟨rfl, Or.inl rfl, _, rfl⟩) (hb hby dj33_13_46) hr)
                      rw [e0]
                      exact ⟨by rw [own_sz_1_10 p0 hc3_11 (own_nltI (k := -1000000000) (by decide) hc24_20) (own_min10 _)], N0, rfl⟩
  · refine w_ifNo X0 hx hby dj33_13_3 (XT.i0_lt_f hc3_11) ?_
    refine w_iconst X0 hx hby dj33_13_6 (v := 0) rfl ?_
    refine w_istoreN X0 hx hby dj33_13_7 (l' := #[(vI p0), (vI 0), .unset, .unset]) rfl ?_
    refine w_iloadN X0 hx hby dj33_13_8 rfl ?_
    refine Go.by (fun _ => XS.ineg X0.here hx rfl (hb hby dj33_13_9) rfl) ?_
    show oG p e below P m s₁ 10 #[(vI p0), (vI 0), .unset, .unset] [(.int (-p0))]
    refine w_istoreN X0 hx hby dj33_13_10 (l' := #[(vI (-p0)), (vI 0), .unset, .unset]) rfl ?_
    refine w_bipush X0 hx hby dj33_13_11 (v := (-10)) rfl ?_
    refine w_istoreN X0 hx hby dj33_13_13 (l' := #[(vI (-p0)), (vI 0), (vI (-10)), .unset]) rfl ?_
    refine w_iconst X0 hx hby dj33_13_14 (v := 1) rfl ?_
    refine w_istoreN X0 hx hby dj33_13_15 (l' := #[(vI (-p0)), (vI 0), (vI (-10)), (vI 1)]) rfl ?_
    refine w_iloadN X0 hx hby dj33_13_16 rfl ?_
    refine w_bipush X0 hx hby dj33_13_17 (v := 10) rfl ?_
    refine w_icmpNo X0 hx hby dj33_13_19 (XT.ii_ge_f (by decide : (1 : Int32) < (10 : Int32))) ?_
    refine w_iloadN X0 hx hby dj33_13_22 rfl ?_
    refine w_iloadN X0 hx hby dj33_13_23 rfl ?_
    by_cases hc24_21 : (-10 : Int32) < (-p0)
    · refine w_icmpNo X0 hx hby dj33_13_24 (XT.ii_le_f hc24_21) ?_
      refine w_iloadN X0 hx hby dj33_13_27 rfl ?_
      refine w_iloadN X0 hx hby dj33_13_28 rfl ?_
      refine w_iadd X0 hx hby dj33_13_29 (v := 1) rfl ?_
      refine own_fin hP hlk X0 (v := some (.int 1)) (fun h => by rw [Bd.returns] at h; cases h) (by decide) (by decide) ?_ (fun fs hr => retOut X0 hx Bd.returns rfl (Or.inl ⟨rfl, Or.inl rfl, _, rfl⟩) (hb hby dj33_13_30) hr)
      rw [e0]
      exact ⟨by rw [own_sz_0_1 p0 hc3_11 (own_neg0 hc3_11) (own_yltI (k := -10) (by decide) hc24_21)], N0, rfl⟩
    · refine w_icmpYes X0 hx hby dj33_13_24 (pc' := 31) (XT.ii_le_t hc24_21) (by decide) ?_
      refine w_bipush X0 hx hby dj33_13_31 (v := 10) rfl ?_
      refine w_iloadN X0 hx hby dj33_13_33 rfl ?_
      refine w_imul X0 hx hby dj33_13_34 (v := (-100)) rfl ?_
      refine w_istoreN X0 hx hby dj33_13_35 (l' := #[(vI (-p0)), (vI 0), (vI (-100)), (vI 1)]) rfl ?_
      refine w_iinc X0 hx hby dj33_13_36 rfl (l' := #[(vI (-p0)), (vI 0), (vI (-100)), (vI 2)]) rfl ?_
      refine w_goto X0 hx hby dj33_13_39 (pc' := 16) (by decide) ?_
      refine w_iloadN X0 hx hby dj33_13_16 rfl ?_
      refine w_bipush X0 hx hby dj33_13_17 (v := 10) rfl ?_
      refine w_icmpNo X0 hx hby dj33_13_19 (XT.ii_ge_f (by decide : (2 : Int32) < (10 : Int32))) ?_
      refine w_iloadN X0 hx hby dj33_13_22 rfl ?_
      refine w_iloadN X0 hx hby dj33_13_23 rfl ?_
      by_cases hc24_22 : (-100 : Int32) < (-p0)
      · refine w_icmpNo X0 hx hby dj33_13_24 (XT.ii_le_f hc24_22) ?_
        refine w_iloadN X0 hx hby dj33_13_27 rfl ?_
        refine w_iloadN X0 hx hby dj33_13_28 rfl ?_
        refine w_iadd X0 hx hby dj33_13_29 (v := 2) rfl ?_
        refine own_fin hP hlk X0 (v := some (.int 2)) (fun h => by rw [Bd.returns] at h; cases h) (by decide) (by decide) ?_ (fun fs hr => retOut X0 hx Bd.returns rfl (Or.inl ⟨rfl, Or.inl rfl, _, rfl⟩) (hb hby dj33_13_30) hr)
        rw [e0]
        exact ⟨by rw [own_sz_0_2 p0 hc3_11 (own_nltI (k := -10) (by decide) hc24_21) (own_yltI (k := -100) (by decide) hc24_22)], N0, rfl⟩
      · refine w_icmpYes X0 hx hby dj33_13_24 (pc' := 31) (XT.ii_le_t hc24_22) (by decide) ?_
        refine w_bipush X0 hx hby dj33_13_31 (v := 10) rfl ?_
        refine w_iloadN X0 hx hby dj33_13_33 rfl ?_
        refine w_imul X0 hx hby dj33_13_34 (v := (-1000)) rfl ?_
        refine w_istoreN X0 hx hby dj33_13_35 (l' := #[(vI (-p0)), (vI 0), (vI (-1000)), (vI 2)]) rfl ?_
        refine w_iinc X0 hx hby dj33_13_36 rfl (l' := #[(vI (-p0)), (vI 0), (vI (-1000)), (vI 3)]) rfl ?_
        refine w_goto X0 hx hby dj33_13_39 (pc' := 16) (by decide) ?_
        refine w_iloadN X0 hx hby dj33_13_16 rfl ?_
        refine w_bipush X0 hx hby dj33_13_17 (v := 10) rfl ?_
        refine w_icmpNo X0 hx hby dj33_13_19 (XT.ii_ge_f (by decide : (3 : Int32) < (10 : Int32))) ?_
        refine w_iloadN X0 hx hby dj33_13_22 rfl ?_
        refine w_iloadN X0 hx hby dj33_13_23 rfl ?_
        by_cases hc24_23 : (-1000 : Int32) < (-p0)
        · refine w_icmpNo X0 hx hby dj33_13_24 (XT.ii_le_f hc24_23) ?_
          refine w_iloadN X0 hx hby dj33_13_27 rfl ?_
          refine w_iloadN X0 hx hby dj33_13_28 rfl ?_
          refine w_iadd X0 hx hby dj33_13_29 (v := 3) rfl ?_
          refine own_fin hP hlk X0 (v := some (.int 3)) (fun h => by rw [Bd.returns] at h; cases h) (by decide) (by decide) ?_ (fun fs hr => retOut X0 hx Bd.returns rfl (Or.inl ⟨rfl, Or.inl rfl, _, rfl⟩) (hb hby dj33_13_30) hr)
          rw [e0]
          exact ⟨by rw [own_sz_0_3 p0 hc3_11 (own_nltI (k := -100) (by decide) hc24_22) (own_yltI (k := -1000) (by decide) hc24_23)], N0, rfl⟩
        · refine w_icmpYes X0 hx hby dj33_13_24 (pc' := 31) (XT.ii_le_t hc24_23) (by decide) ?_
          refine w_bipush X0 hx hby dj33_13_31 (v := 10) rfl ?_
          refine w_iloadN X0 hx hby dj33_13_33 rfl ?_
          refine w_imul X0 hx hby dj33_13_34 (v := (-10000)) rfl ?_
          refine w_istoreN X0 hx hby dj33_13_35 (l' := #[(vI (-p0)), (vI 0), (vI (-10000)), (vI 3)]) rfl ?_
          refine w_iinc X0 hx hby dj33_13_36 rfl (l' := #[(vI (-p0)), (vI 0), (vI (-10000)), (vI 4)]) rfl ?_
          refine w_goto X0 hx hby dj33_13_39 (pc' := 16) (by decide) ?_
          refine w_iloadN X0 hx hby dj33_13_16 rfl ?_
          refine w_bipush X0 hx hby dj33_13_17 (v := 10) rfl ?_
          refine w_icmpNo X0 hx hby dj33_13_19 (XT.ii_ge_f (by decide : (4 : Int32) < (10 : Int32))) ?_
          refine w_iloadN X0 hx hby dj33_13_22 rfl ?_
          refine w_iloadN X0 hx hby dj33_13_23 rfl ?_
          by_cases hc24_24 : (-10000 : Int32) < (-p0)
          · refine w_icmpNo X0 hx hby dj33_13_24 (XT.ii_le_f hc24_24) ?_
            refine w_iloadN X0 hx hby dj33_13_27 rfl ?_
            refine w_iloadN X0 hx hby dj33_13_28 rfl ?_
            refine w_iadd X0 hx hby dj33_13_29 (v := 4) rfl ?_
            refine own_fin hP hlk X0 (v := some (.int 4)) (fun h => by rw [Bd.returns] at h; cases h) (by decide) (by decide) ?_ (fun fs hr => retOut X0 hx Bd.returns rfl (Or.inl ⟨rfl, Or.inl rfl, _, rfl⟩) (hb hby dj33_13_30) hr)
            rw [e0]
            exact ⟨by rw [own_sz_0_4 p0 hc3_11 (own_nltI (k := -1000) (by decide) hc24_23) (own_yltI (k := -10000) (by decide) hc24_24)], N0, rfl⟩
          · refine w_icmpYes X0 hx hby dj33_13_24 (pc' := 31) (XT.ii_le_t hc24_24) (by decide) ?_
            refine w_bipush X0 hx hby dj33_13_31 (v := 10) rfl ?_
            refine w_iloadN X0 hx hby dj33_13_33 rfl ?_
            refine w_imul X0 hx hby dj33_13_34 (v := (-100000)) rfl ?_
            refine w_istoreN X0 hx hby dj33_13_35 (l' := #[(vI (-p0)), (vI 0), (vI (-100000)), (vI 4)]) rfl ?_
            refine w_iinc X0 hx hby dj33_13_36 rfl (l' := #[(vI (-p0)), (vI 0), (vI (-100000)), (vI 5)]) rfl ?_
            refine w_goto X0 hx hby dj33_13_39 (pc' := 16) (by decide) ?_
            refine w_iloadN X0 hx hby dj33_13_16 rfl ?_
            refine w_bipush X0 hx hby dj33_13_17 (v := 10) rfl ?_
            refine w_icmpNo X0 hx hby dj33_13_19 (XT.ii_ge_f (by decide : (5 : Int32) < (10 : Int32))) ?_
            refine w_iloadN X0 hx hby dj33_13_22 rfl ?_
            refine w_iloadN X0 hx hby dj33_13_23 rfl ?_
            by_cases hc24_25 : (-100000 : Int32) < (-p0)
            · refine w_icmpNo X0 hx hby dj33_13_24 (XT.ii_le_f hc24_25) ?_
              refine w_iloadN X0 hx hby dj33_13_27 rfl ?_
              refine w_iloadN X0 hx hby dj33_13_28 rfl ?_
              refine w_iadd X0 hx hby dj33_13_29 (v := 5) rfl ?_
              refine own_fin hP hlk X0 (v := some (.int 5)) (fun h => by rw [Bd.returns] at h; cases h) (by decide) (by decide) ?_ (fun fs hr => retOut X0 hx Bd.returns rfl (Or.inl ⟨rfl, Or.inl rfl, _, rfl⟩) (hb hby dj33_13_30) hr)
              rw [e0]
              exact ⟨by rw [own_sz_0_5 p0 hc3_11 (own_nltI (k := -10000) (by decide) hc24_24) (own_yltI (k := -100000) (by decide) hc24_25)], N0, rfl⟩
            · refine w_icmpYes X0 hx hby dj33_13_24 (pc' := 31) (XT.ii_le_t hc24_25) (by decide) ?_
              refine w_bipush X0 hx hby dj33_13_31 (v := 10) rfl ?_
              refine w_iloadN X0 hx hby dj33_13_33 rfl ?_
              refine w_imul X0 hx hby dj33_13_34 (v := (-1000000)) rfl ?_
              refine w_istoreN X0 hx hby dj33_13_35 (l' := #[(vI (-p0)), (vI 0), (vI (-1000000)), (vI 5)]) rfl ?_
              refine w_iinc X0 hx hby dj33_13_36 rfl (l' := #[(vI (-p0)), (vI 0), (vI (-1000000)), (vI 6)]) rfl ?_
              refine w_goto X0 hx hby dj33_13_39 (pc' := 16) (by decide) ?_
              refine w_iloadN X0 hx hby dj33_13_16 rfl ?_
              refine w_bipush X0 hx hby dj33_13_17 (v := 10) rfl ?_
              refine w_icmpNo X0 hx hby dj33_13_19 (XT.ii_ge_f (by decide : (6 : Int32) < (10 : Int32))) ?_
              refine w_iloadN X0 hx hby dj33_13_22 rfl ?_
              refine w_iloadN X0 hx hby dj33_13_23 rfl ?_
              by_cases hc24_26 : (-1000000 : Int32) < (-p0)
              · refine w_icmpNo X0 hx hby dj33_13_24 (XT.ii_le_f hc24_26) ?_
                refine w_iloadN X0 hx hby dj33_13_27 rfl ?_
                refine w_iloadN X0 hx hby dj33_13_28 rfl ?_
                refine w_iadd X0 hx hby dj33_13_29 (v := 6) rfl ?_
                refine own_fin hP hlk X0 (v := some (.int 6)) (fun h => by rw [Bd.returns] at h; cases h) (by decide) (by decide) ?_ (fun fs hr => retOut X0 hx Bd.returns rfl (Or.inl ⟨rfl, Or.inl rfl, _, rfl⟩) (hb hby dj33_13_30) hr)
                rw [e0]
                exact ⟨by rw [own_sz_0_6 p0 hc3_11 (own_nltI (k := -100000) (by decide) hc24_25) (own_yltI (k := -1000000) (by decide) hc24_26)], N0, rfl⟩
              · refine w_icmpYes X0 hx hby dj33_13_24 (pc' := 31) (XT.ii_le_t hc24_26) (by decide) ?_
                refine w_bipush X0 hx hby dj33_13_31 (v := 10) rfl ?_
                refine w_iloadN X0 hx hby dj33_13_33 rfl ?_
                refine w_imul X0 hx hby dj33_13_34 (v := (-10000000)) rfl ?_
                refine w_istoreN X0 hx hby dj33_13_35 (l' := #[(vI (-p0)), (vI 0), (vI (-10000000)), (vI 6)]) rfl ?_
                refine w_iinc X0 hx hby dj33_13_36 rfl (l' := #[(vI (-p0)), (vI 0), (vI (-10000000)), (vI 7)]) rfl ?_
                refine w_goto X0 hx hby dj33_13_39 (pc' := 16) (by decide) ?_
                refine w_iloadN X0 hx hby dj33_13_16 rfl ?_
                refine w_bipush X0 hx hby dj33_13_17 (v := 10) rfl ?_
                refine w_icmpNo X0 hx hby dj33_13_19 (XT.ii_ge_f (by decide : (7 : Int32) < (10 : Int32))) ?_
                refine w_iloadN X0 hx hby dj33_13_22 rfl ?_
                refine w_iloadN X0 hx hby dj33_13_23 rfl ?_
                by_cases hc24_27 : (-10000000 : Int32) < (-p0)
                · refine w_icmpNo X0 hx hby dj33_13_24 (XT.ii_le_f hc24_27) ?_
                  refine w_iloadN X0 hx hby dj33_13_27 rfl ?_
                  refine w_iloadN X0 hx hby dj33_13_28 rfl ?_
                  refine w_iadd X0 hx hby dj33_13_29 (v := 7) rfl ?_
                  refine own_fin hP hlk X0 (v := some (.int 7)) (fun h => by rw [Bd.returns] at h; cases h) (by decide) (by decide) ?_ (fun fs hr => retOut X0 hx Bd.returns rfl (Or.inl ⟨rfl, Or.inl rfl, _, rfl⟩) (hb hby dj33_13_30) hr)
                  rw [e0]
                  exact ⟨by rw [own_sz_0_7 p0 hc3_11 (own_nltI (k := -1000000) (by decide) hc24_26) (own_yltI (k := -10000000) (by decide) hc24_27)], N0, rfl⟩
                · refine w_icmpYes X0 hx hby dj33_13_24 (pc' := 31) (XT.ii_le_t hc24_27) (by decide) ?_
                  refine w_bipush X0 hx hby dj33_13_31 (v := 10) rfl ?_
                  refine w_iloadN X0 hx hby dj33_13_33 rfl ?_
                  refine w_imul X0 hx hby dj33_13_34 (v := (-100000000)) rfl ?_
                  refine w_istoreN X0 hx hby dj33_13_35 (l' := #[(vI (-p0)), (vI 0), (vI (-100000000)), (vI 7)]) rfl ?_
                  refine w_iinc X0 hx hby dj33_13_36 rfl (l' := #[(vI (-p0)), (vI 0), (vI (-100000000)), (vI 8)]) rfl ?_
                  refine w_goto X0 hx hby dj33_13_39 (pc' := 16) (by decide) ?_
                  refine w_iloadN X0 hx hby dj33_13_16 rfl ?_
                  refine w_bipush X0 hx hby dj33_13_17 (v := 10) rfl ?_
                  refine w_icmpNo X0 hx hby dj33_13_19 (XT.ii_ge_f (by decide : (8 : Int32) < (10 : Int32))) ?_
                  refine w_iloadN X0 hx hby dj33_13_22 rfl ?_
                  refine w_iloadN X0 hx hby dj33_13_23 rfl ?_
                  by_cases hc24_28 : (-100000000 : Int32) < (-p0)
                  · refine w_icmpNo X0 hx hby dj33_13_24 (XT.ii_le_f hc24_28) ?_
                    refine w_iloadN X0 hx hby dj33_13_27 rfl ?_
                    refine w_iloadN X0 hx hby dj33_13_28 rfl ?_
                    refine w_iadd X0 hx hby dj33_13_29 (v := 8) rfl ?_
                    refine own_fin hP hlk X0 (v := some (.int 8)) (fun h => by rw [Bd.returns] at h; cases h) (by decide) (by decide) ?_ (fun fs hr => retOut X0 hx Bd.returns rfl (Or.inl ⟨rfl, Or.inl rfl, _, rfl⟩) (hb hby dj33_13_30) hr)
                    rw [e0]
                    exact ⟨by rw [own_sz_0_8 p0 hc3_11 (own_nltI (k := -10000000) (by decide) hc24_27) (own_yltI (k := -100000000) (by decide) hc24_28)], N0, rfl⟩
                  · refine w_icmpYes X0 hx hby dj33_13_24 (pc' := 31) (XT.ii_le_t hc24_28) (by decide) ?_
                    refine w_bipush X0 hx hby dj33_13_31 (v := 10) rfl ?_
                    refine w_iloadN X0 hx hby dj33_13_33 rfl ?_
                    refine w_imul X0 hx hby dj33_13_34 (v := (-1000000000)) rfl ?_
                    refine w_istoreN X0 hx hby dj33_13_35 (l' := #[(vI (-p0)), (vI 0), (vI (-1000000000)), (vI 8)]) rfl ?_
                    refine w_iinc X0 hx hby dj33_13_36 rfl (l' := #[(vI (-p0)), (vI 0), (vI (-1000000000)), (vI 9)]) rfl ?_
                    refine w_goto X0 hx hby dj33_13_39 (pc' := 16) (by decide) ?_
                    refine w_iloadN X0 hx hby dj33_13_16 rfl ?_
                    refine w_bipush X0 hx hby dj33_13_17 (v := 10) rfl ?_
                    refine w_icmpNo X0 hx hby dj33_13_19 (XT.ii_ge_f (by decide : (9 : Int32) < (10 : Int32))) ?_
                    refine w_iloadN X0 hx hby dj33_13_22 rfl ?_
                    refine w_iloadN X0 hx hby dj33_13_23 rfl ?_
                    by_cases hc24_29 : (-1000000000 : Int32) < (-p0)
                    · refine w_icmpNo X0 hx hby dj33_13_24 (XT.ii_le_f hc24_29) ?_
                      refine w_iloadN X0 hx hby dj33_13_27 rfl ?_
                      refine w_iloadN X0 hx hby dj33_13_28 rfl ?_
                      refine w_iadd X0 hx hby dj33_13_29 (v := 9) rfl ?_
                      refine own_fin hP hlk X0 (v := some (.int 9)) (fun h => by rw [Bd.returns] at h; cases h) (by decide) (by decide) ?_ (fun fs hr => retOut X0 hx Bd.returns rfl (Or.inl ⟨rfl, Or.inl rfl, _, rfl⟩) (hb hby dj33_13_30) hr)
                      rw [e0]
                      exact ⟨by rw [own_sz_0_9 p0 hc3_11 (own_nltI (k := -100000000) (by decide) hc24_28) (own_yltI (k := -1000000000) (by decide) hc24_29)], N0, rfl⟩
                    · refine w_icmpYes X0 hx hby dj33_13_24 (pc' := 31) (XT.ii_le_t hc24_29) (by decide) ?_
                      refine w_bipush X0 hx hby dj33_13_31 (v := 10) rfl ?_
                      refine w_iloadN X0 hx hby dj33_13_33 rfl ?_
                      refine w_imul X0 hx hby dj33_13_34 (v := (-1410065408)) rfl ?_
                      refine w_istoreN X0 hx hby dj33_13_35 (l' := #[(vI (-p0)), (vI 0), (vI (-1410065408)), (vI 9)]) rfl ?_
                      refine w_iinc X0 hx hby dj33_13_36 rfl (l' := #[(vI (-p0)), (vI 0), (vI (-1410065408)), (vI 10)]) rfl ?_
                      refine w_goto X0 hx hby dj33_13_39 (pc' := 16) (by decide) ?_
                      refine w_iloadN X0 hx hby dj33_13_16 rfl ?_
                      refine w_bipush X0 hx hby dj33_13_17 (v := 10) rfl ?_
                      refine w_icmpYes X0 hx hby dj33_13_19 (pc' := 42) (XT.ii_ge_t (by decide : ¬ (10 : Int32) < (10 : Int32))) (by decide) ?_
                      refine w_bipush X0 hx hby dj33_13_42 (v := 10) rfl ?_
                      refine w_iloadN X0 hx hby dj33_13_44 rfl ?_
                      refine w_iadd X0 hx hby dj33_13_45 (v := 10) rfl ?_
                      refine own_fin hP hlk X0 (v := some (.int 10)) (fun h => by rw [Bd.returns] at h; cases h) (by decide) (by decide) ?_ (fun fs hr => retOut X0 hx Bd.returns rfl (Or.inl ⟨rfl, Or.inl rfl, _, rfl⟩) (hb hby dj33_13_46) hr)
                      rw [e0]
                      exact ⟨by rw [own_sz_0_10 p0 hc3_11 (own_nltI (k := -1000000000) (by decide) hc24_29) (own_min10 _)], N0, rfl⟩
set_option maxRecDepth 65536 in
set_option maxHeartbeats 40000000 in
theorem sg_T {p : Program} {l : Launch} {e : Env} {R : Room} {s : State} {m : MethodId} {args : Array Value} {below : List Frame} {meth : Method} {c : Code} {P : Outcome → State → Prop} {Z : State} {a0 : Array Value} (hw : oW a0 Z) (hx : p.tables.exec = Jvm.exec) (hby : c.code = jdk_33_method_12_code) (hZ : Z.Warmed39 s.vm) (hown : s.vm.findClass "java/lang/Integer" = some m.cls) {a1 : Addr} {k1 : ClassId} {D1 : Addr} {kD1 : ClassId} {D2 : Addr} {kD2 : ClassId} {h0 : Heap} {n0 : Nat} (S1 : Sta Z Z.heap "java/lang/Integer" "DigitOnes" "[B" (.ref D1)) (S2 : Sta Z Z.heap "java/lang/Integer" "DigitTens" "[B" (.ref D2)) (neD1 : D1 ≠ a1) (neD2 : D2 ≠ a1) (g_a1 : n0 ≤ a1) {T : State} {locs : List Loc} {h : Heap} (X0 : Stand p l e R s m args below meth c T locs 0 0) (e0 : T.heap = h) (N0 : Fr n0 locs) (Z0 : n0 ≤ h.size) (K0 : Keep h0 h [a1]) (O0 : Old Z n0 h) (VA1 : Arv Z h D1 kD1 .byte (100 : Int32) own_ones (.int 0)) (VA2 : Arv Z h D2 kD2 .byte (100 : Int32) own_tens (.int 0)) {vs : List Value} (V1 : Arv Z h a1 k1 .byte (16 : Int32) vs (.int 0)) {X idx : Int32} {A3 A4 : Slot} {q r sg ps : Int32} {n1 n2 : Nat} (hA3 : A3 = .unset ∨ ∃ y, A3 = (vI y)) (hA4 : A4 = .unset ∨ ∃ y, A4 = (vI y)) (hq : q = (X / (100 : Int32))) (hr : r = ((q * (100 : Int32)) - X)) (hX : X.toInt ≤ -100) (hi1 : ¬ (ps + (-1 : Int32)) < 0 ∧ (ps + (-1 : Int32)) < (16 : Int32)) (hi2 : ¬ ((ps + (-1 : Int32)) + (-1 : Int32)) < 0 ∧ ((ps + (-1 : Int32)) + (-1 : Int32)) < (16 : Int32)) (hn1 : ((ps + (-1 : Int32))).toNatClampNeg = n1) (hn2 : (((ps + (-1 : Int32)) + (-1 : Int32))).toNatClampNeg = n2) (hl1 : n1 < vs.length) (hl2 : n2 < vs.length) (k : ∀ {T' : State} {locs' : List Loc} {h' : Heap}, Stand p l e R s m args below meth c T' locs' 0 0 → T'.heap = h' → Fr n0 locs' → n0 ≤ h'.size → Keep h0 h' [a1] → Old Z n0 h' → Arv Z h' D1 kD1 .byte (100 : Int32) own_ones (.int 0) → Arv Z h' D2 kD2 .byte (100 : Int32) own_tens (.int 0) → Arv Z h' a1 k1 .byte (16 : Int32) ((vs.set n1 (.int ((own_d1 r).toInt8.toInt32))).set n2 (.int ((own_d2 r).toInt8.toInt32))) (.int 0) → Go p e below P (T'.setTop (mkF m 22 #[(vI q), (vI idx), (vR a1), (vI q), (vI r), (vI ((ps + (-1 : Int32)) + (-1 : Int32))), (vI sg)] []))) : Go p e below P (T.setTop (mkF m 22 #[(vI X), (vI idx), (vR a1), A3, A4, (vI ps), (vI sg)] [])) := by
  have ng : X.toInt < 0 := by omega
  have hrr := own_rem ng
  rw [← hq, ← hr] at hrr
  show oG p e below P m T 22 #[(vI X), (vI idx), (vR a1), A3, A4, (vI ps), (vI sg)] []
  refine w_iloadN X0 hx hby dj33_12_22 rfl ?_
  refine w_bipush X0 hx hby dj33_12_23 (v := (-100)) rfl ?_
  refine w_icmpNo X0 hx hby dj33_12_25 (XT.ii_gt_f (own_nlt (k := -100) (by decide) hX (by decide))) ?_
  refine w_iloadN X0 hx hby dj33_12_28 rfl ?_
  refine w_bipush X0 hx hby dj33_12_29 (v := 100) rfl ?_
  refine Go.by (fun _ => XS.idiv X0.here hx rfl (hb hby dj33_12_31) rfl (by decide)) ?_
  show oG p e below P m T 32 #[(vI X), (vI idx), (vR a1), A3, A4, (vI ps), (vI sg)] [(.int (X / (100 : Int32)))]
  refine w_istoreN X0 hx hby dj33_12_32 (l' := #[(vI X), (vI idx), (vR a1), (vI (X / (100 : Int32))), A4, (vI ps), (vI sg)]) (by rcases hA3 with rfl | ⟨_, rfl⟩ <;> rfl) ?_
  rw [← hq]
  show oG p e below P m T 33 #[(vI X), (vI idx), (vR a1), (vI q), A4, (vI ps), (vI sg)] []
  refine w_iloadN X0 hx hby dj33_12_33 rfl ?_
  refine w_bipush X0 hx hby dj33_12_34 (v := 100) rfl ?_
  refine w_imul X0 hx hby dj33_12_36 (v := (q * (100 : Int32))) rfl ?_
  refine w_iloadN X0 hx hby dj33_12_37 rfl ?_
  refine w_isub X0 hx hby dj33_12_38 (v := ((q * (100 : Int32)) - X)) rfl ?_
  refine w_istore X0 hx hby dj33_12_39 (l' := #[(vI X), (vI idx), (vR a1), (vI q), (vI ((q * (100 : Int32)) - X)), (vI ps), (vI sg)]) (by rcases hA4 with rfl | ⟨_, rfl⟩ <;> rfl) ?_
  rw [← hr]
  show oG p e below P m T 41 #[(vI X), (vI idx), (vR a1), (vI q), (vI r), (vI ps), (vI sg)] []
  refine w_iloadN X0 hx hby dj33_12_41 rfl ?_
  refine w_istoreN X0 hx hby dj33_12_42 (l' := #[(vI q), (vI idx), (vR a1), (vI q), (vI r), (vI ps), (vI sg)]) rfl ?_
  refine w_aloadN X0 hx hby dj33_12_43 rfl rfl ?_
  refine w_iinc X0 hx hby dj33_12_44 rfl (l' := #[(vI q), (vI idx), (vR a1), (vI q), (vI r), (vI (ps + (-1 : Int32))), (vI sg)]) rfl ?_
  refine w_iload X0 hx hby dj33_12_47 rfl ?_
  obtain ⟨T11, X11, e11, st11⟩ := getS2 X0 hx hZ hown (host := "") (Or.inl (tw_126 hw)) Via.refl e0 (S1.ext O0.2) (g := (mkF m 49 #[(vI q), (vI idx), (vR a1), (vI q), (vI r), (vI (ps + (-1 : Int32))), (vI sg)] [(.int (ps + (-1 : Int32))), (.ref a1)])) rfl (hb hby dj33_12_49)
  refine Go.by st11 ?_
  show oG p e below P m T11 52 #[(vI q), (vI idx), (vR a1), (vI q), (vI r), (vI (ps + (-1 : Int32))), (vI sg)] [(.ref D1), (.int (ps + (-1 : Int32))), (.ref a1)]
  refine w_iload X11 hx hby dj33_12_52 rfl ?_
  have av12 := VA1
  obtain ⟨cl12, Ar12, -, Sz12, Nn12, Ha12, Gf12⟩ := av12
  have hin12 : ¬ (r < 0 ∨ cl12.slots.size ≤ (r).toNatClampNeg) := inb_of Sz12 hrr
  have hat12 : cl12.slots[(r).toNatClampNeg]? = some (.int (own_d1 r)) := Ha12.at hin12 (own_o_at hrr)
  refine Go.by (X11.baloadBytes hx (j := r) (v := (.int (own_d1 r))) (by rw [e11]; exact Ar12.1) (State.isArrayOf_alike hZ.alike Ar12.2.1) Ar12.2.2 hin12 hat12 (g := (mkF m 54 #[(vI q), (vI idx), (vR a1), (vI q), (vI r), (vI (ps + (-1 : Int32))), (vI sg)] [(.int r), (.ref D1), (.int (ps + (-1 : Int32))), (.ref a1)])) rfl rfl (hb hby dj33_12_54)) ?_
  have av13 := V1
  obtain ⟨cl13, Ar13, q13, Sz13, Nn13, Ha13, Gf13⟩ := av13
  have hin13 : ¬ ((ps + (-1 : Int32)) < 0 ∨ cl13.slots.size ≤ ((ps + (-1 : Int32))).toNatClampNeg) := inb_of Sz13 hi1
  obtain ⟨T14, h14, X14, e14, W14, st14⟩ := stB X11 hx hZ e11 Ar13 (j := (ps + (-1 : Int32))) hin13 (g := (mkF m 55 #[(vI q), (vI idx), (vR a1), (vI q), (vI r), (vI (ps + (-1 : Int32))), (vI sg)] [(.int (own_d1 r)), (.int (ps + (-1 : Int32))), (.ref a1)])) rfl rfl (hb hby dj33_12_55)
  have W14' : Wr h h14 a1 ((ps + (-1 : Int32))).toNatClampNeg (.int (own_d1 r).toInt8.toInt32) := W14
  have V14 : Arv Z h14 a1 k1 .byte (16 : Int32) (vs.set n1 (.int (own_d1 r).toInt8.toInt32)) (.int 0) := Arv.set Ar13 q13 Sz13 Nn13 Ha13 Gf13 (fits_nar_byte _) W14' n1 hn1 hl1
  have N14 := Fr.snoc X14 N0 g_a1
  have f14_0 := (Nat.le_trans Z0 (Keep.of_wr W14).1)
  have f14_1 := (Keep.wr K0 W14 (Or.inl (List.mem_of_getElem? (i := 0) rfl)))
  have f14_2 := (Old.wr O0 W14 g_a1)
  have f14_3 := (Arv.other VA1 W14 neD1)
  have f14_4 := (Arv.other VA2 W14 neD2)
  refine Go.by st14 ?_
  show oG p e below P m T14 56 #[(vI q), (vI idx), (vR a1), (vI q), (vI r), (vI (ps + (-1 : Int32))), (vI sg)] []
  refine w_aloadN X14 hx hby dj33_12_56 rfl rfl ?_
  refine w_iinc X14 hx hby dj33_12_57 rfl (l' := #[(vI q), (vI idx), (vR a1), (vI q), (vI r), (vI ((ps + (-1 : Int32)) + (-1 : Int32))), (vI sg)]) rfl ?_
  refine w_iload X14 hx hby dj33_12_60 rfl ?_
  obtain ⟨T15, X15, e15, st15⟩ := getS2 X14 hx hZ hown (host := "") (Or.inl (tw_272 hw)) Via.refl e14 (S2.ext f14_2.2) (g := (mkF m 62 #[(vI q), (vI idx), (vR a1), (vI q), (vI r), (vI ((ps + (-1 : Int32)) + (-1 : Int32))), (vI sg)] [(.int ((ps + (-1 : Int32)) + (-1 : Int32))), (.ref a1)])) rfl (hb hby dj33_12_62)
  refine Go.by st15 ?_
  show oG p e below P m T15 65 #[(vI q), (vI idx), (vR a1), (vI q), (vI r), (vI ((ps + (-1 : Int32)) + (-1 : Int32))), (vI sg)] [(.ref D2), (.int ((ps + (-1 : Int32)) + (-1 : Int32))), (.ref a1)]
  refine w_iload X15 hx hby dj33_12_65 rfl ?_
  have av16 := f14_4
  obtain ⟨cl16, Ar16, -, Sz16, Nn16, Ha16, Gf16⟩ := av16
  have hin16 : ¬ (r < 0 ∨ cl16.slots.size ≤ (r).toNatClampNeg) := inb_of Sz16 hrr
  have hat16 : cl16.slots[(r).toNatClampNeg]? = some (.int (own_d2 r)) := Ha16.at hin16 (own_t_at hrr)
  refine Go.by (X15.baloadBytes hx (j := r) (v := (.int (own_d2 r))) (by rw [e15]; exact Ar16.1) (State.isArrayOf_alike hZ.alike Ar16.2.1) Ar16.2.2 hin16 hat16 (g := (mkF m 67 #[(vI q), (vI idx), (vR a1), (vI q), (vI r), (vI ((ps + (-1 : Int32)) + (-1 : Int32))), (vI sg)] [(.int r), (.ref D2), (.int ((ps + (-1 : Int32)) + (-1 : Int32))), (.ref a1)])) rfl rfl (hb hby dj33_12_67)) ?_
  have av17 := V14
  obtain ⟨cl17, Ar17, q17, Sz17, Nn17, Ha17, Gf17⟩ := av17
  have hin17 : ¬ (((ps + (-1 : Int32)) + (-1 : Int32)) < 0 ∨ cl17.slots.size ≤ (((ps + (-1 : Int32)) + (-1 : Int32))).toNatClampNeg) := inb_of Sz17 hi2
  obtain ⟨T18, h18, X18, e18, W18, st18⟩ := stB X15 hx hZ e15 Ar17 (j := ((ps + (-1 : Int32)) + (-1 : Int32))) hin17 (g := (mkF m 68 #[(vI q), (vI idx), (vR a1), (vI q), (vI r), (vI ((ps + (-1 : Int32)) + (-1 : Int32))), (vI sg)] [(.int (own_d2 r)), (.int ((ps + (-1 : Int32)) + (-1 : Int32))), (.ref a1)])) rfl rfl (hb hby dj33_12_68)
  have W18' : Wr h14 h18 a1 (((ps + (-1 : Int32)) + (-1 : Int32))).toNatClampNeg (.int (own_d2 r).toInt8.toInt32) := W18
  have V18 : Arv Z h18 a1 k1 .byte (16 : Int32) ((vs.set n1 (.int (own_d1 r).toInt8.toInt32)).set n2 (.int (own_d2 r).toInt8.toInt32)) (.int 0) := Arv.set Ar17 q17 Sz17 Nn17 Ha17 Gf17 (fits_nar_byte _) W18' n2 hn2 (by rw [List.length_set]; exact hl2)
  have N18 := Fr.snoc X18 N14 g_a1
  have f18_0 := (Nat.le_trans f14_0 (Keep.of_wr W18).1)
  have f18_1 := (Keep.wr f14_1 W18 (Or.inl (List.mem_of_getElem? (i := 0) rfl)))
  have f18_2 := (Old.wr f14_2 W18 g_a1)
  have f18_3 := (Arv.other f14_3 W18 neD1)
  have f18_4 := (Arv.other f14_4 W18 neD2)
  refine Go.by st18 ?_
  show oG p e below P m T18 69 #[(vI q), (vI idx), (vR a1), (vI q), (vI r), (vI ((ps + (-1 : Int32)) + (-1 : Int32))), (vI sg)] []
  refine w_goto X18 hx hby dj33_12_69 (pc' := 22) (by decide) ?_
  exact k X18 e18 N18 f18_0 f18_1 f18_2 f18_3 f18_4 V18
set_option maxRecDepth 65536 in
set_option maxHeartbeats 40000000 in
theorem sg_U0_1 {p : Program} {l : Launch} {e : Env} {R : Room} {s : State} {m : MethodId} {args : Array Value} {below : List Frame} {meth : Method} {c : Code} {P : Outcome → State → Prop} {Z : State} {a0 : Array Value} (hw : oW a0 Z) (hx : p.tables.exec = Jvm.exec) (hby : c.code = jdk_33_method_12_code) (hZ : Z.Warmed39 s.vm) (hown : s.vm.findClass "java/lang/Integer" = some m.cls) {a1 : Addr} {k1 : ClassId} {D1 : Addr} {kD1 : ClassId} {D2 : Addr} {kD2 : ClassId} {h0 : Heap} {n0 : Nat} (S1 : Sta Z Z.heap "java/lang/Integer" "DigitOnes" "[B" (.ref D1)) (S2 : Sta Z Z.heap "java/lang/Integer" "DigitTens" "[B" (.ref D2)) (neD1 : D1 ≠ a1) (neD2 : D2 ≠ a1) (g_a1 : n0 ≤ a1) {T : State} {locs : List Loc} {h : Heap} (X0 : Stand p l e R s m args below meth c T locs 0 0) (e0 : T.heap = h) (N0 : Fr n0 locs) (Z0 : n0 ≤ h.size) (K0 : Keep h0 h [a1]) (O0 : Old Z n0 h) (VA1 : Arv Z h D1 kD1 .byte (100 : Int32) own_ones (.int 0)) (VA2 : Arv Z h D2 kD2 .byte (100 : Int32) own_tens (.int 0)) {v0 v1 v2 v3 v4 v5 v6 v7 v8 v9 v10 v11 v12 v13 v14 v15 : Value} (V1 : Arv Z h a1 k1 .byte (16 : Int32) [v0, v1, v2, v3, v4, v5, v6, v7, v8, v9, v10, v11, v12, v13, v14, v15] (.int 0)) {X idx : Int32} {A3 A4 : Slot} (h1 : X.toInt ≤ 0) (h2 : -10 < X.toInt) (k : ∀ {T' : State} {locs' : List Loc} {h' : Heap}, Stand p l e R s m args below meth c T' locs' 0 0 → T'.heap = h' → Fr n0 locs' → n0 ≤ h'.size → Keep h0 h' [a1] → Old Z n0 h' → Arv Z h' D1 kD1 .byte (100 : Int32) own_ones (.int 0) → Arv Z h' D2 kD2 .byte (100 : Int32) own_tens (.int 0) → Arv Z h' a1 k1 .byte (16 : Int32) [v0, v1, v2, v3, v4, (.int ((own_d1 (-X)).toInt8.toInt32)), v6, v7, v8, v9, v10, v11, v12, v13, v14, v15] (.int 0) → Go p e below P (T'.setTop (mkF m 118 #[(vI X), (vI idx), (vR a1), A3, A4, (vI 5), (vI 0)] []))) : Go p e below P (T.setTop (mkF m 22 #[(vI X), (vI idx), (vR a1), A3, A4, (vI 6), (vI 0)] [])) := by
  have hn := own_neg (X := X) (by omega) (by omega)
  show oG p e below P m T 22 #[(vI X), (vI idx), (vR a1), A3, A4, (vI 6), (vI 0)] []
  refine w_iloadN X0 hx hby dj33_12_22 rfl ?_
  refine w_bipush X0 hx hby dj33_12_23 (v := (-100)) rfl ?_
  refine w_icmpYes X0 hx hby dj33_12_25 (pc' := 72) (XT.ii_gt_t (own_ylt (k := -100) (by decide) h2 (by decide))) (by decide) ?_
  refine w_aloadN X0 hx hby dj33_12_72 rfl rfl ?_
  refine w_iinc X0 hx hby dj33_12_73 rfl (l' := #[(vI X), (vI idx), (vR a1), A3, A4, (vI 5), (vI 0)]) rfl ?_
  refine w_iload X0 hx hby dj33_12_76 rfl ?_
  obtain ⟨T11, X11, e11, st11⟩ := getS2 X0 hx hZ hown (host := "") (Or.inl (tw_126 hw)) Via.refl e0 (S1.ext O0.2) (g := (mkF m 78 #[(vI X), (vI idx), (vR a1), A3, A4, (vI 5), (vI 0)] [(.int 5), (.ref a1)])) rfl (hb hby dj33_12_78)
  refine Go.by st11 ?_
  show oG p e below P m T11 81 #[(vI X), (vI idx), (vR a1), A3, A4, (vI 5), (vI 0)] [(.ref D1), (.int 5), (.ref a1)]
  refine w_iloadN X11 hx hby dj33_12_81 rfl ?_
  refine Go.by (fun _ => XS.ineg X11.here hx rfl (hb hby dj33_12_82) rfl) ?_
  have av12 := VA1
  obtain ⟨cl12, Ar12, -, Sz12, Nn12, Ha12, Gf12⟩ := av12
  have hin12 : ¬ ((-X) < 0 ∨ cl12.slots.size ≤ ((-X)).toNatClampNeg) := inb_of Sz12 hn
  have hat12 : cl12.slots[((-X)).toNatClampNeg]? = some (.int (own_d1 (-X))) := Ha12.at hin12 (own_o_at hn)
  refine Go.by (X11.baloadBytes hx (j := (-X)) (v := (.int (own_d1 (-X)))) (by rw [e11]; exact Ar12.1) (State.isArrayOf_alike hZ.alike Ar12.2.1) Ar12.2.2 hin12 hat12 (g := (mkF m 83 #[(vI X), (vI idx), (vR a1), A3, A4, (vI 5), (vI 0)] [(.int (-X)), (.ref D1), (.int 5), (.ref a1)])) rfl rfl (hb hby dj33_12_83)) ?_
  have av13 := V1
  obtain ⟨cl13, Ar13, q13, Sz13, Nn13, Ha13, Gf13⟩ := av13
  have hin13 : ¬ ((5 : Int32) < 0 ∨ cl13.slots.size ≤ ((5 : Int32)).toNatClampNeg) := inb_of Sz13 ⟨by decide, by decide⟩
  obtain ⟨T14, h14, X14, e14, W14, st14⟩ := stB X11 hx hZ e11 Ar13 (j := (5 : Int32)) hin13 (g := (mkF m 84 #[(vI X), (vI idx), (vR a1), A3, A4, (vI 5), (vI 0)] [(.int (own_d1 (-X))), (.int 5), (.ref a1)])) rfl rfl (hb hby dj33_12_84)
  have W14' : Wr h h14 a1 ((5 : Int32)).toNatClampNeg (.int (own_d1 (-X)).toInt8.toInt32) := W14
  have V14 : Arv Z h14 a1 k1 .byte (16 : Int32) [v0, v1, v2, v3, v4, (.int (own_d1 (-X)).toInt8.toInt32), v6, v7, v8, v9, v10, v11, v12, v13, v14, v15] (.int 0) := Arv.set Ar13 q13 Sz13 Nn13 Ha13 Gf13 (fits_nar_byte _) W14' 5 rfl (Nat.le_of_ble_eq_true rfl)
  have N14 := Fr.snoc X14 N0 g_a1
  have f14_0 := (Nat.le_trans Z0 (Keep.of_wr W14).1)
  have f14_1 := (Keep.wr K0 W14 (Or.inl (List.mem_of_getElem? (i := 0) rfl)))
  have f14_2 := (Old.wr O0 W14 g_a1)
  have f14_3 := (Arv.other VA1 W14 neD1)
  have f14_4 := (Arv.other VA2 W14 neD2)
  refine Go.by st14 ?_
  show oG p e below P m T14 85 #[(vI X), (vI idx), (vR a1), A3, A4, (vI 5), (vI 0)] []
  refine w_iloadN X14 hx hby dj33_12_85 rfl ?_
  refine w_bipush X14 hx hby dj33_12_86 (v := (-9)) rfl ?_
  refine w_icmpYes X14 hx hby dj33_12_88 (pc' := 104) (XT.ii_ge_t (by rw [Int32.lt_iff_toInt_lt]; show ¬ _ < (-9 : Int); omega)) (by decide) ?_
  refine w_iload X14 hx hby dj33_12_104 rfl ?_
  refine w_ifYes X14 hx hby dj33_12_106 (pc' := 118) (XT.i0_eq_t (by decide : (0 : Int32) = (0 : Int32))) (by decide) ?_
  exact k X14 e14 N14 f14_0 f14_1 f14_2 f14_3 f14_4 V14
set_option maxRecDepth 65536 in
set_option maxHeartbeats 40000000 in
theorem sg_U0_2 {p : Program} {l : Launch} {e : Env} {R : Room} {s : State} {m : MethodId} {args : Array Value} {below : List Frame} {meth : Method} {c : Code} {P : Outcome → State → Prop} {Z : State} {a0 : Array Value} (hw : oW a0 Z) (hx : p.tables.exec = Jvm.exec) (hby : c.code = jdk_33_method_12_code) (hZ : Z.Warmed39 s.vm) (hown : s.vm.findClass "java/lang/Integer" = some m.cls) {a1 : Addr} {k1 : ClassId} {D1 : Addr} {kD1 : ClassId} {D2 : Addr} {kD2 : ClassId} {h0 : Heap} {n0 : Nat} (S1 : Sta Z Z.heap "java/lang/Integer" "DigitOnes" "[B" (.ref D1)) (S2 : Sta Z Z.heap "java/lang/Integer" "DigitTens" "[B" (.ref D2)) (neD1 : D1 ≠ a1) (neD2 : D2 ≠ a1) (g_a1 : n0 ≤ a1) {T : State} {locs : List Loc} {h : Heap} (X0 : Stand p l e R s m args below meth c T locs 0 0) (e0 : T.heap = h) (N0 : Fr n0 locs) (Z0 : n0 ≤ h.size) (K0 : Keep h0 h [a1]) (O0 : Old Z n0 h) (VA1 : Arv Z h D1 kD1 .byte (100 : Int32) own_ones (.int 0)) (VA2 : Arv Z h D2 kD2 .byte (100 : Int32) own_tens (.int 0)) {v0 v1 v2 v3 v4 v5 v6 v7 v8 v9 v10 v11 v12 v13 v14 v15 : Value} (V1 : Arv Z h a1 k1 .byte (16 : Int32) [v0, v1, v2, v3, v4, v5, v6, v7, v8, v9, v10, v11, v12, v13, v14, v15] (.int 0)) {X idx : Int32} {A3 A4 : Slot} (h1 : X.toInt ≤ -10) (h2 : -100 < X.toInt) (k : ∀ {T' : State} {locs' : List Loc} {h' : Heap}, Stand p l e R s m args below meth c T' locs' 0 0 → T'.heap = h' → Fr n0 locs' → n0 ≤ h'.size → Keep h0 h' [a1] → Old Z n0 h' → Arv Z h' D1 kD1 .byte (100 : Int32) own_ones (.int 0) → Arv Z h' D2 kD2 .byte (100 : Int32) own_tens (.int 0) → Arv Z h' a1 k1 .byte (16 : Int32) [v0, v1, v2, v3, v4, (.int ((own_d2 (-X)).toInt8.toInt32)), (.int ((own_d1 (-X)).toInt8.toInt32)), v7, v8, v9, v10, v11, v12, v13, v14, v15] (.int 0) → Go p e below P (T'.setTop (mkF m 118 #[(vI X), (vI idx), (vR a1), A3, A4, (vI 5), (vI 0)] []))) : Go p e below P (T.setTop (mkF m 22 #[(vI X), (vI idx), (vR a1), A3, A4, (vI 7), (vI 0)] [])) := by
  have hn := own_neg (X := X) (by omega) (by omega)
  show oG p e below P m T 22 #[(vI X), (vI idx), (vR a1), A3, A4, (vI 7), (vI 0)] []
  refine w_iloadN X0 hx hby dj33_12_22 rfl ?_
  refine w_bipush X0 hx hby dj33_12_23 (v := (-100)) rfl ?_
  refine w_icmpYes X0 hx hby dj33_12_25 (pc' := 72) (XT.ii_gt_t (own_ylt (k := -100) (by decide) h2 (by decide))) (by decide) ?_
  refine w_aloadN X0 hx hby dj33_12_72 rfl rfl ?_
  refine w_iinc X0 hx hby dj33_12_73 rfl (l' := #[(vI X), (vI idx), (vR a1), A3, A4, (vI 6), (vI 0)]) rfl ?_
  refine w_iload X0 hx hby dj33_12_76 rfl ?_
  obtain ⟨T11, X11, e11, st11⟩ := getS2 X0 hx hZ hown (host := "") (Or.inl (tw_126 hw)) Via.refl e0 (S1.ext O0.2) (g := (mkF m 78 #[(vI X), (vI idx), (vR a1), A3, A4, (vI 6), (vI 0)] [(.int 6), (.ref a1)])) rfl (hb hby dj33_12_78)
  refine Go.by st11 ?_
  show oG p e below P m T11 81 #[(vI X), (vI idx), (vR a1), A3, A4, (vI 6), (vI 0)] [(.ref D1), (.int 6), (.ref a1)]
  refine w_iloadN X11 hx hby dj33_12_81 rfl ?_
  refine Go.by (fun _ => XS.ineg X11.here hx rfl (hb hby dj33_12_82) rfl) ?_
  have av12 := VA1
  obtain ⟨cl12, Ar12, -, Sz12, Nn12, Ha12, Gf12⟩ := av12
  have hin12 : ¬ ((-X) < 0 ∨ cl12.slots.size ≤ ((-X)).toNatClampNeg) := inb_of Sz12 hn
  have hat12 : cl12.slots[((-X)).toNatClampNeg]? = some (.int (own_d1 (-X))) := Ha12.at hin12 (own_o_at hn)
  refine Go.by (X11.baloadBytes hx (j := (-X)) (v := (.int (own_d1 (-X)))) (by rw [e11]; exact Ar12.1) (State.isArrayOf_alike hZ.alike Ar12.2.1) Ar12.2.2 hin12 hat12 (g := (mkF m 83 #[(vI X), (vI idx), (vR a1), A3, A4, (vI 6), (vI 0)] [(.int (-X)), (.ref D1), (.int 6), (.ref a1)])) rfl rfl (hb hby dj33_12_83)) ?_
  have av13 := V1
  obtain ⟨cl13, Ar13, q13, Sz13, Nn13, Ha13, Gf13⟩ := av13
  have hin13 : ¬ ((6 : Int32) < 0 ∨ cl13.slots.size ≤ ((6 : Int32)).toNatClampNeg) := inb_of Sz13 ⟨by decide, by decide⟩
  obtain ⟨T14, h14, X14, e14, W14, st14⟩ := stB X11 hx hZ e11 Ar13 (j := (6 : Int32)) hin13 (g := (mkF m 84 #[(vI X), (vI idx), (vR a1), A3, A4, (vI 6), (vI 0)] [(.int (own_d1 (-X))), (.int 6), (.ref a1)])) rfl rfl (hb hby dj33_12_84)
  have W14' : Wr h h14 a1 ((6 : Int32)).toNatClampNeg (.int (own_d1 (-X)).toInt8.toInt32) := W14
  have V14 : Arv Z h14 a1 k1 .byte (16 : Int32) [v0, v1, v2, v3, v4, v5, (.int (own_d1 (-X)).toInt8.toInt32), v7, v8, v9, v10, v11, v12, v13, v14, v15] (.int 0) := Arv.set Ar13 q13 Sz13 Nn13 Ha13 Gf13 (fits_nar_byte _) W14' 6 rfl (Nat.le_of_ble_eq_true rfl)
  have N14 := Fr.snoc X14 N0 g_a1
  have f14_0 := (Nat.le_trans Z0 (Keep.of_wr W14).1)
  have f14_1 := (Keep.wr K0 W14 (Or.inl (List.mem_of_getElem? (i := 0) rfl)))
  have f14_2 := (Old.wr O0 W14 g_a1)
  have f14_3 := (Arv.other VA1 W14 neD1)
  have f14_4 := (Arv.other VA2 W14 neD2)
  refine Go.by st14 ?_
  show oG p e below P m T14 85 #[(vI X), (vI idx), (vR a1), A3, A4, (vI 6), (vI 0)] []
  refine w_iloadN X14 hx hby dj33_12_85 rfl ?_
  refine w_bipush X14 hx hby dj33_12_86 (v := (-9)) rfl ?_
  refine w_icmpNo X14 hx hby dj33_12_88 (XT.ii_ge_f (by rw [Int32.lt_iff_toInt_lt]; show _ < (-9 : Int); omega)) ?_
  refine w_aloadN X14 hx hby dj33_12_91 rfl rfl ?_
  refine w_iinc X14 hx hby dj33_12_92 rfl (l' := #[(vI X), (vI idx), (vR a1), A3, A4, (vI 5), (vI 0)]) rfl ?_
  refine w_iload X14 hx hby dj33_12_95 rfl ?_
  obtain ⟨T15, X15, e15, st15⟩ := getS2 X14 hx hZ hown (host := "") (Or.inl (tw_272 hw)) Via.refl e14 (S2.ext f14_2.2) (g := (mkF m 97 #[(vI X), (vI idx), (vR a1), A3, A4, (vI 5), (vI 0)] [(.int 5), (.ref a1)])) rfl (hb hby dj33_12_97)
  refine Go.by st15 ?_
  show oG p e below P m T15 100 #[(vI X), (vI idx), (vR a1), A3, A4, (vI 5), (vI 0)] [(.ref D2), (.int 5), (.ref a1)]
  refine w_iloadN X15 hx hby dj33_12_100 rfl ?_
  refine Go.by (fun _ => XS.ineg X15.here hx rfl (hb hby dj33_12_101) rfl) ?_
  have av16 := f14_4
  obtain ⟨cl16, Ar16, -, Sz16, Nn16, Ha16, Gf16⟩ := av16
  have hin16 : ¬ ((-X) < 0 ∨ cl16.slots.size ≤ ((-X)).toNatClampNeg) := inb_of Sz16 hn
  have hat16 : cl16.slots[((-X)).toNatClampNeg]? = some (.int (own_d2 (-X))) := Ha16.at hin16 (own_t_at hn)
  refine Go.by (X15.baloadBytes hx (j := (-X)) (v := (.int (own_d2 (-X)))) (by rw [e15]; exact Ar16.1) (State.isArrayOf_alike hZ.alike Ar16.2.1) Ar16.2.2 hin16 hat16 (g := (mkF m 102 #[(vI X), (vI idx), (vR a1), A3, A4, (vI 5), (vI 0)] [(.int (-X)), (.ref D2), (.int 5), (.ref a1)])) rfl rfl (hb hby dj33_12_102)) ?_
  have av17 := V14
  obtain ⟨cl17, Ar17, q17, Sz17, Nn17, Ha17, Gf17⟩ := av17
  have hin17 : ¬ ((5 : Int32) < 0 ∨ cl17.slots.size ≤ ((5 : Int32)).toNatClampNeg) := inb_of Sz17 ⟨by decide, by decide⟩
  obtain ⟨T18, h18, X18, e18, W18, st18⟩ := stB X15 hx hZ e15 Ar17 (j := (5 : Int32)) hin17 (g := (mkF m 103 #[(vI X), (vI idx), (vR a1), A3, A4, (vI 5), (vI 0)] [(.int (own_d2 (-X))), (.int 5), (.ref a1)])) rfl rfl (hb hby dj33_12_103)
  have W18' : Wr h14 h18 a1 ((5 : Int32)).toNatClampNeg (.int (own_d2 (-X)).toInt8.toInt32) := W18
  have V18 : Arv Z h18 a1 k1 .byte (16 : Int32) [v0, v1, v2, v3, v4, (.int (own_d2 (-X)).toInt8.toInt32), (.int (own_d1 (-X)).toInt8.toInt32), v7, v8, v9, v10, v11, v12, v13, v14, v15] (.int 0) := Arv.set Ar17 q17 Sz17 Nn17 Ha17 Gf17 (fits_nar_byte _) W18' 5 rfl (Nat.le_of_ble_eq_true rfl)
  have N18 := Fr.snoc X18 N14 g_a1
  have f18_0 := (Nat.le_trans f14_0 (Keep.of_wr W18).1)
  have f18_1 := (Keep.wr f14_1 W18 (Or.inl (List.mem_of_getElem? (i := 0) rfl)))
  have f18_2 := (Old.wr f14_2 W18 g_a1)
  have f18_3 := (Arv.other f14_3 W18 neD1)
  have f18_4 := (Arv.other f14_4 W18 neD2)
  refine Go.by st18 ?_
  show oG p e below P m T18 104 #[(vI X), (vI idx), (vR a1), A3, A4, (vI 5), (vI 0)] []
  refine w_iload X18 hx hby dj33_12_104 rfl ?_
  refine w_ifYes X18 hx hby dj33_12_106 (pc' := 118) (XT.i0_eq_t (by decide : (0 : Int32) = (0 : Int32))) (by decide) ?_
  exact k X18 e18 N18 f18_0 f18_1 f18_2 f18_3 f18_4 V18
set_option maxRecDepth 65536 in
set_option maxHeartbeats 40000000 in
theorem sg_U1_1 {p : Program} {l : Launch} {e : Env} {R : Room} {s : State} {m : MethodId} {args : Array Value} {below : List Frame} {meth : Method} {c : Code} {P : Outcome → State → Prop} {Z : State} {a0 : Array Value} (hw : oW a0 Z) (hx : p.tables.exec = Jvm.exec) (hby : c.code = jdk_33_method_12_code) (hZ : Z.Warmed39 s.vm) (hown : s.vm.findClass "java/lang/Integer" = some m.cls) {a1 : Addr} {k1 : ClassId} {D1 : Addr} {kD1 : ClassId} {D2 : Addr} {kD2 : ClassId} {h0 : Heap} {n0 : Nat} (S1 : Sta Z Z.heap "java/lang/Integer" "DigitOnes" "[B" (.ref D1)) (S2 : Sta Z Z.heap "java/lang/Integer" "DigitTens" "[B" (.ref D2)) (neD1 : D1 ≠ a1) (neD2 : D2 ≠ a1) (g_a1 : n0 ≤ a1) {T : State} {locs : List Loc} {h : Heap} (X0 : Stand p l e R s m args below meth c T locs 0 0) (e0 : T.heap = h) (N0 : Fr n0 locs) (Z0 : n0 ≤ h.size) (K0 : Keep h0 h [a1]) (O0 : Old Z n0 h) (VA1 : Arv Z h D1 kD1 .byte (100 : Int32) own_ones (.int 0)) (VA2 : Arv Z h D2 kD2 .byte (100 : Int32) own_tens (.int 0)) {v0 v1 v2 v3 v4 v5 v6 v7 v8 v9 v10 v11 v12 v13 v14 v15 : Value} (V1 : Arv Z h a1 k1 .byte (16 : Int32) [v0, v1, v2, v3, v4, v5, v6, v7, v8, v9, v10, v11, v12, v13, v14, v15] (.int 0)) {X idx : Int32} {A3 A4 : Slot} (h1 : X.toInt ≤ 0) (h2 : -10 < X.toInt) (k : ∀ {T' : State} {locs' : List Loc} {h' : Heap}, Stand p l e R s m args below meth c T' locs' 0 0 → T'.heap = h' → Fr n0 locs' → n0 ≤ h'.size → Keep h0 h' [a1] → Old Z n0 h' → Arv Z h' D1 kD1 .byte (100 : Int32) own_ones (.int 0) → Arv Z h' D2 kD2 .byte (100 : Int32) own_tens (.int 0) → Arv Z h' a1 k1 .byte (16 : Int32) [v0, v1, v2, v3, v4, (.int 45), (.int ((own_d1 (-X)).toInt8.toInt32)), v7, v8, v9, v10, v11, v12, v13, v14, v15] (.int 0) → Go p e below P (T'.setTop (mkF m 118 #[(vI X), (vI idx), (vR a1), A3, A4, (vI 5), (vI 1)] []))) : Go p e below P (T.setTop (mkF m 22 #[(vI X), (vI idx), (vR a1), A3, A4, (vI 7), (vI 1)] [])) := by
  have hn := own_neg (X := X) (by omega) (by omega)
  show oG p e below P m T 22 #[(vI X), (vI idx), (vR a1), A3, A4, (vI 7), (vI 1)] []
  refine w_iloadN X0 hx hby dj33_12_22 rfl ?_
  refine w_bipush X0 hx hby dj33_12_23 (v := (-100)) rfl ?_
  refine w_icmpYes X0 hx hby dj33_12_25 (pc' := 72) (XT.ii_gt_t (own_ylt (k := -100) (by decide) h2 (by decide))) (by decide) ?_
  refine w_aloadN X0 hx hby dj33_12_72 rfl rfl ?_
  refine w_iinc X0 hx hby dj33_12_73 rfl (l' := #[(vI X), (vI idx), (vR a1), A3, A4, (vI 6), (vI 1)]) rfl ?_
  refine w_iload X0 hx hby dj33_12_76 rfl ?_
  obtain ⟨T11, X11, e11, st11⟩ := getS2 X0 hx hZ hown (host := "") (Or.inl (tw_126 hw)) Via.refl e0 (S1.ext O0.2) (g := (mkF m 78 #[(vI X), (vI idx), (vR a1), A3, A4, (vI 6), (vI 1)] [(.int 6), (.ref a1)])) rfl (hb hby dj33_12_78)
  refine Go.by st11 ?_
  show oG p e below P m T11 81 #[(vI X), (vI idx), (vR a1), A3, A4, (vI 6), (vI 1)] [(.ref D1), (.int 6), (.ref a1)]
  refine w_iloadN X11 hx hby dj33_12_81 rfl ?_
  refine Go.by (fun _ => XS.ineg X11.here hx rfl (hb hby dj33_12_82) rfl) ?_
  have av12 := VA1
  obtain ⟨cl12, Ar12, -, Sz12, Nn12, Ha12, Gf12⟩ := av12
  have hin12 : ¬ ((-X) < 0 ∨ cl12.slots.size ≤ ((-X)).toNatClampNeg) := inb_of Sz12 hn
  have hat12 : cl12.slots[((-X)).toNatClampNeg]? = some (.int (own_d1 (-X))) := Ha12.at hin12 (own_o_at hn)
  refine Go.by (X11.baloadBytes hx (j := (-X)) (v := (.int (own_d1 (-X)))) (by rw [e11]; exact Ar12.1) (State.isArrayOf_alike hZ.alike Ar12.2.1) Ar12.2.2 hin12 hat12 (g := (mkF m 83 #[(vI X), (vI idx), (vR a1), A3, A4, (vI 6), (vI 1)] [(.int (-X)), (.ref D1), (.int 6), (.ref a1)])) rfl rfl (hb hby dj33_12_83)) ?_
  have av13 := V1
  obtain ⟨cl13, Ar13, q13, Sz13, Nn13, Ha13, Gf13⟩ := av13
  have hin13 : ¬ ((6 : Int32) < 0 ∨ cl13.slots.size ≤ ((6 : Int32)).toNatClampNeg) := inb_of Sz13 ⟨by decide, by decide⟩
  obtain ⟨T14, h14, X14, e14, W14, st14⟩ := stB X11 hx hZ e11 Ar13 (j := (6 : Int32)) hin13 (g := (mkF m 84 #[(vI X), (vI idx), (vR a1), A3, A4, (vI 6), (vI 1)] [(.int (own_d1 (-X))), (.int 6), (.ref a1)])) rfl rfl (hb hby dj33_12_84)
  have W14' : Wr h h14 a1 ((6 : Int32)).toNatClampNeg (.int (own_d1 (-X)).toInt8.toInt32) := W14
  have V14 : Arv Z h14 a1 k1 .byte (16 : Int32) [v0, v1, v2, v3, v4, v5, (.int (own_d1 (-X)).toInt8.toInt32), v7, v8, v9, v10, v11, v12, v13, v14, v15] (.int 0) := Arv.set Ar13 q13 Sz13 Nn13 Ha13 Gf13 (fits_nar_byte _) W14' 6 rfl (Nat.le_of_ble_eq_true rfl)
  have N14 := Fr.snoc X14 N0 g_a1
  have f14_0 := (Nat.le_trans Z0 (Keep.of_wr W14).1)
  have f14_1 := (Keep.wr K0 W14 (Or.inl (List.mem_of_getElem? (i := 0) rfl)))
  have f14_2 := (Old.wr O0 W14 g_a1)
  have f14_3 := (Arv.other VA1 W14 neD1)
  have f14_4 := (Arv.other VA2 W14 neD2)
  refine Go.by st14 ?_
  show oG p e below P m T14 85 #[(vI X), (vI idx), (vR a1), A3, A4, (vI 6), (vI 1)] []
  refine w_iloadN X14 hx hby dj33_12_85 rfl ?_
  refine w_bipush X14 hx hby dj33_12_86 (v := (-9)) rfl ?_
  refine w_icmpYes X14 hx hby dj33_12_88 (pc' := 104) (XT.ii_ge_t (by rw [Int32.lt_iff_toInt_lt]; show ¬ _ < (-9 : Int); omega)) (by decide) ?_
  refine w_iload X14 hx hby dj33_12_104 rfl ?_
  refine w_ifNo X14 hx hby dj33_12_106 (XT.i0_eq_f (by decide : ¬ (1 : Int32) = (0 : Int32))) ?_
  refine w_aloadN X14 hx hby dj33_12_109 rfl rfl ?_
  refine w_iinc X14 hx hby dj33_12_110 rfl (l' := #[(vI X), (vI idx), (vR a1), A3, A4, (vI 5), (vI 1)]) rfl ?_
  refine w_iload X14 hx hby dj33_12_113 rfl ?_
  refine w_bipush X14 hx hby dj33_12_115 (v := 45) rfl ?_
  have av15 := V14
  obtain ⟨cl15, Ar15, q15, Sz15, Nn15, Ha15, Gf15⟩ := av15
  have hin15 : ¬ ((5 : Int32) < 0 ∨ cl15.slots.size ≤ ((5 : Int32)).toNatClampNeg) := inb_of Sz15 ⟨by decide, by decide⟩
  obtain ⟨T16, h16, X16, e16, W16, st16⟩ := stB X14 hx hZ e14 Ar15 (j := (5 : Int32)) hin15 (g := (mkF m 117 #[(vI X), (vI idx), (vR a1), A3, A4, (vI 5), (vI 1)] [(.int 45), (.int 5), (.ref a1)])) rfl rfl (hb hby dj33_12_117)
  have W16' : Wr h14 h16 a1 ((5 : Int32)).toNatClampNeg (.int 45) := W16
  have V16 : Arv Z h16 a1 k1 .byte (16 : Int32) [v0, v1, v2, v3, v4, (.int 45), (.int (own_d1 (-X)).toInt8.toInt32), v7, v8, v9, v10, v11, v12, v13, v14, v15] (.int 0) := Arv.set Ar15 q15 Sz15 Nn15 Ha15 Gf15 rfl W16' 5 rfl (Nat.le_of_ble_eq_true rfl)
  have N16 := Fr.snoc X16 N14 g_a1
  have f16_0 := (Nat.le_trans f14_0 (Keep.of_wr W16).1)
  have f16_1 := (Keep.wr f14_1 W16 (Or.inl (List.mem_of_getElem? (i := 0) rfl)))
  have f16_2 := (Old.wr f14_2 W16 g_a1)
  have f16_3 := (Arv.other f14_3 W16 neD1)
  have f16_4 := (Arv.other f14_4 W16 neD2)
  refine Go.by st16 ?_
  show oG p e below P m T16 118 #[(vI X), (vI idx), (vR a1), A3, A4, (vI 5), (vI 1)] []
  exact k X16 e16 N16 f16_0 f16_1 f16_2 f16_3 f16_4 V16
set_option maxRecDepth 65536 in
set_option maxHeartbeats 40000000 in
theorem sg_U1_2 {p : Program} {l : Launch} {e : Env} {R : Room} {s : State} {m : MethodId} {args : Array Value} {below : List Frame} {meth : Method} {c : Code} {P : Outcome → State → Prop} {Z : State} {a0 : Array Value} (hw : oW a0 Z) (hx : p.tables.exec = Jvm.exec) (hby : c.code = jdk_33_method_12_code) (hZ : Z.Warmed39 s.vm) (hown : s.vm.findClass "java/lang/Integer" = some m.cls) {a1 : Addr} {k1 : ClassId} {D1 : Addr} {kD1 : ClassId} {D2 : Addr} {kD2 : ClassId} {h0 : Heap} {n0 : Nat} (S1 : Sta Z Z.heap "java/lang/Integer" "DigitOnes" "[B" (.ref D1)) (S2 : Sta Z Z.heap "java/lang/Integer" "DigitTens" "[B" (.ref D2)) (neD1 : D1 ≠ a1) (neD2 : D2 ≠ a1) (g_a1 : n0 ≤ a1) {T : State} {locs : List Loc} {h : Heap} (X0 : Stand p l e R s m args below meth c T locs 0 0) (e0 : T.heap = h) (N0 : Fr n0 locs) (Z0 : n0 ≤ h.size) (K0 : Keep h0 h [a1]) (O0 : Old Z n0 h) (VA1 : Arv Z h D1 kD1 .byte (100 : Int32) own_ones (.int 0)) (VA2 : Arv Z h D2 kD2 .byte (100 : Int32) own_tens (.int 0)) {v0 v1 v2 v3 v4 v5 v6 v7 v8 v9 v10 v11 v12 v13 v14 v15 : Value} (V1 : Arv Z h a1 k1 .byte (16 : Int32) [v0, v1, v2, v3, v4, v5, v6, v7, v8, v9, v10, v11, v12, v13, v14, v15] (.int 0)) {X idx : Int32} {A3 A4 : Slot} (h1 : X.toInt ≤ -10) (h2 : -100 < X.toInt) (k : ∀ {T' : State} {locs' : List Loc} {h' : Heap}, Stand p l e R s m args below meth c T' locs' 0 0 → T'.heap = h' → Fr n0 locs' → n0 ≤ h'.size → Keep h0 h' [a1] → Old Z n0 h' → Arv Z h' D1 kD1 .byte (100 : Int32) own_ones (.int 0) → Arv Z h' D2 kD2 .byte (100 : Int32) own_tens (.int 0) → Arv Z h' a1 k1 .byte (16 : Int32) [v0, v1, v2, v3, v4, (.int 45), (.int ((own_d2 (-X)).toInt8.toInt32)), (.int ((own_d1 (-X)).toInt8.toInt32)), v8, v9, v10, v11, v12, v13, v14, v15] (.int 0) → Go p e below P (T'.setTop (mkF m 118 #[(vI X), (vI idx), (vR a1), A3, A4, (vI 5), (vI 1)] []))) : Go p e below P (T.setTop (mkF m 22 #[(vI X), (vI idx), (vR a1), A3, A4, (vI 8), (vI 1)] [])) := by
  have hn := own_neg (X := X) (by omega) (by omega)
  show oG p e below P m T 22 #[(vI X), (vI idx), (vR a1), A3, A4, (vI 8), (vI 1)] []
  refine w_iloadN X0 hx hby dj33_12_22 rfl ?_
  refine w_bipush X0 hx hby dj33_12_23 (v := (-100)) rfl ?_
  refine w_icmpYes X0 hx hby dj33_12_25 (pc' := 72) (XT.ii_gt_t (own_ylt (k := -100) (by decide) h2 (by decide))) (by decide) ?_
  refine w_aloadN X0 hx hby dj33_12_72 rfl rfl ?_
  refine w_iinc X0 hx hby dj33_12_73 rfl (l' := #[(vI X), (vI idx), (vR a1), A3, A4, (vI 7), (vI 1)]) rfl ?_
  refine w_iload X0 hx hby dj33_12_76 rfl ?_
  obtain ⟨T11, X11, e11, st11⟩ := getS2 X0 hx hZ hown (host := "") (Or.inl (tw_126 hw)) Via.refl e0 (S1.ext O0.2) (g := (mkF m 78 #[(vI X), (vI idx), (vR a1), A3, A4, (vI 7), (vI 1)] [(.int 7), (.ref a1)])) rfl (hb hby dj33_12_78)
  refine Go.by st11 ?_
  show oG p e below P m T11 81 #[(vI X), (vI idx), (vR a1), A3, A4, (vI 7), (vI 1)] [(.ref D1), (.int 7), (.ref a1)]
  refine w_iloadN X11 hx hby dj33_12_81 rfl ?_
  refine Go.by (fun _ => XS.ineg X11.here hx rfl (hb hby dj33_12_82) rfl) ?_
  have av12 := VA1
  obtain ⟨cl12, Ar12, -, Sz12, Nn12, Ha12, Gf12⟩ := av12
  have hin12 : ¬ ((-X) < 0 ∨ cl12.slots.size ≤ ((-X)).toNatClampNeg) := inb_of Sz12 hn
  have hat12 : cl12.slots[((-X)).toNatClampNeg]? = some (.int (own_d1 (-X))) := Ha12.at hin12 (own_o_at hn)
  refine Go.by (X11.baloadBytes hx (j := (-X)) (v := (.int (own_d1 (-X)))) (by rw [e11]; exact Ar12.1) (State.isArrayOf_alike hZ.alike Ar12.2.1) Ar12.2.2 hin12 hat12 (g := (mkF m 83 #[(vI X), (vI idx), (vR a1), A3, A4, (vI 7), (vI 1)] [(.int (-X)), (.ref D1), (.int 7), (.ref a1)])) rfl rfl (hb hby dj33_12_83)) ?_
  have av13 := V1
  obtain ⟨cl13, Ar13, q13, Sz13, Nn13, Ha13, Gf13⟩ := av13
  have hin13 : ¬ ((7 : Int32) < 0 ∨ cl13.slots.size ≤ ((7 : Int32)).toNatClampNeg) := inb_of Sz13 ⟨by decide, by decide⟩
  obtain ⟨T14, h14, X14, e14, W14, st14⟩ := stB X11 hx hZ e11 Ar13 (j := (7 : Int32)) hin13 (g := (mkF m 84 #[(vI X), (vI idx), (vR a1), A3, A4, (vI 7), (vI 1)] [(.int (own_d1 (-X))), (.int 7), (.ref a1)])) rfl rfl (hb hby dj33_12_84)
  have W14' : Wr h h14 a1 ((7 : Int32)).toNatClampNeg (.int (own_d1 (-X)).toInt8.toInt32) := W14
  have V14 : Arv Z h14 a1 k1 .byte (16 : Int32) [v0, v1, v2, v3, v4, v5, v6, (.int (own_d1 (-X)).toInt8.toInt32), v8, v9, v10, v11, v12, v13, v14, v15] (.int 0) := Arv.set Ar13 q13 Sz13 Nn13 Ha13 Gf13 (fits_nar_byte _) W14' 7 rfl (Nat.le_of_ble_eq_true rfl)
  have N14 := Fr.snoc X14 N0 g_a1
  have f14_0 := (Nat.le_trans Z0 (Keep.of_wr W14).1)
  have f14_1 := (Keep.wr K0 W14 (Or.inl (List.mem_of_getElem? (i := 0) rfl)))
  have f14_2 := (Old.wr O0 W14 g_a1)
  have f14_3 := (Arv.other VA1 W14 neD1)
  have f14_4 := (Arv.other VA2 W14 neD2)
  refine Go.by st14 ?_
  show oG p e below P m T14 85 #[(vI X), (vI idx), (vR a1), A3, A4, (vI 7), (vI 1)] []
  refine w_iloadN X14 hx hby dj33_12_85 rfl ?_
  refine w_bipush X14 hx hby dj33_12_86 (v := (-9)) rfl ?_
  refine w_icmpNo X14 hx hby dj33_12_88 (XT.ii_ge_f (by rw [Int32.lt_iff_toInt_lt]; show _ < (-9 : Int); omega)) ?_
  refine w_aloadN X14 hx hby dj33_12_91 rfl rfl ?_
  refine w_iinc X14 hx hby dj33_12_92 rfl (l' := #[(vI X), (vI idx), (vR a1), A3, A4, (vI 6), (vI 1)]) rfl ?_
  refine w_iload X14 hx hby dj33_12_95 rfl ?_
  obtain ⟨T15, X15, e15, st15⟩ := getS2 X14 hx hZ hown (host := "") (Or.inl (tw_272 hw)) Via.refl e14 (S2.ext f14_2.2) (g := (mkF m 97 #[(vI X), (vI idx), (vR a1), A3, A4, (vI 6), (vI 1)] [(.int 6), (.ref a1)])) rfl (hb hby dj33_12_97)
  refine Go.by st15 ?_
  show oG p e below P m T15 100 #[(vI X), (vI idx), (vR a1), A3, A4, (vI 6), (vI 1)] [(.ref D2), (.int 6), (.ref a1)]
  refine w_iloadN X15 hx hby dj33_12_100 rfl ?_
  refine Go.by (fun _ => XS.ineg X15.here hx rfl (hb hby dj33_12_101) rfl) ?_
  have av16 := f14_4
  obtain ⟨cl16, Ar16, -, Sz16, Nn16, Ha16, Gf16⟩ := av16
  have hin16 : ¬ ((-X) < 0 ∨ cl16.slots.size ≤ ((-X)).toNatClampNeg) := inb_of Sz16 hn
  have hat16 : cl16.slots[((-X)).toNatClampNeg]? = some (.int (own_d2 (-X))) := Ha16.at hin16 (own_t_at hn)
  refine Go.by (X15.baloadBytes hx (j := (-X)) (v := (.int (own_d2 (-X)))) (by rw [e15]; exact Ar16.1) (State.isArrayOf_alike hZ.alike Ar16.2.1) Ar16.2.2 hin16 hat16 (g := (mkF m 102 #[(vI X), (vI idx), (vR a1), A3, A4, (vI 6), (vI 1)] [(.int (-X)), (.ref D2), (.int 6), (.ref a1)])) rfl rfl (hb hby dj33_12_102)) ?_
  have av17 := V14
  obtain ⟨cl17, Ar17, q17, Sz17, Nn17, Ha17, Gf17⟩ := av17
  have hin17 : ¬ ((6 : Int32) < 0 ∨ cl17.slots.size ≤ ((6 : Int32)).toNatClampNeg) := inb_of Sz17 ⟨by decide, by decide⟩
  obtain ⟨T18, h18, X18, e18, W18, st18⟩ := stB X15 hx hZ e15 Ar17 (j := (6 : Int32)) hin17 (g := (mkF m 103 #[(vI X), (vI idx), (vR a1), A3, A4, (vI 6), (vI 1)] [(.int (own_d2 (-X))), (.int 6), (.ref a1)])) rfl rfl (hb hby dj33_12_103)
  have W18' : Wr h14 h18 a1 ((6 : Int32)).toNatClampNeg (.int (own_d2 (-X)).toInt8.toInt32) := W18
  have V18 : Arv Z h18 a1 k1 .byte (16 : Int32) [v0, v1, v2, v3, v4, v5, (.int (own_d2 (-X)).toInt8.toInt32), (.int (own_d1 (-X)).toInt8.toInt32), v8, v9, v10, v11, v12, v13, v14, v15] (.int 0) := Arv.set Ar17 q17 Sz17 Nn17 Ha17 Gf17 (fits_nar_byte _) W18' 6 rfl (Nat.le_of_ble_eq_true rfl)
  have N18 := Fr.snoc X18 N14 g_a1
  have f18_0 := (Nat.le_trans f14_0 (Keep.of_wr W18).1)
  have f18_1 := (Keep.wr f14_1 W18 (Or.inl (List.mem_of_getElem? (i := 0) rfl)))
  have f18_2 := (Old.wr f14_2 W18 g_a1)
  have f18_3 := (Arv.other f14_3 W18 neD1)
  have f18_4 := (Arv.other f14_4 W18 neD2)
  refine Go.by st18 ?_
  show oG p e below P m T18 104 #[(vI X), (vI idx), (vR a1), A3, A4, (vI 6), (vI 1)] []
  refine w_iload X18 hx hby dj33_12_104 rfl ?_
  refine w_ifNo X18 hx hby dj33_12_106 (XT.i0_eq_f (by decide : ¬ (1 : Int32) = (0 : Int32))) ?_
  refine w_aloadN X18 hx hby dj33_12_109 rfl rfl ?_
  refine w_iinc X18 hx hby dj33_12_110 rfl (l' := #[(vI X), (vI idx), (vR a1), A3, A4, (vI 5), (vI 1)]) rfl ?_
  refine w_iload X18 hx hby dj33_12_113 rfl ?_
  refine w_bipush X18 hx hby dj33_12_115 (v := 45) rfl ?_
  have av19 := V18
  obtain ⟨cl19, Ar19, q19, Sz19, Nn19, Ha19, Gf19⟩ := av19
  have hin19 : ¬ ((5 : Int32) < 0 ∨ cl19.slots.size ≤ ((5 : Int32)).toNatClampNeg) := inb_of Sz19 ⟨by decide, by decide⟩
  obtain ⟨T20, h20, X20, e20, W20, st20⟩ := stB X18 hx hZ e18 Ar19 (j := (5 : Int32)) hin19 (g := (mkF m 117 #[(vI X), (vI idx), (vR a1), A3, A4, (vI 5), (vI 1)] [(.int 45), (.int 5), (.ref a1)])) rfl rfl (hb hby dj33_12_117)
  have W20' : Wr h18 h20 a1 ((5 : Int32)).toNatClampNeg (.int 45) := W20
  have V20 : Arv Z h20 a1 k1 .byte (16 : Int32) [v0, v1, v2, v3, v4, (.int 45), (.int (own_d2 (-X)).toInt8.toInt32), (.int (own_d1 (-X)).toInt8.toInt32), v8, v9, v10, v11, v12, v13, v14, v15] (.int 0) := Arv.set Ar19 q19 Sz19 Nn19 Ha19 Gf19 rfl W20' 5 rfl (Nat.le_of_ble_eq_true rfl)
  have N20 := Fr.snoc X20 N18 g_a1
  have f20_0 := (Nat.le_trans f18_0 (Keep.of_wr W20).1)
  have f20_1 := (Keep.wr f18_1 W20 (Or.inl (List.mem_of_getElem? (i := 0) rfl)))
  have f20_2 := (Old.wr f18_2 W20 g_a1)
  have f20_3 := (Arv.other f18_3 W20 neD1)
  have f20_4 := (Arv.other f18_4 W20 neD2)
  refine Go.by st20 ?_
  show oG p e below P m T20 118 #[(vI X), (vI idx), (vR a1), A3, A4, (vI 5), (vI 1)] []
  exact k X20 e20 N20 f20_0 f20_1 f20_2 f20_3 f20_4 V20
def Q_getChA (Z : State) (p0 : Int32) (a1 : Addr) (k1 : ClassId) (D1 : Addr) (kD1 : ClassId) (D2 : Addr) (kD2 : ClassId) (h0 : Heap) (n0 : Nat) (v : Option Value) (h : Heap) (L : List Loc) : Prop := v = some (.int 5) ∧ Fr n0 L ∧ Keep h0 h [a1] ∧ Arv Z h a1 k1 .byte (16 : Int32) (own_full 16 (([(.int 108), (.int 105), (.int 110), (.int 101), (.int 32)] : List Value) ++ own_dg p0)) (.int 0)
theorem ef_getChA (m : MethodId) (p0 : Int32) (a1 : Addr) (k1 : ClassId) (D1 : Addr) (kD1 : ClassId) (D2 : Addr) (kD2 : ClassId) : entryFrame m #[(.int p0), (.int ((5 : Int32) + (own_sz p0))), (.ref a1)] 7 = mkF m 0 #[(vI p0), (vI ((5 : Int32) + (own_sz p0))), (vR a1), .unset, .unset, .unset, .unset] [] := by first | (simp [entryFrame, mkF, argsToLocals, Value.category]; done) | rfl
set_option maxRecDepth 65536 in
set_option maxHeartbeats 40000000 in
theorem rm_getChA (l : Launch) (Z : State) (a0 : Array Value) (hw : oW a0 Z) (ws : List Jvm.Cond) (p0 : Int32) (a1 : Addr) (k1 : ClassId) (D1 : Addr) (kD1 : ClassId) (D2 : Addr) (kD2 : ClassId) (h0 : Heap) (n0 : Nat) (Z0 : n0 ≤ h0.size) (O0 : Old Z n0 h0) (S1 : Sta Z Z.heap "java/lang/Integer" "DigitOnes" "[B" (.ref D1)) (S2 : Sta Z Z.heap "java/lang/Integer" "DigitTens" "[B" (.ref D2)) (VD1 : Arv Z Z.heap D1 kD1 .byte (100 : Int32) own_ones (.int 0)) (VD2 : Arv Z Z.heap D2 kD2 .byte (100 : Int32) own_tens (.int 0)) (V1 : Arv Z h0 a1 k1 .byte (16 : Int32) [(.int 108), (.int 105), (.int 110), (.int 101), (.int 32), (.int 0), (.int 0), (.int 0), (.int 0), (.int 0), (.int 0), (.int 0), (.int 0), (.int 0), (.int 0), (.int 0)] (.int 0)) (g_a1 : n0 ≤ a1) :
    oM l oY13 jdk_33_method_12_code 7 (some .int) ws (own_R 0 0 0 0) #[(.int p0), (.int ((5 : Int32) + (own_sz p0))), (.ref a1)] Z h0 (Q_getChA Z p0 a1 k1 D1 kD1 D2 kD2 h0 n0) := by
  refine own_open (n0 := n0) (cn := "java/lang/Integer") rfl (plainFor_of_name pn_java_lang_Integer) (fun m => ef_getChA m p0 a1 k1 D1 kD1 D2 kD2) ?_
  intro p e s m below meth c s₁ P hx hby hml hown hnm X0 e0 N0 hlk hret hZ hP
  have VA1 := Arv.ext VD1 O0.2
  have neD1 : D1 ≠ a1 := Nat.ne_of_lt (Nat.lt_of_lt_of_le VD1.lt (by rw [O0.1]; exact g_a1))
  have VA2 := Arv.ext VD2 O0.2
  have neD2 : D2 ≠ a1 := Nat.ne_of_lt (Nat.lt_of_lt_of_le VD2.lt (by rw [O0.1]; exact g_a1))
  show oG p e below P m s₁ 0 #[(vI p0), (vI ((5 : Int32) + (own_sz p0))), (vR a1), .unset, .unset, .unset, .unset] []
  rcases own_shape p0 with ⟨hs, hh⟩ | ⟨hs, hh⟩
  · show oG p e below P m s₁ 0 #[(vI p0), (vI ((5 : Int32) + (own_sz p0))), (vR a1), .unset, .unset, .unset, .unset] []
    refine w_iloadN X0 hx hby dj33_12_0 rfl ?_
    refine w_istore X0 hx hby dj33_12_1 (l' := #[(vI p0), (vI ((5 : Int32) + (own_sz p0))), (vR a1), .unset, .unset, (vI ((5 : Int32) + (own_sz p0))), .unset]) rfl ?_
    refine w_iloadN X0 hx hby dj33_12_3 rfl ?_
    refine w_ifYes X0 hx hby dj33_12_4 (pc' := 11) (XT.i0_ge_t hs) (by decide) ?_
    refine w_iconst X0 hx hby dj33_12_11 (v := 0) rfl ?_
    refine w_istore X0 hx hby dj33_12_12 (l' := #[(vI p0), (vI ((5 : Int32) + (own_sz p0))), (vR a1), .unset, .unset, (vI ((5 : Int32) + (own_sz p0))), (vI 0)]) rfl ?_
    refine w_iload X0 hx hby dj33_12_14 rfl ?_
    refine w_ifNo X0 hx hby dj33_12_16 (XT.i0_ne_f (by decide : (0 : Int32) = (0 : Int32))) ?_
    refine w_iloadN X0 hx hby dj33_12_19 rfl ?_
    refine Go.by (fun _ => XS.ineg X0.here hx rfl (hb hby dj33_12_20) rfl) ?_
    show oG p e below P m s₁ 21 #[(vI p0), (vI ((5 : Int32) + (own_sz p0))), (vR a1), .unset, .unset, (vI ((5 : Int32) + (own_sz p0))), (vI 0)] [(.int (-p0))]
    refine w_istoreN X0 hx hby dj33_12_21 (l' := #[(vI (-p0)), (vI ((5 : Int32) + (own_sz p0))), (vR a1), .unset, .unset, (vI ((5 : Int32) + (own_sz p0))), (vI 0)]) rfl ?_
    rcases hh with ⟨hlo0, hhi0⟩ | ⟨hlo0, hhi0⟩ | ⟨hlo0, hhi0⟩ | ⟨hlo0, hhi0⟩ | ⟨hlo0, hhi0⟩ | ⟨hlo0, hhi0⟩ | ⟨hlo0, hhi0⟩ | ⟨hlo0, hhi0⟩ | ⟨hlo0, hhi0⟩ | ⟨hlo0, hhi0⟩
    · rw [show ((5 : Int32) + (own_sz p0)) = (6 : Int32) from by rw [own_sz_0_1 p0 hs hlo0 hhi0]; rfl]
      refine sg_U0_1 hw hx hby hZ hown S1 S2 neD1 neD2 g_a1 X0 e0 N0 Z0 (Keep.refl h0 [a1]) O0 VA1 VA2 V1 (by omega) (by omega) ?_
      intro T11 L11 h11 X11 e11 N11 f11_0 f11_1 f11_2 f11_3 f11_4 V11
      show oG p e below P m T11 118 #[(vI (-p0)), (vI 6), (vR a1), .unset, .unset, (vI 5), (vI 0)] []
      refine w_iload X11 hx hby dj33_12_118 rfl ?_
      refine own_fin hP hlk X11 (v := some (.int 5)) (fun h => by rw [hret] at h; cases h) (by decide) (by decide) ?_ (fun fs hr => retOut X11 hx hret rfl (Or.inl ⟨rfl, Or.inl rfl, _, rfl⟩) (hb hby dj33_12_120) hr)
      rw [e11]
      exact ⟨rfl, N11, f11_1, (by rw [own_dg_0_1 p0 hs hlo0 hhi0]; exact V11)⟩
    · rw [show ((5 : Int32) + (own_sz p0)) = (7 : Int32) from by rw [own_sz_0_2 p0 hs hlo0 hhi0]; rfl]
      refine sg_U0_2 hw hx hby hZ hown S1 S2 neD1 neD2 g_a1 X0 e0 N0 Z0 (Keep.refl h0 [a1]) O0 VA1 VA2 V1 (by omega) (by omega) ?_
      intro T12 L12 h12 X12 e12 N12 f12_0 f12_1 f12_2 f12_3 f12_4 V12
      show oG p e below P m T12 118 #[(vI (-p0)), (vI 7), (vR a1), .unset, .unset, (vI 5), (vI 0)] []
      refine w_iload X12 hx hby dj33_12_118 rfl ?_
      refine own_fin hP hlk X12 (v := some (.int 5)) (fun h => by rw [hret] at h; cases h) (by decide) (by decide) ?_ (fun fs hr => retOut X12 hx hret rfl (Or.inl ⟨rfl, Or.inl rfl, _, rfl⟩) (hb hby dj33_12_120) hr)
      rw [e12]
      exact ⟨rfl, N12, f12_1, (by rw [own_dg_0_2 p0 hs hlo0 hhi0]; exact V12)⟩
    · rw [show ((5 : Int32) + (own_sz p0)) = (8 : Int32) from by rw [own_sz_0_3 p0 hs hlo0 hhi0]; rfl]
      have ng0 : ((-p0)).toInt < 0 := by omega
      have dq0 := own_div ng0
      have hlo1 : (((-p0) / (100 : Int32))).toInt ≤ -1 := by omega
      have hhi1 : -10 < (((-p0) / (100 : Int32))).toInt := by omega
      obtain ⟨q0, hq0⟩ : ∃ z, z = ((-p0) / (100 : Int32)) := ⟨_, rfl⟩
      rw [← hq0] at hlo1 hhi1
      obtain ⟨r0, hr0⟩ : ∃ z, z = ((q0 * (100 : Int32)) - (-p0)) := ⟨_, rfl⟩
      refine sg_T hw hx hby hZ hown S1 S2 neD1 neD2 g_a1 X0 e0 N0 Z0 (Keep.refl h0 [a1]) O0 VA1 VA2 V1 (n1 := 7) (n2 := 6) (Or.inl rfl) (Or.inl rfl) hq0 hr0 (by omega) (by decide) (by decide) rfl rfl (Nat.le_of_ble_eq_true rfl) (Nat.le_of_ble_eq_true rfl) ?_
      intro T13 L13 h13 X13 e13 N13 f13_0 f13_1 f13_2 f13_3 f13_4 V13
      show oG p e below P m T13 22 #[(vI q0), (vI 8), (vR a1), (vI q0), (vI r0), (vI 6), (vI 0)] []
      refine sg_U0_1 hw hx hby hZ hown S1 S2 neD1 neD2 g_a1 X13 e13 N13 f13_0 f13_1 f13_2 f13_3 f13_4 V13 (by omega) (by omega) ?_
      intro T14 L14 h14 X14 e14 N14 f14_0 f14_1 f14_2 f14_3 f14_4 V14
      show oG p e below P m T14 118 #[(vI q0), (vI 8), (vR a1), (vI q0), (vI r0), (vI 5), (vI 0)] []
      refine w_iload X14 hx hby dj33_12_118 rfl ?_
      refine own_fin hP hlk X14 (v := some (.int 5)) (fun h => by rw [hret] at h; cases h) (by decide) (by decide) ?_ (fun fs hr => retOut X14 hx hret rfl (Or.inl ⟨rfl, Or.inl rfl, _, rfl⟩) (hb hby dj33_12_120) hr)
      rw [e14]
      subst hr0 hq0; exact ⟨rfl, N14, f14_1, (by rw [own_dg_0_3 p0 hs hlo0 hhi0]; exact V14)⟩
    · rw [show ((5 : Int32) + (own_sz p0)) = (9 : Int32) from by rw [own_sz_0_4 p0 hs hlo0 hhi0]; rfl]
      have ng0 : ((-p0)).toInt < 0 := by omega
      have dq0 := own_div ng0
      have hlo1 : (((-p0) / (100 : Int32))).toInt ≤ -10 := by omega
      have hhi1 : -100 < (((-p0) / (100 : Int32))).toInt := by omega
      obtain ⟨q0, hq0⟩ : ∃ z, z = ((-p0) / (100 : Int32)) := ⟨_, rfl⟩
      rw [← hq0] at hlo1 hhi1
      obtain ⟨r0, hr0⟩ : ∃ z, z = ((q0 * (100 : Int32)) - (-p0)) := ⟨_, rfl⟩
      refine sg_T hw hx hby hZ hown S1 S2 neD1 neD2 g_a1 X0 e0 N0 Z0 (Keep.refl h0 [a1]) O0 VA1 VA2 V1 (n1 := 8) (n2 := 7) (Or.inl rfl) (Or.inl rfl) hq0 hr0 (by omega) (by decide) (by decide) rfl rfl (Nat.le_of_ble_eq_true rfl) (Nat.le_of_ble_eq_true rfl) ?_
      intro T15 L15 h15 X15 e15 N15 f15_0 f15_1 f15_2 f15_3 f15_4 V15
      show oG p e below P m T15 22 #[(vI q0), (vI 9), (vR a1), (vI q0), (vI r0), (vI 7), (vI 0)] []
      refine sg_U0_2 hw hx hby hZ hown S1 S2 neD1 neD2 g_a1 X15 e15 N15 f15_0 f15_1 f15_2 f15_3 f15_4 V15 (by omega) (by omega) ?_
      intro T16 L16 h16 X16 e16 N16 f16_0 f16_1 f16_2 f16_3 f16_4 V16
      show oG p e below P m T16 118 #[(vI q0), (vI 9), (vR a1), (vI q0), (vI r0), (vI 5), (vI 0)] []
      refine w_iload X16 hx hby dj33_12_118 rfl ?_
      refine own_fin hP hlk X16 (v := some (.int 5)) (fun h => by rw [hret] at h; cases h) (by decide) (by decide) ?_ (fun fs hr => retOut X16 hx hret rfl (Or.inl ⟨rfl, Or.inl rfl, _, rfl⟩) (hb hby dj33_12_120) hr)
      rw [e16]
      subst hr0 hq0; exact ⟨rfl, N16, f16_1, (by rw [own_dg_0_4 p0 hs hlo0 hhi0]; exact V16)⟩
    · rw [show ((5 : Int32) + (own_sz p0)) = (10 : Int32) from by rw [own_sz_0_5 p0 hs hlo0 hhi0]; rfl]
      have ng0 : ((-p0)).toInt < 0 := by omega
      have dq0 := own_div ng0
      have hlo1 : (((-p0) / (100 : Int32))).toInt ≤ -100 := by omega
      have hhi1 : -1000 < (((-p0) / (100 : Int32))).toInt := by omega
      obtain ⟨q0, hq0⟩ : ∃ z, z = ((-p0) / (100 : Int32)) := ⟨_, rfl⟩
      rw [← hq0] at hlo1 hhi1
      obtain ⟨r0, hr0⟩ : ∃ z, z = ((q0 * (100 : Int32)) - (-p0)) := ⟨_, rfl⟩
      refine sg_T hw hx hby hZ hown S1 S2 neD1 neD2 g_a1 X0 e0 N0 Z0 (Keep.refl h0 [a1]) O0 VA1 VA2 V1 (n1 := 9) (n2 := 8) (Or.inl rfl) (Or.inl rfl) hq0 hr0 (by omega) (by decide) (by decide) rfl rfl (Nat.le_of_ble_eq_true rfl) (Nat.le_of_ble_eq_true rfl) ?_
      intro T17 L17 h17 X17 e17 N17 f17_0 f17_1 f17_2 f17_3 f17_4 V17
      show oG p e below P m T17 22 #[(vI q0), (vI 10), (vR a1), (vI q0), (vI r0), (vI 8), (vI 0)] []
      have ng1 : (q0).toInt < 0 := by omega
      have dq1 := own_div ng1
      have hlo2 : ((q0 / (100 : Int32))).toInt ≤ -1 := by omega
      have hhi2 : -10 < ((q0 / (100 : Int32))).toInt := by omega
      obtain ⟨q1, hq1⟩ : ∃ z, z = (q0 / (100 : Int32)) := ⟨_, rfl⟩
      rw [← hq1] at hlo2 hhi2
      obtain ⟨r1, hr1⟩ : ∃ z, z = ((q1 * (100 : Int32)) - q0) := ⟨_, rfl⟩
      refine sg_T hw hx hby hZ hown S1 S2 neD1 neD2 g_a1 X17 e17 N17 f17_0 f17_1 f17_2 f17_3 f17_4 V17 (n1 := 7) (n2 := 6) (Or.inr ⟨_, rfl⟩) (Or.inr ⟨_, rfl⟩) hq1 hr1 (by omega) (by decide) (by decide) rfl rfl (Nat.le_of_ble_eq_true rfl) (Nat.le_of_ble_eq_true rfl) ?_
      intro T18 L18 h18 X18 e18 N18 f18_0 f18_1 f18_2 f18_3 f18_4 V18
      show oG p e below P m T18 22 #[(vI q1), (vI 10), (vR a1), (vI q1), (vI r1), (vI 6), (vI 0)] []
      refine sg_U0_1 hw hx hby hZ hown S1 S2 neD1 neD2 g_a1 X18 e18 N18 f18_0 f18_1 f18_2 f18_3 f18_4 V18 (by omega) (by omega) ?_
      intro T19 L19 h19 X19 e19 N19 f19_0 f19_1 f19_2 f19_3 f19_4 V19
      show oG p e below P m T19 118 #[(vI q1), (vI 10), (vR a1), (vI q1), (vI r1), (vI 5), (vI 0)] []
      refine w_iload X19 hx hby dj33_12_118 rfl ?_
      refine own_fin hP hlk X19 (v := some (.int 5)) (fun h => by rw [hret] at h; cases h) (by decide) (by decide) ?_ (fun fs hr => retOut X19 hx hret rfl (Or.inl ⟨rfl, Or.inl rfl, _, rfl⟩) (hb hby dj33_12_120) hr)
      rw [e19]
      subst hr1 hq1 hr0 hq0; exact ⟨rfl, N19, f19_1, (by rw [own_dg_0_5 p0 hs hlo0 hhi0]; exact V19)⟩
    · rw [show ((5 : Int32) + (own_sz p0)) = (11 : Int32) from by rw [own_sz_0_6 p0 hs hlo0 hhi0]; rfl]
      have ng0 : ((-p0)).toInt < 0 := by omega
      have dq0 := own_div ng0
      have hlo1 : (((-p0) / (100 : Int32))).toInt ≤ -1000 := by omega
      have hhi1 : -10000 < (((-p0) / (100 : Int32))).toInt := by omega
      obtain ⟨q0, hq0⟩ : ∃ z, z = ((-p0) / (100 : Int32)) := ⟨_, rfl⟩
      rw [← hq0] at hlo1 hhi1
      obtain ⟨r0, hr0⟩ : ∃ z, z = ((q0 * (100 : Int32)) - (-p0)) := ⟨_, rfl⟩
      refine sg_T hw hx hby hZ hown S1 S2 neD1 neD2 g_a1 X0 e0 N0 Z0 (Keep.refl h0 [a1]) O0 VA1 VA2 V1 (n1 := 10) (n2 := 9) (Or.inl rfl) (Or.inl rfl) hq0 hr0 (by omega) (by decide) (by decide) rfl rfl (Nat.le_of_ble_eq_true rfl) (Nat.le_of_ble_eq_true rfl) ?_
      intro T20 L20 h20 X20 e20 N20 f20_0 f20_1 f20_2 f20_3 f20_4 V20
      show oG p e below P m T20 22 #[(vI q0), (vI 11), (vR a1), (vI q0), (vI r0), (vI 9), (vI 0)] []
      have ng1 : (q0).toInt < 0 := by omega
      have dq1 := own_div ng1
      have hlo2 : ((q0 / (100 : Int32))).toInt ≤ -10 := by omega
      have hhi2 : -100 < ((q0 / (100 : Int32))).toInt := by omega
      obtain ⟨q1, hq1⟩ : ∃ z, z = (q0 / (100 : Int32)) := ⟨_, rfl⟩
      rw [← hq1] at hlo2 hhi2
      obtain ⟨r1, hr1⟩ : ∃ z, z = ((q1 * (100 : Int32)) - q0) := ⟨_, rfl⟩
      refine sg_T hw hx hby hZ hown S1 S2 neD1 neD2 g_a1 X20 e20 N20 f20_0 f20_1 f20_2 f20_3 f20_4 V20 (n1 := 8) (n2 := 7) (Or.inr ⟨_, rfl⟩) (Or.inr ⟨_, rfl⟩) hq1 hr1 (by omega) (by decide) (by decide) rfl rfl (Nat.le_of_ble_eq_true rfl) (Nat.le_of_ble_eq_true rfl) ?_
      intro T21 L21 h21 X21 e21 N21 f21_0 f21_1 f21_2 f21_3 f21_4 V21
      show oG p e below P m T21 22 #[(vI q1), (vI 11), (vR a1), (vI q1), (vI r1), (vI 7), (vI 0)] []
      refine sg_U0_2 hw hx hby hZ hown S1 S2 neD1 neD2 g_a1 X21 e21 N21 f21_0 f21_1 f21_2 f21_3 f21_4 V21 (by omega) (by omega) ?_
      intro T22 L22 h22 X22 e22 N22 f22_0 f22_1 f22_2 f22_3 f22_4 V22
      show oG p e below P m T22 118 #[(vI q1), (vI 11), (vR a1), (vI q1), (vI r1), (vI 5), (vI 0)] []
      refine w_iload X22 hx hby dj33_12_118 rfl ?_
      refine own_fin hP hlk X22 (v := some (.int 5)) (fun h => by rw [hret] at h; cases h) (by decide) (by decide) ?_ (fun fs hr => retOut X22 hx hret rfl (Or.inl ⟨rfl, Or.inl rfl, _, rfl⟩) (hb hby dj33_12_120) hr)
      rw [e22]
      subst hr1 hq1 hr0 hq0; exact ⟨rfl, N22, f22_1, (by rw [own_dg_0_6 p0 hs hlo0 hhi0]; exact V22)⟩
    · rw [show ((5 : Int32) + (own_sz p0)) = (12 : Int32) from by rw [own_sz_0_7 p0 hs hlo0 hhi0]; rfl]
      have ng0 : ((-p0)).toInt < 0 := by omega
      have dq0 := own_div ng0
      have hlo1 : (((-p0) / (100 : Int32))).toInt ≤ -10000 := by omega
      have hhi1 : -100000 < (((-p0) / (100 : Int32))).toInt := by omega
      obtain ⟨q0, hq0⟩ : ∃ z, z = ((-p0) / (100 : Int32)) := ⟨_, rfl⟩
      rw [← hq0] at hlo1 hhi1
      obtain ⟨r0, hr0⟩ : ∃ z, z = ((q0 * (100 : Int32)) - (-p0)) := ⟨_, rfl⟩
      refine sg_T hw hx hby hZ hown S1 S2 neD1 neD2 g_a1 X0 e0 N0 Z0 (Keep.refl h0 [a1]) O0 VA1 VA2 V1 (n1 := 11) (n2 := 10) (Or.inl rfl) (Or.inl rfl) hq0 hr0 (by omega) (by decide) (by decide) rfl rfl (Nat.le_of_ble_eq_true rfl) (Nat.le_of_ble_eq_true rfl) ?_
      intro T23 L23 h23 X23 e23 N23 f23_0 f23_1 f23_2 f23_3 f23_4 V23
      show oG p e below P m T23 22 #[(vI q0), (vI 12), (vR a1), (vI q0), (vI r0), (vI 10), (vI 0)] []
      have ng1 : (q0).toInt < 0 := by omega
      have dq1 := own_div ng1
      have hlo2 : ((q0 / (100 : Int32))).toInt ≤ -100 := by omega
      have hhi2 : -1000 < ((q0 / (100 : Int32))).toInt := by omega
      obtain ⟨q1, hq1⟩ : ∃ z, z = (q0 / (100 : Int32)) := ⟨_, rfl⟩
      rw [← hq1] at hlo2 hhi2
      obtain ⟨r1, hr1⟩ : ∃ z, z = ((q1 * (100 : Int32)) - q0) := ⟨_, rfl⟩
      refine sg_T hw hx hby hZ hown S1 S2 neD1 neD2 g_a1 X23 e23 N23 f23_0 f23_1 f23_2 f23_3 f23_4 V23 (n1 := 9) (n2 := 8) (Or.inr ⟨_, rfl⟩) (Or.inr ⟨_, rfl⟩) hq1 hr1 (by omega) (by decide) (by decide) rfl rfl (Nat.le_of_ble_eq_true rfl) (Nat.le_of_ble_eq_true rfl) ?_
      intro T24 L24 h24 X24 e24 N24 f24_0 f24_1 f24_2 f24_3 f24_4 V24
      show oG p e below P m T24 22 #[(vI q1), (vI 12), (vR a1), (vI q1), (vI r1), (vI 8), (vI 0)] []
      have ng2 : (q1).toInt < 0 := by omega
      have dq2 := own_div ng2
      have hlo3 : ((q1 / (100 : Int32))).toInt ≤ -1 := by omega
      have hhi3 : -10 < ((q1 / (100 : Int32))).toInt := by omega
      obtain ⟨q2, hq2⟩ : ∃ z, z = (q1 / (100 : Int32)) := ⟨_, rfl⟩
      rw [← hq2] at hlo3 hhi3
      obtain ⟨r2, hr2⟩ : ∃ z, z = ((q2 * (100 : Int32)) - q1) := ⟨_, rfl⟩
      refine sg_T hw hx hby hZ hown S1 S2 neD1 neD2 g_a1 X24 e24 N24 f24_0 f24_1 f24_2 f24_3 f24_4 V24 (n1 := 7) (n2 := 6) (Or.inr ⟨_, rfl⟩) (Or.inr ⟨_, rfl⟩) hq2 hr2 (by omega) (by decide) (by decide) rfl rfl (Nat.le_of_ble_eq_true rfl) (Nat.le_of_ble_eq_true rfl) ?_
      intro T25 L25 h25 X25 e25 N25 f25_0 f25_1 f25_2 f25_3 f25_4 V25
      show oG p e below P m T25 22 #[(vI q2), (vI 12), (vR a1), (vI q2), (vI r2), (vI 6), (vI 0)] []
      refine sg_U0_1 hw hx hby hZ hown S1 S2 neD1 neD2 g_a1 X25 e25 N25 f25_0 f25_1 f25_2 f25_3 f25_4 V25 (by omega) (by omega) ?_
      intro T26 L26 h26 X26 e26 N26 f26_0 f26_1 f26_2 f26_3 f26_4 V26
      show oG p e below P m T26 118 #[(vI q2), (vI 12), (vR a1), (vI q2), (vI r2), (vI 5), (vI 0)] []
      refine w_iload X26 hx hby dj33_12_118 rfl ?_
      refine own_fin hP hlk X26 (v := some (.int 5)) (fun h => by rw [hret] at h; cases h) (by decide) (by decide) ?_ (fun fs hr => retOut X26 hx hret rfl (Or.inl ⟨rfl, Or.inl rfl, _, rfl⟩) (hb hby dj33_12_120) hr)
      rw [e26]
      subst hr2 hq2 hr1 hq1 hr0 hq0; exact ⟨rfl, N26, f26_1, (by rw [own_dg_0_7 p0 hs hlo0 hhi0]; exact V26)⟩
    · rw [show ((5 : Int32) + (own_sz p0)) = (13 : Int32) from by rw [own_sz_0_8 p0 hs hlo0 hhi0]; rfl]
      have ng0 : ((-p0)).toInt < 0 := by omega
      have dq0 := own_div ng0
      have hlo1 : (((-p0) / (100 : Int32))).toInt ≤ -100000 := by omega
      have hhi1 : -1000000 < (((-p0) / (100 : Int32))).toInt := by omega
      obtain ⟨q0, hq0⟩ : ∃ z, z = ((-p0) / (100 : Int32)) := ⟨_, rfl⟩
      rw [← hq0] at hlo1 hhi1
      obtain ⟨r0, hr0⟩ : ∃ z, z = ((q0 * (100 : Int32)) - (-p0)) := ⟨_, rfl⟩
      refine sg_T hw hx hby hZ hown S1 S2 neD1 neD2 g_a1 X0 e0 N0 Z0 (Keep.refl h0 [a1]) O0 VA1 VA2 V1 (n1 := 12) (n2 := 11) (Or.inl rfl) (Or.inl rfl) hq0 hr0 (by omega) (by decide) (by decide) rfl rfl (Nat.le_of_ble_eq_true rfl) (Nat.le_of_ble_eq_true rfl) ?_
      intro T27 L27 h27 X27 e27 N27 f27_0 f27_1 f27_2 f27_3 f27_4 V27
      show oG p e below P m T27 22 #[(vI q0), (vI 13), (vR a1), (vI q0), (vI r0), (vI 11), (vI 0)] []
      have ng1 : (q0).toInt < 0 := by omega
      have dq1 := own_div ng1
      have hlo2 : ((q0 / (100 : Int32))).toInt ≤ -1000 := by omega
      have hhi2 : -10000 < ((q0 / (100 : Int32))).toInt := by omega
      obtain ⟨q1, hq1⟩ : ∃ z, z = (q0 / (100 : Int32)) := ⟨_, rfl⟩
      rw [← hq1] at hlo2 hhi2
      obtain ⟨r1, hr1⟩ : ∃ z, z = ((q1 * (100 : Int32)) - q0) := ⟨_, rfl⟩
      refine sg_T hw hx hby hZ hown S1 S2 neD1 neD2 g_a1 X27 e27 N27 f27_0 f27_1 f27_2 f27_3 f27_4 V27 (n1 := 10) (n2 := 9) (Or.inr ⟨_, rfl⟩) (Or.inr ⟨_, rfl⟩) hq1 hr1 (by omega) (by decide) (by decide) rfl rfl (Nat.le_of_ble_eq_true rfl) (Nat.le_of_ble_eq_true rfl) ?_
      intro T28 L28 h28 X28 e28 N28 f28_0 f28_1 f28_2 f28_3 f28_4 V28
      show oG p e below P m T28 22 #[(vI q1), (vI 13), (vR a1), (vI q1), (vI r1), (vI 9), (vI 0)] []
      have ng2 : (q1).toInt < 0 := by omega
      have dq2 := own_div ng2
      have hlo3 : ((q1 / (100 : Int32))).toInt ≤ -10 := by omega
      have hhi3 : -100 < ((q1 / (100 : Int32))).toInt := by omega
      obtain ⟨q2, hq2⟩ : ∃ z, z = (q1 / (100 : Int32)) := ⟨_, rfl⟩
      rw [← hq2] at hlo3 hhi3
      obtain ⟨r2, hr2⟩ : ∃ z, z = ((q2 * (100 : Int32)) - q1) := ⟨_, rfl⟩
      refine sg_T hw hx hby hZ hown S1 S2 neD1 neD2 g_a1 X28 e28 N28 f28_0 f28_1 f28_2 f28_3 f28_4 V28 (n1 := 8) (n2 := 7) (Or.inr ⟨_, rfl⟩) (Or.inr ⟨_, rfl⟩) hq2 hr2 (by omega) (by decide) (by decide) rfl rfl (Nat.le_of_ble_eq_true rfl) (Nat.le_of_ble_eq_true rfl) ?_
      intro T29 L29 h29 X29 e29 N29 f29_0 f29_1 f29_2 f29_3 f29_4 V29
      show oG p e below P m T29 22 #[(vI q2), (vI 13), (vR a1), (vI q2), (vI r2), (vI 7), (vI 0)] []
      refine sg_U0_2 hw hx hby hZ hown S1 S2 neD1 neD2 g_a1 X29 e29 N29 f29_0 f29_1 f29_2 f29_3 f29_4 V29 (by omega) (by omega) ?_
      intro T30 L30 h30 X30 e30 N30 f30_0 f30_1 f30_2 f30_3 f30_4 V30
      show oG p e below P m T30 118 #[(vI q2), (vI 13), (vR a1), (vI q2), (vI r2), (vI 5), (vI 0)] []
      refine w_iload X30 hx hby dj33_12_118 rfl ?_
      refine own_fin hP hlk X30 (v := some (.int 5)) (fun h => by rw [hret] at h; cases h) (by decide) (by decide) ?_ (fun fs hr => retOut X30 hx hret rfl (Or.inl ⟨rfl, Or.inl rfl, _, rfl⟩) (hb hby dj33_12_120) hr)
      rw [e30]
      subst hr2 hq2 hr1 hq1 hr0 hq0; exact ⟨rfl, N30, f30_1, (by rw [own_dg_0_8 p0 hs hlo0 hhi0]; exact V30)⟩
    · rw [show ((5 : Int32) + (own_sz p0)) = (14 : Int32) from by rw [own_sz_0_9 p0 hs hlo0 hhi0]; rfl]
      have ng0 : ((-p0)).toInt < 0 := by omega
      have dq0 := own_div ng0
      have hlo1 : (((-p0) / (100 : Int32))).toInt ≤ -1000000 := by omega
      have hhi1 : -10000000 < (((-p0) / (100 : Int32))).toInt := by omega
      obtain ⟨q0, hq0⟩ : ∃ z, z = ((-p0) / (100 : Int32)) := ⟨_, rfl⟩
      rw [← hq0] at hlo1 hhi1
      obtain ⟨r0, hr0⟩ : ∃ z, z = ((q0 * (100 : Int32)) - (-p0)) := ⟨_, rfl⟩
      refine sg_T hw hx hby hZ hown S1 S2 neD1 neD2 g_a1 X0 e0 N0 Z0 (Keep.refl h0 [a1]) O0 VA1 VA2 V1 (n1 := 13) (n2 := 12) (Or.inl rfl) (Or.inl rfl) hq0 hr0 (by omega) (by decide) (by decide) rfl rfl (Nat.le_of_ble_eq_true rfl) (Nat.le_of_ble_eq_true rfl) ?_
      intro T31 L31 h31 X31 e31 N31 f31_0 f31_1 f31_2 f31_3 f31_4 V31
      show oG p e below P m T31 22 #[(vI q0), (vI 14), (vR a1), (vI q0), (vI r0), (vI 12), (vI 0)] []
      have ng1 : (q0).toInt < 0 := by omega
      have dq1 := own_div ng1
      have hlo2 : ((q0 / (100 : Int32))).toInt ≤ -10000 := by omega
      have hhi2 : -100000 < ((q0 / (100 : Int32))).toInt := by omega
      obtain ⟨q1, hq1⟩ : ∃ z, z = (q0 / (100 : Int32)) := ⟨_, rfl⟩
      rw [← hq1] at hlo2 hhi2
      obtain ⟨r1, hr1⟩ : ∃ z, z = ((q1 * (100 : Int32)) - q0) := ⟨_, rfl⟩
      refine sg_T hw hx hby hZ hown S1 S2 neD1 neD2 g_a1 X31 e31 N31 f31_0 f31_1 f31_2 f31_3 f31_4 V31 (n1 := 11) (n2 := 10) (Or.inr ⟨_, rfl⟩) (Or.inr ⟨_, rfl⟩) hq1 hr1 (by omega) (by decide) (by decide) rfl rfl (Nat.le_of_ble_eq_true rfl) (Nat.le_of_ble_eq_true rfl) ?_
      intro T32 L32 h32 X32 e32 N32 f32_0 f32_1 f32_2 f32_3 f32_4 V32
      show oG p e below P m T32 22 #[(vI q1), (vI 14), (vR a1), (vI q1), (vI r1), (vI 10), (vI 0)] []
      have ng2 : (q1).toInt < 0 := by omega
      have dq2 := own_div ng2
      have hlo3 : ((q1 / (100 : Int32))).toInt ≤ -100 := by omega
      have hhi3 : -1000 < ((q1 / (100 : Int32))).toInt := by omega
      obtain ⟨q2, hq2⟩ : ∃ z, z = (q1 / (100 : Int32)) := ⟨_, rfl⟩
      rw [← hq2] at hlo3 hhi3
      obtain ⟨r2, hr2⟩ : ∃ z, z = ((q2 * (100 : Int32)) - q1) := ⟨_, rfl⟩
      refine sg_T hw hx hby hZ hown S1 S2 neD1 neD2 g_a1 X32 e32 N32 f32_0 f32_1 f32_2 f32_3 f32_4 V32 (n1 := 9) (n2 := 8) (Or.inr ⟨_, rfl⟩) (Or.inr ⟨_, rfl⟩) hq2 hr2 (by omega) (by decide) (by decide) rfl rfl (Nat.le_of_ble_eq_true rfl) (Nat.le_of_ble_eq_true rfl) ?_
      intro T33 L33 h33 X33 e33 N33 f33_0 f33_1 f33_2 f33_3 f33_4 V33
      show oG p e below P m T33 22 #[(vI q2), (vI 14), (vR a1), (vI q2), (vI r2), (vI 8), (vI 0)] []
      have ng3 : (q2).toInt < 0 := by omega
      have dq3 := own_div ng3
      have hlo4 : ((q2 / (100 : Int32))).toInt ≤ -1 := by omega
      have hhi4 : -10 < ((q2 / (100 : Int32))).toInt := by omega
      obtain ⟨q3, hq3⟩ : ∃ z, z = (q2 / (100 : Int32)) := ⟨_, rfl⟩
      rw [← hq3] at hlo4 hhi4
      obtain ⟨r3, hr3⟩ : ∃ z, z = ((q3 * (100 : Int32)) - q2) := ⟨_, rfl⟩
      refine sg_T hw hx hby hZ hown S1 S2 neD1 neD2 g_a1 X33 e33 N33 f33_0 f33_1 f33_2 f33_3 f33_4 V33 (n1 := 7) (n2 := 6) (Or.inr ⟨_, rfl⟩) (Or.inr ⟨_, rfl⟩) hq3 hr3 (by omega) (by decide) (by decide) rfl rfl (Nat.le_of_ble_eq_true rfl) (Nat.le_of_ble_eq_true rfl) ?_
      intro T34 L34 h34 X34 e34 N34 f34_0 f34_1 f34_2 f34_3 f34_4 V34
      show oG p e below P m T34 22 #[(vI q3), (vI 14), (vR a1), (vI q3), (vI r3), (vI 6), (vI 0)] []
      refine sg_U0_1 hw hx hby hZ hown S1 S2 neD1 neD2 g_a1 X34 e34 N34 f34_0 f34_1 f34_2 f34_3 f34_4 V34 (by omega) (by omega) ?_
      intro T35 L35 h35 X35 e35 N35 f35_0 f35_1 f35_2 f35_3 f35_4 V35
      show oG p e below P m T35 118 #[(vI q3), (vI 14), (vR a1), (vI q3), (vI r3), (vI 5), (vI 0)] []
      refine w_iload X35 hx hby dj33_12_118 rfl ?_
      refine own_fin hP hlk X35 (v := some (.int 5)) (fun h => by rw [hret] at h; cases h) (by decide) (by decide) ?_ (fun fs hr => retOut X35 hx hret rfl (Or.inl ⟨rfl, Or.inl rfl, _, rfl⟩) (hb hby dj33_12_120) hr)
      rw [e35]
      subst hr3 hq3 hr2 hq2 hr1 hq1 hr0 hq0; exact ⟨rfl, N35, f35_1, (by rw [own_dg_0_9 p0 hs hlo0 hhi0]; exact V35)⟩
    · rw [show ((5 : Int32) + (own_sz p0)) = (15 : Int32) from by rw [own_sz_0_10 p0 hs hlo0 hhi0]; rfl]
      have ng0 : ((-p0)).toInt < 0 := by omega
      have dq0 := own_div ng0
      have hlo1 : (((-p0) / (100 : Int32))).toInt ≤ -10000000 := by omega
      have hhi1 : -100000000 < (((-p0) / (100 : Int32))).toInt := by omega
      obtain ⟨q0, hq0⟩ : ∃ z, z = ((-p0) / (100 : Int32)) := ⟨_, rfl⟩
      rw [← hq0] at hlo1 hhi1
      obtain ⟨r0, hr0⟩ : ∃ z, z = ((q0 * (100 : Int32)) - (-p0)) := ⟨_, rfl⟩
      refine sg_T hw hx hby hZ hown S1 S2 neD1 neD2 g_a1 X0 e0 N0 Z0 (Keep.refl h0 [a1]) O0 VA1 VA2 V1 (n1 := 14) (n2 := 13) (Or.inl rfl) (Or.inl rfl) hq0 hr0 (by omega) (by decide) (by decide) rfl rfl (Nat.le_of_ble_eq_true rfl) (Nat.le_of_ble_eq_true rfl) ?_
      intro T36 L36 h36 X36 e36 N36 f36_0 f36_1 f36_2 f36_3 f36_4 V36
      show oG p e below P m T36 22 #[(vI q0), (vI 15), (vR a1), (vI q0), (vI r0), (vI 13), (vI 0)] []
      have ng1 : (q0).toInt < 0 := by omega
      have dq1 := own_div ng1
      have hlo2 : ((q0 / (100 : Int32))).toInt ≤ -100000 := by omega
      have hhi2 : -1000000 < ((q0 / (100 : Int32))).toInt := by omega
      obtain ⟨q1, hq1⟩ : ∃ z, z = (q0 / (100 : Int32)) := ⟨_, rfl⟩
      rw [← hq1] at hlo2 hhi2
      obtain ⟨r1, hr1⟩ : ∃ z, z = ((q1 * (100 : Int32)) - q0) := ⟨_, rfl⟩
      refine sg_T hw hx hby hZ hown S1 S2 neD1 neD2 g_a1 X36 e36 N36 f36_0 f36_1 f36_2 f36_3 f36_4 V36 (n1 := 12) (n2 := 11) (Or.inr ⟨_, rfl⟩) (Or.inr ⟨_, rfl⟩) hq1 hr1 (by omega) (by decide) (by decide) rfl rfl (Nat.le_of_ble_eq_true rfl) (Nat.le_of_ble_eq_true rfl) ?_
      intro T37 L37 h37 X37 e37 N37 f37_0 f37_1 f37_2 f37_3 f37_4 V37
      show oG p e below P m T37 22 #[(vI q1), (vI 15), (vR a1), (vI q1), (vI r1), (vI 11), (vI 0)] []
      have ng2 : (q1).toInt < 0 := by omega
      have dq2 := own_div ng2
      have hlo3 : ((q1 / (100 : Int32))).toInt ≤ -1000 := by omega
      have hhi3 : -10000 < ((q1 / (100 : Int32))).toInt := by omega
      obtain ⟨q2, hq2⟩ : ∃ z, z = (q1 / (100 : Int32)) := ⟨_, rfl⟩
      rw [← hq2] at hlo3 hhi3
      obtain ⟨r2, hr2⟩ : ∃ z, z = ((q2 * (100 : Int32)) - q1) := ⟨_, rfl⟩
      refine sg_T hw hx hby hZ hown S1 S2 neD1 neD2 g_a1 X37 e37 N37 f37_0 f37_1 f37_2 f37_3 f37_4 V37 (n1 := 10) (n2 := 9) (Or.inr ⟨_, rfl⟩) (Or.inr ⟨_, rfl⟩) hq2 hr2 (by omega) (by decide) (by decide) rfl rfl (Nat.le_of_ble_eq_true rfl) (Nat.le_of_ble_eq_true rfl) ?_
      intro T38 L38 h38 X38 e38 N38 f38_0 f38_1 f38_2 f38_3 f38_4 V38
      show oG p e below P m T38 22 #[(vI q2), (vI 15), (vR a1), (vI q2), (vI r2), (vI 9), (vI 0)] []
      have ng3 : (q2).toInt < 0 := by omega
      have dq3 := own_div ng3
      have hlo4 : ((q2 / (100 : Int32))).toInt ≤ -10 := by omega
      have hhi4 : -100 < ((q2 / (100 : Int32))).toInt := by omega
      obtain ⟨q3, hq3⟩ : ∃ z, z = (q2 / (100 : Int32)) := ⟨_, rfl⟩
      rw [← hq3] at hlo4 hhi4
      obtain ⟨r3, hr3⟩ : ∃ z, z = ((q3 * (100 : Int32)) - q2) := ⟨_, rfl⟩
      refine sg_T hw hx hby hZ hown S1 S2 neD1 neD2 g_a1 X38 e38 N38 f38_0 f38_1 f38_2 f38_3 f38_4 V38 (n1 := 8) (n2 := 7) (Or.inr ⟨_, rfl⟩) (Or.inr ⟨_, rfl⟩) hq3 hr3 (by omega) (by decide) (by decide) rfl rfl (Nat.le_of_ble_eq_true rfl) (Nat.le_of_ble_eq_true rfl) ?_
      intro T39 L39 h39 X39 e39 N39 f39_0 f39_1 f39_2 f39_3 f39_4 V39
      show oG p e below P m T39 22 #[(vI q3), (vI 15), (vR a1), (vI q3), (vI r3), (vI 7), (vI 0)] []
      refine sg_U0_2 hw hx hby hZ hown S1 S2 neD1 neD2 g_a1 X39 e39 N39 f39_0 f39_1 f39_2 f39_3 f39_4 V39 (by omega) (by omega) ?_
      intro T40 L40 h40 X40 e40 N40 f40_0 f40_1 f40_2 f40_3 f40_4 V40
      show oG p e below P m T40 118 #[(vI q3), (vI 15), (vR a1), (vI q3), (vI r3), (vI 5), (vI 0)] []
      refine w_iload X40 hx hby dj33_12_118 rfl ?_
      refine own_fin hP hlk X40 (v := some (.int 5)) (fun h => by rw [hret] at h; cases h) (by decide) (by decide) ?_ (fun fs hr => retOut X40 hx hret rfl (Or.inl ⟨rfl, Or.inl rfl, _, rfl⟩) (hb hby dj33_12_120) hr)
      rw [e40]
      subst hr3 hq3 hr2 hq2 hr1 hq1 hr0 hq0; exact ⟨rfl, N40, f40_1, (by rw [own_dg_0_10 p0 hs hlo0 hhi0]; exact V40)⟩
  · show oG p e below P m s₁ 0 #[(vI p0), (vI ((5 : Int32) + (own_sz p0))), (vR a1), .unset, .unset, .unset, .unset] []
    refine w_iloadN X0 hx hby dj33_12_0 rfl ?_
    refine w_istore X0 hx hby dj33_12_1 (l' := #[(vI p0), (vI ((5 : Int32) + (own_sz p0))), (vR a1), .unset, .unset, (vI ((5 : Int32) + (own_sz p0))), .unset]) rfl ?_
    refine w_iloadN X0 hx hby dj33_12_3 rfl ?_
    refine w_ifNo X0 hx hby dj33_12_4 (XT.i0_ge_f hs) ?_
    refine w_iconst X0 hx hby dj33_12_7 (v := 1) rfl ?_
    refine w_goto X0 hx hby dj33_12_8 (pc' := 12) (by decide) ?_
    refine w_istore X0 hx hby dj33_12_12 (l' := #[(vI p0), (vI ((5 : Int32) + (own_sz p0))), (vR a1), .unset, .unset, (vI ((5 : Int32) + (own_sz p0))), (vI 1)]) rfl ?_
    refine w_iload X0 hx hby dj33_12_14 rfl ?_
    refine w_ifYes X0 hx hby dj33_12_16 (pc' := 22) (XT.i0_ne_t (by decide : ¬ (1 : Int32) = (0 : Int32))) (by decide) ?_
    rcases hh with ⟨hlo0, hhi0⟩ | ⟨hlo0, hhi0⟩ | ⟨hlo0, hhi0⟩ | ⟨hlo0, hhi0⟩ | ⟨hlo0, hhi0⟩ | ⟨hlo0, hhi0⟩ | ⟨hlo0, hhi0⟩ | ⟨hlo0, hhi0⟩ | ⟨hlo0, hhi0⟩ | ⟨hlo0, hhi0⟩
    · rw [show ((5 : Int32) + (own_sz p0)) = (7 : Int32) from by rw [own_sz_1_1 p0 hs hlo0 hhi0]; rfl]
      refine sg_U1_1 hw hx hby hZ hown S1 S2 neD1 neD2 g_a1 X0 e0 N0 Z0 (Keep.refl h0 [a1]) O0 VA1 VA2 V1 (by omega) (by omega) ?_
      intro T41 L41 h41 X41 e41 N41 f41_0 f41_1 f41_2 f41_3 f41_4 V41
      show oG p e below P m T41 118 #[(vI p0), (vI 7), (vR a1), .unset, .unset, (vI 5), (vI 1)] []
      refine w_iload X41 hx hby dj33_12_118 rfl ?_
      refine own_fin hP hlk X41 (v := some (.int 5)) (fun h => by rw [hret] at h; cases h) (by decide) (by decide) ?_ (fun fs hr => retOut X41 hx hret rfl (Or.inl ⟨rfl, Or.inl rfl, _, rfl⟩) (hb hby dj33_12_120) hr)
      rw [e41]
      exact ⟨rfl, N41, f41_1, (by rw [own_dg_1_1 p0 hs hlo0 hhi0]; exact V41)⟩
    · rw [show ((5 : Int32) + (own_sz p0)) = (8 : Int32) from by rw [own_sz_1_2 p0 hs hlo0 hhi0]; rfl]
      refine sg_U1_2 hw hx hby hZ hown S1 S2 neD1 neD2 g_a1 X0 e0 N0 Z0 (Keep.refl h0 [a1]) O0 VA1 VA2 V1 (by omega) (by omega) ?_
      intro T42 L42 h42 X42 e42 N42 f42_0 f42_1 f42_2 f42_3 f42_4 V42
      show oG p e below P m T42 118 #[(vI p0), (vI 8), (vR a1), .unset, .unset, (vI 5), (vI 1)] []
      refine w_iload X42 hx hby dj33_12_118 rfl ?_
      refine own_fin hP hlk X42 (v := some (.int 5)) (fun h => by rw [hret] at h; cases h) (by decide) (by decide) ?_ (fun fs hr => retOut X42 hx hret rfl (Or.inl ⟨rfl, Or.inl rfl, _, rfl⟩) (hb hby dj33_12_120) hr)
      rw [e42]
      exact ⟨rfl, N42, f42_1, (by rw [own_dg_1_2 p0 hs hlo0 hhi0]; exact V42)⟩
    · rw [show ((5 : Int32) + (own_sz p0)) = (9 : Int32) from by rw [own_sz_1_3 p0 hs hlo0 hhi0]; rfl]
      have ng0 : (p0).toInt < 0 := by omega
      have dq0 := own_div ng0
      have hlo1 : ((p0 / (100 : Int32))).toInt ≤ -1 := by omega
      have hhi1 : -10 < ((p0 / (100 : Int32))).toInt := by omega
      obtain ⟨q0, hq0⟩ : ∃ z, z = (p0 / (100 : Int32)) := ⟨_, rfl⟩
      rw [← hq0] at hlo1 hhi1
      obtain ⟨r0, hr0⟩ : ∃ z, z = ((q0 * (100 : Int32)) - p0) := ⟨_, rfl⟩
      refine sg_T hw hx hby hZ hown S1 S2 neD1 neD2 g_a1 X0 e0 N0 Z0 (Keep.refl h0 [a1]) O0 VA1 VA2 V1 (n1 := 8) (n2 := 7) (Or.inl rfl) (Or.inl rfl) hq0 hr0 (by omega) (by decide) (by decide) rfl rfl (Nat.le_of_ble_eq_true rfl) (Nat.le_of_ble_eq_true rfl) ?_
      intro T43 L43 h43 X43 e43 N43 f43_0 f43_1 f43_2 f43_3 f43_4 V43
      show oG p e below P m T43 22 #[(vI q0), (vI 9), (vR a1), (vI q0), (vI r0), (vI 7), (vI 1)] []
      refine sg_U1_1 hw hx hby hZ hown S1 S2 neD1 neD2 g_a1 X43 e43 N43 f43_0 f43_1 f43_2 f43_3 f43_4 V43 (by omega) (by omega) ?_
      intro T44 L44 h44 X44 e44 N44 f44_0 f44_1 f44_2 f44_3 f44_4 V44
      show oG p e below P m T44 118 #[(vI q0), (vI 9), (vR a1), (vI q0), (vI r0), (vI 5), (vI 1)] []
      refine w_iload X44 hx hby dj33_12_118 rfl ?_
      refine own_fin hP hlk X44 (v := some (.int 5)) (fun h => by rw [hret] at h; cases h) (by decide) (by decide) ?_ (fun fs hr => retOut X44 hx hret rfl (Or.inl ⟨rfl, Or.inl rfl, _, rfl⟩) (hb hby dj33_12_120) hr)
      rw [e44]
      subst hr0 hq0; exact ⟨rfl, N44, f44_1, (by rw [own_dg_1_3 p0 hs hlo0 hhi0]; exact V44)⟩
    · rw [show ((5 : Int32) + (own_sz p0)) = (10 : Int32) from by rw [own_sz_1_4 p0 hs hlo0 hhi0]; rfl]
      have ng0 : (p0).toInt < 0 := by omega
      have dq0 := own_div ng0
      have hlo1 : ((p0 / (100 : Int32))).toInt ≤ -10 := by omega
      have hhi1 : -100 < ((p0 / (100 : Int32))).toInt := by omega
      obtain ⟨q0, hq0⟩ : ∃ z, z = (p0 / (100 : Int32)) := ⟨_, rfl⟩
      rw [← hq0] at hlo1 hhi1
      obtain ⟨r0, hr0⟩ : ∃ z, z = ((q0 * (100 : Int32)) - p0) := ⟨_, rfl⟩
      refine sg_T hw hx hby hZ hown S1 S2 neD1 neD2 g_a1 X0 e0 N0 Z0 (Keep.refl h0 [a1]) O0 VA1 VA2 V1 (n1 := 9) (n2 := 8) (Or.inl rfl) (Or.inl rfl) hq0 hr0 (by omega) (by decide) (by decide) rfl rfl (Nat.le_of_ble_eq_true rfl) (Nat.le_of_ble_eq_true rfl) ?_
      intro T45 L45 h45 X45 e45 N45 f45_0 f45_1 f45_2 f45_3 f45_4 V45
      show oG p e below P m T45 22 #[(vI q0), (vI 10), (vR a1), (vI q0), (vI r0), (vI 8), (vI 1)] []
      refine sg_U1_2 hw hx hby hZ hown S1 S2 neD1 neD2 g_a1 X45 e45 N45 f45_0 f45_1 f45_2 f45_3 f45_4 V45 (by omega) (by omega) ?_
      intro T46 L46 h46 X46 e46 N46 f46_0 f46_1 f46_2 f46_3 f46_4 V46
      show oG p e below P m T46 118 #[(vI q0), (vI 10), (vR a1), (vI q0), (vI r0), (vI 5), (vI 1)] []
      refine w_iload X46 hx hby dj33_12_118 rfl ?_
      refine own_fin hP hlk X46 (v := some (.int 5)) (fun h => by rw [hret] at h; cases h) (by decide) (by decide) ?_ (fun fs hr => retOut X46 hx hret rfl (Or.inl ⟨rfl, Or.inl rfl, _, rfl⟩) (hb hby dj33_12_120) hr)
      rw [e46]
      subst hr0 hq0; exact ⟨rfl, N46, f46_1, (by rw [own_dg_1_4 p0 hs hlo0 hhi0]; exact V46)⟩
    · rw [show ((5 : Int32) + (own_sz p0)) = (11 : Int32) from by rw [own_sz_1_5 p0 hs hlo0 hhi0]; rfl]
      have ng0 : (p0).toInt < 0 := by omega
      have dq0 := own_div ng0
      have hlo1 : ((p0 / (100 : Int32))).toInt ≤ -100 := by omega
      have hhi1 : -1000 < ((p0 / (100 : Int32))).toInt := by omega
      obtain ⟨q0, hq0⟩ : ∃ z, z = (p0 / (100 : Int32)) := ⟨_, rfl⟩
      rw [← hq0] at hlo1 hhi1
      obtain ⟨r0, hr0⟩ : ∃ z, z = ((q0 * (100 : Int32)) - p0) := ⟨_, rfl⟩
      refine sg_T hw hx hby hZ hown S1 S2 neD1 neD2 g_a1 X0 e0 N0 Z0 (Keep.refl h0 [a1]) O0 VA1 VA2 V1 (n1 := 10) (n2 := 9) (Or.inl rfl) (Or.inl rfl) hq0 hr0 (by omega) (by decide) (by decide) rfl rfl (Nat.le_of_ble_eq_true rfl) (Nat.le_of_ble_eq_true rfl) ?_
      intro T47 L47 h47 X47 e47 N47 f47_0 f47_1 f47_2 f47_3 f47_4 V47
      show oG p e below P m T47 22 #[(vI q0), (vI 11), (vR a1), (vI q0), (vI r0), (vI 9), (vI 1)] []
      have ng1 : (q0).toInt < 0 := by omega
      have dq1 := own_div ng1
      have hlo2 : ((q0 / (100 : Int32))).toInt ≤ -1 := by omega
      have hhi2 : -10 < ((q0 / (100 : Int32))).toInt := by omega
      obtain ⟨q1, hq1⟩ : ∃ z, z = (q0 / (100 : Int32)) := ⟨_, rfl⟩
      rw [← hq1] at hlo2 hhi2
      obtain ⟨r1, hr1⟩ : ∃ z, z = ((q1 * (100 : Int32)) - q0) := ⟨_, rfl⟩
      refine sg_T hw hx hby hZ hown S1 S2 neD1 neD2 g_a1 X47 e47 N47 f47_0 f47_1 f47_2 f47_3 f47_4 V47 (n1 := 8) (n2 := 7) (Or.inr ⟨_, rfl⟩) (Or.inr ⟨_, rfl⟩) hq1 hr1 (by omega) (by decide) (by decide) rfl rfl (Nat.le_of_ble_eq_true rfl) (Nat.le_of_ble_eq_true rfl) ?_
      intro T48 L48 h48 X48 e48 N48 f48_0 f48_1 f48_2 f48_3 f48_4 V48
      show oG p e below P m T48 22 #[(vI q1), (vI 11), (vR a1), (vI q1), (vI r1), (vI 7), (vI 1)] []
      refine sg_U1_1 hw hx hby hZ hown S1 S2 neD1 neD2 g_a1 X48 e48 N48 f48_0 f48_1 f48_2 f48_3 f48_4 V48 (by omega) (by omega) ?_
      intro T49 L49 h49 X49 e49 N49 f49_0 f49_1 f49_2 f49_3 f49_4 V49
      show oG p e below P m T49 118 #[(vI q1), (vI 11), (vR a1), (vI q1), (vI r1), (vI 5), (vI 1)] []
      refine w_iload X49 hx hby dj33_12_118 rfl ?_
      refine own_fin hP hlk X49 (v := some (.int 5)) (fun h => by rw [hret] at h; cases h) (by decide) (by decide) ?_ (fun fs hr => retOut X49 hx hret rfl (Or.inl ⟨rfl, Or.inl rfl, _, rfl⟩) (hb hby dj33_12_120) hr)
      rw [e49]
      subst hr1 hq1 hr0 hq0; exact ⟨rfl, N49, f49_1, (by rw [own_dg_1_5 p0 hs hlo0 hhi0]; exact V49)⟩
    · rw [show ((5 : Int32) + (own_sz p0)) = (12 : Int32) from by rw [own_sz_1_6 p0 hs hlo0 hhi0]; rfl]
      have ng0 : (p0).toInt < 0 := by omega
      have dq0 := own_div ng0
      have hlo1 : ((p0 / (100 : Int32))).toInt ≤ -1000 := by omega
      have hhi1 : -10000 < ((p0 / (100 : Int32))).toInt := by omega
      obtain ⟨q0, hq0⟩ : ∃ z, z = (p0 / (100 : Int32)) := ⟨_, rfl⟩
      rw [← hq0] at hlo1 hhi1
      obtain ⟨r0, hr0⟩ : ∃ z, z = ((q0 * (100 : Int32)) - p0) := ⟨_, rfl⟩
      refine sg_T hw hx hby hZ hown S1 S2 neD1 neD2 g_a1 X0 e0 N0 Z0 (Keep.refl h0 [a1]) O0 VA1 VA2 V1 (n1 := 11) (n2 := 10) (Or.inl rfl) (Or.inl rfl) hq0 hr0 (by omega) (by decide) (by decide) rfl rfl (Nat.le_of_ble_eq_true rfl) (Nat.le_of_ble_eq_true rfl) ?_
      intro T50 L50 h50 X50 e50 N50 f50_0 f50_1 f50_2 f50_3 f50_4 V50
      show oG p e below P m T50 22 #[(vI q0), (vI 12), (vR a1), (vI q0), (vI r0), (vI 10), (vI 1)] []
      have ng1 : (q0).toInt < 0 := by omega
      have dq1 := own_div ng1
      have hlo2 : ((q0 / (100 : Int32))).toInt ≤ -10 := by omega
      have hhi2 : -100 < ((q0 / (100 : Int32))).toInt := by omega
      obtain ⟨q1, hq1⟩ : ∃ z, z = (q0 / (100 : Int32)) := ⟨_, rfl⟩
      rw [← hq1] at hlo2 hhi2
      obtain ⟨r1, hr1⟩ : ∃ z, z = ((q1 * (100 : Int32)) - q0) := ⟨_, rfl⟩
      refine sg_T hw hx hby hZ hown S1 S2 neD1 neD2 g_a1 X50 e50 N50 f50_0 f50_1 f50_2 f50_3 f50_4 V50 (n1 := 9) (n2 := 8) (Or.inr ⟨_, rfl⟩) (Or.inr ⟨_, rfl⟩) hq1 hr1 (by omega) (by decide) (by decide) rfl rfl (Nat.le_of_ble_eq_true rfl) (Nat.le_of_ble_eq_true rfl) ?_
      intro T51 L51 h51 X51 e51 N51 f51_0 f51_1 f51_2 f51_3 f51_4 V51
      show oG p e below P m T51 22 #[(vI q1), (vI 12), (vR a1), (vI q1), (vI r1), (vI 8), (vI 1)] []
      refine sg_U1_2 hw hx hby hZ hown S1 S2 neD1 neD2 g_a1 X51 e51 N51 f51_0 f51_1 f51_2 f51_3 f51_4 V51 (by omega) (by omega) ?_
      intro T52 L52 h52 X52 e52 N52 f52_0 f52_1 f52_2 f52_3 f52_4 V52
      show oG p e below P m T52 118 #[(vI q1), (vI 12), (vR a1), (vI q1), (vI r1), (vI 5), (vI 1)] []
      refine w_iload X52 hx hby dj33_12_118 rfl ?_
      refine own_fin hP hlk X52 (v := some (.int 5)) (fun h => by rw [hret] at h; cases h) (by decide) (by decide) ?_ (fun fs hr => retOut X52 hx hret rfl (Or.inl ⟨rfl, Or.inl rfl, _, rfl⟩) (hb hby dj33_12_120) hr)
      rw [e52]
      subst hr1 hq1 hr0 hq0; exact ⟨rfl, N52, f52_1, (by rw [own_dg_1_6 p0 hs hlo0 hhi0]; exact V52)⟩
    · rw [show ((5 : Int32) + (own_sz p0)) = (13 : Int32) from by rw [own_sz_1_7 p0 hs hlo0 hhi0]; rfl]
      have ng0 : (p0).toInt < 0 := by omega
      have dq0 := own_div ng0
      have hlo1 : ((p0 / (100 : Int32))).toInt ≤ -10000 := by omega
      have hhi1 : -100000 < ((p0 / (100 : Int32))).toInt := by omega
      obtain ⟨q0, hq0⟩ : ∃ z, z = (p0 / (100 : Int32)) := ⟨_, rfl⟩
      rw [← hq0] at hlo1 hhi1
      obtain ⟨r0, hr0⟩ : ∃ z, z = ((q0 * (100 : Int32)) - p0) := ⟨_, rfl⟩
      refine sg_T hw hx hby hZ hown S1 S2 neD1 neD2 g_a1 X0 e0 N0 Z0 (Keep.refl h0 [a1]) O0 VA1 VA2 V1 (n1 := 12) (n2 := 11) (Or.inl rfl) (Or.inl rfl) hq0 hr0 (by omega) (by decide) (by decide) rfl rfl (Nat.le_of_ble_eq_true rfl) (Nat.le_of_ble_eq_true rfl) ?_
      intro T53 L53 h53 X53 e53 N53 f53_0 f53_1 f53_2 f53_3 f53_4 V53
      show oG p e below P m T53 22 #[(vI q0), (vI 13), (vR a1), (vI q0), (vI r0), (vI 11), (vI 1)] []
      have ng1 : (q0).toInt < 0 := by omega
      have dq1 := own_div ng1
      have hlo2 : ((q0 / (100 : Int32))).toInt ≤ -100 := by omega
      have hhi2 : -1000 < ((q0 / (100 : Int32))).toInt := by omega
      obtain ⟨q1, hq1⟩ : ∃ z, z = (q0 / (100 : Int32)) := ⟨_, rfl⟩
      rw [← hq1] at hlo2 hhi2
      obtain ⟨r1, hr1⟩ : ∃ z, z = ((q1 * (100 : Int32)) - q0) := ⟨_, rfl⟩
      refine sg_T hw hx hby hZ hown S1 S2 neD1 neD2 g_a1 X53 e53 N53 f53_0 f53_1 f53_2 f53_3 f53_4 V53 (n1 := 10) (n2 := 9) (Or.inr ⟨_, rfl⟩) (Or.inr ⟨_, rfl⟩) hq1 hr1 (by omega) (by decide) (by decide) rfl rfl (Nat.le_of_ble_eq_true rfl) (Nat.le_of_ble_eq_true rfl) ?_
      intro T54 L54 h54 X54 e54 N54 f54_0 f54_1 f54_2 f54_3 f54_4 V54
      show oG p e below P m T54 22 #[(vI q1), (vI 13), (vR a1), (vI q1), (vI r1), (vI 9), (vI 1)] []
      have ng2 : (q1).toInt < 0 := by omega
      have dq2 := own_div ng2
      have hlo3 : ((q1 / (100 : Int32))).toInt ≤ -1 := by omega
      have hhi3 : -10 < ((q1 / (100 : Int32))).toInt := by omega
      obtain ⟨q2, hq2⟩ : ∃ z, z = (q1 / (100 : Int32)) := ⟨_, rfl⟩
      rw [← hq2] at hlo3 hhi3
      obtain ⟨r2, hr2⟩ : ∃ z, z = ((q2 * (100 : Int32)) - q1) := ⟨_, rfl⟩
      refine sg_T hw hx hby hZ hown S1 S2 neD1 neD2 g_a1 X54 e54 N54 f54_0 f54_1 f54_2 f54_3 f54_4 V54 (n1 := 8) (n2 := 7) (Or.inr ⟨_, rfl⟩) (Or.inr ⟨_, rfl⟩) hq2 hr2 (by omega) (by decide) (by decide) rfl rfl (Nat.le_of_ble_eq_true rfl) (Nat.le_of_ble_eq_true rfl) ?_
      intro T55 L55 h55 X55 e55 N55 f55_0 f55_1 f55_2 f55_3 f55_4 V55
      show oG p e below P m T55 22 #[(vI q2), (vI 13), (vR a1), (vI q2), (vI r2), (vI 7), (vI 1)] []
      refine sg_U1_1 hw hx hby hZ hown S1 S2 neD1 neD2 g_a1 X55 e55 N55 f55_0 f55_1 f55_2 f55_3 f55_4 V55 (by omega) (by omega) ?_
      intro T56 L56 h56 X56 e56 N56 f56_0 f56_1 f56_2 f56_3 f56_4 V56
      show oG p e below P m T56 118 #[(vI q2), (vI 13), (vR a1), (vI q2), (vI r2), (vI 5), (vI 1)] []
      refine w_iload X56 hx hby dj33_12_118 rfl ?_
      refine own_fin hP hlk X56 (v := some (.int 5)) (fun h => by rw [hret] at h; cases h) (by decide) (by decide) ?_ (fun fs hr => retOut X56 hx hret rfl (Or.inl ⟨rfl, Or.inl rfl, _, rfl⟩) (hb hby dj33_12_120) hr)
      rw [e56]
      subst hr2 hq2 hr1 hq1 hr0 hq0; exact ⟨rfl, N56, f56_1, (by rw [own_dg_1_7 p0 hs hlo0 hhi0]; exact V56)⟩
    · rw [show ((5 : Int32) + (own_sz p0)) = (14 : Int32) from by rw [own_sz_1_8 p0 hs hlo0 hhi0]; rfl]
      have ng0 : (p0).toInt < 0 := by omega
      have dq0 := own_div ng0
      have hlo1 : ((p0 / (100 : Int32))).toInt ≤ -100000 := by omega
      have hhi1 : -1000000 < ((p0 / (100 : Int32))).toInt := by omega
      obtain ⟨q0, hq0⟩ : ∃ z, z = (p0 / (100 : Int32)) := ⟨_, rfl⟩
      rw [← hq0] at hlo1 hhi1
      obtain ⟨r0, hr0⟩ : ∃ z, z = ((q0 * (100 : Int32)) - p0) := ⟨_, rfl⟩
      refine sg_T hw hx hby hZ hown S1 S2 neD1 neD2 g_a1 X0 e0 N0 Z0 (Keep.refl h0 [a1]) O0 VA1 VA2 V1 (n1 := 13) (n2 := 12) (Or.inl rfl) (Or.inl rfl) hq0 hr0 (by omega) (by decide) (by decide) rfl rfl (Nat.le_of_ble_eq_true rfl) (Nat.le_of_ble_eq_true rfl) ?_
      intro T57 L57 h57 X57 e57 N57 f57_0 f57_1 f57_2 f57_3 f57_4 V57
      show oG p e below P m T57 22 #[(vI q0), (vI 14), (vR a1), (vI q0), (vI r0), (vI 12), (vI 1)] []
      have ng1 : (q0).toInt < 0 := by omega
      have dq1 := own_div ng1
      have hlo2 : ((q0 / (100 : Int32))).toInt ≤ -1000 := by omega
      have hhi2 : -10000 < ((q0 / (100 : Int32))).toInt := by omega
      obtain ⟨q1, hq1⟩ : ∃ z, z = (q0 / (100 : Int32)) := ⟨_, rfl⟩
      rw [← hq1] at hlo2 hhi2
      obtain ⟨r1, hr1⟩ : ∃ z, z = ((q1 * (100 : Int32)) - q0) := ⟨_, rfl⟩
      refine sg_T hw hx hby hZ hown S1 S2 neD1 neD2 g_a1 X57 e57 N57 f57_0 f57_1 f57_2 f57_3 f57_4 V57 (n1 := 11) (n2 := 10) (Or.inr ⟨_, rfl⟩) (Or.inr ⟨_, rfl⟩) hq1 hr1 (by omega) (by decide) (by decide) rfl rfl (Nat.le_of_ble_eq_true rfl) (Nat.le_of_ble_eq_true rfl) ?_
      intro T58 L58 h58 X58 e58 N58 f58_0 f58_1 f58_2 f58_3 f58_4 V58
      show oG p e below P m T58 22 #[(vI q1), (vI 14), (vR a1), (vI q1), (vI r1), (vI 10), (vI 1)] []
      have ng2 : (q1).toInt < 0 := by omega
      have dq2 := own_div ng2
      have hlo3 : ((q1 / (100 : Int32))).toInt ≤ -10 := by omega
      have hhi3 : -100 < ((q1 / (100 : Int32))).toInt := by omega
      obtain ⟨q2, hq2⟩ : ∃ z, z = (q1 / (100 : Int32)) := ⟨_, rfl⟩
      rw [← hq2] at hlo3 hhi3
      obtain ⟨r2, hr2⟩ : ∃ z, z = ((q2 * (100 : Int32)) - q1) := ⟨_, rfl⟩
      refine sg_T hw hx hby hZ hown S1 S2 neD1 neD2 g_a1 X58 e58 N58 f58_0 f58_1 f58_2 f58_3 f58_4 V58 (n1 := 9) (n2 := 8) (Or.inr ⟨_, rfl⟩) (Or.inr ⟨_, rfl⟩) hq2 hr2 (by omega) (by decide) (by decide) rfl rfl (Nat.le_of_ble_eq_true rfl) (Nat.le_of_ble_eq_true rfl) ?_
      intro T59 L59 h59 X59 e59 N59 f59_0 f59_1 f59_2 f59_3 f59_4 V59
      show oG p e below P m T59 22 #[(vI q2), (vI 14), (vR a1), (vI q2), (vI r2), (vI 8), (vI 1)] []
      refine sg_U1_2 hw hx hby hZ hown S1 S2 neD1 neD2 g_a1 X59 e59 N59 f59_0 f59_1 f59_2 f59_3 f59_4 V59 (by omega) (by omega) ?_
      intro T60 L60 h60 X60 e60 N60 f60_0 f60_1 f60_2 f60_3 f60_4 V60
      show oG p e below P m T60 118 #[(vI q2), (vI 14), (vR a1), (vI q2), (vI r2), (vI 5), (vI 1)] []
      refine w_iload X60 hx hby dj33_12_118 rfl ?_
      refine own_fin hP hlk X60 (v := some (.int 5)) (fun h => by rw [hret] at h; cases h) (by decide) (by decide) ?_ (fun fs hr => retOut X60 hx hret rfl (Or.inl ⟨rfl, Or.inl rfl, _, rfl⟩) (hb hby dj33_12_120) hr)
      rw [e60]
      subst hr2 hq2 hr1 hq1 hr0 hq0; exact ⟨rfl, N60, f60_1, (by rw [own_dg_1_8 p0 hs hlo0 hhi0]; exact V60)⟩
    · rw [show ((5 : Int32) + (own_sz p0)) = (15 : Int32) from by rw [own_sz_1_9 p0 hs hlo0 hhi0]; rfl]
      have ng0 : (p0).toInt < 0 := by omega
      have dq0 := own_div ng0
      have hlo1 : ((p0 / (100 : Int32))).toInt ≤ -1000000 := by omega
      have hhi1 : -10000000 < ((p0 / (100 : Int32))).toInt := by omega
      obtain ⟨q0, hq0⟩ : ∃ z, z = (p0 / (100 : Int32)) := ⟨_, rfl⟩
      rw [← hq0] at hlo1 hhi1
      obtain ⟨r0, hr0⟩ : ∃ z, z = ((q0 * (100 : Int32)) - p0) := ⟨_, rfl⟩
      refine sg_T hw hx hby hZ hown S1 S2 neD1 neD2 g_a1 X0 e0 N0 Z0 (Keep.refl h0 [a1]) O0 VA1 VA2 V1 (n1 := 14) (n2 := 13) (Or.inl rfl) (Or.inl rfl) hq0 hr0 (by omega) (by decide) (by decide) rfl rfl (Nat.le_of_ble_eq_true rfl) (Nat.le_of_ble_eq_true rfl) ?_
      intro T61 L61 h61 X61 e61 N61 f61_0 f61_1 f61_2 f61_3 f61_4 V61
      show oG p e below P m T61 22 #[(vI q0), (vI 15), (vR a1), (vI q0), (vI r0), (vI 13), (vI 1)] []
      have ng1 : (q0).toInt < 0 := by omega
      have dq1 := own_div ng1
      have hlo2 : ((q0 / (100 : Int32))).toInt ≤ -10000 := by omega
      have hhi2 : -100000 < ((q0 / (100 : Int32))).toInt := by omega
      obtain ⟨q1, hq1⟩ : ∃ z, z = (q0 / (100 : Int32)) := ⟨_, rfl⟩
      rw [← hq1] at hlo2 hhi2
      obtain ⟨r1, hr1⟩ : ∃ z, z = ((q1 * (100 : Int32)) - q0) := ⟨_, rfl⟩
      refine sg_T hw hx hby hZ hown S1 S2 neD1 neD2 g_a1 X61 e61 N61 f61_0 f61_1 f61_2 f61_3 f61_4 V61 (n1 := 12) (n2 := 11) (Or.inr ⟨_, rfl⟩) (Or.inr ⟨_, rfl⟩) hq1 hr1 (by omega) (by decide) (by decide) rfl rfl (Nat.le_of_ble_eq_true rfl) (Nat.le_of_ble_eq_true rfl) ?_
      intro T62 L62 h62 X62 e62 N62 f62_0 f62_1 f62_2 f62_3 f62_4 V62
      show oG p e below P m T62 22 #[(vI q1), (vI 15), (vR a1), (vI q1), (vI r1), (vI 11), (vI 1)] []
      have ng2 : (q1).toInt < 0 := by omega
      have dq2 := own_div ng2
      have hlo3 : ((q1 / (100 : Int32))).toInt ≤ -100 := by omega
      have hhi3 : -1000 < ((q1 / (100 : Int32))).toInt := by omega
      obtain ⟨q2, hq2⟩ : ∃ z, z = (q1 / (100 : Int32)) := ⟨_, rfl⟩
      rw [← hq2] at hlo3 hhi3
      obtain ⟨r2, hr2⟩ : ∃ z, z = ((q2 * (100 : Int32)) - q1) := ⟨_, rfl⟩
      refine sg_T hw hx hby hZ hown S1 S2 neD1 neD2 g_a1 X62 e62 N62 f62_0 f62_1 f62_2 f62_3 f62_4 V62 (n1 := 10) (n2 := 9) (Or.inr ⟨_, rfl⟩) (Or.inr ⟨_, rfl⟩) hq2 hr2 (by omega) (by decide) (by decide) rfl rfl (Nat.le_of_ble_eq_true rfl) (Nat.le_of_ble_eq_true rfl) ?_
      intro T63 L63 h63 X63 e63 N63 f63_0 f63_1 f63_2 f63_3 f63_4 V63
      show oG p e below P m T63 22 #[(vI q2), (vI 15), (vR a1), (vI q2), (vI r2), (vI 9), (vI 1)] []
      have ng3 : (q2).toInt < 0 := by omega
      have dq3 := own_div ng3
      have hlo4 : ((q2 / (100 : Int32))).toInt ≤ -1 := by omega
      have hhi4 : -10 < ((q2 / (100 : Int32))).toInt := by omega
      obtain ⟨q3, hq3⟩ : ∃ z, z = (q2 / (100 : Int32)) := ⟨_, rfl⟩
      rw [← hq3] at hlo4 hhi4
      obtain ⟨r3, hr3⟩ : ∃ z, z = ((q3 * (100 : Int32)) - q2) := ⟨_, rfl⟩
      refine sg_T hw hx hby hZ hown S1 S2 neD1 neD2 g_a1 X63 e63 N63 f63_0 f63_1 f63_2 f63_3 f63_4 V63 (n1 := 8) (n2 := 7) (Or.inr ⟨_, rfl⟩) (Or.inr ⟨_, rfl⟩) hq3 hr3 (by omega) (by decide) (by decide) rfl rfl (Nat.le_of_ble_eq_true rfl) (Nat.le_of_ble_eq_true rfl) ?_
      intro T64 L64 h64 X64 e64 N64 f64_0 f64_1 f64_2 f64_3 f64_4 V64
      show oG p e below P m T64 22 #[(vI q3), (vI 15), (vR a1), (vI q3), (vI r3), (vI 7), (vI 1)] []
      refine sg_U1_1 hw hx hby hZ hown S1 S2 neD1 neD2 g_a1 X64 e64 N64 f64_0 f64_1 f64_2 f64_3 f64_4 V64 (by omega) (by omega) ?_
      intro T65 L65 h65 X65 e65 N65 f65_0 f65_1 f65_2 f65_3 f65_4 V65
      show oG p e below P m T65 118 #[(vI q3), (vI 15), (vR a1), (vI q3), (vI r3), (vI 5), (vI 1)] []
      refine w_iload X65 hx hby dj33_12_118 rfl ?_
      refine own_fin hP hlk X65 (v := some (.int 5)) (fun h => by rw [hret] at h; cases h) (by decide) (by decide) ?_ (fun fs hr => retOut X65 hx hret rfl (Or.inl ⟨rfl, Or.inl rfl, _, rfl⟩) (hb hby dj33_12_120) hr)
      rw [e65]
      subst hr3 hq3 hr2 hq2 hr1 hq1 hr0 hq0; exact ⟨rfl, N65, f65_1, (by rw [own_dg_1_9 p0 hs hlo0 hhi0]; exact V65)⟩
    · rw [show ((5 : Int32) + (own_sz p0)) = (16 : Int32) from by rw [own_sz_1_10 p0 hs hlo0 hhi0]; rfl]
      have ng0 : (p0).toInt < 0 := by omega
      have dq0 := own_div ng0
      have hlo1 : ((p0 / (100 : Int32))).toInt ≤ -10000000 := by omega
      have hhi1 : -100000000 < ((p0 / (100 : Int32))).toInt := by omega
      obtain ⟨q0, hq0⟩ : ∃ z, z = (p0 / (100 : Int32)) := ⟨_, rfl⟩
      rw [← hq0] at hlo1 hhi1
      obtain ⟨r0, hr0⟩ : ∃ z, z = ((q0 * (100 : Int32)) - p0) := ⟨_, rfl⟩
      refine sg_T hw hx hby hZ hown S1 S2 neD1 neD2 g_a1 X0 e0 N0 Z0 (Keep.refl h0 [a1]) O0 VA1 VA2 V1 (n1 := 15) (n2 := 14) (Or.inl rfl) (Or.inl rfl) hq0 hr0 (by omega) (by decide) (by decide) rfl rfl (Nat.le_of_ble_eq_true rfl) (Nat.le_of_ble_eq_true rfl) ?_
      intro T66 L66 h66 X66 e66 N66 f66_0 f66_1 f66_2 f66_3 f66_4 V66
      show oG p e below P m T66 22 #[(vI q0), (vI 16), (vR a1), (vI q0), (vI r0), (vI 14), (vI 1)] []
      have ng1 : (q0).toInt < 0 := by omega
      have dq1 := own_div ng1
      have hlo2 : ((q0 / (100 : Int32))).toInt ≤ -100000 := by omega
      have hhi2 : -1000000 < ((q0 / (100 : Int32))).toInt := by omega
      obtain ⟨q1, hq1⟩ : ∃ z, z = (q0 / (100 : Int32)) := ⟨_, rfl⟩
      rw [← hq1] at hlo2 hhi2
      obtain ⟨r1, hr1⟩ : ∃ z, z = ((q1 * (100 : Int32)) - q0) := ⟨_, rfl⟩
      refine sg_T hw hx hby hZ hown S1 S2 neD1 neD2 g_a1 X66 e66 N66 f66_0 f66_1 f66_2 f66_3 f66_4 V66 (n1 := 13) (n2 := 12) (Or.inr ⟨_, rfl⟩) (Or.inr ⟨_, rfl⟩) hq1 hr1 (by omega) (by decide) (by decide) rfl rfl (Nat.le_of_ble_eq_true rfl) (Nat.le_of_ble_eq_true rfl) ?_
      intro T67 L67 h67 X67 e67 N67 f67_0 f67_1 f67_2 f67_3 f67_4 V67
      show oG p e below P m T67 22 #[(vI q1), (vI 16), (vR a1), (vI q1), (vI r1), (vI 12), (vI 1)] []
      have ng2 : (q1).toInt < 0 := by omega
      have dq2 := own_div ng2
      have hlo3 : ((q1 / (100 : Int32))).toInt ≤ -1000 := by omega
      have hhi3 : -10000 < ((q1 / (100 : Int32))).toInt := by omega
      obtain ⟨q2, hq2⟩ : ∃ z, z = (q1 / (100 : Int32)) := ⟨_, rfl⟩
      rw [← hq2] at hlo3 hhi3
      obtain ⟨r2, hr2⟩ : ∃ z, z = ((q2 * (100 : Int32)) - q1) := ⟨_, rfl⟩
      refine sg_T hw hx hby hZ hown S1 S2 neD1 neD2 g_a1 X67 e67 N67 f67_0 f67_1 f67_2 f67_3 f67_4 V67 (n1 := 11) (n2 := 10) (Or.inr ⟨_, rfl⟩) (Or.inr ⟨_, rfl⟩) hq2 hr2 (by omega) (by decide) (by decide) rfl rfl (Nat.le_of_ble_eq_true rfl) (Nat.le_of_ble_eq_true rfl) ?_
      intro T68 L68 h68 X68 e68 N68 f68_0 f68_1 f68_2 f68_3 f68_4 V68
      show oG p e below P m T68 22 #[(vI q2), (vI 16), (vR a1), (vI q2), (vI r2), (vI 10), (vI 1)] []
      have ng3 : (q2).toInt < 0 := by omega
      have dq3 := own_div ng3
      have hlo4 : ((q2 / (100 : Int32))).toInt ≤ -10 := by omega
      have hhi4 : -100 < ((q2 / (100 : Int32))).toInt := by omega
      obtain ⟨q3, hq3⟩ : ∃ z, z = (q2 / (100 : Int32)) := ⟨_, rfl⟩
      rw [← hq3] at hlo4 hhi4
      obtain ⟨r3, hr3⟩ : ∃ z, z = ((q3 * (100 : Int32)) - q2) := ⟨_, rfl⟩
      refine sg_T hw hx hby hZ hown S1 S2 neD1 neD2 g_a1 X68 e68 N68 f68_0 f68_1 f68_2 f68_3 f68_4 V68 (n1 := 9) (n2 := 8) (Or.inr ⟨_, rfl⟩) (Or.inr ⟨_, rfl⟩) hq3 hr3 (by omega) (by decide) (by decide) rfl rfl (Nat.le_of_ble_eq_true rfl) (Nat.le_of_ble_eq_true rfl) ?_
      intro T69 L69 h69 X69 e69 N69 f69_0 f69_1 f69_2 f69_3 f69_4 V69
      show oG p e below P m T69 22 #[(vI q3), (vI 16), (vR a1), (vI q3), (vI r3), (vI 8), (vI 1)] []
      refine sg_U1_2 hw hx hby hZ hown S1 S2 neD1 neD2 g_a1 X69 e69 N69 f69_0 f69_1 f69_2 f69_3 f69_4 V69 (by omega) (by omega) ?_
      intro T70 L70 h70 X70 e70 N70 f70_0 f70_1 f70_2 f70_3 f70_4 V70
      show oG p e below P m T70 118 #[(vI q3), (vI 16), (vR a1), (vI q3), (vI r3), (vI 5), (vI 1)] []
      refine w_iload X70 hx hby dj33_12_118 rfl ?_
      refine own_fin hP hlk X70 (v := some (.int 5)) (fun h => by rw [hret] at h; cases h) (by decide) (by decide) ?_ (fun fs hr => retOut X70 hx hret rfl (Or.inl ⟨rfl, Or.inl rfl, _, rfl⟩) (hb hby dj33_12_120) hr)
      rw [e70]
      subst hr3 hq3 hr2 hq2 hr1 hq1 hr0 hq0; exact ⟨rfl, N70, f70_1, (by rw [own_dg_1_10 p0 hs hlo0 hhi0]; exact V70)⟩
def Q_asbIA (Z : State) (a0_ : Addr) (d : Addr) (kd : ClassId) (p0 : Int32) (D1 : Addr) (kD1 : ClassId) (D2 : Addr) (kD2 : ClassId) (cs : Int32) (h0 : Heap) (n0 : Nat) (v : Option Value) (h : Heap) (L : List Loc) : Prop := v = some (.ref a0_) ∧ Fr n0 L ∧ Keep h0 h [a0_, d] ∧ Fld Z h a0_ "java/lang/AbstractStringBuilder" "value" "[B" (.ref d) ∧ Fld Z h a0_ "java/lang/AbstractStringBuilder" "coder" "B" (.int 0) ∧ Fld Z h a0_ "java/lang/AbstractStringBuilder" "count" "I" (.int ((5 : Int32) + (own_sz p0))) ∧ Arv Z h d kd .byte (16 : Int32) (own_full 16 (([(.int 108), (.int 105), (.int 110), (.int 101), (.int 32)] : List Value) ++ own_dg p0)) (.int 0)
theorem ef_asbIA (m : MethodId) (a0_ : Addr) (d : Addr) (kd : ClassId) (p0 : Int32) (D1 : Addr) (kD1 : ClassId) (D2 : Addr) (kD2 : ClassId) (cs : Int32) : entryFrame m #[(.ref a0_), (.int p0)] 4 = mkF m 0 #[(vR a0_), (vI p0), .unset, .unset] [] := by first | (simp [entryFrame, mkF, argsToLocals, Value.category]; done) | rfl
set_option maxRecDepth 65536 in
set_option maxHeartbeats 40000000 in
theorem rm_asbIA (l : Launch) (Z : State) (a0 : Array Value) (hw : oW a0 Z) (ws : List Jvm.Cond) (a0_ : Addr) (d : Addr) (kd : ClassId) (p0 : Int32) (D1 : Addr) (kD1 : ClassId) (D2 : Addr) (kD2 : ClassId) (cs : Int32) (h0 : Heap) (n0 : Nat) (Z0 : n0 ≤ h0.size) (O0 : Old Z n0 h0) (Scs : Sta Z Z.heap "java/lang/String" "COMPACT_STRINGS" "Z" (.int cs)) (hcs : ¬ cs = (0 : Int32)) (E0 : Exa Z h0 a0_ "java/lang/StringBuilder") (g_a0_ : n0 ≤ a0_) (FBv : Fld Z h0 a0_ "java/lang/AbstractStringBuilder" "value" "[B" (.ref d)) (FBc : Fld Z h0 a0_ "java/lang/AbstractStringBuilder" "coder" "B" (.int 0)) (FBn : Fld Z h0 a0_ "java/lang/AbstractStringBuilder" "count" "I" (.int 5)) (g_d : n0 ≤ d) (ne0d : a0_ ≠ d) (VB : Arv Z h0 d kd .byte (16 : Int32) [(.int 108), (.int 105), (.int 110), (.int 101), (.int 32), (.int 0), (.int 0), (.int 0), (.int 0), (.int 0), (.int 0), (.int 0), (.int 0), (.int 0), (.int 0), (.int 0)] (.int 0)) (S1 : Sta Z Z.heap "java/lang/Integer" "DigitOnes" "[B" (.ref D1)) (S2 : Sta Z Z.heap "java/lang/Integer" "DigitTens" "[B" (.ref D2)) (VD1 : Arv Z Z.heap D1 kD1 .byte (100 : Int32) own_ones (.int 0)) (VD2 : Arv Z Z.heap D2 kD2 .byte (100 : Int32) own_tens (.int 0)) :
    oM l oY14 jdk_68_method_32_code 4 (some (.object "java/lang/AbstractStringBuilder")) ws (own_R 1 0 0 20) #[(.ref a0_), (.int p0)] Z h0 (Q_asbIA Z a0_ d kd p0 D1 kD1 D2 kD2 cs h0 n0) := by
  refine own_open (n0 := n0) (cn := "java/lang/AbstractStringBuilder") rfl (plainFor_of_name pn_java_lang_AbstractStringBuilder) (fun m => ef_asbIA m a0_ d kd p0 D1 kD1 D2 kD2 cs) ?_
  intro p e s m below meth c s₁ P hx hby hml hown hnm X0 e0 N0 hlk hret hZ hP
  refine w_aloadN X0 hx hby dj68_32_0 rfl rfl ?_
  obtain ⟨T11, X11, e11, st11⟩ := getF X0 hx hZ hown (host := "") (Or.inl (tw_78 hw)) Via.refl e0 FBn (g := (mkF m 1 #[(vR a0_), (vI p0), .unset, .unset] [(.ref a0_)])) rfl rfl (hb hby dj68_32_1)
  refine Go.by st11 ?_
  show oG p e below P m T11 4 #[(vR a0_), (vI p0), .unset, .unset] [(.int 5)]
  refine w_istoreN X11 hx hby dj68_32_4 (l' := #[(vR a0_), (vI p0), (vI 5), .unset]) rfl ?_
  refine w_iloadN X11 hx hby dj68_32_5 rfl ?_
  refine w_iloadN X11 hx hby dj68_32_6 rfl ?_
  obtain ⟨_, _, ⟨T12, L12, k12, n12⟩, -, X12, ⟨Lc12, hQ12, l12, y12, z12⟩, st12⟩ := Jvm.LawKit.callS X11 hx (y := oY12) hown (mvT hZ (tw_114 hw)) (mvT hZ (tw_115 hw)) (mvT hZ (tw_116 hw)) (mvT hZ (tw_117 hw)) (by decide) (backOf (W := 1) (rm_ssizeA l Z a0 hw [] p0 h0 n0 Z0 ) hZ (tw_117 hw) (tw_116 hw) (by decide) (by decide)) (g := (mkF m 7 #[(vR a0_), (vI p0), (vI 5), .unset] [(.int p0), (.int 5)])) rfl (by rw [hml]; rfl) (argsL := [(.int p0)]) (rest := [(.int 5)]) (lenOf pd__I_I rfl) rfl (by show 2 * 0 + _ ≤ _; exact Nat.le_of_eq rfl) (hb hby dj68_32_7) (fun _ _ => ⟨rfl, e11, (by decide : 0 + 0 ≤ _), (by decide : 0 + 0 ≤ _)⟩)
  dsimp only [Pt.U, Pt.locs, Pt.cells, Pt.slots] at X12 l12 y12 z12 st12 hQ12
  subst l12 y12 z12
  obtain ⟨rfl, N12q, q12⟩ := hQ12
  have N12 := Fr.app N0 N12q
  refine Go.by (fun t k => st12 t k) ?_
  show oG p e below P m T12 10 #[(vR a0_), (vI p0), (vI 5), .unset] [(.int (own_sz p0)), (.int 5)]
  refine w_iadd X12 hx hby dj68_32_10 (v := ((5 : Int32) + (own_sz p0))) rfl ?_
  refine w_istoreN X12 hx hby dj68_32_11 (l' := #[(vR a0_), (vI p0), (vI 5), (vI ((5 : Int32) + (own_sz p0)))]) rfl ?_
  refine w_aloadN X12 hx hby dj68_32_12 rfl rfl ?_
  refine w_iloadN X12 hx hby dj68_32_13 rfl ?_
  obtain ⟨cq13, q13a, q13b⟩ := Exa.cell E0
  obtain ⟨_, _, ⟨T13, L13, k13, n13⟩, -, X13, ⟨Lc13, hQ13, l13, y13, z13⟩, st13⟩ := X12.privateBack hx (y := oY4) hown (mvT hZ (tw_80 hw)) (mvT hZ (tw_81 hw)) (own_selfP (args := #[(.ref a0_), (.int p0)]) (mvT hZ (tw_83 hw)) (mvT hZ (tw_81 hw)) (mvP hZ (tw_82 hw)) (by decide)) (Cond.privateMethod_at (args := #[]) (mvP hZ (tw_82 hw))) (mvT hZ (tw_84 hw)) (by decide) (backOf (W := 0) (rm_sbEnsN l Z a0 hw [] a0_ d kd (16 : Int32) [(.int 108), (.int 105), (.int 110), (.int 101), (.int 32), (.int 0), (.int 0), (.int 0), (.int 0), (.int 0), (.int 0), (.int 0), (.int 0), (.int 0), (.int 0), (.int 0)] ((5 : Int32) + (own_sz p0)) h0 n0 Z0 FBv FBc VB (own_szm p0)) hZ (tw_84 hw) (tw_47 hw) (by decide) (by decide)) (g := (mkF m 14 #[(vR a0_), (vI p0), (vI 5), (vI ((5 : Int32) + (own_sz p0)))] [(.int ((5 : Int32) + (own_sz p0))), (.ref a0_)])) rfl (by rw [hml]; rfl) (Steps.refl _) (a := a0_) (by rw [q12]; exact q13a) q13b (argsL := [(.int ((5 : Int32) + (own_sz p0)))]) (rest := []) (lenOf pd__I_V rfl) rfl (by show 2 * 0 + _ ≤ _; exact Nat.le_of_eq rfl) (hb hby dj68_32_14) (fun _ _ => ⟨rfl, q12, (by decide : 0 + 0 ≤ _), (by decide : 0 + 0 ≤ _)⟩)
  dsimp only [Pt.U, Pt.locs, Pt.cells, Pt.slots] at X13 l13 y13 z13 st13 hQ13
  subst l13 y13 z13
  obtain ⟨rfl, N13q, q13⟩ := hQ13
  have N13 := Fr.app N12 N13q
  refine Go.by (fun t k => st13.trans k) ?_
  show oG p e below P m T13 17 #[(vR a0_), (vI p0), (vI 5), (vI ((5 : Int32) + (own_sz p0)))] []
  refine w_aloadN X13 hx hby dj68_32_17 rfl rfl ?_
  obtain ⟨cq14, kq14, q14a, q14b, q14c⟩ := isOf hZ q13 E0
  obtain ⟨_, _, ⟨T14, L14, k14, n14⟩, -, X14, ⟨Lc14, hQ14, l14, y14, z14⟩, st14⟩ := X13.virtualBack hx (y := oY1) (z := oY1) hown (mvT hZ (tw_118 hw)) (mvT hZ (tw_119 hw)) (notFace_of_selects (args := #[]) (mvT hZ (tw_121 hw))) (mvT hZ (tw_121 hw)) (mvT hZ (tw_120 hw)) (by decide) (backOf (W := 0) (rm_sbLat l Z a0 hw [] a0_ cs h0 n0 Z0 O0 Scs hcs FBc) hZ (tw_122 hw) (tw_47 hw) (by decide) (by decide)) q14a q14c (g := (mkF m 18 #[(vR a0_), (vI p0), (vI 5), (vI ((5 : Int32) + (own_sz p0)))] [(.ref a0_)])) rfl (by rw [hml]; rfl) (Steps.refl _) (argsL := []) (rest := []) (lenOf pd___Z rfl) rfl (by show 2 * 0 + _ ≤ _; exact Nat.le_of_eq rfl) (hb hby dj68_32_18) (fun _ _ => ⟨rfl, q13, (by decide : 0 + 0 ≤ _), (by decide : 0 + 0 ≤ _)⟩)
  dsimp only [Pt.U, Pt.locs, Pt.cells, Pt.slots] at X14 l14 y14 z14 st14 hQ14
  subst l14 y14 z14
  obtain ⟨rfl, N14q, q14⟩ := hQ14
  have N14 := Fr.app N13 N14q
  refine Go.by (fun t k => st14.trans k) ?_
  show oG p e below P m T14 21 #[(vR a0_), (vI p0), (vI 5), (vI ((5 : Int32) + (own_sz p0)))] [(.int 1)]
  refine w_ifNo X14 hx hby dj68_32_21 (XT.i0_eq_f (by decide : ¬ (1 : Int32) = (0 : Int32))) ?_
  refine w_iloadN X14 hx hby dj68_32_24 rfl ?_
  refine w_iloadN X14 hx hby dj68_32_25 rfl ?_
  refine w_aloadN X14 hx hby dj68_32_26 rfl rfl ?_
  obtain ⟨T15, X15, e15, st15⟩ := getF X14 hx hZ hown (host := "") (Or.inl (tw_51 hw)) Via.refl q14 FBv (g := (mkF m 27 #[(vR a0_), (vI p0), (vI 5), (vI ((5 : Int32) + (own_sz p0)))] [(.ref a0_), (.int ((5 : Int32) + (own_sz p0))), (.int p0)])) rfl rfl (hb hby dj68_32_27)
  refine Go.by st15 ?_
  obtain ⟨_, _, ⟨T16, L16, k16, n16⟩, -, X16, ⟨Lc16, hQ16, l16, y16, z16⟩, st16⟩ := Jvm.LawKit.callS X15 hx (y := oY13) hown (mvT hZ (tw_123 hw)) (mvT hZ (tw_124 hw)) (mvT hZ (tw_116 hw)) (mvT hZ (tw_125 hw)) (by decide) (backOf (W := 0) (rm_getChA l Z a0 hw [] p0 d kd D1 kD1 D2 kD2 h0 n0 Z0 O0 S1 S2 VD1 VD2 VB g_d) hZ (tw_125 hw) (tw_116 hw) (by decide) (by decide)) (g := (mkF m 30 #[(vR a0_), (vI p0), (vI 5), (vI ((5 : Int32) + (own_sz p0)))] [(.ref d), (.int ((5 : Int32) + (own_sz p0))), (.int p0)])) rfl (by rw [hml]; rfl) (argsL := [(.int p0), (.int ((5 : Int32) + (own_sz p0))), (.ref d)]) (rest := []) (lenOf pd__II_B_I rfl) rfl (by show 2 * 0 + _ ≤ _; exact Nat.le_of_eq rfl) (hb hby dj68_32_30) (fun _ _ => ⟨rfl, e15, (by decide : 0 + 0 ≤ _), (by decide : 0 + 0 ≤ _)⟩)
  dsimp only [Pt.U, Pt.locs, Pt.cells, Pt.slots] at X16 l16 y16 z16 st16 hQ16
  subst l16 y16 z16
  obtain ⟨rfl, N16q, K16, V16⟩ := hQ16
  have N16 := Fr.app N14 N16q
  refine Go.by (fun t k => st16 t k) ?_
  have f16_0 := (Nat.le_trans Z0 K16.1)
  have f16_1 := (Keep.trans (Keep.refl h0 [a0_, d]) K16 (allS (Or.inl (List.mem_of_getElem? (i := 1) rfl)) all0))
  have f16_2 := (Old.keep O0 K16 (allS g_d all0))
  have f16_3 := (Exa.keep E0 K16)
  have f16_4 := (Fld.keep FBv K16 (ninS ne0d nin0))
  have f16_5 := (Fld.keep FBc K16 (ninS ne0d nin0))
  have f16_6 := (Fld.keep FBn K16 (ninS ne0d nin0))
  show oG p e below P m T16 33 #[(vR a0_), (vI p0), (vI 5), (vI ((5 : Int32) + (own_sz p0)))] [(.int 5)]
  refine w_pop X16 hx hby dj68_32_33 rfl ?_
  refine w_goto X16 hx hby dj68_32_34 (pc' := 48) (by decide) ?_
  refine w_aloadN X16 hx hby dj68_32_48 rfl rfl ?_
  refine w_iloadN X16 hx hby dj68_32_49 rfl ?_
  obtain ⟨T17, h17, X17, e17, W17, st17⟩ := putF X16 hx hZ hown (host := "") (Or.inl (tw_78 hw)) Via.refl rfl f16_6 f16_3 (Or.inl (tw_79 hw)) (tw_38 hw) (ty := .int) (by decide) rfl rfl (g := (mkF m 50 #[(vR a0_), (vI p0), (vI 5), (vI ((5 : Int32) + (own_sz p0)))] [(.int ((5 : Int32) + (own_sz p0))), (.ref a0_)])) rfl rfl (hb hby dj68_32_50)
  refine Go.by st17 ?_
  have N17 := Fr.snoc X17 N16 g_a0_
  have f17_0 := (Nat.le_trans f16_0 (Keep.of_wr W17).1)
  have f17_1 := (Keep.wr f16_1 W17 (Or.inl (List.mem_of_getElem? (i := 0) rfl)))
  have f17_2 := (Old.wr f16_2 W17 g_a0_)
  have f17_3 := (Exa.wr W17 f16_3)
  have f17_4 := (Fld.other W17 f16_4 (Or.inr (slot_ne (Or.inl (tw_52 hw)) (Or.inl (tw_79 hw)) (by decide) (t := (.array .byte)) (t' := .int) (by decide) (by decide))))
  have f17_5 := (Fld.other W17 f16_5 (Or.inr (slot_ne (Or.inl (tw_54 hw)) (Or.inl (tw_79 hw)) (by decide) (t := .byte) (t' := .int) (by decide) (by decide))))
  have f17_6 := (Fld.same W17 f16_6)
  have f17_7 := (Arv.other V16 W17 (Ne.symm ne0d))
  show oG p e below P m T17 53 #[(vR a0_), (vI p0), (vI 5), (vI ((5 : Int32) + (own_sz p0)))] []
  refine w_aloadN X17 hx hby dj68_32_53 rfl rfl ?_
  refine own_fin hP hlk X17 (v := some (.ref a0_)) (fun h => by rw [hret] at h; cases h) (by decide) (by decide) ?_ (fun fs hr => retOut X17 hx hret rfl (Or.inr (Or.inr (Or.inr (Or.inr ⟨rfl, rfl, rfl⟩)))) (hb hby dj68_32_54) hr)
  rw [e17]
  exact ⟨rfl, N17, f17_1, f17_4, f17_5, f17_6, f17_7⟩
def Q_sbIA (Z : State) (a0_ : Addr) (d : Addr) (kd : ClassId) (p0 : Int32) (D1 : Addr) (kD1 : ClassId) (D2 : Addr) (kD2 : ClassId) (cs : Int32) (h0 : Heap) (n0 : Nat) (v : Option Value) (h : Heap) (L : List Loc) : Prop := v = some (.ref a0_) ∧ Fr n0 L ∧ Keep h0 h [a0_, d] ∧ Fld Z h a0_ "java/lang/AbstractStringBuilder" "value" "[B" (.ref d) ∧ Fld Z h a0_ "java/lang/AbstractStringBuilder" "coder" "B" (.int 0) ∧ Fld Z h a0_ "java/lang/AbstractStringBuilder" "count" "I" (.int ((5 : Int32) + (own_sz p0))) ∧ Arv Z h d kd .byte (16 : Int32) (own_full 16 (([(.int 108), (.int 105), (.int 110), (.int 101), (.int 32)] : List Value) ++ own_dg p0)) (.int 0)
theorem ef_sbIA (m : MethodId) (a0_ : Addr) (d : Addr) (kd : ClassId) (p0 : Int32) (D1 : Addr) (kD1 : ClassId) (D2 : Addr) (kD2 : ClassId) (cs : Int32) : entryFrame m #[(.ref a0_), (.int p0)] 2 = mkF m 0 #[(vR a0_), (vI p0)] [] := by first | (simp [entryFrame, mkF, argsToLocals, Value.category]; done) | rfl
set_option maxRecDepth 65536 in
set_option maxHeartbeats 40000000 in
theorem rm_sbIA (l : Launch) (Z : State) (a0 : Array Value) (hw : oW a0 Z) (ws : List Jvm.Cond) (a0_ : Addr) (d : Addr) (kd : ClassId) (p0 : Int32) (D1 : Addr) (kD1 : ClassId) (D2 : Addr) (kD2 : ClassId) (cs : Int32) (h0 : Heap) (n0 : Nat) (Z0 : n0 ≤ h0.size) (O0 : Old Z n0 h0) (Scs : Sta Z Z.heap "java/lang/String" "COMPACT_STRINGS" "Z" (.int cs)) (hcs : ¬ cs = (0 : Int32)) (E0 : Exa Z h0 a0_ "java/lang/StringBuilder") (g_a0_ : n0 ≤ a0_) (FBv : Fld Z h0 a0_ "java/lang/AbstractStringBuilder" "value" "[B" (.ref d)) (FBc : Fld Z h0 a0_ "java/lang/AbstractStringBuilder" "coder" "B" (.int 0)) (FBn : Fld Z h0 a0_ "java/lang/AbstractStringBuilder" "count" "I" (.int 5)) (g_d : n0 ≤ d) (ne0d : a0_ ≠ d) (VB : Arv Z h0 d kd .byte (16 : Int32) [(.int 108), (.int 105), (.int 110), (.int 101), (.int 32), (.int 0), (.int 0), (.int 0), (.int 0), (.int 0), (.int 0), (.int 0), (.int 0), (.int 0), (.int 0), (.int 0)] (.int 0)) (S1 : Sta Z Z.heap "java/lang/Integer" "DigitOnes" "[B" (.ref D1)) (S2 : Sta Z Z.heap "java/lang/Integer" "DigitTens" "[B" (.ref D2)) (VD1 : Arv Z Z.heap D1 kD1 .byte (100 : Int32) own_ones (.int 0)) (VD2 : Arv Z Z.heap D2 kD2 .byte (100 : Int32) own_tens (.int 0)) :
    oM l oY5 jdk_67_method_15_code 2 (some (.object "java/lang/StringBuilder")) ws (own_R 2 0 0 36) #[(.ref a0_), (.int p0)] Z h0 (Q_sbIA Z a0_ d kd p0 D1 kD1 D2 kD2 cs h0 n0) := by
  refine own_open (n0 := n0) (cn := "java/lang/StringBuilder") rfl (plainFor_of_name pn_java_lang_StringBuilder) (fun m => ef_sbIA m a0_ d kd p0 D1 kD1 D2 kD2 cs) ?_
  intro p e s m below meth c s₁ P hx hby hml hown hnm X0 e0 N0 hlk hret hZ hP
  refine w_aloadN X0 hx hby dj67_15_0 rfl rfl ?_
  refine w_iloadN X0 hx hby dj67_15_1 rfl ?_
  obtain ⟨_, _, ⟨T11, L11, k11, n11⟩, -, X11, ⟨Lc11, hQ11, l11, y11, z11⟩, st11⟩ := superBack X0 hx hZ (K := "java/lang/StringBuilder") (y := oY14) hown (tw_110 hw) (own_sameP (tw_112 hw) (tw_83 hw) rfl (by decide)) (tw_111 hw) (tw_65 hw) (by decide) (backOf (W := 0) (rm_asbIA l Z a0 hw [] a0_ d kd p0 D1 kD1 D2 kD2 cs h0 n0 Z0 O0 Scs hcs E0 g_a0_ FBv FBc FBn g_d ne0d VB S1 S2 VD1 VD2) hZ (tw_113 hw) (tw_47 hw) (by decide) (by decide)) e0 (Ins.self E0) (g := (mkF m 2 #[(vR a0_), (vI p0)] [(.int p0), (.ref a0_)])) rfl (by rw [hml]; rfl) (tw_113 hw) (argsL := [(.int p0)]) (rest := []) (lenOf pd__I_Ljava_lang_AbstractStringBuilder_ rfl) rfl (by show 2 * 0 + _ ≤ _; exact Nat.le_of_eq rfl) (hb hby dj67_15_2) (fun _ _ => ⟨rfl, e0, (by decide : 0 + 0 ≤ _), (by decide : 0 + 0 ≤ _)⟩)
  dsimp only [Pt.U, Pt.locs, Pt.cells, Pt.slots] at X11 l11 y11 z11 st11 hQ11
  subst l11 y11 z11
  obtain ⟨rfl, N11q, K11, Gv11, Gc11, Gn11, V11⟩ := hQ11
  have N11 := Fr.app N0 N11q
  refine Go.by (fun t k => st11.trans k) ?_
  have f11_0 := (Nat.le_trans Z0 K11.1)
  have f11_1 := (Keep.trans (Keep.refl h0 [a0_, d]) K11 (allS (Or.inl (List.mem_of_getElem? (i := 0) rfl)) (allS (Or.inl (List.mem_of_getElem? (i := 1) rfl)) all0)))
  have f11_2 := (Old.keep O0 K11 (allS g_a0_ (allS g_d all0)))
  have f11_3 := (Exa.keep E0 K11)
  show oG p e below P m T11 5 #[(vR a0_), (vI p0)] [(.ref a0_)]
  refine w_pop X11 hx hby dj67_15_5 rfl ?_
  refine w_aloadN X11 hx hby dj67_15_6 rfl rfl ?_
  refine own_fin hP hlk X11 (v := some (.ref a0_)) (fun h => by rw [hret] at h; cases h) (by decide) (by decide) ?_ (fun fs hr => retOut X11 hx hret rfl (Or.inr (Or.inr (Or.inr (Or.inr ⟨rfl, rfl, rfl⟩)))) (hb hby dj67_15_7) hr)
  exact ⟨rfl, N11, f11_1, Gv11, Gc11, Gn11, V11⟩
def Q_ssize0_1 (Z : State) (p0 : Int32) (h0 : Heap) (n0 : Nat) (v : Option Value) (h : Heap) (L : List Loc) : Prop := v = some (.int 1) ∧ Fr n0 L ∧ h = h0
theorem ef_ssize0_1 (m : MethodId) (p0 : Int32) : entryFrame m #[(.int p0)] 4 = mkF m 0 #[(vI p0), .unset, .unset, .unset] [] := by first | (simp [entryFrame, mkF, argsToLocals, Value.category]; done) | rfl
set_option maxRecDepth 65536 in
set_option maxHeartbeats 40000000 in
theorem rm_ssize0_1 (l : Launch) (Z : State) (a0 : Array Value) (hw : oW a0 Z) (ws : List Jvm.Cond) (p0 : Int32) (h0 : Heap) (n0 : Nat) (Z0 : n0 ≤ h0.size) (hs : ¬ p0 < (0 : Int32)) (hlo0 : ((-p0)).toInt ≤ 0) (hhi0 : -10 < ((-p0)).toInt) :
    oM l oY12 jdk_33_method_13_code 4 (some .int) ws (own_R 0 0 0 0) #[(.int p0)] Z h0 (Q_ssize0_1 Z p0 h0 n0) := by
  refine own_open (n0 := n0) (cn := "java/lang/Integer") rfl (plainFor_of_name pn_java_lang_Integer) (fun m => ef_ssize0_1 m p0) ?_
  intro p e s m below meth c s₁ P hx hby hml hown hnm X0 e0 N0 hlk hret hZ hP
  refine w_iconst X0 hx hby dj33_13_0 (v := 1) rfl ?_
  refine w_istoreN X0 hx hby dj33_13_1 (l' := #[(vI p0), (vI 1), .unset, .unset]) rfl ?_
  refine w_iloadN X0 hx hby dj33_13_2 rfl ?_
  refine w_ifNo X0 hx hby dj33_13_3 (XT.i0_lt_f hs) ?_
  refine w_iconst X0 hx hby dj33_13_6 (v := 0) rfl ?_
  refine w_istoreN X0 hx hby dj33_13_7 (l' := #[(vI p0), (vI 0), .unset, .unset]) rfl ?_
  refine w_iloadN X0 hx hby dj33_13_8 rfl ?_
  refine Go.by (fun _ => XS.ineg X0.here hx rfl (hb hby dj33_13_9) rfl) ?_
  show oG p e below P m s₁ 10 #[(vI p0), (vI 0), .unset, .unset] [(.int (-p0))]
  refine w_istoreN X0 hx hby dj33_13_10 (l' := #[(vI (-p0)), (vI 0), .unset, .unset]) rfl ?_
  refine w_bipush X0 hx hby dj33_13_11 (v := (-10)) rfl ?_
  refine w_istoreN X0 hx hby dj33_13_13 (l' := #[(vI (-p0)), (vI 0), (vI (-10)), .unset]) rfl ?_
  refine w_iconst X0 hx hby dj33_13_14 (v := 1) rfl ?_
  refine w_istoreN X0 hx hby dj33_13_15 (l' := #[(vI (-p0)), (vI 0), (vI (-10)), (vI 1)]) rfl ?_
  refine w_iloadN X0 hx hby dj33_13_16 rfl ?_
  refine w_bipush X0 hx hby dj33_13_17 (v := 10) rfl ?_
  refine w_icmpNo X0 hx hby dj33_13_19 (XT.ii_ge_f (by decide : (1 : Int32) < (10 : Int32))) ?_
  refine w_iloadN X0 hx hby dj33_13_22 rfl ?_
  refine w_iloadN X0 hx hby dj33_13_23 rfl ?_
  refine w_icmpNo X0 hx hby dj33_13_24 (XT.ii_le_f (own_ylt (k := -10) (by decide) hhi0 (by decide))) ?_
  refine w_iloadN X0 hx hby dj33_13_27 rfl ?_
  refine w_iloadN X0 hx hby dj33_13_28 rfl ?_
  refine w_iadd X0 hx hby dj33_13_29 (v := 1) rfl ?_
  refine own_fin hP hlk X0 (v := some (.int 1)) (fun h => by rw [hret] at h; cases h) (by decide) (by decide) ?_ (fun fs hr => retOut X0 hx hret rfl (Or.inl ⟨rfl, Or.inl rfl, _, rfl⟩) (hb hby dj33_13_30) hr)
  rw [e0]
  exact ⟨rfl, N0, rfl⟩
def Q_getChe0_1 (Z : State) (p0 : Int32) (a1 : Addr) (k1 : ClassId) (w0 : Int32) (w1 : Int32) (D1 : Addr) (kD1 : ClassId) (D2 : Addr) (kD2 : ClassId) (h0 : Heap) (n0 : Nat) (v : Option Value) (h : Heap) (L : List Loc) : Prop := v = some (.int 33) ∧ Fr n0 L ∧ Keep h0 h [a1] ∧ Arv Z h a1 k1 .byte (34 : Int32) [(.int w0), (.int w1), (.int 32), (.int 105), (.int 115), (.int 32), (.int 103), (.int 105), (.int 118), (.int 101), (.int 110), (.int 32), (.int 116), (.int 119), (.int 105), (.int 99), (.int 101), (.int 44), (.int 32), (.int 102), (.int 105), (.int 114), (.int 115), (.int 116), (.int 32), (.int 111), (.int 110), (.int 32), (.int 108), (.int 105), (.int 110), (.int 101), (.int 32), (.int ((own_d1 (-(-p0))).toInt8.toInt32))] (.int 0)
theorem ef_getChe0_1 (m : MethodId) (p0 : Int32) (a1 : Addr) (k1 : ClassId) (w0 : Int32) (w1 : Int32) (D1 : Addr) (kD1 : ClassId) (D2 : Addr) (kD2 : ClassId) : entryFrame m #[(.int p0), (.int 34), (.ref a1)] 7 = mkF m 0 #[(vI p0), (vI 34), (vR a1), .unset, .unset, .unset, .unset] [] := by first | (simp [entryFrame, mkF, argsToLocals, Value.category]; done) | rfl
set_option maxRecDepth 65536 in
set_option maxHeartbeats 40000000 in
theorem rm_getChe0_1 (l : Launch) (Z : State) (a0 : Array Value) (hw : oW a0 Z) (ws : List Jvm.Cond) (p0 : Int32) (a1 : Addr) (k1 : ClassId) (w0 : Int32) (w1 : Int32) (D1 : Addr) (kD1 : ClassId) (D2 : Addr) (kD2 : ClassId) (h0 : Heap) (n0 : Nat) (Z0 : n0 ≤ h0.size) (O0 : Old Z n0 h0) (S1 : Sta Z Z.heap "java/lang/Integer" "DigitOnes" "[B" (.ref D1)) (S2 : Sta Z Z.heap "java/lang/Integer" "DigitTens" "[B" (.ref D2)) (VD1 : Arv Z Z.heap D1 kD1 .byte (100 : Int32) own_ones (.int 0)) (VD2 : Arv Z Z.heap D2 kD2 .byte (100 : Int32) own_tens (.int 0)) (V1 : Arv Z h0 a1 k1 .byte (34 : Int32) [(.int w0), (.int w1), (.int 32), (.int 105), (.int 115), (.int 32), (.int 103), (.int 105), (.int 118), (.int 101), (.int 110), (.int 32), (.int 116), (.int 119), (.int 105), (.int 99), (.int 101), (.int 44), (.int 32), (.int 102), (.int 105), (.int 114), (.int 115), (.int 116), (.int 32), (.int 111), (.int 110), (.int 32), (.int 108), (.int 105), (.int 110), (.int 101), (.int 32), (.int 0)] (.int 0)) (g_a1 : n0 ≤ a1) (hs : ¬ p0 < (0 : Int32)) (hlo0 : ((-p0)).toInt ≤ 0) (hhi0 : -10 < ((-p0)).toInt) :
    oM l oY13 jdk_33_method_12_code 7 (some .int) ws (own_R 0 0 0 0) #[(.int p0), (.int 34), (.ref a1)] Z h0 (Q_getChe0_1 Z p0 a1 k1 w0 w1 D1 kD1 D2 kD2 h0 n0) := by
  refine own_open (n0 := n0) (cn := "java/lang/Integer") rfl (plainFor_of_name pn_java_lang_Integer) (fun m => ef_getChe0_1 m p0 a1 k1 w0 w1 D1 kD1 D2 kD2) ?_
  intro p e s m below meth c s₁ P hx hby hml hown hnm X0 e0 N0 hlk hret hZ hP
  have VA1 := Arv.ext VD1 O0.2
  have neD1 : D1 ≠ a1 := Nat.ne_of_lt (Nat.lt_of_lt_of_le VD1.lt (by rw [O0.1]; exact g_a1))
  have VA2 := Arv.ext VD2 O0.2
  have neD2 : D2 ≠ a1 := Nat.ne_of_lt (Nat.lt_of_lt_of_le VD2.lt (by rw [O0.1]; exact g_a1))
  show oG p e below P m s₁ 0 #[(vI p0), (vI 34), (vR a1), .unset, .unset, .unset, .unset] []
  refine w_iloadN X0 hx hby dj33_12_0 rfl ?_
  refine w_istore X0 hx hby dj33_12_1 (l' := #[(vI p0), (vI 34), (vR a1), .unset, .unset, (vI 34), .unset]) rfl ?_
  refine w_iloadN X0 hx hby dj33_12_3 rfl ?_
  refine w_ifYes X0 hx hby dj33_12_4 (pc' := 11) (XT.i0_ge_t hs) (by decide) ?_
  refine w_iconst X0 hx hby dj33_12_11 (v := 0) rfl ?_
  refine w_istore X0 hx hby dj33_12_12 (l' := #[(vI p0), (vI 34), (vR a1), .unset, .unset, (vI 34), (vI 0)]) rfl ?_
  refine w_iload X0 hx hby dj33_12_14 rfl ?_
  refine w_ifNo X0 hx hby dj33_12_16 (XT.i0_ne_f (by decide : (0 : Int32) = (0 : Int32))) ?_
  refine w_iloadN X0 hx hby dj33_12_19 rfl ?_
  refine Go.by (fun _ => XS.ineg X0.here hx rfl (hb hby dj33_12_20) rfl) ?_
  show oG p e below P m s₁ 21 #[(vI p0), (vI 34), (vR a1), .unset, .unset, (vI 34), (vI 0)] [(.int (-p0))]
  refine w_istoreN X0 hx hby dj33_12_21 (l' := #[(vI (-p0)), (vI 34), (vR a1), .unset, .unset, (vI 34), (vI 0)]) rfl ?_
  refine w_iloadN X0 hx hby dj33_12_22 rfl ?_
  refine w_bipush X0 hx hby dj33_12_23 (v := (-100)) rfl ?_
  refine Go.by (fun _ => XS.icmpYes X0.here hx rfl (pc0 := 25) (pc' := 72) rfl (hb hby dj33_12_25) rfl (XT.ii_gt_t (own_ylt (k := -100) (by decide) hhi0 (by decide))) (by decide) (by decide)) ?_
  have hn := own_neg (X := (-p0)) (by omega) (by omega)
  show oG p e below P m s₁ 72 #[(vI (-p0)), (vI 34), (vR a1), .unset, .unset, (vI 34), (vI 0)] []
  refine w_aloadN X0 hx hby dj33_12_72 rfl rfl ?_
  refine w_iinc X0 hx hby dj33_12_73 rfl (l' := #[(vI (-p0)), (vI 34), (vR a1), .unset, .unset, (vI 33), (vI 0)]) rfl ?_
  refine w_iload X0 hx hby dj33_12_76 rfl ?_
  obtain ⟨T11, X11, e11, st11⟩ := getS2 X0 hx hZ hown (host := "") (Or.inl (tw_126 hw)) Via.refl e0 (S1.ext O0.2) (g := (mkF m 78 #[(vI (-p0)), (vI 34), (vR a1), .unset, .unset, (vI 33), (vI 0)] [(.int 33), (.ref a1)])) rfl (hb hby dj33_12_78)
  refine Go.by st11 ?_
  show oG p e below P m T11 81 #[(vI (-p0)), (vI 34), (vR a1), .unset, .unset, (vI 33), (vI 0)] [(.ref D1), (.int 33), (.ref a1)]
  refine w_iloadN X11 hx hby dj33_12_81 rfl ?_
  refine Go.by (fun _ => XS.ineg X11.here hx rfl (hb hby dj33_12_82) rfl) ?_
  have av12 := VA1
  obtain ⟨cl12, Ar12, -, Sz12, Nn12, Ha12, Gf12⟩ := av12
  have hin12 : ¬ ((-(-p0)) < 0 ∨ cl12.slots.size ≤ ((-(-p0))).toNatClampNeg) := inb_of Sz12 hn
  have hat12 : cl12.slots[((-(-p0))).toNatClampNeg]? = some (.int (own_d1 (-(-p0)))) := Ha12.at hin12 (own_o_at hn)
  refine Go.by (X11.baloadBytes hx (j := (-(-p0))) (v := (.int (own_d1 (-(-p0))))) (by rw [e11]; exact Ar12.1) (State.isArrayOf_alike hZ.alike Ar12.2.1) Ar12.2.2 hin12 hat12 (g := (mkF m 83 #[(vI (-p0)), (vI 34), (vR a1), .unset, .unset, (vI 33), (vI 0)] [(.int (-(-p0))), (.ref D1), (.int 33), (.ref a1)])) rfl rfl (hb hby dj33_12_83)) ?_
  have av13 := V1
  obtain ⟨cl13, Ar13, q13, Sz13, Nn13, Ha13, Gf13⟩ := av13
  have hin13 : ¬ ((33 : Int32) < 0 ∨ cl13.slots.size ≤ ((33 : Int32)).toNatClampNeg) := inb_of Sz13 ⟨by decide, by decide⟩
  obtain ⟨T14, h14, X14, e14, W14, st14⟩ := stB X11 hx hZ e11 Ar13 (j := (33 : Int32)) hin13 (g := (mkF m 84 #[(vI (-p0)), (vI 34), (vR a1), .unset, .unset, (vI 33), (vI 0)] [(.int (own_d1 (-(-p0)))), (.int 33), (.ref a1)])) rfl rfl (hb hby dj33_12_84)
  have W14' : Wr h0 h14 a1 ((33 : Int32)).toNatClampNeg (.int (own_d1 (-(-p0))).toInt8.toInt32) := W14
  have V14 : Arv Z h14 a1 k1 .byte (34 : Int32) [(.int w0), (.int w1), (.int 32), (.int 105), (.int 115), (.int 32), (.int 103), (.int 105), (.int 118), (.int 101), (.int 110), (.int 32), (.int 116), (.int 119), (.int 105), (.int 99), (.int 101), (.int 44), (.int 32), (.int 102), (.int 105), (.int 114), (.int 115), (.int 116), (.int 32), (.int 111), (.int 110), (.int 32), (.int 108), (.int 105), (.int 110), (.int 101), (.int 32), (.int (own_d1 (-(-p0))).toInt8.toInt32)] (.int 0) := Arv.set Ar13 q13 Sz13 Nn13 Ha13 Gf13 (fits_nar_byte _) W14' 33 rfl (Nat.le_of_ble_eq_true rfl)
  have N14 := Fr.snoc X14 N0 g_a1
  have f14_0 := (Nat.le_trans Z0 (Keep.of_wr W14).1)
  have f14_1 := (Keep.wr (Keep.refl h0 [a1]) W14 (Or.inl (List.mem_of_getElem? (i := 0) rfl)))
  have f14_2 := (Old.wr O0 W14 g_a1)
  have f14_3 := (Arv.other VA1 W14 neD1)
  have f14_4 := (Arv.other VA2 W14 neD2)
  refine Go.by st14 ?_
  show oG p e below P m T14 85 #[(vI (-p0)), (vI 34), (vR a1), .unset, .unset, (vI 33), (vI 0)] []
  refine w_iloadN X14 hx hby dj33_12_85 rfl ?_
  refine w_bipush X14 hx hby dj33_12_86 (v := (-9)) rfl ?_
  refine w_icmpYes X14 hx hby dj33_12_88 (pc' := 104) (XT.ii_ge_t (by rw [Int32.lt_iff_toInt_lt]; show ¬ _ < (-9 : Int); omega)) (by decide) ?_
  refine w_iload X14 hx hby dj33_12_104 rfl ?_
  refine w_ifYes X14 hx hby dj33_12_106 (pc' := 118) (XT.i0_eq_t (by decide : (0 : Int32) = (0 : Int32))) (by decide) ?_
  refine w_iload X14 hx hby dj33_12_118 rfl ?_
  refine own_fin hP hlk X14 (v := some (.int 33)) (fun h => by rw [hret] at h; cases h) (by decide) (by decide) ?_ (fun fs hr => retOut X14 hx hret rfl (Or.inl ⟨rfl, Or.inl rfl, _, rfl⟩) (hb hby dj33_12_120) hr)
  rw [e14]
  exact ⟨rfl, N14, f14_1, V14⟩
def Q_asbIe0_1 (Z : State) (a0_ : Addr) (d : Addr) (kd : ClassId) (p0 : Int32) (w0 : Int32) (w1 : Int32) (D1 : Addr) (kD1 : ClassId) (D2 : Addr) (kD2 : ClassId) (cs : Int32) (h0 : Heap) (n0 : Nat) (v : Option Value) (h : Heap) (L : List Loc) : Prop := v = some (.ref a0_) ∧ Fr n0 L ∧ Keep h0 h [a0_, d] ∧ Fld Z h a0_ "java/lang/AbstractStringBuilder" "value" "[B" (.ref d) ∧ Fld Z h a0_ "java/lang/AbstractStringBuilder" "coder" "B" (.int 0) ∧ Fld Z h a0_ "java/lang/AbstractStringBuilder" "count" "I" (.int 34) ∧ Arv Z h d kd .byte (34 : Int32) [(.int w0), (.int w1), (.int 32), (.int 105), (.int 115), (.int 32), (.int 103), (.int 105), (.int 118), (.int 101), (.int 110), (.int 32), (.int 116), (.int 119), (.int 105), (.int 99), (.int 101), (.int 44), (.int 32), (.int 102), (.int 105), (.int 114), (.int 115), (.int 116), (.int 32), (.int 111), (.int 110), (.int 32), (.int 108), (.int 105), (.int 110), (.int 101), (.int 32), (.int ((own_d1 (-(-p0))).toInt8.toInt32))] (.int 0)
theorem ef_asbIe0_1 (m : MethodId) (a0_ : Addr) (d : Addr) (kd : ClassId) (p0 : Int32) (w0 : Int32) (w1 : Int32) (D1 : Addr) (kD1 : ClassId) (D2 : Addr) (kD2 : ClassId) (cs : Int32) : entryFrame m #[(.ref a0_), (.int p0)] 4 = mkF m 0 #[(vR a0_), (vI p0), .unset, .unset] [] := by first | (simp [entryFrame, mkF, argsToLocals, Value.category]; done) | rfl
set_option maxRecDepth 65536 in
set_option maxHeartbeats 40000000 in
theorem rm_asbIe0_1 (l : Launch) (Z : State) (a0 : Array Value) (hw : oW a0 Z) (ws : List Jvm.Cond) (a0_ : Addr) (d : Addr) (kd : ClassId) (p0 : Int32) (w0 : Int32) (w1 : Int32) (D1 : Addr) (kD1 : ClassId) (D2 : Addr) (kD2 : ClassId) (cs : Int32) (h0 : Heap) (n0 : Nat) (Z0 : n0 ≤ h0.size) (O0 : Old Z n0 h0) (Scs : Sta Z Z.heap "java/lang/String" "COMPACT_STRINGS" "Z" (.int cs)) (hcs : ¬ cs = (0 : Int32)) (E0 : Exa Z h0 a0_ "java/lang/StringBuilder") (g_a0_ : n0 ≤ a0_) (FBv : Fld Z h0 a0_ "java/lang/AbstractStringBuilder" "value" "[B" (.ref d)) (FBc : Fld Z h0 a0_ "java/lang/AbstractStringBuilder" "coder" "B" (.int 0)) (FBn : Fld Z h0 a0_ "java/lang/AbstractStringBuilder" "count" "I" (.int 33)) (g_d : n0 ≤ d) (ne0d : a0_ ≠ d) (VB : Arv Z h0 d kd .byte (34 : Int32) [(.int w0), (.int w1), (.int 32), (.int 105), (.int 115), (.int 32), (.int 103), (.int 105), (.int 118), (.int 101), (.int 110), (.int 32), (.int 116), (.int 119), (.int 105), (.int 99), (.int 101), (.int 44), (.int 32), (.int 102), (.int 105), (.int 114), (.int 115), (.int 116), (.int 32), (.int 111), (.int 110), (.int 32), (.int 108), (.int 105), (.int 110), (.int 101), (.int 32), (.int 0)] (.int 0)) (S1 : Sta Z Z.heap "java/lang/Integer" "DigitOnes" "[B" (.ref D1)) (S2 : Sta Z Z.heap "java/lang/Integer" "DigitTens" "[B" (.ref D2)) (VD1 : Arv Z Z.heap D1 kD1 .byte (100 : Int32) own_ones (.int 0)) (VD2 : Arv Z Z.heap D2 kD2 .byte (100 : Int32) own_tens (.int 0)) (hs : ¬ p0 < (0 : Int32)) (hlo0 : ((-p0)).toInt ≤ 0) (hhi0 : -10 < ((-p0)).toInt) :
    oM l oY14 jdk_68_method_32_code 4 (some (.object "java/lang/AbstractStringBuilder")) ws (own_R 1 0 0 20) #[(.ref a0_), (.int p0)] Z h0 (Q_asbIe0_1 Z a0_ d kd p0 w0 w1 D1 kD1 D2 kD2 cs h0 n0) := by
  refine own_open (n0 := n0) (cn := "java/lang/AbstractStringBuilder") rfl (plainFor_of_name pn_java_lang_AbstractStringBuilder) (fun m => ef_asbIe0_1 m a0_ d kd p0 w0 w1 D1 kD1 D2 kD2 cs) ?_
  intro p e s m below meth c s₁ P hx hby hml hown hnm X0 e0 N0 hlk hret hZ hP
  refine w_aloadN X0 hx hby dj68_32_0 rfl rfl ?_
  obtain ⟨T11, X11, e11, st11⟩ := getF X0 hx hZ hown (host := "") (Or.inl (tw_78 hw)) Via.refl e0 FBn (g := (mkF m 1 #[(vR a0_), (vI p0), .unset, .unset] [(.ref a0_)])) rfl rfl (hb hby dj68_32_1)
  refine Go.by st11 ?_
  show oG p e below P m T11 4 #[(vR a0_), (vI p0), .unset, .unset] [(.int 33)]
  refine w_istoreN X11 hx hby dj68_32_4 (l' := #[(vR a0_), (vI p0), (vI 33), .unset]) rfl ?_
  refine w_iloadN X11 hx hby dj68_32_5 rfl ?_
  refine w_iloadN X11 hx hby dj68_32_6 rfl ?_
  obtain ⟨_, _, ⟨T12, L12, k12, n12⟩, -, X12, ⟨Lc12, hQ12, l12, y12, z12⟩, st12⟩ := Jvm.LawKit.callS X11 hx (y := oY12) hown (mvT hZ (tw_114 hw)) (mvT hZ (tw_115 hw)) (mvT hZ (tw_116 hw)) (mvT hZ (tw_117 hw)) (by decide) (backOf (W := 1) (rm_ssize0_1 l Z a0 hw [] p0 h0 n0 Z0 hs hlo0 hhi0) hZ (tw_117 hw) (tw_116 hw) (by decide) (by decide)) (g := (mkF m 7 #[(vR a0_), (vI p0), (vI 33), .unset] [(.int p0), (.int 33)])) rfl (by rw [hml]; rfl) (argsL := [(.int p0)]) (rest := [(.int 33)]) (lenOf pd__I_I rfl) rfl (by show 2 * 0 + _ ≤ _; exact Nat.le_of_eq rfl) (hb hby dj68_32_7) (fun _ _ => ⟨rfl, e11, (by decide : 0 + 0 ≤ _), (by decide : 0 + 0 ≤ _)⟩)
  dsimp only [Pt.U, Pt.locs, Pt.cells, Pt.slots] at X12 l12 y12 z12 st12 hQ12
  subst l12 y12 z12
  obtain ⟨rfl, N12q, q12⟩ := hQ12
  have N12 := Fr.app N0 N12q
  refine Go.by (fun t k => st12 t k) ?_
  show oG p e below P m T12 10 #[(vR a0_), (vI p0), (vI 33), .unset] [(.int 1), (.int 33)]
  refine w_iadd X12 hx hby dj68_32_10 (v := 34) rfl ?_
  refine w_istoreN X12 hx hby dj68_32_11 (l' := #[(vR a0_), (vI p0), (vI 33), (vI 34)]) rfl ?_
  refine w_aloadN X12 hx hby dj68_32_12 rfl rfl ?_
  refine w_iloadN X12 hx hby dj68_32_13 rfl ?_
  obtain ⟨cq13, q13a, q13b⟩ := Exa.cell E0
  obtain ⟨_, _, ⟨T13, L13, k13, n13⟩, -, X13, ⟨Lc13, hQ13, l13, y13, z13⟩, st13⟩ := X12.privateBack hx (y := oY4) hown (mvT hZ (tw_80 hw)) (mvT hZ (tw_81 hw)) (own_selfP (args := #[(.ref a0_), (.int p0)]) (mvT hZ (tw_83 hw)) (mvT hZ (tw_81 hw)) (mvP hZ (tw_82 hw)) (by decide)) (Cond.privateMethod_at (args := #[]) (mvP hZ (tw_82 hw))) (mvT hZ (tw_84 hw)) (by decide) (backOf (W := 0) (rm_sbEnsN l Z a0 hw [] a0_ d kd (34 : Int32) [(.int w0), (.int w1), (.int 32), (.int 105), (.int 115), (.int 32), (.int 103), (.int 105), (.int 118), (.int 101), (.int 110), (.int 32), (.int 116), (.int 119), (.int 105), (.int 99), (.int 101), (.int 44), (.int 32), (.int 102), (.int 105), (.int 114), (.int 115), (.int 116), (.int 32), (.int 111), (.int 110), (.int 32), (.int 108), (.int 105), (.int 110), (.int 101), (.int 32), (.int 0)] (34 : Int32) h0 n0 Z0 FBv FBc VB (by decide)) hZ (tw_84 hw) (tw_47 hw) (by decide) (by decide)) (g := (mkF m 14 #[(vR a0_), (vI p0), (vI 33), (vI 34)] [(.int 34), (.ref a0_)])) rfl (by rw [hml]; rfl) (Steps.refl _) (a := a0_) (by rw [q12]; exact q13a) q13b (argsL := [(.int 34)]) (rest := []) (lenOf pd__I_V rfl) rfl (by show 2 * 0 + _ ≤ _; exact Nat.le_of_eq rfl) (hb hby dj68_32_14) (fun _ _ => ⟨rfl, q12, (by decide : 0 + 0 ≤ _), (by decide : 0 + 0 ≤ _)⟩)
  dsimp only [Pt.U, Pt.locs, Pt.cells, Pt.slots] at X13 l13 y13 z13 st13 hQ13
  subst l13 y13 z13
  obtain ⟨rfl, N13q, q13⟩ := hQ13
  have N13 := Fr.app N12 N13q
  refine Go.by (fun t k => st13.trans k) ?_
  show oG p e below P m T13 17 #[(vR a0_), (vI p0), (vI 33), (vI 34)] []
  refine w_aloadN X13 hx hby dj68_32_17 rfl rfl ?_
  obtain ⟨cq14, kq14, q14a, q14b, q14c⟩ := isOf hZ q13 E0
  obtain ⟨_, _, ⟨T14, L14, k14, n14⟩, -, X14, ⟨Lc14, hQ14, l14, y14, z14⟩, st14⟩ := X13.virtualBack hx (y := oY1) (z := oY1) hown (mvT hZ (tw_118 hw)) (mvT hZ (tw_119 hw)) (notFace_of_selects (args := #[]) (mvT hZ (tw_121 hw))) (mvT hZ (tw_121 hw)) (mvT hZ (tw_120 hw)) (by decide) (backOf (W := 0) (rm_sbLat l Z a0 hw [] a0_ cs h0 n0 Z0 O0 Scs hcs FBc) hZ (tw_122 hw) (tw_47 hw) (by decide) (by decide)) q14a q14c (g := (mkF m 18 #[(vR a0_), (vI p0), (vI 33), (vI 34)] [(.ref a0_)])) rfl (by rw [hml]; rfl) (Steps.refl _) (argsL := []) (rest := []) (lenOf pd___Z rfl) rfl (by show 2 * 0 + _ ≤ _; exact Nat.le_of_eq rfl) (hb hby dj68_32_18) (fun _ _ => ⟨rfl, q13, (by decide : 0 + 0 ≤ _), (by decide : 0 + 0 ≤ _)⟩)
  dsimp only [Pt.U, Pt.locs, Pt.cells, Pt.slots] at X14 l14 y14 z14 st14 hQ14
  subst l14 y14 z14
  obtain ⟨rfl, N14q, q14⟩ := hQ14
  have N14 := Fr.app N13 N14q
  refine Go.by (fun t k => st14.trans k) ?_
  show oG p e below P m T14 21 #[(vR a0_), (vI p0), (vI 33), (vI 34)] [(.int 1)]
  refine w_ifNo X14 hx hby dj68_32_21 (XT.i0_eq_f (by decide : ¬ (1 : Int32) = (0 : Int32))) ?_
  refine w_iloadN X14 hx hby dj68_32_24 rfl ?_
  refine w_iloadN X14 hx hby dj68_32_25 rfl ?_
  refine w_aloadN X14 hx hby dj68_32_26 rfl rfl ?_
  obtain ⟨T15, X15, e15, st15⟩ := getF X14 hx hZ hown (host := "") (Or.inl (tw_51 hw)) Via.refl q14 FBv (g := (mkF m 27 #[(vR a0_), (vI p0), (vI 33), (vI 34)] [(.ref a0_), (.int 34), (.int p0)])) rfl rfl (hb hby dj68_32_27)
  refine Go.by st15 ?_
  obtain ⟨_, _, ⟨T16, L16, k16, n16⟩, -, X16, ⟨Lc16, hQ16, l16, y16, z16⟩, st16⟩ := Jvm.LawKit.callS X15 hx (y := oY13) hown (mvT hZ (tw_123 hw)) (mvT hZ (tw_124 hw)) (mvT hZ (tw_116 hw)) (mvT hZ (tw_125 hw)) (by decide) (backOf (W := 0) (rm_getChe0_1 l Z a0 hw [] p0 d kd w0 w1 D1 kD1 D2 kD2 h0 n0 Z0 O0 S1 S2 VD1 VD2 VB g_d hs hlo0 hhi0) hZ (tw_125 hw) (tw_116 hw) (by decide) (by decide)) (g := (mkF m 30 #[(vR a0_), (vI p0), (vI 33), (vI 34)] [(.ref d), (.int 34), (.int p0)])) rfl (by rw [hml]; rfl) (argsL := [(.int p0), (.int 34), (.ref d)]) (rest := []) (lenOf pd__II_B_I rfl) rfl (by show 2 * 0 + _ ≤ _; exact Nat.le_of_eq rfl) (hb hby dj68_32_30) (fun _ _ => ⟨rfl, e15, (by decide : 0 + 0 ≤ _), (by decide : 0 + 0 ≤ _)⟩)
  dsimp only [Pt.U, Pt.locs, Pt.cells, Pt.slots] at X16 l16 y16 z16 st16 hQ16
  subst l16 y16 z16
  obtain ⟨rfl, N16q, K16, V16⟩ := hQ16
  have N16 := Fr.app N14 N16q
  refine Go.by (fun t k => st16 t k) ?_
  have f16_0 := (Nat.le_trans Z0 K16.1)
  have f16_1 := (Keep.trans (Keep.refl h0 [a0_, d]) K16 (allS (Or.inl (List.mem_of_getElem? (i := 1) rfl)) all0))
  have f16_2 := (Old.keep O0 K16 (allS g_d all0))
  have f16_3 := (Exa.keep E0 K16)
  have f16_4 := (Fld.keep FBv K16 (ninS ne0d nin0))
  have f16_5 := (Fld.keep FBc K16 (ninS ne0d nin0))
  have f16_6 := (Fld.keep FBn K16 (ninS ne0d nin0))
  show oG p e below P m T16 33 #[(vR a0_), (vI p0), (vI 33), (vI 34)] [(.int 33)]
  refine w_pop X16 hx hby dj68_32_33 rfl ?_
  refine w_goto X16 hx hby dj68_32_34 (pc' := 48) (by decide) ?_
  refine w_aloadN X16 hx hby dj68_32_48 rfl rfl ?_
  refine w_iloadN X16 hx hby dj68_32_49 rfl ?_
  obtain ⟨T17, h17, X17, e17, W17, st17⟩ := putF X16 hx hZ hown (host := "") (Or.inl (tw_78 hw)) Via.refl rfl f16_6 f16_3 (Or.inl (tw_79 hw)) (tw_38 hw) (ty := .int) (by decide) rfl rfl (g := (mkF m 50 #[(vR a0_), (vI p0), (vI 33), (vI 34)] [(.int 34), (.ref a0_)])) rfl rfl (hb hby dj68_32_50)
  refine Go.by st17 ?_
  have N17 := Fr.snoc X17 N16 g_a0_
  have f17_0 := (Nat.le_trans f16_0 (Keep.of_wr W17).1)
  have f17_1 := (Keep.wr f16_1 W17 (Or.inl (List.mem_of_getElem? (i := 0) rfl)))
  have f17_2 := (Old.wr f16_2 W17 g_a0_)
  have f17_3 := (Exa.wr W17 f16_3)
  have f17_4 := (Fld.other W17 f16_4 (Or.inr (slot_ne (Or.inl (tw_52 hw)) (Or.inl (tw_79 hw)) (by decide) (t := (.array .byte)) (t' := .int) (by decide) (by decide))))
  have f17_5 := (Fld.other W17 f16_5 (Or.inr (slot_ne (Or.inl (tw_54 hw)) (Or.inl (tw_79 hw)) (by decide) (t := .byte) (t' := .int) (by decide) (by decide))))
  have f17_6 := (Fld.same W17 f16_6)
  have f17_7 := (Arv.other V16 W17 (Ne.symm ne0d))
  show oG p e below P m T17 53 #[(vR a0_), (vI p0), (vI 33), (vI 34)] []
  refine w_aloadN X17 hx hby dj68_32_53 rfl rfl ?_
  refine own_fin hP hlk X17 (v := some (.ref a0_)) (fun h => by rw [hret] at h; cases h) (by decide) (by decide) ?_ (fun fs hr => retOut X17 hx hret rfl (Or.inr (Or.inr (Or.inr (Or.inr ⟨rfl, rfl, rfl⟩)))) (hb hby dj68_32_54) hr)
  rw [e17]
  exact ⟨rfl, N17, f17_1, f17_4, f17_5, f17_6, f17_7⟩
def Q_sbIe0_1 (Z : State) (a0_ : Addr) (d : Addr) (kd : ClassId) (p0 : Int32) (w0 : Int32) (w1 : Int32) (D1 : Addr) (kD1 : ClassId) (D2 : Addr) (kD2 : ClassId) (cs : Int32) (h0 : Heap) (n0 : Nat) (v : Option Value) (h : Heap) (L : List Loc) : Prop := v = some (.ref a0_) ∧ Fr n0 L ∧ Keep h0 h [a0_, d] ∧ Fld Z h a0_ "java/lang/AbstractStringBuilder" "value" "[B" (.ref d) ∧ Fld Z h a0_ "java/lang/AbstractStringBuilder" "coder" "B" (.int 0) ∧ Fld Z h a0_ "java/lang/AbstractStringBuilder" "count" "I" (.int 34) ∧ Arv Z h d kd .byte (34 : Int32) [(.int w0), (.int w1), (.int 32), (.int 105), (.int 115), (.int 32), (.int 103), (.int 105), (.int 118), (.int 101), (.int 110), (.int 32), (.int 116), (.int 119), (.int 105), (.int 99), (.int 101), (.int 44), (.int 32), (.int 102), (.int 105), (.int 114), (.int 115), (.int 116), (.int 32), (.int 111), (.int 110), (.int 32), (.int 108), (.int 105), (.int 110), (.int 101), (.int 32), (.int ((own_d1 (-(-p0))).toInt8.toInt32))] (.int 0)
theorem ef_sbIe0_1 (m : MethodId) (a0_ : Addr) (d : Addr) (kd : ClassId) (p0 : Int32) (w0 : Int32) (w1 : Int32) (D1 : Addr) (kD1 : ClassId) (D2 : Addr) (kD2 : ClassId) (cs : Int32) : entryFrame m #[(.ref a0_), (.int p0)] 2 = mkF m 0 #[(vR a0_), (vI p0)] [] := by first | (simp [entryFrame, mkF, argsToLocals, Value.category]; done) | rfl
set_option maxRecDepth 65536 in
set_option maxHeartbeats 40000000 in
theorem rm_sbIe0_1 (l : Launch) (Z : State) (a0 : Array Value) (hw : oW a0 Z) (ws : List Jvm.Cond) (a0_ : Addr) (d : Addr) (kd : ClassId) (p0 : Int32) (w0 : Int32) (w1 : Int32) (D1 : Addr) (kD1 : ClassId) (D2 : Addr) (kD2 : ClassId) (cs : Int32) (h0 : Heap) (n0 : Nat) (Z0 : n0 ≤ h0.size) (O0 : Old Z n0 h0) (Scs : Sta Z Z.heap "java/lang/String" "COMPACT_STRINGS" "Z" (.int cs)) (hcs : ¬ cs = (0 : Int32)) (E0 : Exa Z h0 a0_ "java/lang/StringBuilder") (g_a0_ : n0 ≤ a0_) (FBv : Fld Z h0 a0_ "java/lang/AbstractStringBuilder" "value" "[B" (.ref d)) (FBc : Fld Z h0 a0_ "java/lang/AbstractStringBuilder" "coder" "B" (.int 0)) (FBn : Fld Z h0 a0_ "java/lang/AbstractStringBuilder" "count" "I" (.int 33)) (g_d : n0 ≤ d) (ne0d : a0_ ≠ d) (VB : Arv Z h0 d kd .byte (34 : Int32) [(.int w0), (.int w1), (.int 32), (.int 105), (.int 115), (.int 32), (.int 103), (.int 105), (.int 118), (.int 101), (.int 110), (.int 32), (.int 116), (.int 119), (.int 105), (.int 99), (.int 101), (.int 44), (.int 32), (.int 102), (.int 105), (.int 114), (.int 115), (.int 116), (.int 32), (.int 111), (.int 110), (.int 32), (.int 108), (.int 105), (.int 110), (.int 101), (.int 32), (.int 0)] (.int 0)) (S1 : Sta Z Z.heap "java/lang/Integer" "DigitOnes" "[B" (.ref D1)) (S2 : Sta Z Z.heap "java/lang/Integer" "DigitTens" "[B" (.ref D2)) (VD1 : Arv Z Z.heap D1 kD1 .byte (100 : Int32) own_ones (.int 0)) (VD2 : Arv Z Z.heap D2 kD2 .byte (100 : Int32) own_tens (.int 0)) (hs : ¬ p0 < (0 : Int32)) (hlo0 : ((-p0)).toInt ≤ 0) (hhi0 : -10 < ((-p0)).toInt) :
    oM l oY5 jdk_67_method_15_code 2 (some (.object "java/lang/StringBuilder")) ws (own_R 2 0 0 36) #[(.ref a0_), (.int p0)] Z h0 (Q_sbIe0_1 Z a0_ d kd p0 w0 w1 D1 kD1 D2 kD2 cs h0 n0) := by
  refine own_open (n0 := n0) (cn := "java/lang/StringBuilder") rfl (plainFor_of_name pn_java_lang_StringBuilder) (fun m => ef_sbIe0_1 m a0_ d kd p0 w0 w1 D1 kD1 D2 kD2 cs) ?_
  intro p e s m below meth c s₁ P hx hby hml hown hnm X0 e0 N0 hlk hret hZ hP
  refine w_aloadN X0 hx hby dj67_15_0 rfl rfl ?_
  refine w_iloadN X0 hx hby dj67_15_1 rfl ?_
  obtain ⟨_, _, ⟨T11, L11, k11, n11⟩, -, X11, ⟨Lc11, hQ11, l11, y11, z11⟩, st11⟩ := superBack X0 hx hZ (K := "java/lang/StringBuilder") (y := oY14) hown (tw_110 hw) (own_sameP (tw_112 hw) (tw_83 hw) rfl (by decide)) (tw_111 hw) (tw_65 hw) (by decide) (backOf (W := 0) (rm_asbIe0_1 l Z a0 hw [] a0_ d kd p0 w0 w1 D1 kD1 D2 kD2 cs h0 n0 Z0 O0 Scs hcs E0 g_a0_ FBv FBc FBn g_d ne0d VB S1 S2 VD1 VD2 hs hlo0 hhi0) hZ (tw_113 hw) (tw_47 hw) (by decide) (by decide)) e0 (Ins.self E0) (g := (mkF m 2 #[(vR a0_), (vI p0)] [(.int p0), (.ref a0_)])) rfl (by rw [hml]; rfl) (tw_113 hw) (argsL := [(.int p0)]) (rest := []) (lenOf pd__I_Ljava_lang_AbstractStringBuilder_ rfl) rfl (by show 2 * 0 + _ ≤ _; exact Nat.le_of_eq rfl) (hb hby dj67_15_2) (fun _ _ => ⟨rfl, e0, (by decide : 0 + 0 ≤ _), (by decide : 0 + 0 ≤ _)⟩)
  dsimp only [Pt.U, Pt.locs, Pt.cells, Pt.slots] at X11 l11 y11 z11 st11 hQ11
  subst l11 y11 z11
  obtain ⟨rfl, N11q, K11, Gv11, Gc11, Gn11, V11⟩ := hQ11
  have N11 := Fr.app N0 N11q
  refine Go.by (fun t k => st11.trans k) ?_
  have f11_0 := (Nat.le_trans Z0 K11.1)
  have f11_1 := (Keep.trans (Keep.refl h0 [a0_, d]) K11 (allS (Or.inl (List.mem_of_getElem? (i := 0) rfl)) (allS (Or.inl (List.mem_of_getElem? (i := 1) rfl)) all0)))
  have f11_2 := (Old.keep O0 K11 (allS g_a0_ (allS g_d all0)))
  have f11_3 := (Exa.keep E0 K11)
  show oG p e below P m T11 5 #[(vR a0_), (vI p0)] [(.ref a0_)]
  refine w_pop X11 hx hby dj67_15_5 rfl ?_
  refine w_aloadN X11 hx hby dj67_15_6 rfl rfl ?_
  refine own_fin hP hlk X11 (v := some (.ref a0_)) (fun h => by rw [hret] at h; cases h) (by decide) (by decide) ?_ (fun fs hr => retOut X11 hx hret rfl (Or.inr (Or.inr (Or.inr (Or.inr ⟨rfl, rfl, rfl⟩)))) (hb hby dj67_15_7) hr)
  exact ⟨rfl, N11, f11_1, Gv11, Gc11, Gn11, V11⟩
def Q_thrInit (Z : State) (a0_ : Addr) (r1 : Value) (u : Value) (sn : Value) (h0 : Heap) (n0 : Nat) (v : Option Value) (h : Heap) (L : List Loc) : Prop := v = none ∧ Fr n0 L ∧ Keep h0 h [a0_] ∧ Fld Z h a0_ "java/lang/Throwable" "detailMessage" "Ljava/lang/String;" r1 ∧ Fld Z h a0_ "com/example/carovita/carovita/index/CsvFormatException" "line" "I" (.int 0)
theorem ef_thrInit (m : MethodId) (a0_ : Addr) (r1 : Value) (u : Value) (sn : Value) (hr1 : r1.isRef = true) : entryFrame m #[(.ref a0_), r1] 2 = mkF m 0 #[(vR a0_), .val r1] [] := by rcases XT.refc hr1 with rfl | ⟨_, rfl⟩ <;> first | (simp [entryFrame, mkF, argsToLocals, Value.category]; done) | rfl
set_option maxRecDepth 65536 in
set_option maxHeartbeats 40000000 in
theorem rm_thrInit (l : Launch) (Z : State) (a0 : Array Value) (hw : oW a0 Z) (ws : List Jvm.Cond) (a0_ : Addr) (r1 : Value) (u : Value) (sn : Value) (h0 : Heap) (n0 : Nat) (Z0 : n0 ≤ h0.size) (O0 : Old Z n0 h0) (Su : Sta Z Z.heap "java/lang/Throwable" "UNASSIGNED_STACK" "[Ljava/lang/StackTraceElement;" u) (hu : u.isRef = true) (Ssn : Sta Z Z.heap "java/lang/Throwable" "SUPPRESSED_SENTINEL" "Ljava/util/List;" sn) (hsn : sn.isRef = true) (hl : l.stackTraces = true) (hr1 : r1.isRef = true) (E0 : Exa Z h0 a0_ "com/example/carovita/carovita/index/CsvFormatException") (g_a0_ : n0 ≤ a0_) (U0 : Unt h0 a0_) (F0_cause : Fld Z h0 a0_ "java/lang/Throwable" "cause" "Ljava/lang/Throwable;" .null) (F0_stackTrace : Fld Z h0 a0_ "java/lang/Throwable" "stackTrace" "[Ljava/lang/StackTraceElement;" .null) (F0_suppressedExceptions : Fld Z h0 a0_ "java/lang/Throwable" "suppressedExceptions" "Ljava/util/List;" .null) (F0_detailMessage : Fld Z h0 a0_ "java/lang/Throwable" "detailMessage" "Ljava/lang/String;" .null) (F0_backtrace : Fld Z h0 a0_ "java/lang/Throwable" "backtrace" "Ljava/lang/Object;" .null) (F0_depth : Fld Z h0 a0_ "java/lang/Throwable" "depth" "I" (.int 0)) (F0_line : Fld Z h0 a0_ "com/example/carovita/carovita/index/CsvFormatException" "line" "I" (.int 0)) :
    MetFree l oY39 (head1 (Jvm.Cond.code oY39 jdk_78_method_2_code 2 none :: ws) (own_R 3 1 2752 44)) (fun a U => a = #[(.ref a0_), r1] ∧ Z.Warmed39 U.vm ∧ U.heap = h0) (fun _ _ bl s _ => s.vm.MethodsKnown ∧ s.vm.FramesKnown bl) (fun _ U o U' => ∃ v L, o = .returned v ∧ Q_thrInit Z a0_ r1 u sn h0 n0 v U'.heap L ∧ FrameEnd U o U' L (own_R 3 1 2752 44).cells (own_R 3 1 2752 44).slots) := by
  refine MetFree.of_bodySF (plainFor_of_name pn_java_lang_Throwable) hisR ?_
  intro p e s m args below meth c s₁ Bd hml0 hP hK
  obtain ⟨rfl, hZ, hh⟩ := hP
  have hx := Bd.exec
  have hby := Bd.bytes
  have hml : c.maxLocals = 2 := hml0
  have hown : s.vm.findClass "java/lang/Throwable" = some m.cls := findClass_of_methodNamed Bd.named
  have hnm := (name_of_methodNamed Bd.named Bd.method).1
  have X0 : Stand p l e (own_R 3 1 2752 44) s m #[(.ref a0_), r1] below meth c s₁ [] 0 0 := Stand.of_body Bd
  have e0 : s₁.heap = h0 := by rw [← hh, Bd.state]; rfl
  have N0 := Fr.nil n0
  have hlk : meth.locks = false := Bd.notSynchronized
  obtain ⟨P, hP⟩ : ∃ P : Outcome → State → Prop, P = PQ s (Q_thrInit Z a0_ r1 u sn h0 n0) (own_R 3 1 2752 44).cells (own_R 3 1 2752 44).slots := ⟨_, rfl⟩
  suffices hgo : Go p e below P (s₁.setTop (mkF m 0 #[(vR a0_), .val r1] [])) by
    rw [hP] at hgo
    exact Go.by (fun t k => castTop (ef_thrInit m a0_ r1 u sn hr1) k) hgo
  show oG p e below P m s₁ 0 #[(vR a0_), .val r1] []
  refine w_aloadN X0 hx hby dj78_2_0 rfl rfl ?_
  obtain ⟨T11, X11, e11, st11⟩ := initO X0 hx hZ hown (tw_206 hw) (tw_13 hw) (tw_14 hw) e0 (g := (mkF m 1 #[(vR a0_), .val r1] [(.ref a0_)])) rfl (by rw [hml]; rfl) rfl (hb hby dj78_2_1) (by decide) (W := 0) (by show 2 * 0 + _ ≤ _; exact Nat.le_of_eq rfl) (by decide)
  refine Go.by st11 ?_
  show oG p e below P m T11 4 #[(vR a0_), .val r1] []
  refine w_aloadN X11 hx hby dj78_2_4 rfl rfl ?_
  refine w_aloadN X11 hx hby dj78_2_5 rfl rfl ?_
  obtain ⟨T12, h12, X12, e12, W12, st12⟩ := putF X11 hx hZ hown (host := "") (Or.inl (tw_207 hw)) Via.refl e11 F0_cause E0 (Or.inl (tw_208 hw)) (tw_32 hw) (ty := (.object "java/lang/Throwable")) (by decide) rfl rfl (g := (mkF m 6 #[(vR a0_), .val r1] [(.ref a0_), (.ref a0_)])) rfl rfl (hb hby dj78_2_6)
  refine Go.by st12 ?_
  have N12 := Fr.snoc X12 N0 g_a0_
  have f12_0 := (Nat.le_trans Z0 (Keep.of_wr W12).1)
  have f12_1 := (Keep.wr (Keep.refl h0 [a0_]) W12 (Or.inl (List.mem_of_getElem? (i := 0) rfl)))
  have f12_2 := (Old.wr O0 W12 g_a0_)
  have f12_3 := (Exa.wr W12 E0)
  have f12_4 := Unt.wr W12 U0
  have f12_5 := (Fld.same W12 F0_cause)
  have f12_6 := (Fld.other W12 F0_stackTrace (Or.inr (slot_ne (Or.inl (tw_211 hw)) (Or.inl (tw_208 hw)) (by decide) (t := (.array (.object "java/lang/StackTraceElement"))) (t' := (.object "java/lang/Throwable")) (by decide) (by decide))))
  have f12_7 := (Fld.other W12 F0_suppressedExceptions (Or.inr (slot_ne (Or.inl (tw_214 hw)) (Or.inl (tw_208 hw)) (by decide) (t := (.object "java/util/List")) (t' := (.object "java/lang/Throwable")) (by decide) (by decide))))
  have f12_8 := (Fld.other W12 F0_detailMessage (Or.inr (slot_ne (Or.inl (tw_238 hw)) (Or.inl (tw_208 hw)) (by decide) (t := (.object "java/lang/String")) (t' := (.object "java/lang/Throwable")) (by decide) (by decide))))
  have f12_9 := (Fld.other W12 F0_backtrace (Or.inr (slot_ne (Or.inl (tw_239 hw)) (Or.inl (tw_208 hw)) (by decide) (t := (.object "java/lang/Object")) (t' := (.object "java/lang/Throwable")) (by decide) (by decide))))
  have f12_10 := (Fld.other W12 F0_depth (Or.inr (slot_ne (Or.inl (tw_240 hw)) (Or.inl (tw_208 hw)) (by decide) (t := .int) (t' := (.object "java/lang/Throwable")) (by decide) (by decide))))
  have f12_11 := (Fld.other W12 F0_line (Or.inr (slot_ne (Or.inr (tw_244 hw)) (Or.inl (tw_208 hw)) (by decide) (t := .int) (t' := (.object "java/lang/Throwable")) (by decide) (by decide))))
  show oG p e below P m T12 9 #[(vR a0_), .val r1] []
  refine w_aloadN X12 hx hby dj78_2_9 rfl rfl ?_
  obtain ⟨T13, X13, e13, st13⟩ := getS2 X12 hx hZ hown (host := "") (Or.inl (tw_209 hw)) Via.refl e12 (Su.ext f12_2.2) (g := (mkF m 10 #[(vR a0_), .val r1] [(.ref a0_)])) rfl (hb hby dj78_2_10)
  refine Go.by st13 ?_
  obtain ⟨T14, h14, X14, e14, W14, st14⟩ := putF X13 hx hZ hown (host := "") (Or.inl (tw_210 hw)) Via.refl e13 f12_6 f12_3 (Or.inl (tw_211 hw)) (tw_32 hw) (ty := (.array (.object "java/lang/StackTraceElement"))) (by decide) (narrow_isRef _ hu) (own_fitA hu) (g := (mkF m 13 #[(vR a0_), .val r1] [u, (.ref a0_)])) rfl rfl (hb hby dj78_2_13)
  refine Go.by st14 ?_
  have N14 := Fr.snoc X14 N12 g_a0_
  have f14_0 := (Nat.le_trans f12_0 (Keep.of_wr W14).1)
  have f14_1 := (Keep.wr f12_1 W14 (Or.inl (List.mem_of_getElem? (i := 0) rfl)))
  have f14_2 := (Old.wr f12_2 W14 g_a0_)
  have f14_3 := (Exa.wr W14 f12_3)
  have f14_4 := Unt.wr W14 f12_4
  have f14_5 := (Fld.other W14 f12_5 (Or.inr (slot_ne (Or.inl (tw_208 hw)) (Or.inl (tw_211 hw)) (by decide) (t := (.object "java/lang/Throwable")) (t' := (.array (.object "java/lang/StackTraceElement"))) (by decide) (by decide))))
  have f14_6 := (Fld.same W14 f12_6)
  have f14_7 := (Fld.other W14 f12_7 (Or.inr (slot_ne (Or.inl (tw_214 hw)) (Or.inl (tw_211 hw)) (by decide) (t := (.object "java/util/List")) (t' := (.array (.object "java/lang/StackTraceElement"))) (by decide) (by decide))))
  have f14_8 := (Fld.other W14 f12_8 (Or.inr (slot_ne (Or.inl (tw_238 hw)) (Or.inl (tw_211 hw)) (by decide) (t := (.object "java/lang/String")) (t' := (.array (.object "java/lang/StackTraceElement"))) (by decide) (by decide))))
  have f14_9 := (Fld.other W14 f12_9 (Or.inr (slot_ne (Or.inl (tw_239 hw)) (Or.inl (tw_211 hw)) (by decide) (t := (.object "java/lang/Object")) (t' := (.array (.object "java/lang/StackTraceElement"))) (by decide) (by decide))))
  have f14_10 := (Fld.other W14 f12_10 (Or.inr (slot_ne (Or.inl (tw_240 hw)) (Or.inl (tw_211 hw)) (by decide) (t := .int) (t' := (.array (.object "java/lang/StackTraceElement"))) (by decide) (by decide))))
  have f14_11 := (Fld.other W14 f12_11 (Or.inr (slot_ne (Or.inr (tw_244 hw)) (Or.inl (tw_211 hw)) (by decide) (t := .int) (t' := (.array (.object "java/lang/StackTraceElement"))) (by decide) (by decide))))
  show oG p e below P m T14 16 #[(vR a0_), .val r1] []
  refine w_aloadN X14 hx hby dj78_2_16 rfl rfl ?_
  obtain ⟨T15, X15, e15, st15⟩ := getS2 X14 hx hZ hown (host := "") (Or.inl (tw_212 hw)) Via.refl e14 (Ssn.ext f14_2.2) (g := (mkF m 17 #[(vR a0_), .val r1] [(.ref a0_)])) rfl (hb hby dj78_2_17)
  refine Go.by st15 ?_
  obtain ⟨T16, h16, X16, e16, W16, st16⟩ := putF X15 hx hZ hown (host := "") (Or.inl (tw_213 hw)) Via.refl e15 f14_7 f14_3 (Or.inl (tw_214 hw)) (tw_32 hw) (ty := (.object "java/util/List")) (by decide) (narrow_isRef _ hsn) (own_fitV hsn) (g := (mkF m 20 #[(vR a0_), .val r1] [sn, (.ref a0_)])) rfl rfl (hb hby dj78_2_20)
  refine Go.by st16 ?_
  have N16 := Fr.snoc X16 N14 g_a0_
  have f16_0 := (Nat.le_trans f14_0 (Keep.of_wr W16).1)
  have f16_1 := (Keep.wr f14_1 W16 (Or.inl (List.mem_of_getElem? (i := 0) rfl)))
  have f16_2 := (Old.wr f14_2 W16 g_a0_)
  have f16_3 := (Exa.wr W16 f14_3)
  have f16_4 := Unt.wr W16 f14_4
  have f16_5 := (Fld.other W16 f14_5 (Or.inr (slot_ne (Or.inl (tw_208 hw)) (Or.inl (tw_214 hw)) (by decide) (t := (.object "java/lang/Throwable")) (t' := (.object "java/util/List")) (by decide) (by decide))))
  have f16_6 := (Fld.other W16 f14_6 (Or.inr (slot_ne (Or.inl (tw_211 hw)) (Or.inl (tw_214 hw)) (by decide) (t := (.array (.object "java/lang/StackTraceElement"))) (t' := (.object "java/util/List")) (by decide) (by decide))))
  have f16_7 := (Fld.same W16 f14_7)
  have f16_8 := (Fld.other W16 f14_8 (Or.inr (slot_ne (Or.inl (tw_238 hw)) (Or.inl (tw_214 hw)) (by decide) (t := (.object "java/lang/String")) (t' := (.object "java/util/List")) (by decide) (by decide))))
  have f16_9 := (Fld.other W16 f14_9 (Or.inr (slot_ne (Or.inl (tw_239 hw)) (Or.inl (tw_214 hw)) (by decide) (t := (.object "java/lang/Object")) (t' := (.object "java/util/List")) (by decide) (by decide))))
  have f16_10 := (Fld.other W16 f14_10 (Or.inr (slot_ne (Or.inl (tw_240 hw)) (Or.inl (tw_214 hw)) (by decide) (t := .int) (t' := (.object "java/util/List")) (by decide) (by decide))))
  have f16_11 := (Fld.other W16 f14_11 (Or.inr (slot_ne (Or.inr (tw_244 hw)) (Or.inl (tw_214 hw)) (by decide) (t := .int) (t' := (.object "java/util/List")) (by decide) (by decide))))
  show oG p e below P m T16 23 #[(vR a0_), .val r1] []
  refine w_aloadN X16 hx hby dj78_2_23 rfl rfl ?_
  have hT0 : ThS Z s.heap := by rw [hh]; exact ThS.ext O0.2 ThS.start
  obtain ⟨T17, h17, Lf17, X17, e17, Lb17, Ef17, Ff17, st17⟩ := own_fill X16 hx hl hZ hown (own_xwords hw) (tw_32 hw) hT0 hK.1 hK.2 e16 hu f16_3 f16_4 f16_6 f16_9 (Su.ext f16_2.2) (g := (mkF m 24 #[(vR a0_), .val r1] [(.ref a0_)])) rfl (by rw [hml]; rfl) rfl (hb hby dj78_2_24) (by decide) (by show 2 * 0 + _ ≤ _; decide) (by decide) (by decide)
  have K17 : Keep h0 h17 [a0_] := own_keepX X17 hh e17 (own_bapp (own_bapp (own_bapp (own_bapp own_b0 (own_b1 rfl)) (own_b1 rfl)) (own_b1 rfl)) Lb17)
  have N17 := Fr.app N16 (fun y hy => by rw [Lb17 y hy]; exact g_a0_)
  have f17_0 := (Nat.le_trans Z0 K17.1)
  have f17_1 := K17
  have f17_2 := (Old.keep O0 K17 (allS g_a0_ all0))
  have f17_3 := Ef17
  have f17_4 := (Ff17 f16_5 (slot_ne (Or.inl (tw_208 hw)) (Or.inl (tw_239 hw)) (by decide) (t := (.object "java/lang/Throwable")) (t' := (.object "java/lang/Object")) (by decide) (by decide)) (slot_ne (Or.inl (tw_208 hw)) (Or.inl (tw_240 hw)) (by decide) (t := (.object "java/lang/Throwable")) (t' := .int) (by decide) (by decide)) (slot_ne (Or.inl (tw_208 hw)) (Or.inl (tw_211 hw)) (by decide) (t := (.object "java/lang/Throwable")) (t' := (.array (.object "java/lang/StackTraceElement"))) (by decide) (by decide)))
  have f17_5 := (Ff17 f16_7 (slot_ne (Or.inl (tw_214 hw)) (Or.inl (tw_239 hw)) (by decide) (t := (.object "java/util/List")) (t' := (.object "java/lang/Object")) (by decide) (by decide)) (slot_ne (Or.inl (tw_214 hw)) (Or.inl (tw_240 hw)) (by decide) (t := (.object "java/util/List")) (t' := .int) (by decide) (by decide)) (slot_ne (Or.inl (tw_214 hw)) (Or.inl (tw_211 hw)) (by decide) (t := (.object "java/util/List")) (t' := (.array (.object "java/lang/StackTraceElement"))) (by decide) (by decide)))
  have f17_6 := (Ff17 f16_8 (slot_ne (Or.inl (tw_238 hw)) (Or.inl (tw_239 hw)) (by decide) (t := (.object "java/lang/String")) (t' := (.object "java/lang/Object")) (by decide) (by decide)) (slot_ne (Or.inl (tw_238 hw)) (Or.inl (tw_240 hw)) (by decide) (t := (.object "java/lang/String")) (t' := .int) (by decide) (by decide)) (slot_ne (Or.inl (tw_238 hw)) (Or.inl (tw_211 hw)) (by decide) (t := (.object "java/lang/String")) (t' := (.array (.object "java/lang/StackTraceElement"))) (by decide) (by decide)))
  have f17_7 := (Ff17 f16_11 (slot_ne (Or.inr (tw_244 hw)) (Or.inl (tw_239 hw)) (by decide) (t := .int) (t' := (.object "java/lang/Object")) (by decide) (by decide)) (slot_ne (Or.inr (tw_244 hw)) (Or.inl (tw_240 hw)) (by decide) (t := .int) (t' := .int) (by decide) (by decide)) (slot_ne (Or.inr (tw_244 hw)) (Or.inl (tw_211 hw)) (by decide) (t := .int) (t' := (.array (.object "java/lang/StackTraceElement"))) (by decide) (by decide)))
  refine Go.by st17 ?_
  show oG p e below P m T17 27 #[(vR a0_), .val r1] [(.ref a0_)]
  refine w_pop X17 hx hby dj78_2_27 rfl ?_
  refine w_aloadN X17 hx hby dj78_2_28 rfl rfl ?_
  refine w_aloadN X17 hx hby dj78_2_29 rfl hr1 ?_
  obtain ⟨T18, h18, X18, e18, W18, st18⟩ := putF X17 hx hZ hown (host := "") (Or.inl (tw_242 hw)) Via.refl e17 f17_6 f17_3 (Or.inl (tw_238 hw)) (tw_32 hw) (ty := (.object "java/lang/String")) (by decide) (narrow_isRef _ hr1) (own_fitV hr1) (g := (mkF m 30 #[(vR a0_), .val r1] [r1, (.ref a0_)])) rfl rfl (hb hby dj78_2_30)
  refine Go.by st18 ?_
  have N18 := Fr.snoc X18 N17 g_a0_
  have f18_0 := (Nat.le_trans f17_0 (Keep.of_wr W18).1)
  have f18_1 := (Keep.wr f17_1 W18 (Or.inl (List.mem_of_getElem? (i := 0) rfl)))
  have f18_2 := (Old.wr f17_2 W18 g_a0_)
  have f18_3 := (Exa.wr W18 f17_3)
  have f18_4 := (Fld.other W18 f17_4 (Or.inr (slot_ne (Or.inl (tw_208 hw)) (Or.inl (tw_238 hw)) (by decide) (t := (.object "java/lang/Throwable")) (t' := (.object "java/lang/String")) (by decide) (by decide))))
  have f18_5 := (Fld.other W18 f17_5 (Or.inr (slot_ne (Or.inl (tw_214 hw)) (Or.inl (tw_238 hw)) (by decide) (t := (.object "java/util/List")) (t' := (.object "java/lang/String")) (by decide) (by decide))))
  have f18_6 := (Fld.same W18 f17_6)
  have f18_7 := (Fld.other W18 f17_7 (Or.inr (slot_ne (Or.inr (tw_244 hw)) (Or.inl (tw_238 hw)) (by decide) (t := .int) (t' := (.object "java/lang/String")) (by decide) (by decide))))
  show oG p e below P m T18 33 #[(vR a0_), .val r1] []
  refine own_fin hP hlk X18 (v := none) (fun _ => rfl) (by decide) (by decide) ?_ (fun fs hr => X18.returnOut hx Bd.returns (hb hby dj78_2_33) hr)
  rw [e18]
  exact ⟨rfl, N18, f18_1, f18_6, f18_7⟩
def Q_exc0 (Z : State) (a0_ : Addr) (r1 : Value) (u : Value) (sn : Value) (h0 : Heap) (n0 : Nat) (v : Option Value) (h : Heap) (L : List Loc) : Prop := v = none ∧ Fr n0 L ∧ Keep h0 h [a0_] ∧ Fld Z h a0_ "java/lang/Throwable" "detailMessage" "Ljava/lang/String;" r1 ∧ Fld Z h a0_ "com/example/carovita/carovita/index/CsvFormatException" "line" "I" (.int 0)
theorem ef_exc0 (m : MethodId) (a0_ : Addr) (r1 : Value) (u : Value) (sn : Value) (hr1 : r1.isRef = true) : entryFrame m #[(.ref a0_), r1] 2 = mkF m 0 #[(vR a0_), .val r1] [] := by rcases XT.refc hr1 with rfl | ⟨_, rfl⟩ <;> first | (simp [entryFrame, mkF, argsToLocals, Value.category]; done) | rfl
set_option maxRecDepth 65536 in
set_option maxHeartbeats 40000000 in
theorem rm_exc0 (l : Launch) (Z : State) (a0 : Array Value) (hw : oW a0 Z) (ws : List Jvm.Cond) (a0_ : Addr) (r1 : Value) (u : Value) (sn : Value) (h0 : Heap) (n0 : Nat) (Z0 : n0 ≤ h0.size) (O0 : Old Z n0 h0) (Su : Sta Z Z.heap "java/lang/Throwable" "UNASSIGNED_STACK" "[Ljava/lang/StackTraceElement;" u) (hu : u.isRef = true) (Ssn : Sta Z Z.heap "java/lang/Throwable" "SUPPRESSED_SENTINEL" "Ljava/util/List;" sn) (hsn : sn.isRef = true) (hl : l.stackTraces = true) (hr1 : r1.isRef = true) (E0 : Exa Z h0 a0_ "com/example/carovita/carovita/index/CsvFormatException") (g_a0_ : n0 ≤ a0_) (U0 : Unt h0 a0_) (F0_cause : Fld Z h0 a0_ "java/lang/Throwable" "cause" "Ljava/lang/Throwable;" .null) (F0_stackTrace : Fld Z h0 a0_ "java/lang/Throwable" "stackTrace" "[Ljava/lang/StackTraceElement;" .null) (F0_suppressedExceptions : Fld Z h0 a0_ "java/lang/Throwable" "suppressedExceptions" "Ljava/util/List;" .null) (F0_detailMessage : Fld Z h0 a0_ "java/lang/Throwable" "detailMessage" "Ljava/lang/String;" .null) (F0_backtrace : Fld Z h0 a0_ "java/lang/Throwable" "backtrace" "Ljava/lang/Object;" .null) (F0_depth : Fld Z h0 a0_ "java/lang/Throwable" "depth" "I" (.int 0)) (F0_line : Fld Z h0 a0_ "com/example/carovita/carovita/index/CsvFormatException" "line" "I" (.int 0)) :
    MetFree l oY40 (head1 (Jvm.Cond.code oY40 jdk_59_method_2_code 2 none :: ws) (own_R 4 1 2752 58)) (fun a U => a = #[(.ref a0_), r1] ∧ Z.Warmed39 U.vm ∧ U.heap = h0) (fun _ _ bl s _ => s.vm.MethodsKnown ∧ s.vm.FramesKnown bl) (fun _ U o U' => ∃ v L, o = .returned v ∧ Q_exc0 Z a0_ r1 u sn h0 n0 v U'.heap L ∧ FrameEnd U o U' L (own_R 4 1 2752 58).cells (own_R 4 1 2752 58).slots) := by
  refine MetFree.of_bodySF (plainFor_of_name pn_java_lang_Exception) hisR ?_
  intro p e s m args below meth c s₁ Bd hml0 hP hK
  obtain ⟨rfl, hZ, hh⟩ := hP
  have hx := Bd.exec
  have hby := Bd.bytes
  have hml : c.maxLocals = 2 := hml0
  have hown : s.vm.findClass "java/lang/Exception" = some m.cls := findClass_of_methodNamed Bd.named
  have hnm := (name_of_methodNamed Bd.named Bd.method).1
  have X0 : Stand p l e (own_R 4 1 2752 58) s m #[(.ref a0_), r1] below meth c s₁ [] 0 0 := Stand.of_body Bd
  have e0 : s₁.heap = h0 := by rw [← hh, Bd.state]; rfl
  have N0 := Fr.nil n0
  have hlk : meth.locks = false := Bd.notSynchronized
  obtain ⟨P, hP⟩ : ∃ P : Outcome → State → Prop, P = PQ s (Q_exc0 Z a0_ r1 u sn h0 n0) (own_R 4 1 2752 58).cells (own_R 4 1 2752 58).slots := ⟨_, rfl⟩
  suffices hgo : Go p e below P (s₁.setTop (mkF m 0 #[(vR a0_), .val r1] [])) by
    rw [hP] at hgo
    exact Go.by (fun t k => castTop (ef_exc0 m a0_ r1 u sn hr1) k) hgo
  show oG p e below P m s₁ 0 #[(vR a0_), .val r1] []
  refine w_aloadN X0 hx hby dj59_2_0 rfl rfl ?_
  refine w_aloadN X0 hx hby dj59_2_1 rfl hr1 ?_
  obtain ⟨_, _, ⟨T11, L11, k11, n11⟩, -, X11, ⟨Lc11, hQ11, l11, y11, z11⟩, st11⟩ := X0.specialBack hx (y := oY39) rfl hown (mvT hZ (tw_200 hw)) (mvT hZ (tw_201 hw)) (mvT hZ (tw_205 hw)) (by decide) (backOfKL (W := 0) (rm_thrInit l Z a0 hw [] a0_ r1 u sn h0 n0 Z0 O0 Su hu Ssn hsn hl hr1 E0 g_a0_ U0 F0_cause F0_stackTrace F0_suppressedExceptions F0_detailMessage F0_backtrace F0_depth F0_line) hZ (tw_205 hw) (tw_204 hw) (by decide) (by decide) hK.1 hK.2) (g := (mkF m 2 #[(vR a0_), .val r1] [r1, (.ref a0_)])) rfl (by rw [hml]; rfl) (Steps.refl _) (a := a0_) (argsL := [r1]) (rest := []) (lenOf pd__Ljava_lang_String__V rfl) rfl (by show 2 * 0 + _ ≤ _; exact Nat.le_of_eq rfl) (hb hby dj59_2_2) (fun _ _ => ⟨rfl, e0, (by decide : 0 + 1 ≤ _), (by decide : 0 + 2752 ≤ _)⟩)
  dsimp only [Pt.U, Pt.locs, Pt.cells, Pt.slots] at X11 l11 y11 z11 st11 hQ11
  subst l11 y11 z11
  obtain ⟨rfl, N11q, K11, Gm11, G11_0⟩ := hQ11
  have N11 := Fr.app N0 N11q
  refine Go.by (fun t k => st11.trans k) ?_
  have f11_0 := (Nat.le_trans Z0 K11.1)
  have f11_1 := (Keep.trans (Keep.refl h0 [a0_]) K11 (allS (Or.inl (List.mem_of_getElem? (i := 0) rfl)) all0))
  have f11_2 := (Old.keep O0 K11 (allS g_a0_ all0))
  have f11_3 := (Exa.keep E0 K11)
  show oG p e below P m T11 5 #[(vR a0_), .val r1] []
  refine own_fin hP hlk X11 (v := none) (fun _ => rfl) (by decide) (by decide) ?_ (fun fs hr => X11.returnOut hx Bd.returns (hb hby dj59_2_5) hr)
  exact ⟨rfl, N11, f11_1, Gm11, G11_0⟩
def Q_exc1 (Z : State) (a0_ : Addr) (r1 : Value) (u : Value) (sn : Value) (h0 : Heap) (n0 : Nat) (v : Option Value) (h : Heap) (L : List Loc) : Prop := v = none ∧ Fr n0 L ∧ Keep h0 h [a0_] ∧ Fld Z h a0_ "java/lang/Throwable" "detailMessage" "Ljava/lang/String;" r1 ∧ Fld Z h a0_ "com/example/carovita/carovita/index/CsvFormatException" "line" "I" (.int 0)
theorem ef_exc1 (m : MethodId) (a0_ : Addr) (r1 : Value) (u : Value) (sn : Value) (hr1 : r1.isRef = true) : entryFrame m #[(.ref a0_), r1] 2 = mkF m 0 #[(vR a0_), .val r1] [] := by rcases XT.refc hr1 with rfl | ⟨_, rfl⟩ <;> first | (simp [entryFrame, mkF, argsToLocals, Value.category]; done) | rfl
set_option maxRecDepth 65536 in
set_option maxHeartbeats 40000000 in
theorem rm_exc1 (l : Launch) (Z : State) (a0 : Array Value) (hw : oW a0 Z) (ws : List Jvm.Cond) (a0_ : Addr) (r1 : Value) (u : Value) (sn : Value) (h0 : Heap) (n0 : Nat) (Z0 : n0 ≤ h0.size) (O0 : Old Z n0 h0) (Su : Sta Z Z.heap "java/lang/Throwable" "UNASSIGNED_STACK" "[Ljava/lang/StackTraceElement;" u) (hu : u.isRef = true) (Ssn : Sta Z Z.heap "java/lang/Throwable" "SUPPRESSED_SENTINEL" "Ljava/util/List;" sn) (hsn : sn.isRef = true) (hl : l.stackTraces = true) (hr1 : r1.isRef = true) (E0 : Exa Z h0 a0_ "com/example/carovita/carovita/index/CsvFormatException") (g_a0_ : n0 ≤ a0_) (U0 : Unt h0 a0_) (F0_cause : Fld Z h0 a0_ "java/lang/Throwable" "cause" "Ljava/lang/Throwable;" .null) (F0_stackTrace : Fld Z h0 a0_ "java/lang/Throwable" "stackTrace" "[Ljava/lang/StackTraceElement;" .null) (F0_suppressedExceptions : Fld Z h0 a0_ "java/lang/Throwable" "suppressedExceptions" "Ljava/util/List;" .null) (F0_detailMessage : Fld Z h0 a0_ "java/lang/Throwable" "detailMessage" "Ljava/lang/String;" .null) (F0_backtrace : Fld Z h0 a0_ "java/lang/Throwable" "backtrace" "Ljava/lang/Object;" .null) (F0_depth : Fld Z h0 a0_ "java/lang/Throwable" "depth" "I" (.int 0)) (F0_line : Fld Z h0 a0_ "com/example/carovita/carovita/index/CsvFormatException" "line" "I" (.int 0)) :
    MetFree l oY26 (head1 (Jvm.Cond.code oY26 jdk_131_method_2_code 2 none :: ws) (own_R 5 1 2752 72)) (fun a U => a = #[(.ref a0_), r1] ∧ Z.Warmed39 U.vm ∧ U.heap = h0) (fun _ _ bl s _ => s.vm.MethodsKnown ∧ s.vm.FramesKnown bl) (fun _ U o U' => ∃ v L, o = .returned v ∧ Q_exc1 Z a0_ r1 u sn h0 n0 v U'.heap L ∧ FrameEnd U o U' L (own_R 5 1 2752 72).cells (own_R 5 1 2752 72).slots) := by
  refine MetFree.of_bodySF (plainFor_of_name pn_java_io_IOException) hisR ?_
  intro p e s m args below meth c s₁ Bd hml0 hP hK
  obtain ⟨rfl, hZ, hh⟩ := hP
  have hx := Bd.exec
  have hby := Bd.bytes
  have hml : c.maxLocals = 2 := hml0
  have hown : s.vm.findClass "java/io/IOException" = some m.cls := findClass_of_methodNamed Bd.named
  have hnm := (name_of_methodNamed Bd.named Bd.method).1
  have X0 : Stand p l e (own_R 5 1 2752 72) s m #[(.ref a0_), r1] below meth c s₁ [] 0 0 := Stand.of_body Bd
  have e0 : s₁.heap = h0 := by rw [← hh, Bd.state]; rfl
  have N0 := Fr.nil n0
  have hlk : meth.locks = false := Bd.notSynchronized
  obtain ⟨P, hP⟩ : ∃ P : Outcome → State → Prop, P = PQ s (Q_exc1 Z a0_ r1 u sn h0 n0) (own_R 5 1 2752 72).cells (own_R 5 1 2752 72).slots := ⟨_, rfl⟩
  suffices hgo : Go p e below P (s₁.setTop (mkF m 0 #[(vR a0_), .val r1] [])) by
    rw [hP] at hgo
    exact Go.by (fun t k => castTop (ef_exc1 m a0_ r1 u sn hr1) k) hgo
  show oG p e below P m s₁ 0 #[(vR a0_), .val r1] []
  refine w_aloadN X0 hx hby dj131_2_0 rfl rfl ?_
  refine w_aloadN X0 hx hby dj131_2_1 rfl hr1 ?_
  obtain ⟨_, _, ⟨T11, L11, k11, n11⟩, -, X11, ⟨Lc11, hQ11, l11, y11, z11⟩, st11⟩ := X0.specialBack hx (y := oY40) rfl hown (mvT hZ (tw_194 hw)) (mvT hZ (tw_195 hw)) (mvT hZ (tw_199 hw)) (by decide) (backOfKL (W := 0) (rm_exc0 l Z a0 hw [] a0_ r1 u sn h0 n0 Z0 O0 Su hu Ssn hsn hl hr1 E0 g_a0_ U0 F0_cause F0_stackTrace F0_suppressedExceptions F0_detailMessage F0_backtrace F0_depth F0_line) hZ (tw_199 hw) (tw_198 hw) (by decide) (by decide) hK.1 hK.2) (g := (mkF m 2 #[(vR a0_), .val r1] [r1, (.ref a0_)])) rfl (by rw [hml]; rfl) (Steps.refl _) (a := a0_) (argsL := [r1]) (rest := []) (lenOf pd__Ljava_lang_String__V rfl) rfl (by show 2 * 0 + _ ≤ _; exact Nat.le_of_eq rfl) (hb hby dj131_2_2) (fun _ _ => ⟨rfl, e0, (by decide : 0 + 1 ≤ _), (by decide : 0 + 2752 ≤ _)⟩)
  dsimp only [Pt.U, Pt.locs, Pt.cells, Pt.slots] at X11 l11 y11 z11 st11 hQ11
  subst l11 y11 z11
  obtain ⟨rfl, N11q, K11, Gm11, G11_0⟩ := hQ11
  have N11 := Fr.app N0 N11q
  refine Go.by (fun t k => st11.trans k) ?_
  have f11_0 := (Nat.le_trans Z0 K11.1)
  have f11_1 := (Keep.trans (Keep.refl h0 [a0_]) K11 (allS (Or.inl (List.mem_of_getElem? (i := 0) rfl)) all0))
  have f11_2 := (Old.keep O0 K11 (allS g_a0_ all0))
  have f11_3 := (Exa.keep E0 K11)
  show oG p e below P m T11 5 #[(vR a0_), .val r1] []
  refine own_fin hP hlk X11 (v := none) (fun _ => rfl) (by decide) (by decide) ?_ (fun fs hr => X11.returnOut hx Bd.returns (hb hby dj131_2_5) hr)
  exact ⟨rfl, N11, f11_1, Gm11, G11_0⟩
def Q_cexA (Z : State) (a0_ : Addr) (p0 : Int32) (a2_ : Addr) (d2 : Addr) (k2 : ClassId) (rs : List Value) (D1 : Addr) (kD1 : ClassId) (D2 : Addr) (kD2 : ClassId) (u : Value) (sn : Value) (cs : Int32) (h0 : Heap) (n0 : Nat) (v : Option Value) (h : Heap) (L : List Loc) : Prop := v = none ∧ Fr n0 L ∧ Keep h0 h [a0_] ∧ Fld Z h a0_ "com/example/carovita/carovita/index/CsvFormatException" "line" "I" (.int p0) ∧ ∃ ms md mk, Fld Z h a0_ "java/lang/Throwable" "detailMessage" "Ljava/lang/String;" (.ref ms) ∧ h0.size ≤ ms ∧ h0.size ≤ md ∧ Exa Z h ms "java/lang/String" ∧ Fld Z h ms "java/lang/String" "coder" "B" (.int 0) ∧ Fld Z h ms "java/lang/String" "value" "[B" (.ref md) ∧ Arv Z h md mk .byte (own_tot p0) (own_pre p0 ++ rs) (.int 0)
theorem ef_cexA (m : MethodId) (a0_ : Addr) (p0 : Int32) (a2_ : Addr) (d2 : Addr) (k2 : ClassId) (rs : List Value) (D1 : Addr) (kD1 : ClassId) (D2 : Addr) (kD2 : ClassId) (u : Value) (sn : Value) (cs : Int32) : entryFrame m #[(.ref a0_), (.int p0), (.ref a2_)] 3 = mkF m 0 #[(vR a0_), (vI p0), (vR a2_)] [] := by first | (simp [entryFrame, mkF, argsToLocals, Value.category]; done) | rfl
set_option maxRecDepth 65536 in
set_option maxHeartbeats 40000000 in
theorem rm_cexA (l : Launch) (Z : State) (a0 : Array Value) (hw : oW a0 Z) (hEL : EW Z a0 own_EL) (ws : List Jvm.Cond) (a0_ : Addr) (p0 : Int32) (a2_ : Addr) (d2 : Addr) (k2 : ClassId) (rs : List Value) (D1 : Addr) (kD1 : ClassId) (D2 : Addr) (kD2 : ClassId) (u : Value) (sn : Value) (cs : Int32) (h0 : Heap) (n0 : Nat) (Z0 : n0 ≤ h0.size) (O0 : Old Z n0 h0) (Scs : Sta Z Z.heap "java/lang/String" "COMPACT_STRINGS" "Z" (.int cs)) (hcs : ¬ cs = (0 : Int32)) (Su : Sta Z Z.heap "java/lang/Throwable" "UNASSIGNED_STACK" "[Ljava/lang/StackTraceElement;" u) (hu : u.isRef = true) (Ssn : Sta Z Z.heap "java/lang/Throwable" "SUPPRESSED_SENTINEL" "Ljava/util/List;" sn) (hsn : sn.isRef = true) (hl : l.stackTraces = true) (S1 : Sta Z Z.heap "java/lang/Integer" "DigitOnes" "[B" (.ref D1)) (S2 : Sta Z Z.heap "java/lang/Integer" "DigitTens" "[B" (.ref D2)) (VD1 : Arv Z Z.heap D1 kD1 .byte (100 : Int32) own_ones (.int 0)) (VD2 : Arv Z Z.heap D2 kD2 .byte (100 : Int32) own_tens (.int 0)) (E0 : Exa Z h0 a0_ "com/example/carovita/carovita/index/CsvFormatException") (g_a0_ : n0 ≤ a0_) (U0 : Unt h0 a0_) (F0_cause : Fld Z h0 a0_ "java/lang/Throwable" "cause" "Ljava/lang/Throwable;" .null) (F0_stackTrace : Fld Z h0 a0_ "java/lang/Throwable" "stackTrace" "[Ljava/lang/StackTraceElement;" .null) (F0_suppressedExceptions : Fld Z h0 a0_ "java/lang/Throwable" "suppressedExceptions" "Ljava/util/List;" .null) (F0_detailMessage : Fld Z h0 a0_ "java/lang/Throwable" "detailMessage" "Ljava/lang/String;" .null) (F0_backtrace : Fld Z h0 a0_ "java/lang/Throwable" "backtrace" "Ljava/lang/Object;" .null) (F0_depth : Fld Z h0 a0_ "java/lang/Throwable" "depth" "I" (.int 0)) (F0_line : Fld Z h0 a0_ "com/example/carovita/carovita/index/CsvFormatException" "line" "I" (.int 0)) (E2 : Exa Z h0 a2_ "java/lang/String") (F2c : Fld Z h0 a2_ "java/lang/String" "coder" "B" (.int 0)) (F2v : Fld Z h0 a2_ "java/lang/String" "value" "[B" (.ref d2)) (V2 : Arv Z h0 d2 k2 .byte (34 : Int32) rs (.int 0)) (hrl : (34 : Int32).toNatClampNeg = rs.length) :
    MetFree l oY27 (head1 (Jvm.Cond.code oY27 prog_36_method_1_code 3 none :: ws) (own_R 6 12 3300 130)) (fun a U => a = #[(.ref a0_), (.int p0), (.ref a2_)] ∧ Z.Warmed39 U.vm ∧ U.heap = h0 ∧ CHv Z own_EL U.vm h0 ∧ ∀ x ∈ ([a0_] : List Addr), Safe Z own_EL U.vm h0 x) (fun _ _ bl s _ => s.vm.MethodsKnown ∧ s.vm.FramesKnown bl) (fun _ U o U' => ∃ v L, o = .returned v ∧ Q_cexA Z a0_ p0 a2_ d2 k2 rs D1 kD1 D2 kD2 u sn cs h0 n0 v U'.heap L ∧ CHr Z own_EL U.vm U.heap U'.vm U'.heap ∧ ReturnedEndW U o U' L (own_R 6 12 3300 130).cells (own_R 6 12 3300 130).slots) := by
  refine MetFree.of_bodySF (plainFor_of_name pn_com_example_carovita_carovita_index_CsvFormatException) hisR ?_
  intro p e s m args below meth c s₁ Bd hml0 hP hK
  obtain ⟨rfl, hZ, hh, hCH, hSf⟩ := hP
  have hx := Bd.exec
  have hby := Bd.bytes
  have hml : c.maxLocals = 3 := hml0
  have hown : s.vm.findClass "com/example/carovita/carovita/index/CsvFormatException" = some m.cls := findClass_of_methodNamed Bd.named
  have hnm := (name_of_methodNamed Bd.named Bd.method).1
  have X0 : Stand p l e (own_R 6 12 3300 130) (s.setVm s.vm) m #[(.ref a0_), (.int p0), (.ref a2_)] below meth c s₁ [] 0 0 := Stand.of_body Bd
  have e0 : s₁.heap = h0 := by rw [← hh, Bd.state]; rfl
  have N0 := Fr.nil n0
  have hZs := hZ
  have wS := own_wS hw
  have hS0 : s.Since s.vm s.heap.size := (State.WarmedH.refl s).since _
  have hk0 : s.heap.size ≤ h0.size := Nat.le_of_eq (congrArg Array.size hh)
  have hlk : meth.locks = false := Bd.notSynchronized
  obtain ⟨P, hP⟩ : ∃ P : Outcome → State → Prop, P = PQW s Z own_EL (Q_cexA Z a0_ p0 a2_ d2 k2 rs D1 kD1 D2 kD2 u sn cs h0 n0) (own_R 6 12 3300 130).cells (own_R 6 12 3300 130).slots := ⟨_, rfl⟩
  suffices hgo : Go p e below P (s₁.setTop (mkF m 0 #[(vR a0_), (vI p0), (vR a2_)] [])) by
    rw [hP] at hgo
    exact Go.by (fun t k => castTop (ef_cexA m a0_ p0 a2_ d2 k2 rs D1 kD1 D2 kD2 u sn cs) k) hgo
  have ne20 : a2_ ≠ a0_ := ne_exa E2 E0 (by decide)
  have ned0 : d2 ≠ a0_ := fun q => by obtain ⟨_, Ar, -⟩ := V2; exact ne_arr E0 (tw_32 hw) Ar q.symm
  show oG p e below P m s₁ 0 #[(vR a0_), (vI p0), (vR a2_)] []
  refine w_aloadN X0 hx hby dp36_1_0 rfl rfl ?_
  obtain ⟨T11, h11, X11, e11, E11, A11, D11, U11, st11⟩ := newO X0 hx hZ hown (tw_37 hw) (tw_38 hw) (tw_39 hw) e0 (g := (mkF m 1 #[(vR a0_), (vI p0), (vR a2_)] [(.ref a0_)])) rfl (hb hby dp36_1_1) (by decide) (by decide)
  obtain ⟨b11, g11⟩ : ∃ z, z = h0.size := ⟨_, rfl⟩
  rw [← g11] at A11 D11 U11 st11
  have g_b11 : n0 ≤ b11 := Nat.le_trans Z0 (Nat.le_of_eq g11.symm)
  have sz_b11 : h0.size ≤ b11 := Nat.le_trans (Keep.refl h0 [a0_]).1 (Nat.le_of_eq g11.symm)
  have ne_a0__b11 : a0_ ≠ b11 := Nat.ne_of_lt (Nat.lt_of_lt_of_le (E0.lt) (Nat.le_of_eq g11.symm))
  have ne_a2__b11 : a2_ ≠ b11 := Nat.ne_of_lt (Nat.lt_of_lt_of_le (E2.lt) (Nat.le_of_eq g11.symm))
  have ne_d2_b11 : d2 ≠ b11 := Nat.ne_of_lt (Nat.lt_of_lt_of_le (V2.lt) (Nat.le_of_eq g11.symm))
  have sf_b11 : Safe Z own_EL s.vm h0 b11 := Safe.new (Nat.le_of_eq g11.symm)
  have f11_0 := (Nat.le_trans Z0 E11.1)
  have f11_1 := (CHr.trans (CHr.refl hCH) (CHr.ext E11 (CHr.refl hCH).1))
  have f11_2 := (Nat.le_trans hk0 E11.1)
  have f11_3 := (Safe.ext E11 (CHr.refl hCH).1 (hSf a0_ (List.mem_of_getElem? (i := 0) rfl)))
  have f11_4 := (Keep.ext (Keep.refl h0 [a0_]) E11)
  have f11_5 := (Old.ext O0 E11)
  have f11_6 := (Exa.ext E11 E0)
  have f11_7 := Unt.ext E11 U0
  have f11_8 := (Fld.ext E11 F0_cause)
  have f11_9 := (Fld.ext E11 F0_stackTrace)
  have f11_10 := (Fld.ext E11 F0_suppressedExceptions)
  have f11_11 := (Fld.ext E11 F0_detailMessage)
  have f11_12 := (Fld.ext E11 F0_backtrace)
  have f11_13 := (Fld.ext E11 F0_depth)
  have f11_14 := (Fld.ext E11 F0_line)
  have f11_15 := (Exa.ext E11 E2)
  have f11_16 := (Fld.ext E11 F2c)
  have f11_17 := (Fld.ext E11 F2v)
  have f11_18 := (Arv.ext V2 E11)
  have f11_19 := (Safe.ext E11 (CHr.refl hCH).1 sf_b11)
  refine Go.by st11 ?_
  have F11_value : Fld Z h11 b11 "java/lang/AbstractStringBuilder" "value" "[B" .null := D11 (Or.inl (tw_52 hw)) (ty := (.array .byte)) (by decide)
  have F11_coder : Fld Z h11 b11 "java/lang/AbstractStringBuilder" "coder" "B" (.int 0) := D11 (Or.inl (tw_54 hw)) (ty := .byte) (by decide)
  have F11_count : Fld Z h11 b11 "java/lang/AbstractStringBuilder" "count" "I" (.int 0) := D11 (Or.inl (tw_79 hw)) (ty := .int) (by decide)
  show oG p e below P m T11 4 #[(vR a0_), (vI p0), (vR a2_)] [(.ref b11), (.ref a0_)]
  refine w_dup X11 hx hby dp36_1_4 rfl ?_
  obtain ⟨_, _, ⟨T12, L12, k12, n12⟩, -, X12, ⟨Lc12, hQ12, l12, y12, z12⟩, st12⟩ := X11.specialBack hx (y := oY24) rfl hown (mvT hZ (tw_40 hw)) (mvT hZ (tw_41 hw)) (mvT hZ (tw_42 hw)) (by decide) (backOf (W := 2) (rm_sbInit l Z a0 hw [] b11 cs h11 n0 f11_0 f11_5 Scs hcs A11 g_b11 F11_value F11_coder F11_count) hZ (tw_42 hw) (tw_39 hw) (by decide) (by decide)) (g := (mkF m 5 #[(vR a0_), (vI p0), (vR a2_)] [(.ref b11), (.ref b11), (.ref a0_)])) rfl (by rw [hml]; rfl) (Steps.refl _) (a := b11) (argsL := []) (rest := [(.ref b11), (.ref a0_)]) (lenOf pd___V rfl) rfl (by show 2 * 0 + _ ≤ _; exact Nat.le_of_eq rfl) (hb hby dp36_1_5) (fun _ _ => ⟨rfl, e11, (by decide : 1 + 1 ≤ _), (by decide : 4 + 16 ≤ _)⟩)
  dsimp only [Pt.U, Pt.locs, Pt.cells, Pt.slots] at X12 l12 y12 z12 st12 hQ12
  subst l12 y12 z12
  obtain ⟨rfl, N12q, d12, kd12, K12, z12, Gv12, Gc12, Gn12, V12⟩ := hQ12
  have N12 := Fr.app N0 N12q
  refine Go.by (fun t k => st12.trans k) ?_
  have f12_0 := (Nat.le_trans f11_0 K12.1)
  have f12_1 := (CHr.trans f11_1 (CHr.keep K12 (sfS f11_19 sf0) f11_1.1))
  have f12_2 := (Nat.le_trans f11_2 K12.1)
  have f12_3 := (Safe.keep K12 (sfS f11_19 sf0) f11_1.1 f11_3)
  have f12_4 := (Keep.trans f11_4 K12 (allS (Or.inr sz_b11) all0))
  have f12_5 := (Old.keep f11_5 K12 (allS g_b11 all0))
  have f12_6 := (Exa.keep f11_6 K12)
  have f12_7 := Unt.keep K12 (ninS ne_a0__b11 nin0) f11_7
  have f12_8 := (Fld.keep f11_8 K12 (ninS ne_a0__b11 nin0))
  have f12_9 := (Fld.keep f11_9 K12 (ninS ne_a0__b11 nin0))
  have f12_10 := (Fld.keep f11_10 K12 (ninS ne_a0__b11 nin0))
  have f12_11 := (Fld.keep f11_11 K12 (ninS ne_a0__b11 nin0))
  have f12_12 := (Fld.keep f11_12 K12 (ninS ne_a0__b11 nin0))
  have f12_13 := (Fld.keep f11_13 K12 (ninS ne_a0__b11 nin0))
  have f12_14 := (Fld.keep f11_14 K12 (ninS ne_a0__b11 nin0))
  have f12_15 := (Exa.keep f11_15 K12)
  have f12_16 := (Fld.keep f11_16 K12 (ninS ne_a2__b11 nin0))
  have f12_17 := (Fld.keep f11_17 K12 (ninS ne_a2__b11 nin0))
  have f12_18 := (Arv.keep f11_18 K12 (ninS ne_d2_b11 nin0))
  have f12_19 := (Safe.keep K12 (sfS f11_19 sf0) f11_1.1 f11_19)
  have f12_20 := (Exa.keep A11 K12)
  have g_d12 : n0 ≤ d12 := Nat.le_trans f11_0 z12
  have sz_d12 : h0.size ≤ d12 := Nat.le_trans f11_4.1 z12
  have ne_a0__d12 : a0_ ≠ d12 := Nat.ne_of_lt (Nat.lt_of_lt_of_le (f11_6.lt) z12)
  have ne_a2__d12 : a2_ ≠ d12 := Nat.ne_of_lt (Nat.lt_of_lt_of_le (f11_15.lt) z12)
  have ne_d2_d12 : d2 ≠ d12 := Nat.ne_of_lt (Nat.lt_of_lt_of_le (f11_18.lt) z12)
  have ne_b11_d12 : b11 ≠ d12 := Nat.ne_of_lt (Nat.lt_of_lt_of_le (A11.lt) z12)
  have sf_d12 : Safe Z own_EL s.vm T12.heap d12 := Safe.keep K12 (sfS f11_19 sf0) f11_1.1 (Safe.new z12)
  show oG p e below P m T12 8 #[(vR a0_), (vI p0), (vR a2_)] [(.ref b11), (.ref a0_)]
  obtain ⟨b13, T13, h13, k113, d13, kd13, X13, e13, E13, hS13, hk13, hZ13, hown13, Eb13, Fc13, Fv13, Vd13, lb13, ld13, C13, Lt13, Sf13, st13⟩ := ldcCH X12 hx hZ hown (tw_55 hw) wS rfl hS0 f12_2 hEL (by decide) f12_1.1 (vs := [(.int 108), (.int 105), (.int 110), (.int 101), (.int 32)]) (z := (5 : Int32)) ⟨by decide, by decide⟩ (by decide) (by decide) (g := (mkF m 8 #[(vR a0_), (vI p0), (vR a2_)] [(.ref b11), (.ref a0_)])) rfl (hb hby dp36_1_8) (n := 20) (by decide) (by decide) (by decide) (by decide)
  have f13_0 := (Nat.le_trans f12_0 E13.1)
  have f13_1 := (CHr.trans f12_1 C13)
  have f13_2 := hk13
  have f13_3 := (CHr.safe C13 (f12_6.lt) f12_3)
  have f13_4 := (Keep.ext f12_4 E13)
  have f13_5 := (Old.ext f12_5 E13)
  have f13_6 := (Exa.ext E13 f12_6)
  have f13_7 := Unt.ext E13 f12_7
  have f13_8 := (Fld.ext E13 f12_8)
  have f13_9 := (Fld.ext E13 f12_9)
  have f13_10 := (Fld.ext E13 f12_10)
  have f13_11 := (Fld.ext E13 f12_11)
  have f13_12 := (Fld.ext E13 f12_12)
  have f13_13 := (Fld.ext E13 f12_13)
  have f13_14 := (Fld.ext E13 f12_14)
  have f13_15 := (Exa.ext E13 f12_15)
  have f13_16 := (Fld.ext E13 f12_16)
  have f13_17 := (Fld.ext E13 f12_17)
  have f13_18 := (Arv.ext f12_18 E13)
  have f13_19 := (CHr.safe C13 (f12_20.lt) f12_19)
  have f13_20 := (Exa.ext E13 f12_20)
  have f13_21 := (CHr.safe C13 (V12.lt) sf_d12)
  have f13_22 := (Fld.ext E13 Gv12)
  have f13_23 := (Fld.ext E13 Gc12)
  have f13_24 := (Fld.ext E13 Gn12)
  have f13_25 := (Arv.ext V12 E13)
  refine Go.by st13 ?_
  obtain ⟨cq14, kq14, q14a, q14b, q14c⟩ := isOf hZ13 e13 f13_20
  obtain ⟨_, _, ⟨T14, L14, k14, n14⟩, -, X14, ⟨Lc14, hQ14, l14, y14, z14⟩, st14⟩ := X13.virtualBack hx (y := oY0) (z := oY0) hown13 (mvT hZ13 (tw_58 hw)) (mvT hZ13 (tw_59 hw)) (notFace_of_selects (args := #[]) (mvT hZ13 (tw_61 hw))) (mvT hZ13 (tw_61 hw)) (mvT hZ13 (tw_60 hw)) (by decide) (backOf (W := 1) (rm_sbAppN l Z a0 hw [] b11 d12 kd12 (16 : Int32) 16 ([] : List Value) (0 : Int32) b13 d13 kd13 (5 : Int32) ([(.int 108), (.int 105), (.int 110), (.int 101), (.int 32)] : List Value) (5 : Int32) cs h13 n0 f13_0 f13_5 Scs hcs f13_20 g_b11 f13_22 f13_23 f13_24 g_d12 f13_25 ne_b11_d12 Eb13 Fc13 Fv13 Vd13 (by decide) (Ne.symm (Sf13 _ f13_21).2) (Ne.symm (Sf13 _ (Safe.exa hZ13.alike f13_20 (by decide) (by decide))).2) (Ne.symm (Sf13 _ (Safe.exa hZ13.alike f13_20 (by decide) (by decide))).1) (Ne.symm (Sf13 _ f13_21).1) rfl (by decide) (by decide) (by decide) (by decide) (by decide)) hZ13 (tw_62 hw) (tw_39 hw) (by decide) (by decide)) q14a q14c (g := (mkF m 10 #[(vR a0_), (vI p0), (vR a2_)] [(.ref b13), (.ref b11), (.ref a0_)])) rfl (by rw [hml]; rfl) (Steps.refl _) (argsL := [(.ref b13)]) (rest := [(.ref a0_)]) (lenOf pd__Ljava_lang_String__Ljava_lang_StringBuilder_ rfl) rfl (by show 2 * 0 + _ ≤ _; exact Nat.le_of_eq rfl) (hb hby dp36_1_10) (fun _ _ => ⟨rfl, e13, (by decide : 4 + 0 ≤ _), (by decide : 44 + 0 ≤ _)⟩)
  dsimp only [Pt.U, Pt.locs, Pt.cells, Pt.slots] at X14 l14 y14 z14 st14 hQ14
  subst l14 y14 z14
  obtain ⟨rfl, N14q, K14, Gv14, Gc14, Gn14, V14⟩ := hQ14
  have N14 := Fr.app N12 N14q
  refine Go.by (fun t k => st14.trans k) ?_
  have f14_0 := (Nat.le_trans f13_0 K14.1)
  have f14_1 := (CHr.trans f13_1 (CHr.keep K14 (sfS f13_19 (sfS f13_21 sf0)) f13_1.1))
  have f14_2 := (Nat.le_trans f13_2 K14.1)
  have f14_3 := (Safe.keep K14 (sfS f13_19 (sfS f13_21 sf0)) f13_1.1 f13_3)
  have f14_4 := (Keep.trans f13_4 K14 (allS (Or.inr sz_b11) (allS (Or.inr sz_d12) all0)))
  have f14_5 := (Old.keep f13_5 K14 (allS g_b11 (allS g_d12 all0)))
  have f14_6 := (Exa.keep f13_6 K14)
  have f14_7 := Unt.keep K14 (ninS ne_a0__b11 (ninS ne_a0__d12 nin0)) f13_7
  have f14_8 := (Fld.keep f13_8 K14 (ninS ne_a0__b11 (ninS ne_a0__d12 nin0)))
  have f14_9 := (Fld.keep f13_9 K14 (ninS ne_a0__b11 (ninS ne_a0__d12 nin0)))
  have f14_10 := (Fld.keep f13_10 K14 (ninS ne_a0__b11 (ninS ne_a0__d12 nin0)))
  have f14_11 := (Fld.keep f13_11 K14 (ninS ne_a0__b11 (ninS ne_a0__d12 nin0)))
  have f14_12 := (Fld.keep f13_12 K14 (ninS ne_a0__b11 (ninS ne_a0__d12 nin0)))
  have f14_13 := (Fld.keep f13_13 K14 (ninS ne_a0__b11 (ninS ne_a0__d12 nin0)))
  have f14_14 := (Fld.keep f13_14 K14 (ninS ne_a0__b11 (ninS ne_a0__d12 nin0)))
  have f14_15 := (Exa.keep f13_15 K14)
  have f14_16 := (Fld.keep f13_16 K14 (ninS ne_a2__b11 (ninS ne_a2__d12 nin0)))
  have f14_17 := (Fld.keep f13_17 K14 (ninS ne_a2__b11 (ninS ne_a2__d12 nin0)))
  have f14_18 := (Arv.keep f13_18 K14 (ninS ne_d2_b11 (ninS ne_d2_d12 nin0)))
  have f14_19 := (Safe.keep K14 (sfS f13_19 (sfS f13_21 sf0)) f13_1.1 f13_19)
  have f14_20 := (Exa.keep f13_20 K14)
  have f14_21 := (Safe.keep K14 (sfS f13_19 (sfS f13_21 sf0)) f13_1.1 f13_21)
  have f14_22 := (Exa.keep Eb13 K14)
  have f14_23 := (Fld.keep Fc13 K14 (ninS (Ne.symm (Sf13 _ (Safe.exa hZ13.alike f13_20 (by decide) (by decide))).1) (ninS (Ne.symm (Sf13 _ f13_21).1) nin0)))
  have f14_24 := (Fld.keep Fv13 K14 (ninS (Ne.symm (Sf13 _ (Safe.exa hZ13.alike f13_20 (by decide) (by decide))).1) (ninS (Ne.symm (Sf13 _ f13_21).1) nin0)))
  have f14_25 := (Arv.keep Vd13 K14 (ninS (Ne.symm (Sf13 _ (Safe.exa hZ13.alike f13_20 (by decide) (by decide))).2) (ninS (Ne.symm (Sf13 _ f13_21).2) nin0)))
  have hbl14 : (([] : List Value) ++ ([(.int 108), (.int 105), (.int 110), (.int 101), (.int 32)] : List Value)).length = ((5 : Int32)).toNatClampNeg := rfl
  have VX14 : Arv Z T14.heap d12 kd12 .byte (16 : Int32) [(.int 108), (.int 105), (.int 110), (.int 101), (.int 32), (.int 0), (.int 0), (.int 0), (.int 0), (.int 0), (.int 0), (.int 0), (.int 0), (.int 0), (.int 0), (.int 0)] (.int 0) := V14
  show oG p e below P m T14 13 #[(vR a0_), (vI p0), (vR a2_)] [(.ref b11), (.ref a0_)]
  refine w_iloadN X14 hx hby dp36_1_13 rfl ?_
  obtain ⟨cq15, kq15, q15a, q15b, q15c⟩ := isOf hZ13 rfl f14_20
  obtain ⟨_, _, ⟨T15, L15, k15, n15⟩, -, X15, ⟨Lc15, hQ15, l15, y15, z15⟩, st15⟩ := X14.virtualBack hx (y := oY5) (z := oY5) hown13 (mvT hZ13 (tw_105 hw)) (mvT hZ13 (tw_106 hw)) (notFace_of_selects (args := #[]) (mvT hZ13 (tw_108 hw))) (mvT hZ13 (tw_108 hw)) (mvT hZ13 (tw_107 hw)) (by decide) (backOf (W := 1) (rm_sbIA l Z a0 hw [] b11 d12 kd12 p0 D1 kD1 D2 kD2 cs T14.heap n0 f14_0 f14_5 Scs hcs f14_20 g_b11 Gv14 Gc14 Gn14 g_d12 ne_b11_d12 VX14 S1 S2 VD1 VD2) hZ13 (tw_109 hw) (tw_39 hw) (by decide) (by decide)) q15a q15c (g := (mkF m 14 #[(vR a0_), (vI p0), (vR a2_)] [(.int p0), (.ref b11), (.ref a0_)])) rfl (by rw [hml]; rfl) (Steps.refl _) (argsL := [(.int p0)]) (rest := [(.ref a0_)]) (lenOf pd__I_Ljava_lang_StringBuilder_ rfl) rfl (by show 2 * 0 + _ ≤ _; exact Nat.le_of_eq rfl) (hb hby dp36_1_14) (fun _ _ => ⟨rfl, rfl, (by decide : 4 + 0 ≤ _), (by decide : 44 + 0 ≤ _)⟩)
  dsimp only [Pt.U, Pt.locs, Pt.cells, Pt.slots] at X15 l15 y15 z15 st15 hQ15
  subst l15 y15 z15
  obtain ⟨rfl, N15q, K15, Gv15, Gc15, Gn15, V15⟩ := hQ15
  have N15 := Fr.app N14 N15q
  refine Go.by (fun t k => st15.trans k) ?_
  have f15_0 := (Nat.le_trans f14_0 K15.1)
  have f15_1 := (CHr.trans f14_1 (CHr.keep K15 (sfS f14_19 (sfS f14_21 sf0)) f14_1.1))
  have f15_2 := (Nat.le_trans f14_2 K15.1)
  have f15_3 := (Safe.keep K15 (sfS f14_19 (sfS f14_21 sf0)) f14_1.1 f14_3)
  have f15_4 := (Keep.trans f14_4 K15 (allS (Or.inr sz_b11) (allS (Or.inr sz_d12) all0)))
  have f15_5 := (Old.keep f14_5 K15 (allS g_b11 (allS g_d12 all0)))
  have f15_6 := (Exa.keep f14_6 K15)
  have f15_7 := Unt.keep K15 (ninS ne_a0__b11 (ninS ne_a0__d12 nin0)) f14_7
  have f15_8 := (Fld.keep f14_8 K15 (ninS ne_a0__b11 (ninS ne_a0__d12 nin0)))
  have f15_9 := (Fld.keep f14_9 K15 (ninS ne_a0__b11 (ninS ne_a0__d12 nin0)))
  have f15_10 := (Fld.keep f14_10 K15 (ninS ne_a0__b11 (ninS ne_a0__d12 nin0)))
  have f15_11 := (Fld.keep f14_11 K15 (ninS ne_a0__b11 (ninS ne_a0__d12 nin0)))
  have f15_12 := (Fld.keep f14_12 K15 (ninS ne_a0__b11 (ninS ne_a0__d12 nin0)))
  have f15_13 := (Fld.keep f14_13 K15 (ninS ne_a0__b11 (ninS ne_a0__d12 nin0)))
  have f15_14 := (Fld.keep f14_14 K15 (ninS ne_a0__b11 (ninS ne_a0__d12 nin0)))
  have f15_15 := (Exa.keep f14_15 K15)
  have f15_16 := (Fld.keep f14_16 K15 (ninS ne_a2__b11 (ninS ne_a2__d12 nin0)))
  have f15_17 := (Fld.keep f14_17 K15 (ninS ne_a2__b11 (ninS ne_a2__d12 nin0)))
  have f15_18 := (Arv.keep f14_18 K15 (ninS ne_d2_b11 (ninS ne_d2_d12 nin0)))
  have f15_19 := (Safe.keep K15 (sfS f14_19 (sfS f14_21 sf0)) f14_1.1 f14_19)
  have f15_20 := (Exa.keep f14_20 K15)
  have f15_21 := (Safe.keep K15 (sfS f14_19 (sfS f14_21 sf0)) f14_1.1 f14_21)
  have f15_22 := (Exa.keep f14_22 K15)
  have f15_23 := (Fld.keep f14_23 K15 (ninS (Ne.symm (Sf13 _ (Safe.exa hZ13.alike f13_20 (by decide) (by decide))).1) (ninS (Ne.symm (Sf13 _ f13_21).1) nin0)))
  have f15_24 := (Fld.keep f14_24 K15 (ninS (Ne.symm (Sf13 _ (Safe.exa hZ13.alike f13_20 (by decide) (by decide))).1) (ninS (Ne.symm (Sf13 _ f13_21).1) nin0)))
  have f15_25 := (Arv.keep f14_25 K15 (ninS (Ne.symm (Sf13 _ (Safe.exa hZ13.alike f13_20 (by decide) (by decide))).2) (ninS (Ne.symm (Sf13 _ f13_21).2) nin0)))
  have hbl15 := own_dgl p0
  have hcr0 := own_cnr p0
  obtain ⟨cn, hcn⟩ : ∃ z, z = ((5 : Int32) + (own_sz p0)) := ⟨_, rfl⟩
  rw [← hcn] at Gn15 hbl15 hcr0
  show oG p e below P m T15 17 #[(vR a0_), (vI p0), (vR a2_)] [(.ref b11), (.ref a0_)]
  obtain ⟨b16, T16, h16, k116, d16, kd16, X16, e16, E16, hS16, hk16, hZ16, hown16, Eb16, Fc16, Fv16, Vd16, lb16, ld16, C16, Lt16, Sf16, st16⟩ := ldcCH X15 hx hZ13 hown13 (tw_127 hw) wS rfl hS13 f15_2 hEL (by decide) f15_1.1 (vs := [(.int 58), (.int 32)]) (z := (2 : Int32)) ⟨by decide, by decide⟩ (by decide) (by decide) (g := (mkF m 17 #[(vR a0_), (vI p0), (vR a2_)] [(.ref b11), (.ref a0_)])) rfl (hb hby dp36_1_17) (n := 8) (by decide) (by decide) (by decide) (by decide)
  have f16_0 := (Nat.le_trans f15_0 E16.1)
  have f16_1 := (CHr.trans f15_1 C16)
  have f16_2 := hk16
  have f16_3 := (CHr.safe C16 (f15_6.lt) f15_3)
  have f16_4 := (Keep.ext f15_4 E16)
  have f16_5 := (Old.ext f15_5 E16)
  have f16_6 := (Exa.ext E16 f15_6)
  have f16_7 := Unt.ext E16 f15_7
  have f16_8 := (Fld.ext E16 f15_8)
  have f16_9 := (Fld.ext E16 f15_9)
  have f16_10 := (Fld.ext E16 f15_10)
  have f16_11 := (Fld.ext E16 f15_11)
  have f16_12 := (Fld.ext E16 f15_12)
  have f16_13 := (Fld.ext E16 f15_13)
  have f16_14 := (Fld.ext E16 f15_14)
  have f16_15 := (Exa.ext E16 f15_15)
  have f16_16 := (Fld.ext E16 f15_16)
  have f16_17 := (Fld.ext E16 f15_17)
  have f16_18 := (Arv.ext f15_18 E16)
  have f16_19 := (CHr.safe C16 (f15_20.lt) f15_19)
  have f16_20 := (Exa.ext E16 f15_20)
  have f16_21 := (CHr.safe C16 (V15.lt) f15_21)
  have f16_22 := (Exa.ext E16 f15_22)
  have f16_23 := (Fld.ext E16 f15_23)
  have f16_24 := (Fld.ext E16 f15_24)
  have f16_25 := (Arv.ext f15_25 E16)
  have f16_26 := (Fld.ext E16 Gv15)
  have f16_27 := (Fld.ext E16 Gc15)
  have f16_28 := (Fld.ext E16 Gn15)
  have f16_29 := (Arv.ext V15 E16)
  refine Go.by st16 ?_
  show oG p e below P m T16 19 #[(vR a0_), (vI p0), (vR a2_)] [(.ref b16), (.ref b11), (.ref a0_)]
  rcases hcr0 with hcr | hcr
  · show oG p e below P m T16 19 #[(vR a0_), (vI p0), (vR a2_)] [(.ref b16), (.ref b11), (.ref a0_)]
    obtain ⟨cq17, kq17, q17a, q17b, q17c⟩ := isOf hZ16 e16 f16_20
    obtain ⟨_, _, ⟨T17, L17, k17, n17⟩, -, X17, ⟨Lc17, hQ17, l17, y17, z17⟩, st17⟩ := X16.virtualBack hx (y := oY0) (z := oY0) hown16 (mvT hZ16 (tw_58 hw)) (mvT hZ16 (tw_59 hw)) (notFace_of_selects (args := #[]) (mvT hZ16 (tw_61 hw))) (mvT hZ16 (tw_61 hw)) (mvT hZ16 (tw_60 hw)) (by decide) (backOf (W := 1) (rm_sbAppN l Z a0 hw [] b11 d12 kd12 (16 : Int32) 16 (([(.int 108), (.int 105), (.int 110), (.int 101), (.int 32)] : List Value) ++ own_dg p0) cn b16 d16 kd16 (2 : Int32) ([(.int 58), (.int 32)] : List Value) (cn + (2 : Int32)) cs h16 n0 f16_0 f16_5 Scs hcs f16_20 g_b11 f16_26 f16_27 f16_28 g_d12 f16_29 ne_b11_d12 Eb16 Fc16 Fv16 Vd16 (by decide) (Ne.symm (Sf16 _ f16_21).2) (Ne.symm (Sf16 _ (Safe.exa hZ16.alike f16_20 (by decide) (by decide))).2) (Ne.symm (Sf16 _ (Safe.exa hZ16.alike f16_20 (by decide) (by decide))).1) (Ne.symm (Sf16 _ f16_21).1) hbl15 (by decide) (own_nA0 hcr) (own_nA1 hcr) rfl (own_nA2 hcr)) hZ16 (tw_62 hw) (tw_39 hw) (by decide) (by decide)) q17a q17c (g := (mkF m 19 #[(vR a0_), (vI p0), (vR a2_)] [(.ref b16), (.ref b11), (.ref a0_)])) rfl (by rw [hml]; rfl) (Steps.refl _) (argsL := [(.ref b16)]) (rest := [(.ref a0_)]) (lenOf pd__Ljava_lang_String__Ljava_lang_StringBuilder_ rfl) rfl (by show 2 * 0 + _ ≤ _; exact Nat.le_of_eq rfl) (hb hby dp36_1_19) (fun _ _ => ⟨rfl, e16, (by decide : 6 + 0 ≤ _), (by decide : 56 + 0 ≤ _)⟩)
    dsimp only [Pt.U, Pt.locs, Pt.cells, Pt.slots] at X17 l17 y17 z17 st17 hQ17
    subst l17 y17 z17
    obtain ⟨rfl, N17q, K17, Gv17, Gc17, Gn17, V17⟩ := hQ17
    have N17 := Fr.app N15 N17q
    refine Go.by (fun t k => st17.trans k) ?_
    have f17_0 := (Nat.le_trans f16_0 K17.1)
    have f17_1 := (CHr.trans f16_1 (CHr.keep K17 (sfS f16_19 (sfS f16_21 sf0)) f16_1.1))
    have f17_2 := (Nat.le_trans f16_2 K17.1)
    have f17_3 := (Safe.keep K17 (sfS f16_19 (sfS f16_21 sf0)) f16_1.1 f16_3)
    have f17_4 := (Keep.trans f16_4 K17 (allS (Or.inr sz_b11) (allS (Or.inr sz_d12) all0)))
    have f17_5 := (Old.keep f16_5 K17 (allS g_b11 (allS g_d12 all0)))
    have f17_6 := (Exa.keep f16_6 K17)
    have f17_7 := Unt.keep K17 (ninS ne_a0__b11 (ninS ne_a0__d12 nin0)) f16_7
    have f17_8 := (Fld.keep f16_8 K17 (ninS ne_a0__b11 (ninS ne_a0__d12 nin0)))
    have f17_9 := (Fld.keep f16_9 K17 (ninS ne_a0__b11 (ninS ne_a0__d12 nin0)))
    have f17_10 := (Fld.keep f16_10 K17 (ninS ne_a0__b11 (ninS ne_a0__d12 nin0)))
    have f17_11 := (Fld.keep f16_11 K17 (ninS ne_a0__b11 (ninS ne_a0__d12 nin0)))
    have f17_12 := (Fld.keep f16_12 K17 (ninS ne_a0__b11 (ninS ne_a0__d12 nin0)))
    have f17_13 := (Fld.keep f16_13 K17 (ninS ne_a0__b11 (ninS ne_a0__d12 nin0)))
    have f17_14 := (Fld.keep f16_14 K17 (ninS ne_a0__b11 (ninS ne_a0__d12 nin0)))
    have f17_15 := (Exa.keep f16_15 K17)
    have f17_16 := (Fld.keep f16_16 K17 (ninS ne_a2__b11 (ninS ne_a2__d12 nin0)))
    have f17_17 := (Fld.keep f16_17 K17 (ninS ne_a2__b11 (ninS ne_a2__d12 nin0)))
    have f17_18 := (Arv.keep f16_18 K17 (ninS ne_d2_b11 (ninS ne_d2_d12 nin0)))
    have f17_19 := (Safe.keep K17 (sfS f16_19 (sfS f16_21 sf0)) f16_1.1 f16_19)
    have f17_20 := (Exa.keep f16_20 K17)
    have f17_21 := (Safe.keep K17 (sfS f16_19 (sfS f16_21 sf0)) f16_1.1 f16_21)
    have f17_22 := (Exa.keep f16_22 K17)
    have f17_23 := (Fld.keep f16_23 K17 (ninS (Ne.symm (Sf13 _ (Safe.exa hZ13.alike f13_20 (by decide) (by decide))).1) (ninS (Ne.symm (Sf13 _ f13_21).1) nin0)))
    have f17_24 := (Fld.keep f16_24 K17 (ninS (Ne.symm (Sf13 _ (Safe.exa hZ13.alike f13_20 (by decide) (by decide))).1) (ninS (Ne.symm (Sf13 _ f13_21).1) nin0)))
    have f17_25 := (Arv.keep f16_25 K17 (ninS (Ne.symm (Sf13 _ (Safe.exa hZ13.alike f13_20 (by decide) (by decide))).2) (ninS (Ne.symm (Sf13 _ f13_21).2) nin0)))
    have f17_26 := (Exa.keep Eb16 K17)
    have f17_27 := (Fld.keep Fc16 K17 (ninS (Ne.symm (Sf16 _ (Safe.exa hZ16.alike f16_20 (by decide) (by decide))).1) (ninS (Ne.symm (Sf16 _ f16_21).1) nin0)))
    have f17_28 := (Fld.keep Fv16 K17 (ninS (Ne.symm (Sf16 _ (Safe.exa hZ16.alike f16_20 (by decide) (by decide))).1) (ninS (Ne.symm (Sf16 _ f16_21).1) nin0)))
    have f17_29 := (Arv.keep Vd16 K17 (ninS (Ne.symm (Sf16 _ (Safe.exa hZ16.alike f16_20 (by decide) (by decide))).2) (ninS (Ne.symm (Sf16 _ f16_21).2) nin0)))
    have hbl17 : ((([(.int 108), (.int 105), (.int 110), (.int 101), (.int 32)] : List Value) ++ own_dg p0) ++ ([(.int 58), (.int 32)] : List Value)).length = ((cn + (2 : Int32))).toNatClampNeg := by rw [List.length_append, hbl15]; exact (own_nA3 hcr)
    show oG p e below P m T17 22 #[(vR a0_), (vI p0), (vR a2_)] [(.ref b11), (.ref a0_)]
    refine w_aloadN X17 hx hby dp36_1_22 rfl rfl ?_
    obtain ⟨cq18, kq18, q18a, q18b, q18c⟩ := isOf hZ16 rfl f17_20
    obtain ⟨_, _, ⟨T18, L18, k18, n18⟩, -, X18, ⟨Lc18, hQ18, l18, y18, z18⟩, st18⟩ := X17.virtualBack hx (y := oY0) (z := oY0) hown16 (mvT hZ16 (tw_58 hw)) (mvT hZ16 (tw_59 hw)) (notFace_of_selects (args := #[]) (mvT hZ16 (tw_61 hw))) (mvT hZ16 (tw_61 hw)) (mvT hZ16 (tw_60 hw)) (by decide) (backOf (W := 1) (rm_sbAppG l Z a0 hw [] b11 d12 kd12 (16 : Int32) 16 ((([(.int 108), (.int 105), (.int 110), (.int 101), (.int 32)] : List Value) ++ own_dg p0) ++ ([(.int 58), (.int 32)] : List Value)) (cn + (2 : Int32)) a2_ d2 k2 (34 : Int32) rs ((cn + (2 : Int32)) + (34 : Int32)) (((cn + (2 : Int32)) + (34 : Int32)) - (16 : Int32)) ((cn + (2 : Int32)) + (34 : Int32)) (((cn + (2 : Int32)) + (34 : Int32))).toNatClampNeg cs T17.heap n0 f17_0 f17_5 Scs hcs f17_20 g_b11 Gv17 Gc17 Gn17 g_d12 V17 ne_b11_d12 f17_15 f17_16 f17_17 f17_18 hrl ne_d2_d12 ne_d2_b11 ne_a2__b11 ne_a2__d12 hbl17 (own_nA4 hcr) (own_nA5 hcr) rfl (own_nA6 hcr) (own_nA7 hcr) (own_nA8 hcr) (own_nA9 hcr) (own_nA10 hcr) (own_nA11 hcr) (by decide) (by rw [hbl17]; exact (own_nA12 hcr)) (own_nA13 hcr) (own_nA14 hcr) rfl (own_nA15 hcr) (own_nA16 hcr) (own_nA17 hcr)) hZ16 (tw_62 hw) (tw_39 hw) (by decide) (by decide)) q18a q18c (g := (mkF m 23 #[(vR a0_), (vI p0), (vR a2_)] [(.ref a2_), (.ref b11), (.ref a0_)])) rfl (by rw [hml]; rfl) (Steps.refl _) (argsL := [(.ref a2_)]) (rest := [(.ref a0_)]) (lenOf pd__Ljava_lang_String__Ljava_lang_StringBuilder_ rfl) rfl (by show 2 * 0 + _ ≤ _; exact Nat.le_of_eq rfl) (hb hby dp36_1_23) (fun _ _ => ⟨rfl, rfl, (by decide : 6 + 1 ≤ _), (by decide : 56 + 128 ≤ _)⟩)
    dsimp only [Pt.U, Pt.locs, Pt.cells, Pt.slots] at X18 l18 y18 z18 st18 hQ18
    subst l18 y18 z18
    obtain ⟨rfl, N18q, d18, kd18, K18, z18, Gv18, Gc18, Gn18, Ex18, V18⟩ := hQ18
    have N18 := Fr.app N17 N18q
    refine Go.by (fun t k => st18.trans k) ?_
    have f18_0 := (Nat.le_trans f17_0 K18.1)
    have f18_1 := (CHr.trans f17_1 (CHr.keep K18 (sfS f17_19 sf0) f17_1.1))
    have f18_2 := (Nat.le_trans f17_2 K18.1)
    have f18_3 := (Safe.keep K18 (sfS f17_19 sf0) f17_1.1 f17_3)
    have f18_4 := (Keep.trans f17_4 K18 (allS (Or.inr sz_b11) all0))
    have f18_5 := (Old.keep f17_5 K18 (allS g_b11 all0))
    have f18_6 := (Exa.keep f17_6 K18)
    have f18_7 := Unt.keep K18 (ninS ne_a0__b11 nin0) f17_7
    have f18_8 := (Fld.keep f17_8 K18 (ninS ne_a0__b11 nin0))
    have f18_9 := (Fld.keep f17_9 K18 (ninS ne_a0__b11 nin0))
    have f18_10 := (Fld.keep f17_10 K18 (ninS ne_a0__b11 nin0))
    have f18_11 := (Fld.keep f17_11 K18 (ninS ne_a0__b11 nin0))
    have f18_12 := (Fld.keep f17_12 K18 (ninS ne_a0__b11 nin0))
    have f18_13 := (Fld.keep f17_13 K18 (ninS ne_a0__b11 nin0))
    have f18_14 := (Fld.keep f17_14 K18 (ninS ne_a0__b11 nin0))
    have f18_15 := (Exa.keep f17_15 K18)
    have f18_16 := (Fld.keep f17_16 K18 (ninS ne_a2__b11 nin0))
    have f18_17 := (Fld.keep f17_17 K18 (ninS ne_a2__b11 nin0))
    have f18_18 := (Arv.keep f17_18 K18 (ninS ne_d2_b11 nin0))
    have f18_19 := (Safe.keep K18 (sfS f17_19 sf0) f17_1.1 f17_19)
    have f18_20 := (Exa.keep f17_20 K18)
    have f18_21 := (Safe.keep K18 (sfS f17_19 sf0) f17_1.1 f17_21)
    have f18_22 := (Exa.keep f17_22 K18)
    have f18_23 := (Fld.keep f17_23 K18 (ninS (Ne.symm (Sf13 _ (Safe.exa hZ13.alike f13_20 (by decide) (by decide))).1) nin0))
    have f18_24 := (Fld.keep f17_24 K18 (ninS (Ne.symm (Sf13 _ (Safe.exa hZ13.alike f13_20 (by decide) (by decide))).1) nin0))
    have f18_25 := (Arv.keep f17_25 K18 (ninS (Ne.symm (Sf13 _ (Safe.exa hZ13.alike f13_20 (by decide) (by decide))).2) nin0))
    have f18_26 := (Exa.keep f17_26 K18)
    have f18_27 := (Fld.keep f17_27 K18 (ninS (Ne.symm (Sf16 _ (Safe.exa hZ16.alike f16_20 (by decide) (by decide))).1) nin0))
    have f18_28 := (Fld.keep f17_28 K18 (ninS (Ne.symm (Sf16 _ (Safe.exa hZ16.alike f16_20 (by decide) (by decide))).1) nin0))
    have f18_29 := (Arv.keep f17_29 K18 (ninS (Ne.symm (Sf16 _ (Safe.exa hZ16.alike f16_20 (by decide) (by decide))).2) nin0))
    have f18_30 := (Arv.keep V17 K18 (ninS (Ne.symm ne_b11_d12) nin0))
    have g_d18 : n0 ≤ d18 := Nat.le_trans f17_0 z18
    have sz_d18 : h0.size ≤ d18 := Nat.le_trans f17_4.1 z18
    have ne_a0__d18 : a0_ ≠ d18 := Nat.ne_of_lt (Nat.lt_of_lt_of_le (f17_6.lt) z18)
    have ne_a2__d18 : a2_ ≠ d18 := Nat.ne_of_lt (Nat.lt_of_lt_of_le (f17_15.lt) z18)
    have ne_d2_d18 : d2 ≠ d18 := Nat.ne_of_lt (Nat.lt_of_lt_of_le (f17_18.lt) z18)
    have ne_b11_d18 : b11 ≠ d18 := Nat.ne_of_lt (Nat.lt_of_lt_of_le (f17_20.lt) z18)
    have ne_b13_d18 : b13 ≠ d18 := Nat.ne_of_lt (Nat.lt_of_lt_of_le (f17_22.lt) z18)
    have ne_d13_d18 : d13 ≠ d18 := Nat.ne_of_lt (Nat.lt_of_lt_of_le (f17_25.lt) z18)
    have ne_b16_d18 : b16 ≠ d18 := Nat.ne_of_lt (Nat.lt_of_lt_of_le (f17_26.lt) z18)
    have ne_d16_d18 : d16 ≠ d18 := Nat.ne_of_lt (Nat.lt_of_lt_of_le (f17_29.lt) z18)
    have ne_d12_d18 : d12 ≠ d18 := Nat.ne_of_lt (Nat.lt_of_lt_of_le (V17.lt) z18)
    have sf_d18 : Safe Z own_EL T16.vm T18.heap d18 := Safe.keep K18 (sfS f17_19 sf0) f17_1.1 (Safe.new z18)
    have hbl18 : (((([(.int 108), (.int 105), (.int 110), (.int 101), (.int 32)] : List Value) ++ own_dg p0) ++ ([(.int 58), (.int 32)] : List Value)) ++ rs).length = (((cn + (2 : Int32)) + (34 : Int32))).toNatClampNeg := by rw [List.length_append, hbl17, ← hrl]; exact (own_nA18 hcr)
    show oG p e below P m T18 26 #[(vR a0_), (vI p0), (vR a2_)] [(.ref b11), (.ref a0_)]
    obtain ⟨cq19, kq19, q19a, q19b, q19c⟩ := isOf hZ16 rfl f18_20
    obtain ⟨_, _, ⟨T19, L19, k19, n19⟩, -, X19, ⟨Lc19, hQ19, l19, y19, z19⟩, st19⟩ := X18.virtualBack hx (y := oY2) (z := oY2) hown16 (mvT hZ16 (tw_151 hw)) (mvT hZ16 (tw_152 hw)) (notFace_of_selects (args := #[]) (mvT hZ16 (tw_154 hw))) (mvT hZ16 (tw_154 hw)) (mvT hZ16 (tw_153 hw)) (by decide) (backOf (W := 1) (rm_sbToSE l Z a0 hw [] b11 d18 kd18 ((cn + (2 : Int32)) + (34 : Int32)) (((cn + (2 : Int32)) + (34 : Int32))).toNatClampNeg (((([(.int 108), (.int 105), (.int 110), (.int 101), (.int 32)] : List Value) ++ own_dg p0) ++ ([(.int 58), (.int 32)] : List Value)) ++ rs) cs T18.heap n0 f18_0 f18_5 Scs hcs f18_20 g_b11 Gv18 Gc18 Gn18 g_d18 V18 ne_b11_d18 Ex18 rfl hbl18 (own_nA16 hcr)) hZ16 (tw_155 hw) (tw_39 hw) (by decide) (by decide)) q19a q19c (g := (mkF m 26 #[(vR a0_), (vI p0), (vR a2_)] [(.ref b11), (.ref a0_)])) rfl (by rw [hml]; rfl) (Steps.refl _) (argsL := []) (rest := [(.ref a0_)]) (lenOf pd___Ljava_lang_String_ rfl) rfl (by show 2 * 0 + _ ≤ _; exact Nat.le_of_eq rfl) (hb hby dp36_1_26) (fun _ _ => ⟨rfl, rfl, (by decide : 7 + 2 ≤ _), (by decide : 184 + 132 ≤ _)⟩)
    dsimp only [Pt.U, Pt.locs, Pt.cells, Pt.slots] at X19 l19 y19 z19 st19 hQ19
    subst l19 y19 z19
    obtain ⟨t19, rfl, N19q, K19, z19, Es19, Gc19, e19d, k19d, zd19, Gv19, V19⟩ := hQ19
    have N19 := Fr.app N18 N19q
    refine Go.by (fun t k => st19.trans k) ?_
    have f19_0 := (Nat.le_trans f18_0 K19.1)
    have f19_1 := (CHr.trans f18_1 (CHr.keep K19 sf0 f18_1.1))
    have f19_2 := (Nat.le_trans f18_2 K19.1)
    have f19_3 := (Safe.keep K19 sf0 f18_1.1 f18_3)
    have f19_4 := (Keep.trans f18_4 K19 all0)
    have f19_5 := (Old.keep f18_5 K19 all0)
    have f19_6 := (Exa.keep f18_6 K19)
    have f19_7 := Unt.keep K19 nin0 f18_7
    have f19_8 := (Fld.keep f18_8 K19 nin0)
    have f19_9 := (Fld.keep f18_9 K19 nin0)
    have f19_10 := (Fld.keep f18_10 K19 nin0)
    have f19_11 := (Fld.keep f18_11 K19 nin0)
    have f19_12 := (Fld.keep f18_12 K19 nin0)
    have f19_13 := (Fld.keep f18_13 K19 nin0)
    have f19_14 := (Fld.keep f18_14 K19 nin0)
    have f19_15 := (Exa.keep f18_15 K19)
    have f19_16 := (Fld.keep f18_16 K19 nin0)
    have f19_17 := (Fld.keep f18_17 K19 nin0)
    have f19_18 := (Arv.keep f18_18 K19 nin0)
    have f19_19 := (Safe.keep K19 sf0 f18_1.1 f18_19)
    have f19_20 := (Exa.keep f18_20 K19)
    have f19_21 := (Safe.keep K19 sf0 f18_1.1 f18_21)
    have f19_22 := (Exa.keep f18_22 K19)
    have f19_23 := (Fld.keep f18_23 K19 nin0)
    have f19_24 := (Fld.keep f18_24 K19 nin0)
    have f19_25 := (Arv.keep f18_25 K19 nin0)
    have f19_26 := (Exa.keep f18_26 K19)
    have f19_27 := (Fld.keep f18_27 K19 nin0)
    have f19_28 := (Fld.keep f18_28 K19 nin0)
    have f19_29 := (Arv.keep f18_29 K19 nin0)
    have f19_30 := (Arv.keep f18_30 K19 nin0)
    have f19_31 := (Safe.keep K19 sf0 f18_1.1 sf_d18)
    have f19_32 := (Arv.keep V18 K19 nin0)
    have f19_33 := (Exa.keep Ex18 K19)
    have f19_34 := (Fld.keep Gv18 K19 nin0)
    have f19_35 := (Fld.keep Gc18 K19 nin0)
    have f19_36 := (Fld.keep Gn18 K19 nin0)
    have g_t19 : n0 ≤ t19 := Nat.le_trans f18_0 z19
    have sz_t19 : h0.size ≤ t19 := Nat.le_trans f18_4.1 z19
    have ne_a0__t19 : a0_ ≠ t19 := Nat.ne_of_lt (Nat.lt_of_lt_of_le (f18_6.lt) z19)
    have ne_a2__t19 : a2_ ≠ t19 := Nat.ne_of_lt (Nat.lt_of_lt_of_le (f18_15.lt) z19)
    have ne_d2_t19 : d2 ≠ t19 := Nat.ne_of_lt (Nat.lt_of_lt_of_le (f18_18.lt) z19)
    have ne_b11_t19 : b11 ≠ t19 := Nat.ne_of_lt (Nat.lt_of_lt_of_le (f18_20.lt) z19)
    have ne_b13_t19 : b13 ≠ t19 := Nat.ne_of_lt (Nat.lt_of_lt_of_le (f18_22.lt) z19)
    have ne_d13_t19 : d13 ≠ t19 := Nat.ne_of_lt (Nat.lt_of_lt_of_le (f18_25.lt) z19)
    have ne_b16_t19 : b16 ≠ t19 := Nat.ne_of_lt (Nat.lt_of_lt_of_le (f18_26.lt) z19)
    have ne_d16_t19 : d16 ≠ t19 := Nat.ne_of_lt (Nat.lt_of_lt_of_le (f18_29.lt) z19)
    have ne_d12_t19 : d12 ≠ t19 := Nat.ne_of_lt (Nat.lt_of_lt_of_le (f18_30.lt) z19)
    have ne_d18_t19 : d18 ≠ t19 := Nat.ne_of_lt (Nat.lt_of_lt_of_le (V18.lt) z19)
    have sf_t19 : Safe Z own_EL T16.vm T19.heap t19 := Safe.keep K19 sf0 f18_1.1 (Safe.new z19)
    have g_e19d : n0 ≤ e19d := Nat.le_trans f18_0 zd19
    have sz_e19d : h0.size ≤ e19d := Nat.le_trans f18_4.1 zd19
    have ne_a0__e19d : a0_ ≠ e19d := Nat.ne_of_lt (Nat.lt_of_lt_of_le (f18_6.lt) zd19)
    have ne_a2__e19d : a2_ ≠ e19d := Nat.ne_of_lt (Nat.lt_of_lt_of_le (f18_15.lt) zd19)
    have ne_d2_e19d : d2 ≠ e19d := Nat.ne_of_lt (Nat.lt_of_lt_of_le (f18_18.lt) zd19)
    have ne_b11_e19d : b11 ≠ e19d := Nat.ne_of_lt (Nat.lt_of_lt_of_le (f18_20.lt) zd19)
    have ne_b13_e19d : b13 ≠ e19d := Nat.ne_of_lt (Nat.lt_of_lt_of_le (f18_22.lt) zd19)
    have ne_d13_e19d : d13 ≠ e19d := Nat.ne_of_lt (Nat.lt_of_lt_of_le (f18_25.lt) zd19)
    have ne_b16_e19d : b16 ≠ e19d := Nat.ne_of_lt (Nat.lt_of_lt_of_le (f18_26.lt) zd19)
    have ne_d16_e19d : d16 ≠ e19d := Nat.ne_of_lt (Nat.lt_of_lt_of_le (f18_29.lt) zd19)
    have ne_d12_e19d : d12 ≠ e19d := Nat.ne_of_lt (Nat.lt_of_lt_of_le (f18_30.lt) zd19)
    have ne_d18_e19d : d18 ≠ e19d := Nat.ne_of_lt (Nat.lt_of_lt_of_le (V18.lt) zd19)
    have sf_e19d : Safe Z own_EL T16.vm T19.heap e19d := Safe.keep K19 sf0 f18_1.1 (Safe.new zd19)
    show oG p e below P m T19 29 #[(vR a0_), (vI p0), (vR a2_)] [(.ref t19), (.ref a0_)]
    obtain ⟨_, _, ⟨T20, L20, k20, n20⟩, -, X20, ⟨Lc20, hQ20, l20, y20, z20⟩, st20⟩ := X19.specialBack hx (y := oY26) rfl hown16 (mvT hZ16 (tw_189 hw)) (mvT hZ16 (tw_190 hw)) (mvT hZ16 (tw_193 hw)) (by decide) (backOfKL (W := 0) (rm_exc1 l Z a0 hw [] a0_ (.ref t19) u sn T19.heap n0 f19_0 f19_5 Su hu Ssn hsn hl rfl f19_6 g_a0_ f19_7 f19_8 f19_9 f19_10 f19_11 f19_12 f19_13 f19_14) hZ16 (tw_193 hw) (tw_192 hw) (by decide) (by decide) (Vm.MethodsKnown.alikeC (hZs.alike.symm.trans hZ16.alike) hK.1) (Vm.FramesKnown.alikeC (hZs.alike.symm.trans hZ16.alike) hK.2)) (g := (mkF m 29 #[(vR a0_), (vI p0), (vR a2_)] [(.ref t19), (.ref a0_)])) rfl (by rw [hml]; rfl) (Steps.refl _) (a := a0_) (argsL := [(.ref t19)]) (rest := []) (lenOf pd__Ljava_lang_String__V rfl) rfl (by show 2 * 0 + _ ≤ _; exact Nat.le_of_eq rfl) (hb hby dp36_1_29) (fun _ _ => ⟨rfl, rfl, (by decide : 9 + 1 ≤ _), (by decide : 316 + 2752 ≤ _)⟩)
    dsimp only [Pt.U, Pt.locs, Pt.cells, Pt.slots] at X20 l20 y20 z20 st20 hQ20
    subst l20 y20 z20
    obtain ⟨rfl, N20q, K20, Gm20, G20_0⟩ := hQ20
    have N20 := Fr.app N19 N20q
    refine Go.by (fun t k => st20.trans k) ?_
    have f20_0 := (Nat.le_trans f19_0 K20.1)
    have f20_1 := (CHr.trans f19_1 (CHr.keep K20 (sfS f19_3 sf0) f19_1.1))
    have f20_2 := (Nat.le_trans f19_2 K20.1)
    have f20_3 := (Safe.keep K20 (sfS f19_3 sf0) f19_1.1 f19_3)
    have f20_4 := (Keep.trans f19_4 K20 (allS (Or.inl (List.mem_of_getElem? (i := 0) rfl)) all0))
    have f20_5 := (Old.keep f19_5 K20 (allS g_a0_ all0))
    have f20_6 := (Exa.keep f19_6 K20)
    have f20_7 := (Exa.keep f19_15 K20)
    have f20_8 := (Fld.keep f19_16 K20 (ninS ne20 nin0))
    have f20_9 := (Fld.keep f19_17 K20 (ninS ne20 nin0))
    have f20_10 := (Arv.keep f19_18 K20 (ninS ned0 nin0))
    have f20_11 := (Safe.keep K20 (sfS f19_3 sf0) f19_1.1 f19_19)
    have f20_12 := (Exa.keep f19_20 K20)
    have f20_13 := (Safe.keep K20 (sfS f19_3 sf0) f19_1.1 f19_21)
    have f20_14 := (Exa.keep f19_22 K20)
    have f20_15 := (Fld.keep f19_23 K20 (ninS (Ne.symm (Sf13 _ (Safe.exa hZ13.alike f13_6 (by decide) (by decide))).1) nin0))
    have f20_16 := (Fld.keep f19_24 K20 (ninS (Ne.symm (Sf13 _ (Safe.exa hZ13.alike f13_6 (by decide) (by decide))).1) nin0))
    have f20_17 := (Arv.keep f19_25 K20 (ninS (Ne.symm (Sf13 _ (Safe.exa hZ13.alike f13_6 (by decide) (by decide))).2) nin0))
    have f20_18 := (Exa.keep f19_26 K20)
    have f20_19 := (Fld.keep f19_27 K20 (ninS (Ne.symm (Sf16 _ (Safe.exa hZ16.alike f16_6 (by decide) (by decide))).1) nin0))
    have f20_20 := (Fld.keep f19_28 K20 (ninS (Ne.symm (Sf16 _ (Safe.exa hZ16.alike f16_6 (by decide) (by decide))).1) nin0))
    have f20_21 := (Arv.keep f19_29 K20 (ninS (Ne.symm (Sf16 _ (Safe.exa hZ16.alike f16_6 (by decide) (by decide))).2) nin0))
    have f20_22 := (Arv.keep f19_30 K20 (ninS (Ne.symm ne_a0__d12) nin0))
    have f20_23 := (Safe.keep K20 (sfS f19_3 sf0) f19_1.1 f19_31)
    have f20_24 := (Arv.keep f19_32 K20 (ninS (Ne.symm ne_a0__d18) nin0))
    have f20_25 := (Exa.keep f19_33 K20)
    have f20_26 := (Fld.keep f19_34 K20 (ninS (Ne.symm ne_a0__b11) nin0))
    have f20_27 := (Fld.keep f19_35 K20 (ninS (Ne.symm ne_a0__b11) nin0))
    have f20_28 := (Fld.keep f19_36 K20 (ninS (Ne.symm ne_a0__b11) nin0))
    have f20_29 := (Safe.keep K20 (sfS f19_3 sf0) f19_1.1 sf_t19)
    have f20_30 := (Safe.keep K20 (sfS f19_3 sf0) f19_1.1 sf_e19d)
    have f20_31 := (Exa.keep Es19 K20)
    have f20_32 := (Fld.keep Gc19 K20 (ninS (Ne.symm ne_a0__t19) nin0))
    have f20_33 := (Fld.keep Gv19 K20 (ninS (Ne.symm ne_a0__t19) nin0))
    have f20_34 := (Arv.keep V19 K20 (ninS (Ne.symm ne_a0__e19d) nin0))
    show oG p e below P m T20 32 #[(vR a0_), (vI p0), (vR a2_)] []
    refine w_aloadN X20 hx hby dp36_1_32 rfl rfl ?_
    refine w_iloadN X20 hx hby dp36_1_33 rfl ?_
    obtain ⟨T21, h21, X21, e21, W21, st21⟩ := putF X20 hx hZ16 hown16 (host := "") (Or.inl (tw_243 hw)) Via.refl rfl G20_0 f20_6 (Or.inr ⟨(tw_244 hw), rfl, hnm⟩) (tw_32 hw) (ty := .int) (by decide) rfl rfl (g := (mkF m 34 #[(vR a0_), (vI p0), (vR a2_)] [(.int p0), (.ref a0_)])) rfl rfl (hb hby dp36_1_34)
    refine Go.by st21 ?_
    have N21 := Fr.snoc X21 N20 g_a0_
    have f21_0 := (Nat.le_trans f20_0 (Keep.of_wr W21).1)
    have f21_1 := (CHr.trans f20_1 (CHr.wr W21 f20_3 f20_1.1))
    have f21_2 := (Nat.le_trans f20_2 (Keep.of_wr W21).1)
    have f21_3 := (Safe.wr W21 f20_3 f20_1.1 f20_3)
    have f21_4 := (Keep.wr f20_4 W21 (Or.inl (List.mem_of_getElem? (i := 0) rfl)))
    have f21_5 := (Old.wr f20_5 W21 g_a0_)
    have f21_6 := (Exa.wr W21 f20_6)
    have f21_7 := (Exa.wr W21 f20_7)
    have f21_8 := (Fld.other W21 f20_8 (Or.inl ne20))
    have f21_9 := (Fld.other W21 f20_9 (Or.inl ne20))
    have f21_10 := (Arv.other f20_10 W21 ned0)
    have f21_11 := (Safe.wr W21 f20_3 f20_1.1 f20_11)
    have f21_12 := (Exa.wr W21 f20_12)
    have f21_13 := (Safe.wr W21 f20_3 f20_1.1 f20_13)
    have f21_14 := (Exa.wr W21 f20_14)
    have f21_15 := (Fld.other W21 f20_15 (Or.inl (Ne.symm (Sf13 _ (Safe.exa hZ13.alike f13_6 (by decide) (by decide))).1)))
    have f21_16 := (Fld.other W21 f20_16 (Or.inl (Ne.symm (Sf13 _ (Safe.exa hZ13.alike f13_6 (by decide) (by decide))).1)))
    have f21_17 := (Arv.other f20_17 W21 (Ne.symm (Sf13 _ (Safe.exa hZ13.alike f13_6 (by decide) (by decide))).2))
    have f21_18 := (Exa.wr W21 f20_18)
    have f21_19 := (Fld.other W21 f20_19 (Or.inl (Ne.symm (Sf16 _ (Safe.exa hZ16.alike f16_6 (by decide) (by decide))).1)))
    have f21_20 := (Fld.other W21 f20_20 (Or.inl (Ne.symm (Sf16 _ (Safe.exa hZ16.alike f16_6 (by decide) (by decide))).1)))
    have f21_21 := (Arv.other f20_21 W21 (Ne.symm (Sf16 _ (Safe.exa hZ16.alike f16_6 (by decide) (by decide))).2))
    have f21_22 := (Arv.other f20_22 W21 (Ne.symm ne_a0__d12))
    have f21_23 := (Safe.wr W21 f20_3 f20_1.1 f20_23)
    have f21_24 := (Arv.other f20_24 W21 (Ne.symm ne_a0__d18))
    have f21_25 := (Exa.wr W21 f20_25)
    have f21_26 := (Fld.other W21 f20_26 (Or.inl (Ne.symm ne_a0__b11)))
    have f21_27 := (Fld.other W21 f20_27 (Or.inl (Ne.symm ne_a0__b11)))
    have f21_28 := (Fld.other W21 f20_28 (Or.inl (Ne.symm ne_a0__b11)))
    have f21_29 := (Safe.wr W21 f20_3 f20_1.1 f20_29)
    have f21_30 := (Safe.wr W21 f20_3 f20_1.1 f20_30)
    have f21_31 := (Exa.wr W21 f20_31)
    have f21_32 := (Fld.other W21 f20_32 (Or.inl (Ne.symm ne_a0__t19)))
    have f21_33 := (Fld.other W21 f20_33 (Or.inl (Ne.symm ne_a0__t19)))
    have f21_34 := (Arv.other f20_34 W21 (Ne.symm ne_a0__e19d))
    have f21_35 := (Fld.other W21 Gm20 (Or.inr (slot_ne (Or.inl (tw_238 hw)) (Or.inr (tw_244 hw)) (by decide) (t := (.object "java/lang/String")) (t' := .int) (by decide) (by decide))))
    have f21_36 := (Fld.same W21 G20_0)
    show oG p e below P m T21 37 #[(vR a0_), (vI p0), (vR a2_)] []
    refine own_finW hP hlk hEL hh X21 (v := none) (fun _ => rfl) (by decide) (by decide) e21 hS16 f21_2 hZ16 f21_1 ?_ (fun fs hr => X21.returnOut hx Bd.returns (hb hby dp36_1_37) hr)
    subst hcn; exact ⟨rfl, N21, f21_4, f21_36, t19, e19d, k19d, f21_35, sz_t19, sz_e19d, f21_31, f21_32, f21_33, f21_34⟩
  · show oG p e below P m T16 19 #[(vR a0_), (vI p0), (vR a2_)] [(.ref b16), (.ref b11), (.ref a0_)]
    obtain ⟨cq22, kq22, q22a, q22b, q22c⟩ := isOf hZ16 e16 f16_20
    obtain ⟨_, _, ⟨T22, L22, k22, n22⟩, -, X22, ⟨Lc22, hQ22, l22, y22, z22⟩, st22⟩ := X16.virtualBack hx (y := oY0) (z := oY0) hown16 (mvT hZ16 (tw_58 hw)) (mvT hZ16 (tw_59 hw)) (notFace_of_selects (args := #[]) (mvT hZ16 (tw_61 hw))) (mvT hZ16 (tw_61 hw)) (mvT hZ16 (tw_60 hw)) (by decide) (backOf (W := 1) (rm_sbAppG l Z a0 hw [] b11 d12 kd12 (16 : Int32) 16 (([(.int 108), (.int 105), (.int 110), (.int 101), (.int 32)] : List Value) ++ own_dg p0) cn b16 d16 kd16 (2 : Int32) ([(.int 58), (.int 32)] : List Value) (cn + (2 : Int32)) (18 : Int32) (34 : Int32) 34 cs h16 n0 f16_0 f16_5 Scs hcs f16_20 g_b11 f16_26 f16_27 f16_28 g_d12 f16_29 ne_b11_d12 Eb16 Fc16 Fv16 Vd16 (by decide) (Ne.symm (Sf16 _ f16_21).2) (Ne.symm (Sf16 _ (Safe.exa hZ16.alike f16_20 (by decide) (by decide))).2) (Ne.symm (Sf16 _ (Safe.exa hZ16.alike f16_20 (by decide) (by decide))).1) (Ne.symm (Sf16 _ f16_21).1) hbl15 (own_nB19 hcr) (own_nB20 hcr) rfl (own_nB21 hcr) (own_nB22 hcr) (by decide) (by decide) (by decide) (by decide) (by decide) (by rw [hbl15]; exact (own_nB23 hcr)) (by decide) (by decide) (by decide) (by decide) (by decide) (by decide)) hZ16 (tw_62 hw) (tw_39 hw) (by decide) (by decide)) q22a q22c (g := (mkF m 19 #[(vR a0_), (vI p0), (vR a2_)] [(.ref b16), (.ref b11), (.ref a0_)])) rfl (by rw [hml]; rfl) (Steps.refl _) (argsL := [(.ref b16)]) (rest := [(.ref a0_)]) (lenOf pd__Ljava_lang_String__Ljava_lang_StringBuilder_ rfl) rfl (by show 2 * 0 + _ ≤ _; exact Nat.le_of_eq rfl) (hb hby dp36_1_19) (fun _ _ => ⟨rfl, e16, (by decide : 6 + 1 ≤ _), (by decide : 56 + 128 ≤ _)⟩)
    dsimp only [Pt.U, Pt.locs, Pt.cells, Pt.slots] at X22 l22 y22 z22 st22 hQ22
    subst l22 y22 z22
    obtain ⟨rfl, N22q, d22, kd22, K22, z22, Gv22, Gc22, Gn22, Ex22, V22⟩ := hQ22
    have N22 := Fr.app N15 N22q
    refine Go.by (fun t k => st22.trans k) ?_
    have f22_0 := (Nat.le_trans f16_0 K22.1)
    have f22_1 := (CHr.trans f16_1 (CHr.keep K22 (sfS f16_19 sf0) f16_1.1))
    have f22_2 := (Nat.le_trans f16_2 K22.1)
    have f22_3 := (Safe.keep K22 (sfS f16_19 sf0) f16_1.1 f16_3)
    have f22_4 := (Keep.trans f16_4 K22 (allS (Or.inr sz_b11) all0))
    have f22_5 := (Old.keep f16_5 K22 (allS g_b11 all0))
    have f22_6 := (Exa.keep f16_6 K22)
    have f22_7 := Unt.keep K22 (ninS ne_a0__b11 nin0) f16_7
    have f22_8 := (Fld.keep f16_8 K22 (ninS ne_a0__b11 nin0))
    have f22_9 := (Fld.keep f16_9 K22 (ninS ne_a0__b11 nin0))
    have f22_10 := (Fld.keep f16_10 K22 (ninS ne_a0__b11 nin0))
    have f22_11 := (Fld.keep f16_11 K22 (ninS ne_a0__b11 nin0))
    have f22_12 := (Fld.keep f16_12 K22 (ninS ne_a0__b11 nin0))
    have f22_13 := (Fld.keep f16_13 K22 (ninS ne_a0__b11 nin0))
    have f22_14 := (Fld.keep f16_14 K22 (ninS ne_a0__b11 nin0))
    have f22_15 := (Exa.keep f16_15 K22)
    have f22_16 := (Fld.keep f16_16 K22 (ninS ne_a2__b11 nin0))
    have f22_17 := (Fld.keep f16_17 K22 (ninS ne_a2__b11 nin0))
    have f22_18 := (Arv.keep f16_18 K22 (ninS ne_d2_b11 nin0))
    have f22_19 := (Safe.keep K22 (sfS f16_19 sf0) f16_1.1 f16_19)
    have f22_20 := (Exa.keep f16_20 K22)
    have f22_21 := (Safe.keep K22 (sfS f16_19 sf0) f16_1.1 f16_21)
    have f22_22 := (Exa.keep f16_22 K22)
    have f22_23 := (Fld.keep f16_23 K22 (ninS (Ne.symm (Sf13 _ (Safe.exa hZ13.alike f13_20 (by decide) (by decide))).1) nin0))
    have f22_24 := (Fld.keep f16_24 K22 (ninS (Ne.symm (Sf13 _ (Safe.exa hZ13.alike f13_20 (by decide) (by decide))).1) nin0))
    have f22_25 := (Arv.keep f16_25 K22 (ninS (Ne.symm (Sf13 _ (Safe.exa hZ13.alike f13_20 (by decide) (by decide))).2) nin0))
    have f22_26 := (Arv.keep f16_29 K22 (ninS (Ne.symm ne_b11_d12) nin0))
    have f22_27 := (Exa.keep Eb16 K22)
    have f22_28 := (Fld.keep Fc16 K22 (ninS (Ne.symm (Sf16 _ (Safe.exa hZ16.alike f16_20 (by decide) (by decide))).1) nin0))
    have f22_29 := (Fld.keep Fv16 K22 (ninS (Ne.symm (Sf16 _ (Safe.exa hZ16.alike f16_20 (by decide) (by decide))).1) nin0))
    have f22_30 := (Arv.keep Vd16 K22 (ninS (Ne.symm (Sf16 _ (Safe.exa hZ16.alike f16_20 (by decide) (by decide))).2) nin0))
    have g_d22 : n0 ≤ d22 := Nat.le_trans f16_0 z22
    have sz_d22 : h0.size ≤ d22 := Nat.le_trans f16_4.1 z22
    have ne_a0__d22 : a0_ ≠ d22 := Nat.ne_of_lt (Nat.lt_of_lt_of_le (f16_6.lt) z22)
    have ne_a2__d22 : a2_ ≠ d22 := Nat.ne_of_lt (Nat.lt_of_lt_of_le (f16_15.lt) z22)
    have ne_d2_d22 : d2 ≠ d22 := Nat.ne_of_lt (Nat.lt_of_lt_of_le (f16_18.lt) z22)
    have ne_b11_d22 : b11 ≠ d22 := Nat.ne_of_lt (Nat.lt_of_lt_of_le (f16_20.lt) z22)
    have ne_b13_d22 : b13 ≠ d22 := Nat.ne_of_lt (Nat.lt_of_lt_of_le (f16_22.lt) z22)
    have ne_d13_d22 : d13 ≠ d22 := Nat.ne_of_lt (Nat.lt_of_lt_of_le (f16_25.lt) z22)
    have ne_d12_d22 : d12 ≠ d22 := Nat.ne_of_lt (Nat.lt_of_lt_of_le (f16_29.lt) z22)
    have ne_b16_d22 : b16 ≠ d22 := Nat.ne_of_lt (Nat.lt_of_lt_of_le (Eb16.lt) z22)
    have ne_d16_d22 : d16 ≠ d22 := Nat.ne_of_lt (Nat.lt_of_lt_of_le (Vd16.lt) z22)
    have sf_d22 : Safe Z own_EL T16.vm T22.heap d22 := Safe.keep K22 (sfS f16_19 sf0) f16_1.1 (Safe.new z22)
    have hbl22 : ((([(.int 108), (.int 105), (.int 110), (.int 101), (.int 32)] : List Value) ++ own_dg p0) ++ ([(.int 58), (.int 32)] : List Value)).length = ((cn + (2 : Int32))).toNatClampNeg := by rw [List.length_append, hbl15]; exact (own_nB24 hcr)
    show oG p e below P m T22 22 #[(vR a0_), (vI p0), (vR a2_)] [(.ref b11), (.ref a0_)]
    refine w_aloadN X22 hx hby dp36_1_22 rfl rfl ?_
    obtain ⟨cq23, kq23, q23a, q23b, q23c⟩ := isOf hZ16 rfl f22_20
    obtain ⟨_, _, ⟨T23, L23, k23, n23⟩, -, X23, ⟨Lc23, hQ23, l23, y23, z23⟩, st23⟩ := X22.virtualBack hx (y := oY0) (z := oY0) hown16 (mvT hZ16 (tw_58 hw)) (mvT hZ16 (tw_59 hw)) (notFace_of_selects (args := #[]) (mvT hZ16 (tw_61 hw))) (mvT hZ16 (tw_61 hw)) (mvT hZ16 (tw_60 hw)) (by decide) (backOf (W := 1) (rm_sbAppG l Z a0 hw [] b11 d22 kd22 (34 : Int32) 34 ((([(.int 108), (.int 105), (.int 110), (.int 101), (.int 32)] : List Value) ++ own_dg p0) ++ ([(.int 58), (.int 32)] : List Value)) (cn + (2 : Int32)) a2_ d2 k2 (34 : Int32) rs ((cn + (2 : Int32)) + (34 : Int32)) (36 : Int32) (70 : Int32) 70 cs T22.heap n0 f22_0 f22_5 Scs hcs f22_20 g_b11 Gv22 Gc22 Gn22 g_d22 V22 ne_b11_d22 f22_15 f22_16 f22_17 f22_18 hrl ne_d2_d22 ne_d2_b11 ne_a2__b11 ne_a2__d22 hbl22 (own_nB25 hcr) (own_nB26 hcr) rfl (own_nB27 hcr) (own_nB28 hcr) (by decide) (by decide) (by decide) (by decide) (by decide) (by rw [hbl22]; exact (own_nB29 hcr)) (by decide) (by decide) (by decide) (by decide) (by decide) (by decide)) hZ16 (tw_62 hw) (tw_39 hw) (by decide) (by decide)) q23a q23c (g := (mkF m 23 #[(vR a0_), (vI p0), (vR a2_)] [(.ref a2_), (.ref b11), (.ref a0_)])) rfl (by rw [hml]; rfl) (Steps.refl _) (argsL := [(.ref a2_)]) (rest := [(.ref a0_)]) (lenOf pd__Ljava_lang_String__Ljava_lang_StringBuilder_ rfl) rfl (by show 2 * 0 + _ ≤ _; exact Nat.le_of_eq rfl) (hb hby dp36_1_23) (fun _ _ => ⟨rfl, rfl, (by decide : 7 + 1 ≤ _), (by decide : 184 + 128 ≤ _)⟩)
    dsimp only [Pt.U, Pt.locs, Pt.cells, Pt.slots] at X23 l23 y23 z23 st23 hQ23
    subst l23 y23 z23
    obtain ⟨rfl, N23q, d23, kd23, K23, z23, Gv23, Gc23, Gn23, Ex23, V23⟩ := hQ23
    have N23 := Fr.app N22 N23q
    refine Go.by (fun t k => st23.trans k) ?_
    have f23_0 := (Nat.le_trans f22_0 K23.1)
    have f23_1 := (CHr.trans f22_1 (CHr.keep K23 (sfS f22_19 sf0) f22_1.1))
    have f23_2 := (Nat.le_trans f22_2 K23.1)
    have f23_3 := (Safe.keep K23 (sfS f22_19 sf0) f22_1.1 f22_3)
    have f23_4 := (Keep.trans f22_4 K23 (allS (Or.inr sz_b11) all0))
    have f23_5 := (Old.keep f22_5 K23 (allS g_b11 all0))
    have f23_6 := (Exa.keep f22_6 K23)
    have f23_7 := Unt.keep K23 (ninS ne_a0__b11 nin0) f22_7
    have f23_8 := (Fld.keep f22_8 K23 (ninS ne_a0__b11 nin0))
    have f23_9 := (Fld.keep f22_9 K23 (ninS ne_a0__b11 nin0))
    have f23_10 := (Fld.keep f22_10 K23 (ninS ne_a0__b11 nin0))
    have f23_11 := (Fld.keep f22_11 K23 (ninS ne_a0__b11 nin0))
    have f23_12 := (Fld.keep f22_12 K23 (ninS ne_a0__b11 nin0))
    have f23_13 := (Fld.keep f22_13 K23 (ninS ne_a0__b11 nin0))
    have f23_14 := (Fld.keep f22_14 K23 (ninS ne_a0__b11 nin0))
    have f23_15 := (Exa.keep f22_15 K23)
    have f23_16 := (Fld.keep f22_16 K23 (ninS ne_a2__b11 nin0))
    have f23_17 := (Fld.keep f22_17 K23 (ninS ne_a2__b11 nin0))
    have f23_18 := (Arv.keep f22_18 K23 (ninS ne_d2_b11 nin0))
    have f23_19 := (Safe.keep K23 (sfS f22_19 sf0) f22_1.1 f22_19)
    have f23_20 := (Exa.keep f22_20 K23)
    have f23_21 := (Safe.keep K23 (sfS f22_19 sf0) f22_1.1 f22_21)
    have f23_22 := (Exa.keep f22_22 K23)
    have f23_23 := (Fld.keep f22_23 K23 (ninS (Ne.symm (Sf13 _ (Safe.exa hZ13.alike f13_20 (by decide) (by decide))).1) nin0))
    have f23_24 := (Fld.keep f22_24 K23 (ninS (Ne.symm (Sf13 _ (Safe.exa hZ13.alike f13_20 (by decide) (by decide))).1) nin0))
    have f23_25 := (Arv.keep f22_25 K23 (ninS (Ne.symm (Sf13 _ (Safe.exa hZ13.alike f13_20 (by decide) (by decide))).2) nin0))
    have f23_26 := (Arv.keep f22_26 K23 (ninS (Ne.symm ne_b11_d12) nin0))
    have f23_27 := (Exa.keep f22_27 K23)
    have f23_28 := (Fld.keep f22_28 K23 (ninS (Ne.symm (Sf16 _ (Safe.exa hZ16.alike f16_20 (by decide) (by decide))).1) nin0))
    have f23_29 := (Fld.keep f22_29 K23 (ninS (Ne.symm (Sf16 _ (Safe.exa hZ16.alike f16_20 (by decide) (by decide))).1) nin0))
    have f23_30 := (Arv.keep f22_30 K23 (ninS (Ne.symm (Sf16 _ (Safe.exa hZ16.alike f16_20 (by decide) (by decide))).2) nin0))
    have f23_31 := (Safe.keep K23 (sfS f22_19 sf0) f22_1.1 sf_d22)
    have f23_32 := (Arv.keep V22 K23 (ninS (Ne.symm ne_b11_d22) nin0))
    have f23_33 := (Exa.keep Ex22 K23)
    have g_d23 : n0 ≤ d23 := Nat.le_trans f22_0 z23
    have sz_d23 : h0.size ≤ d23 := Nat.le_trans f22_4.1 z23
    have ne_a0__d23 : a0_ ≠ d23 := Nat.ne_of_lt (Nat.lt_of_lt_of_le (f22_6.lt) z23)
    have ne_a2__d23 : a2_ ≠ d23 := Nat.ne_of_lt (Nat.lt_of_lt_of_le (f22_15.lt) z23)
    have ne_d2_d23 : d2 ≠ d23 := Nat.ne_of_lt (Nat.lt_of_lt_of_le (f22_18.lt) z23)
    have ne_b11_d23 : b11 ≠ d23 := Nat.ne_of_lt (Nat.lt_of_lt_of_le (f22_20.lt) z23)
    have ne_b13_d23 : b13 ≠ d23 := Nat.ne_of_lt (Nat.lt_of_lt_of_le (f22_22.lt) z23)
    have ne_d13_d23 : d13 ≠ d23 := Nat.ne_of_lt (Nat.lt_of_lt_of_le (f22_25.lt) z23)
    have ne_d12_d23 : d12 ≠ d23 := Nat.ne_of_lt (Nat.lt_of_lt_of_le (f22_26.lt) z23)
    have ne_b16_d23 : b16 ≠ d23 := Nat.ne_of_lt (Nat.lt_of_lt_of_le (f22_27.lt) z23)
    have ne_d16_d23 : d16 ≠ d23 := Nat.ne_of_lt (Nat.lt_of_lt_of_le (f22_30.lt) z23)
    have ne_d22_d23 : d22 ≠ d23 := Nat.ne_of_lt (Nat.lt_of_lt_of_le (V22.lt) z23)
    have sf_d23 : Safe Z own_EL T16.vm T23.heap d23 := Safe.keep K23 (sfS f22_19 sf0) f22_1.1 (Safe.new z23)
    have hbl23 : (((([(.int 108), (.int 105), (.int 110), (.int 101), (.int 32)] : List Value) ++ own_dg p0) ++ ([(.int 58), (.int 32)] : List Value)) ++ rs).length = (((cn + (2 : Int32)) + (34 : Int32))).toNatClampNeg := by rw [List.length_append, hbl22, ← hrl]; exact (own_nB30 hcr)
    show oG p e below P m T23 26 #[(vR a0_), (vI p0), (vR a2_)] [(.ref b11), (.ref a0_)]
    obtain ⟨cq24, kq24, q24a, q24b, q24c⟩ := isOf hZ16 rfl f23_20
    obtain ⟨_, _, ⟨T24, L24, k24, n24⟩, -, X24, ⟨Lc24, hQ24, l24, y24, z24⟩, st24⟩ := X23.virtualBack hx (y := oY2) (z := oY2) hown16 (mvT hZ16 (tw_151 hw)) (mvT hZ16 (tw_152 hw)) (notFace_of_selects (args := #[]) (mvT hZ16 (tw_154 hw))) (mvT hZ16 (tw_154 hw)) (mvT hZ16 (tw_153 hw)) (by decide) (backOf (W := 1) (rm_sbToSN l Z a0 hw [] b11 d23 kd23 (70 : Int32) 70 (((([(.int 108), (.int 105), (.int 110), (.int 101), (.int 32)] : List Value) ++ own_dg p0) ++ ([(.int 58), (.int 32)] : List Value)) ++ rs) ((cn + (2 : Int32)) + (34 : Int32)) cs T23.heap n0 f23_0 f23_5 Scs hcs f23_20 g_b11 Gv23 Gc23 Gn23 g_d23 V23 ne_b11_d23 (by decide) hbl23 (own_nB31 hcr) (own_nB32 hcr) (by decide) (own_nB33 hcr) (own_nB34 hcr)) hZ16 (tw_155 hw) (tw_39 hw) (by decide) (by decide)) q24a q24c (g := (mkF m 26 #[(vR a0_), (vI p0), (vR a2_)] [(.ref b11), (.ref a0_)])) rfl (by rw [hml]; rfl) (Steps.refl _) (argsL := []) (rest := [(.ref a0_)]) (lenOf pd___Ljava_lang_String_ rfl) rfl (by show 2 * 0 + _ ≤ _; exact Nat.le_of_eq rfl) (hb hby dp36_1_26) (fun _ _ => ⟨rfl, rfl, (by decide : 8 + 2 ≤ _), (by decide : 312 + 132 ≤ _)⟩)
    dsimp only [Pt.U, Pt.locs, Pt.cells, Pt.slots] at X24 l24 y24 z24 st24 hQ24
    subst l24 y24 z24
    obtain ⟨t24, rfl, N24q, K24, z24, Es24, Gc24, e24d, k24d, zd24, Gv24, V24⟩ := hQ24
    have N24 := Fr.app N23 N24q
    refine Go.by (fun t k => st24.trans k) ?_
    have f24_0 := (Nat.le_trans f23_0 K24.1)
    have f24_1 := (CHr.trans f23_1 (CHr.keep K24 sf0 f23_1.1))
    have f24_2 := (Nat.le_trans f23_2 K24.1)
    have f24_3 := (Safe.keep K24 sf0 f23_1.1 f23_3)
    have f24_4 := (Keep.trans f23_4 K24 all0)
    have f24_5 := (Old.keep f23_5 K24 all0)
    have f24_6 := (Exa.keep f23_6 K24)
    have f24_7 := Unt.keep K24 nin0 f23_7
    have f24_8 := (Fld.keep f23_8 K24 nin0)
    have f24_9 := (Fld.keep f23_9 K24 nin0)
    have f24_10 := (Fld.keep f23_10 K24 nin0)
    have f24_11 := (Fld.keep f23_11 K24 nin0)
    have f24_12 := (Fld.keep f23_12 K24 nin0)
    have f24_13 := (Fld.keep f23_13 K24 nin0)
    have f24_14 := (Fld.keep f23_14 K24 nin0)
    have f24_15 := (Exa.keep f23_15 K24)
    have f24_16 := (Fld.keep f23_16 K24 nin0)
    have f24_17 := (Fld.keep f23_17 K24 nin0)
    have f24_18 := (Arv.keep f23_18 K24 nin0)
    have f24_19 := (Safe.keep K24 sf0 f23_1.1 f23_19)
    have f24_20 := (Exa.keep f23_20 K24)
    have f24_21 := (Safe.keep K24 sf0 f23_1.1 f23_21)
    have f24_22 := (Exa.keep f23_22 K24)
    have f24_23 := (Fld.keep f23_23 K24 nin0)
    have f24_24 := (Fld.keep f23_24 K24 nin0)
    have f24_25 := (Arv.keep f23_25 K24 nin0)
    have f24_26 := (Arv.keep f23_26 K24 nin0)
    have f24_27 := (Exa.keep f23_27 K24)
    have f24_28 := (Fld.keep f23_28 K24 nin0)
    have f24_29 := (Fld.keep f23_29 K24 nin0)
    have f24_30 := (Arv.keep f23_30 K24 nin0)
    have f24_31 := (Safe.keep K24 sf0 f23_1.1 f23_31)
    have f24_32 := (Arv.keep f23_32 K24 nin0)
    have f24_33 := (Exa.keep f23_33 K24)
    have f24_34 := (Safe.keep K24 sf0 f23_1.1 sf_d23)
    have f24_35 := (Arv.keep V23 K24 nin0)
    have f24_36 := (Exa.keep Ex23 K24)
    have f24_37 := (Fld.keep Gv23 K24 nin0)
    have f24_38 := (Fld.keep Gc23 K24 nin0)
    have f24_39 := (Fld.keep Gn23 K24 nin0)
    have g_t24 : n0 ≤ t24 := Nat.le_trans f23_0 z24
    have sz_t24 : h0.size ≤ t24 := Nat.le_trans f23_4.1 z24
    have ne_a0__t24 : a0_ ≠ t24 := Nat.ne_of_lt (Nat.lt_of_lt_of_le (f23_6.lt) z24)
    have ne_a2__t24 : a2_ ≠ t24 := Nat.ne_of_lt (Nat.lt_of_lt_of_le (f23_15.lt) z24)
    have ne_d2_t24 : d2 ≠ t24 := Nat.ne_of_lt (Nat.lt_of_lt_of_le (f23_18.lt) z24)
    have ne_b11_t24 : b11 ≠ t24 := Nat.ne_of_lt (Nat.lt_of_lt_of_le (f23_20.lt) z24)
    have ne_b13_t24 : b13 ≠ t24 := Nat.ne_of_lt (Nat.lt_of_lt_of_le (f23_22.lt) z24)
    have ne_d13_t24 : d13 ≠ t24 := Nat.ne_of_lt (Nat.lt_of_lt_of_le (f23_25.lt) z24)
    have ne_d12_t24 : d12 ≠ t24 := Nat.ne_of_lt (Nat.lt_of_lt_of_le (f23_26.lt) z24)
    have ne_b16_t24 : b16 ≠ t24 := Nat.ne_of_lt (Nat.lt_of_lt_of_le (f23_27.lt) z24)
    have ne_d16_t24 : d16 ≠ t24 := Nat.ne_of_lt (Nat.lt_of_lt_of_le (f23_30.lt) z24)
    have ne_d22_t24 : d22 ≠ t24 := Nat.ne_of_lt (Nat.lt_of_lt_of_le (f23_32.lt) z24)
    have ne_d23_t24 : d23 ≠ t24 := Nat.ne_of_lt (Nat.lt_of_lt_of_le (V23.lt) z24)
    have sf_t24 : Safe Z own_EL T16.vm T24.heap t24 := Safe.keep K24 sf0 f23_1.1 (Safe.new z24)
    have g_e24d : n0 ≤ e24d := Nat.le_trans f23_0 zd24
    have sz_e24d : h0.size ≤ e24d := Nat.le_trans f23_4.1 zd24
    have ne_a0__e24d : a0_ ≠ e24d := Nat.ne_of_lt (Nat.lt_of_lt_of_le (f23_6.lt) zd24)
    have ne_a2__e24d : a2_ ≠ e24d := Nat.ne_of_lt (Nat.lt_of_lt_of_le (f23_15.lt) zd24)
    have ne_d2_e24d : d2 ≠ e24d := Nat.ne_of_lt (Nat.lt_of_lt_of_le (f23_18.lt) zd24)
    have ne_b11_e24d : b11 ≠ e24d := Nat.ne_of_lt (Nat.lt_of_lt_of_le (f23_20.lt) zd24)
    have ne_b13_e24d : b13 ≠ e24d := Nat.ne_of_lt (Nat.lt_of_lt_of_le (f23_22.lt) zd24)
    have ne_d13_e24d : d13 ≠ e24d := Nat.ne_of_lt (Nat.lt_of_lt_of_le (f23_25.lt) zd24)
    have ne_d12_e24d : d12 ≠ e24d := Nat.ne_of_lt (Nat.lt_of_lt_of_le (f23_26.lt) zd24)
    have ne_b16_e24d : b16 ≠ e24d := Nat.ne_of_lt (Nat.lt_of_lt_of_le (f23_27.lt) zd24)
    have ne_d16_e24d : d16 ≠ e24d := Nat.ne_of_lt (Nat.lt_of_lt_of_le (f23_30.lt) zd24)
    have ne_d22_e24d : d22 ≠ e24d := Nat.ne_of_lt (Nat.lt_of_lt_of_le (f23_32.lt) zd24)
    have ne_d23_e24d : d23 ≠ e24d := Nat.ne_of_lt (Nat.lt_of_lt_of_le (V23.lt) zd24)
    have sf_e24d : Safe Z own_EL T16.vm T24.heap e24d := Safe.keep K24 sf0 f23_1.1 (Safe.new zd24)
    show oG p e below P m T24 29 #[(vR a0_), (vI p0), (vR a2_)] [(.ref t24), (.ref a0_)]
    obtain ⟨_, _, ⟨T25, L25, k25, n25⟩, -, X25, ⟨Lc25, hQ25, l25, y25, z25⟩, st25⟩ := X24.specialBack hx (y := oY26) rfl hown16 (mvT hZ16 (tw_189 hw)) (mvT hZ16 (tw_190 hw)) (mvT hZ16 (tw_193 hw)) (by decide) (backOfKL (W := 0) (rm_exc1 l Z a0 hw [] a0_ (.ref t24) u sn T24.heap n0 f24_0 f24_5 Su hu Ssn hsn hl rfl f24_6 g_a0_ f24_7 f24_8 f24_9 f24_10 f24_11 f24_12 f24_13 f24_14) hZ16 (tw_193 hw) (tw_192 hw) (by decide) (by decide) (Vm.MethodsKnown.alikeC (hZs.alike.symm.trans hZ16.alike) hK.1) (Vm.FramesKnown.alikeC (hZs.alike.symm.trans hZ16.alike) hK.2)) (g := (mkF m 29 #[(vR a0_), (vI p0), (vR a2_)] [(.ref t24), (.ref a0_)])) rfl (by rw [hml]; rfl) (Steps.refl _) (a := a0_) (argsL := [(.ref t24)]) (rest := []) (lenOf pd__Ljava_lang_String__V rfl) rfl (by show 2 * 0 + _ ≤ _; exact Nat.le_of_eq rfl) (hb hby dp36_1_29) (fun _ _ => ⟨rfl, rfl, (by decide : 10 + 1 ≤ _), (by decide : 444 + 2752 ≤ _)⟩)
    dsimp only [Pt.U, Pt.locs, Pt.cells, Pt.slots] at X25 l25 y25 z25 st25 hQ25
    subst l25 y25 z25
    obtain ⟨rfl, N25q, K25, Gm25, G25_0⟩ := hQ25
    have N25 := Fr.app N24 N25q
    refine Go.by (fun t k => st25.trans k) ?_
    have f25_0 := (Nat.le_trans f24_0 K25.1)
    have f25_1 := (CHr.trans f24_1 (CHr.keep K25 (sfS f24_3 sf0) f24_1.1))
    have f25_2 := (Nat.le_trans f24_2 K25.1)
    have f25_3 := (Safe.keep K25 (sfS f24_3 sf0) f24_1.1 f24_3)
    have f25_4 := (Keep.trans f24_4 K25 (allS (Or.inl (List.mem_of_getElem? (i := 0) rfl)) all0))
    have f25_5 := (Old.keep f24_5 K25 (allS g_a0_ all0))
    have f25_6 := (Exa.keep f24_6 K25)
    have f25_7 := (Exa.keep f24_15 K25)
    have f25_8 := (Fld.keep f24_16 K25 (ninS ne20 nin0))
    have f25_9 := (Fld.keep f24_17 K25 (ninS ne20 nin0))
    have f25_10 := (Arv.keep f24_18 K25 (ninS ned0 nin0))
    have f25_11 := (Safe.keep K25 (sfS f24_3 sf0) f24_1.1 f24_19)
    have f25_12 := (Exa.keep f24_20 K25)
    have f25_13 := (Safe.keep K25 (sfS f24_3 sf0) f24_1.1 f24_21)
    have f25_14 := (Exa.keep f24_22 K25)
    have f25_15 := (Fld.keep f24_23 K25 (ninS (Ne.symm (Sf13 _ (Safe.exa hZ13.alike f13_6 (by decide) (by decide))).1) nin0))
    have f25_16 := (Fld.keep f24_24 K25 (ninS (Ne.symm (Sf13 _ (Safe.exa hZ13.alike f13_6 (by decide) (by decide))).1) nin0))
    have f25_17 := (Arv.keep f24_25 K25 (ninS (Ne.symm (Sf13 _ (Safe.exa hZ13.alike f13_6 (by decide) (by decide))).2) nin0))
    have f25_18 := (Arv.keep f24_26 K25 (ninS (Ne.symm ne_a0__d12) nin0))
    have f25_19 := (Exa.keep f24_27 K25)
    have f25_20 := (Fld.keep f24_28 K25 (ninS (Ne.symm (Sf16 _ (Safe.exa hZ16.alike f16_6 (by decide) (by decide))).1) nin0))
    have f25_21 := (Fld.keep f24_29 K25 (ninS (Ne.symm (Sf16 _ (Safe.exa hZ16.alike f16_6 (by decide) (by decide))).1) nin0))
    have f25_22 := (Arv.keep f24_30 K25 (ninS (Ne.symm (Sf16 _ (Safe.exa hZ16.alike f16_6 (by decide) (by decide))).2) nin0))
    have f25_23 := (Safe.keep K25 (sfS f24_3 sf0) f24_1.1 f24_31)
    have f25_24 := (Arv.keep f24_32 K25 (ninS (Ne.symm ne_a0__d22) nin0))
    have f25_25 := (Exa.keep f24_33 K25)
    have f25_26 := (Safe.keep K25 (sfS f24_3 sf0) f24_1.1 f24_34)
    have f25_27 := (Arv.keep f24_35 K25 (ninS (Ne.symm ne_a0__d23) nin0))
    have f25_28 := (Exa.keep f24_36 K25)
    have f25_29 := (Fld.keep f24_37 K25 (ninS (Ne.symm ne_a0__b11) nin0))
    have f25_30 := (Fld.keep f24_38 K25 (ninS (Ne.symm ne_a0__b11) nin0))
    have f25_31 := (Fld.keep f24_39 K25 (ninS (Ne.symm ne_a0__b11) nin0))
    have f25_32 := (Safe.keep K25 (sfS f24_3 sf0) f24_1.1 sf_t24)
    have f25_33 := (Safe.keep K25 (sfS f24_3 sf0) f24_1.1 sf_e24d)
    have f25_34 := (Exa.keep Es24 K25)
    have f25_35 := (Fld.keep Gc24 K25 (ninS (Ne.symm ne_a0__t24) nin0))
    have f25_36 := (Fld.keep Gv24 K25 (ninS (Ne.symm ne_a0__t24) nin0))
    have f25_37 := (Arv.keep V24 K25 (ninS (Ne.symm ne_a0__e24d) nin0))
    show oG p e below P m T25 32 #[(vR a0_), (vI p0), (vR a2_)] []
    refine w_aloadN X25 hx hby dp36_1_32 rfl rfl ?_
    refine w_iloadN X25 hx hby dp36_1_33 rfl ?_
    obtain ⟨T26, h26, X26, e26, W26, st26⟩ := putF X25 hx hZ16 hown16 (host := "") (Or.inl (tw_243 hw)) Via.refl rfl G25_0 f25_6 (Or.inr ⟨(tw_244 hw), rfl, hnm⟩) (tw_32 hw) (ty := .int) (by decide) rfl rfl (g := (mkF m 34 #[(vR a0_), (vI p0), (vR a2_)] [(.int p0), (.ref a0_)])) rfl rfl (hb hby dp36_1_34)
    refine Go.by st26 ?_
    have N26 := Fr.snoc X26 N25 g_a0_
    have f26_0 := (Nat.le_trans f25_0 (Keep.of_wr W26).1)
    have f26_1 := (CHr.trans f25_1 (CHr.wr W26 f25_3 f25_1.1))
    have f26_2 := (Nat.le_trans f25_2 (Keep.of_wr W26).1)
    have f26_3 := (Safe.wr W26 f25_3 f25_1.1 f25_3)
    have f26_4 := (Keep.wr f25_4 W26 (Or.inl (List.mem_of_getElem? (i := 0) rfl)))
    have f26_5 := (Old.wr f25_5 W26 g_a0_)
    have f26_6 := (Exa.wr W26 f25_6)
    have f26_7 := (Exa.wr W26 f25_7)
    have f26_8 := (Fld.other W26 f25_8 (Or.inl ne20))
    have f26_9 := (Fld.other W26 f25_9 (Or.inl ne20))
    have f26_10 := (Arv.other f25_10 W26 ned0)
    have f26_11 := (Safe.wr W26 f25_3 f25_1.1 f25_11)
    have f26_12 := (Exa.wr W26 f25_12)
    have f26_13 := (Safe.wr W26 f25_3 f25_1.1 f25_13)
    have f26_14 := (Exa.wr W26 f25_14)
    have f26_15 := (Fld.other W26 f25_15 (Or.inl (Ne.symm (Sf13 _ (Safe.exa hZ13.alike f13_6 (by decide) (by decide))).1)))
    have f26_16 := (Fld.other W26 f25_16 (Or.inl (Ne.symm (Sf13 _ (Safe.exa hZ13.alike f13_6 (by decide) (by decide))).1)))
    have f26_17 := (Arv.other f25_17 W26 (Ne.symm (Sf13 _ (Safe.exa hZ13.alike f13_6 (by decide) (by decide))).2))
    have f26_18 := (Arv.other f25_18 W26 (Ne.symm ne_a0__d12))
    have f26_19 := (Exa.wr W26 f25_19)
    have f26_20 := (Fld.other W26 f25_20 (Or.inl (Ne.symm (Sf16 _ (Safe.exa hZ16.alike f16_6 (by decide) (by decide))).1)))
    have f26_21 := (Fld.other W26 f25_21 (Or.inl (Ne.symm (Sf16 _ (Safe.exa hZ16.alike f16_6 (by decide) (by decide))).1)))
    have f26_22 := (Arv.other f25_22 W26 (Ne.symm (Sf16 _ (Safe.exa hZ16.alike f16_6 (by decide) (by decide))).2))
    have f26_23 := (Safe.wr W26 f25_3 f25_1.1 f25_23)
    have f26_24 := (Arv.other f25_24 W26 (Ne.symm ne_a0__d22))
    have f26_25 := (Exa.wr W26 f25_25)
    have f26_26 := (Safe.wr W26 f25_3 f25_1.1 f25_26)
    have f26_27 := (Arv.other f25_27 W26 (Ne.symm ne_a0__d23))
    have f26_28 := (Exa.wr W26 f25_28)
    have f26_29 := (Fld.other W26 f25_29 (Or.inl (Ne.symm ne_a0__b11)))
    have f26_30 := (Fld.other W26 f25_30 (Or.inl (Ne.symm ne_a0__b11)))
    have f26_31 := (Fld.other W26 f25_31 (Or.inl (Ne.symm ne_a0__b11)))
    have f26_32 := (Safe.wr W26 f25_3 f25_1.1 f25_32)
    have f26_33 := (Safe.wr W26 f25_3 f25_1.1 f25_33)
    have f26_34 := (Exa.wr W26 f25_34)
    have f26_35 := (Fld.other W26 f25_35 (Or.inl (Ne.symm ne_a0__t24)))
    have f26_36 := (Fld.other W26 f25_36 (Or.inl (Ne.symm ne_a0__t24)))
    have f26_37 := (Arv.other f25_37 W26 (Ne.symm ne_a0__e24d))
    have f26_38 := (Fld.other W26 Gm25 (Or.inr (slot_ne (Or.inl (tw_238 hw)) (Or.inr (tw_244 hw)) (by decide) (t := (.object "java/lang/String")) (t' := .int) (by decide) (by decide))))
    have f26_39 := (Fld.same W26 G25_0)
    show oG p e below P m T26 37 #[(vR a0_), (vI p0), (vR a2_)] []
    refine own_finW hP hlk hEL hh X26 (v := none) (fun _ => rfl) (by decide) (by decide) e26 hS16 f26_2 hZ16 f26_1 ?_ (fun fs hr => X26.returnOut hx Bd.returns (hb hby dp36_1_37) hr)
    subst hcn; exact ⟨rfl, N26, f26_4, f26_39, t24, e24d, k24d, f26_38, sz_t24, sz_e24d, f26_34, f26_35, f26_36, f26_37⟩
def Q_given (Z : State) (p0 : Int32) (a1_ : Addr) (d1 : Addr) (k1 : ClassId) (w0 : Int32) (w1 : Int32) (p2 : Int32) (D1 : Addr) (kD1 : ClassId) (D2 : Addr) (kD2 : ClassId) (u : Value) (sn : Value) (cs : Int32) (h0 : Heap) (n0 : Nat) (v : Option Value) (h : Heap) (L : List Loc) : Prop := ∃ b, v = some (.ref b) ∧ Fr n0 L ∧ Keep h0 h [] ∧ Exa Z h b "com/example/carovita/carovita/index/CsvFormatException" ∧ Fld Z h b "com/example/carovita/carovita/index/CsvFormatException" "line" "I" (.int p0) ∧ ∃ ms md mk, Fld Z h b "java/lang/Throwable" "detailMessage" "Ljava/lang/String;" (.ref ms) ∧ h0.size ≤ ms ∧ h0.size ≤ md ∧ Exa Z h ms "java/lang/String" ∧ Fld Z h ms "java/lang/String" "coder" "B" (.int 0) ∧ Fld Z h ms "java/lang/String" "value" "[B" (.ref md) ∧ Arv Z h md mk .byte (own_tot p0) (own_pre p0 ++ ([(.int w0), (.int w1), (.int 32), (.int 105), (.int 115), (.int 32), (.int 103), (.int 105), (.int 118), (.int 101), (.int 110), (.int 32), (.int 116), (.int 119), (.int 105), (.int 99), (.int 101), (.int 44), (.int 32), (.int 102), (.int 105), (.int 114), (.int 115), (.int 116), (.int 32), (.int 111), (.int 110), (.int 32), (.int 108), (.int 105), (.int 110), (.int 101), (.int 32), (.int ((own_d1 (-(-p2))).toInt8.toInt32))] : List Value)) (.int 0)
theorem ef_given (m : MethodId) (p0 : Int32) (a1_ : Addr) (d1 : Addr) (k1 : ClassId) (w0 : Int32) (w1 : Int32) (p2 : Int32) (D1 : Addr) (kD1 : ClassId) (D2 : Addr) (kD2 : ClassId) (u : Value) (sn : Value) (cs : Int32) : entryFrame m #[(.int p0), (.ref a1_), (.int p2)] 3 = mkF m 0 #[(vI p0), (vR a1_), (vI p2)] [] := by first | (simp [entryFrame, mkF, argsToLocals, Value.category]; done) | rfl
set_option maxRecDepth 65536 in
set_option maxHeartbeats 40000000 in
theorem rm_given (l : Launch) (Z : State) (a0 : Array Value) (hw : oW a0 Z) (hEL : EW Z a0 own_EL) (ws : List Jvm.Cond) (p0 : Int32) (a1_ : Addr) (d1 : Addr) (k1 : ClassId) (w0 : Int32) (w1 : Int32) (p2 : Int32) (D1 : Addr) (kD1 : ClassId) (D2 : Addr) (kD2 : ClassId) (u : Value) (sn : Value) (cs : Int32) (h0 : Heap) (n0 : Nat) (Z0 : n0 ≤ h0.size) (O0 : Old Z n0 h0) (Scs : Sta Z Z.heap "java/lang/String" "COMPACT_STRINGS" "Z" (.int cs)) (hcs : ¬ cs = (0 : Int32)) (Su : Sta Z Z.heap "java/lang/Throwable" "UNASSIGNED_STACK" "[Ljava/lang/StackTraceElement;" u) (hu : u.isRef = true) (Ssn : Sta Z Z.heap "java/lang/Throwable" "SUPPRESSED_SENTINEL" "Ljava/util/List;" sn) (hsn : sn.isRef = true) (hl : l.stackTraces = true) (S1 : Sta Z Z.heap "java/lang/Integer" "DigitOnes" "[B" (.ref D1)) (S2 : Sta Z Z.heap "java/lang/Integer" "DigitTens" "[B" (.ref D2)) (VD1 : Arv Z Z.heap D1 kD1 .byte (100 : Int32) own_ones (.int 0)) (VD2 : Arv Z Z.heap D2 kD2 .byte (100 : Int32) own_tens (.int 0)) (E2 : Exa Z h0 a1_ "java/lang/String") (F2c : Fld Z h0 a1_ "java/lang/String" "coder" "B" (.int 0)) (F2v : Fld Z h0 a1_ "java/lang/String" "value" "[B" (.ref d1)) (V2 : Arv Z h0 d1 k1 .byte (2 : Int32) [(.int w0), (.int w1)] (.int 0)) (es : ¬ p2 < (0 : Int32)) (elo : (-p2).toInt ≤ 0) (ehi : -10 < (-p2).toInt) :
    MetFree l oY41 (head1 (Jvm.Cond.code oY41 prog_36_method_2_code 3 (some (.object "com/example/carovita/carovita/index/CsvFormatException")) :: ws) (own_R 7 22 3900 150)) (fun a U => a = #[(.int p0), (.ref a1_), (.int p2)] ∧ Z.Warmed39 U.vm ∧ U.heap = h0 ∧ CHv Z own_EL U.vm h0 ∧ ∀ x ∈ ([] : List Addr), Safe Z own_EL U.vm h0 x) (fun _ _ bl s _ => s.vm.MethodsKnown ∧ s.vm.FramesKnown bl) (fun _ U o U' => ∃ v L, o = .returned v ∧ Q_given Z p0 a1_ d1 k1 w0 w1 p2 D1 kD1 D2 kD2 u sn cs h0 n0 v U'.heap L ∧ CHr Z own_EL U.vm U.heap U'.vm U'.heap ∧ ReturnedEndW U o U' L (own_R 7 22 3900 150).cells (own_R 7 22 3900 150).slots) := by
  refine MetFree.of_bodySF (plainFor_of_name pn_com_example_carovita_carovita_index_CsvFormatException) hisR ?_
  intro p e s m args below meth c s₁ Bd hml0 hP hK
  obtain ⟨rfl, hZ, hh, hCH, hSf⟩ := hP
  have hx := Bd.exec
  have hby := Bd.bytes
  have hml : c.maxLocals = 3 := hml0
  have hown : s.vm.findClass "com/example/carovita/carovita/index/CsvFormatException" = some m.cls := findClass_of_methodNamed Bd.named
  have hnm := (name_of_methodNamed Bd.named Bd.method).1
  have X0 : Stand p l e (own_R 7 22 3900 150) (s.setVm s.vm) m #[(.int p0), (.ref a1_), (.int p2)] below meth c s₁ [] 0 0 := Stand.of_body Bd
  have e0 : s₁.heap = h0 := by rw [← hh, Bd.state]; rfl
  have N0 := Fr.nil n0
  have hZs := hZ
  have wS := own_wS hw
  have hS0 : s.Since s.vm s.heap.size := (State.WarmedH.refl s).since _
  have hk0 : s.heap.size ≤ h0.size := Nat.le_of_eq (congrArg Array.size hh)
  have hlk : meth.locks = false := Bd.notSynchronized
  obtain ⟨P, hP⟩ : ∃ P : Outcome → State → Prop, P = PQW s Z own_EL (Q_given Z p0 a1_ d1 k1 w0 w1 p2 D1 kD1 D2 kD2 u sn cs h0 n0) (own_R 7 22 3900 150).cells (own_R 7 22 3900 150).slots := ⟨_, rfl⟩
  suffices hgo : Go p e below P (s₁.setTop (mkF m 0 #[(vI p0), (vR a1_), (vI p2)] [])) by
    rw [hP] at hgo
    exact Go.by (fun t k => castTop (ef_given m p0 a1_ d1 k1 w0 w1 p2 D1 kD1 D2 kD2 u sn cs) k) hgo
  show oG p e below P m s₁ 0 #[(vI p0), (vR a1_), (vI p2)] []
  obtain ⟨T11, h11, X11, e11, E11, A11, D11, U11, st11⟩ := newO X0 hx hZ hown (tw_248 hw) (tw_32 hw) (tw_33 hw) e0 (g := (mkF m 0 #[(vI p0), (vR a1_), (vI p2)] [])) rfl (hb hby dp36_2_0) (by decide) (by decide)
  obtain ⟨b11, g11⟩ : ∃ z, z = h0.size := ⟨_, rfl⟩
  rw [← g11] at A11 D11 U11 st11
  have g_b11 : n0 ≤ b11 := Nat.le_trans Z0 (Nat.le_of_eq g11.symm)
  have sz_b11 : h0.size ≤ b11 := Nat.le_trans (Keep.refl h0 []).1 (Nat.le_of_eq g11.symm)
  have ne_a1__b11 : a1_ ≠ b11 := Nat.ne_of_lt (Nat.lt_of_lt_of_le (E2.lt) (Nat.le_of_eq g11.symm))
  have ne_d1_b11 : d1 ≠ b11 := Nat.ne_of_lt (Nat.lt_of_lt_of_le (V2.lt) (Nat.le_of_eq g11.symm))
  have sf_b11 : Safe Z own_EL s.vm h0 b11 := Safe.new (Nat.le_of_eq g11.symm)
  have f11_0 := (Nat.le_trans Z0 E11.1)
  have f11_1 := (CHr.trans (CHr.refl hCH) (CHr.ext E11 (CHr.refl hCH).1))
  have f11_2 := (Nat.le_trans hk0 E11.1)
  have f11_3 := (Keep.ext (Keep.refl h0 []) E11)
  have f11_4 := (Old.ext O0 E11)
  have f11_5 := (Exa.ext E11 E2)
  have f11_6 := (Fld.ext E11 F2c)
  have f11_7 := (Fld.ext E11 F2v)
  have f11_8 := (Arv.ext V2 E11)
  have f11_9 := (Safe.ext E11 (CHr.refl hCH).1 sf_b11)
  refine Go.by st11 ?_
  have F11_cause : Fld Z h11 b11 "java/lang/Throwable" "cause" "Ljava/lang/Throwable;" .null := D11 (Or.inl (tw_208 hw)) (ty := (.object "java/lang/Throwable")) (by decide)
  have F11_stackTrace : Fld Z h11 b11 "java/lang/Throwable" "stackTrace" "[Ljava/lang/StackTraceElement;" .null := D11 (Or.inl (tw_211 hw)) (ty := (.array (.object "java/lang/StackTraceElement"))) (by decide)
  have F11_suppressedExceptions : Fld Z h11 b11 "java/lang/Throwable" "suppressedExceptions" "Ljava/util/List;" .null := D11 (Or.inl (tw_214 hw)) (ty := (.object "java/util/List")) (by decide)
  have F11_detailMessage : Fld Z h11 b11 "java/lang/Throwable" "detailMessage" "Ljava/lang/String;" .null := D11 (Or.inl (tw_238 hw)) (ty := (.object "java/lang/String")) (by decide)
  have F11_backtrace : Fld Z h11 b11 "java/lang/Throwable" "backtrace" "Ljava/lang/Object;" .null := D11 (Or.inl (tw_239 hw)) (ty := (.object "java/lang/Object")) (by decide)
  have F11_depth : Fld Z h11 b11 "java/lang/Throwable" "depth" "I" (.int 0) := D11 (Or.inl (tw_240 hw)) (ty := .int) (by decide)
  have F11_line : Fld Z h11 b11 "com/example/carovita/carovita/index/CsvFormatException" "line" "I" (.int 0) := D11 (Or.inr (tw_244 hw)) (ty := .int) (by decide)
  show oG p e below P m T11 3 #[(vI p0), (vR a1_), (vI p2)] [(.ref b11)]
  refine w_dup X11 hx hby dp36_2_3 rfl ?_
  refine w_iloadN X11 hx hby dp36_2_4 rfl ?_
  obtain ⟨T12, h12, X12, e12, E12, A12, D12, U12, st12⟩ := newO X11 hx hZ hown (tw_37 hw) (tw_38 hw) (tw_39 hw) e11 (g := (mkF m 5 #[(vI p0), (vR a1_), (vI p2)] [(.int p0), (.ref b11), (.ref b11)])) rfl (hb hby dp36_2_5) (by decide) (by decide)
  obtain ⟨b12, g12⟩ : ∃ z, z = h11.size := ⟨_, rfl⟩
  rw [← g12] at A12 D12 U12 st12
  have g_b12 : n0 ≤ b12 := Nat.le_trans f11_0 (Nat.le_of_eq g12.symm)
  have sz_b12 : h0.size ≤ b12 := Nat.le_trans f11_3.1 (Nat.le_of_eq g12.symm)
  have ne_a1__b12 : a1_ ≠ b12 := Nat.ne_of_lt (Nat.lt_of_lt_of_le (f11_5.lt) (Nat.le_of_eq g12.symm))
  have ne_d1_b12 : d1 ≠ b12 := Nat.ne_of_lt (Nat.lt_of_lt_of_le (f11_8.lt) (Nat.le_of_eq g12.symm))
  have ne_b11_b12 : b11 ≠ b12 := Nat.ne_of_lt (Nat.lt_of_lt_of_le (A11.lt) (Nat.le_of_eq g12.symm))
  have sf_b12 : Safe Z own_EL s.vm h11 b12 := Safe.new (Nat.le_of_eq g12.symm)
  have f12_0 := (Nat.le_trans f11_0 E12.1)
  have f12_1 := (CHr.trans f11_1 (CHr.ext E12 f11_1.1))
  have f12_2 := (Nat.le_trans f11_2 E12.1)
  have f12_3 := (Keep.ext f11_3 E12)
  have f12_4 := (Old.ext f11_4 E12)
  have f12_5 := (Exa.ext E12 f11_5)
  have f12_6 := (Fld.ext E12 f11_6)
  have f12_7 := (Fld.ext E12 f11_7)
  have f12_8 := (Arv.ext f11_8 E12)
  have f12_9 := (Safe.ext E12 f11_1.1 f11_9)
  have f12_10 := (Exa.ext E12 A11)
  have f12_11 := (Fld.ext E12 F11_cause)
  have f12_12 := (Fld.ext E12 F11_stackTrace)
  have f12_13 := (Fld.ext E12 F11_suppressedExceptions)
  have f12_14 := (Fld.ext E12 F11_detailMessage)
  have f12_15 := (Fld.ext E12 F11_backtrace)
  have f12_16 := (Fld.ext E12 F11_depth)
  have f12_17 := (Fld.ext E12 F11_line)
  have f12_18 := Unt.ext E12 U11
  have f12_19 := (Safe.ext E12 f11_1.1 sf_b12)
  refine Go.by st12 ?_
  have F12_value : Fld Z h12 b12 "java/lang/AbstractStringBuilder" "value" "[B" .null := D12 (Or.inl (tw_52 hw)) (ty := (.array .byte)) (by decide)
  have F12_coder : Fld Z h12 b12 "java/lang/AbstractStringBuilder" "coder" "B" (.int 0) := D12 (Or.inl (tw_54 hw)) (ty := .byte) (by decide)
  have F12_count : Fld Z h12 b12 "java/lang/AbstractStringBuilder" "count" "I" (.int 0) := D12 (Or.inl (tw_79 hw)) (ty := .int) (by decide)
  show oG p e below P m T12 8 #[(vI p0), (vR a1_), (vI p2)] [(.ref b12), (.int p0), (.ref b11), (.ref b11)]
  refine w_dup X12 hx hby dp36_2_8 rfl ?_
  obtain ⟨_, _, ⟨T13, L13, k13, n13⟩, -, X13, ⟨Lc13, hQ13, l13, y13, z13⟩, st13⟩ := X12.specialBack hx (y := oY24) rfl hown (mvT hZ (tw_40 hw)) (mvT hZ (tw_41 hw)) (mvT hZ (tw_42 hw)) (by decide) (backOf (W := 4) (rm_sbInit l Z a0 hw [] b12 cs h12 n0 f12_0 f12_4 Scs hcs A12 g_b12 F12_value F12_coder F12_count) hZ (tw_42 hw) (tw_39 hw) (by decide) (by decide)) (g := (mkF m 9 #[(vI p0), (vR a1_), (vI p2)] [(.ref b12), (.ref b12), (.int p0), (.ref b11), (.ref b11)])) rfl (by rw [hml]; rfl) (Steps.refl _) (a := b12) (argsL := []) (rest := [(.ref b12), (.int p0), (.ref b11), (.ref b11)]) (lenOf pd___V rfl) rfl (by show 2 * 0 + _ ≤ _; exact Nat.le_of_eq rfl) (hb hby dp36_2_9) (fun _ _ => ⟨rfl, e12, (by decide : 2 + 1 ≤ _), (by decide : 11 + 16 ≤ _)⟩)
  dsimp only [Pt.U, Pt.locs, Pt.cells, Pt.slots] at X13 l13 y13 z13 st13 hQ13
  subst l13 y13 z13
  obtain ⟨rfl, N13q, d13, kd13, K13, z13, Gv13, Gc13, Gn13, V13⟩ := hQ13
  have N13 := Fr.app N0 N13q
  refine Go.by (fun t k => st13.trans k) ?_
  have f13_0 := (Nat.le_trans f12_0 K13.1)
  have f13_1 := (CHr.trans f12_1 (CHr.keep K13 (sfS f12_19 sf0) f12_1.1))
  have f13_2 := (Nat.le_trans f12_2 K13.1)
  have f13_3 := (Keep.trans f12_3 K13 (allS (Or.inr sz_b12) all0))
  have f13_4 := (Old.keep f12_4 K13 (allS g_b12 all0))
  have f13_5 := (Exa.keep f12_5 K13)
  have f13_6 := (Fld.keep f12_6 K13 (ninS ne_a1__b12 nin0))
  have f13_7 := (Fld.keep f12_7 K13 (ninS ne_a1__b12 nin0))
  have f13_8 := (Arv.keep f12_8 K13 (ninS ne_d1_b12 nin0))
  have f13_9 := (Safe.keep K13 (sfS f12_19 sf0) f12_1.1 f12_9)
  have f13_10 := (Exa.keep f12_10 K13)
  have f13_11 := (Fld.keep f12_11 K13 (ninS ne_b11_b12 nin0))
  have f13_12 := (Fld.keep f12_12 K13 (ninS ne_b11_b12 nin0))
  have f13_13 := (Fld.keep f12_13 K13 (ninS ne_b11_b12 nin0))
  have f13_14 := (Fld.keep f12_14 K13 (ninS ne_b11_b12 nin0))
  have f13_15 := (Fld.keep f12_15 K13 (ninS ne_b11_b12 nin0))
  have f13_16 := (Fld.keep f12_16 K13 (ninS ne_b11_b12 nin0))
  have f13_17 := (Fld.keep f12_17 K13 (ninS ne_b11_b12 nin0))
  have f13_18 := Unt.keep K13 (ninS ne_b11_b12 nin0) f12_18
  have f13_19 := (Safe.keep K13 (sfS f12_19 sf0) f12_1.1 f12_19)
  have f13_20 := (Exa.keep A12 K13)
  have g_d13 : n0 ≤ d13 := Nat.le_trans f12_0 z13
  have sz_d13 : h0.size ≤ d13 := Nat.le_trans f12_3.1 z13
  have ne_a1__d13 : a1_ ≠ d13 := Nat.ne_of_lt (Nat.lt_of_lt_of_le (f12_5.lt) z13)
  have ne_d1_d13 : d1 ≠ d13 := Nat.ne_of_lt (Nat.lt_of_lt_of_le (f12_8.lt) z13)
  have ne_b11_d13 : b11 ≠ d13 := Nat.ne_of_lt (Nat.lt_of_lt_of_le (f12_10.lt) z13)
  have ne_b12_d13 : b12 ≠ d13 := Nat.ne_of_lt (Nat.lt_of_lt_of_le (A12.lt) z13)
  have sf_d13 : Safe Z own_EL s.vm T13.heap d13 := Safe.keep K13 (sfS f12_19 sf0) f12_1.1 (Safe.new z13)
  show oG p e below P m T13 12 #[(vI p0), (vR a1_), (vI p2)] [(.ref b12), (.int p0), (.ref b11), (.ref b11)]
  refine w_aloadN X13 hx hby dp36_2_12 rfl rfl ?_
  obtain ⟨cq14, kq14, q14a, q14b, q14c⟩ := isOf hZ rfl f13_20
  obtain ⟨_, _, ⟨T14, L14, k14, n14⟩, -, X14, ⟨Lc14, hQ14, l14, y14, z14⟩, st14⟩ := X13.virtualBack hx (y := oY0) (z := oY0) hown (mvT hZ (tw_58 hw)) (mvT hZ (tw_59 hw)) (notFace_of_selects (args := #[]) (mvT hZ (tw_61 hw))) (mvT hZ (tw_61 hw)) (mvT hZ (tw_60 hw)) (by decide) (backOf (W := 3) (rm_sbAppN l Z a0 hw [] b12 d13 kd13 (16 : Int32) 16 ([] : List Value) (0 : Int32) a1_ d1 k1 (2 : Int32) ([(.int w0), (.int w1)] : List Value) (2 : Int32) cs T13.heap n0 f13_0 f13_4 Scs hcs f13_20 g_b12 Gv13 Gc13 Gn13 g_d13 V13 ne_b12_d13 f13_5 f13_6 f13_7 f13_8 rfl ne_d1_d13 ne_d1_b12 ne_a1__b12 ne_a1__d13 rfl (by decide) (by decide) (by decide) (by decide) (by decide)) hZ (tw_62 hw) (tw_39 hw) (by decide) (by decide)) q14a q14c (g := (mkF m 13 #[(vI p0), (vR a1_), (vI p2)] [(.ref a1_), (.ref b12), (.int p0), (.ref b11), (.ref b11)])) rfl (by rw [hml]; rfl) (Steps.refl _) (argsL := [(.ref a1_)]) (rest := [(.int p0), (.ref b11), (.ref b11)]) (lenOf pd__Ljava_lang_String__Ljava_lang_StringBuilder_ rfl) rfl (by show 2 * 0 + _ ≤ _; exact Nat.le_of_eq rfl) (hb hby dp36_2_13) (fun _ _ => ⟨rfl, rfl, (by decide : 3 + 0 ≤ _), (by decide : 27 + 0 ≤ _)⟩)
  dsimp only [Pt.U, Pt.locs, Pt.cells, Pt.slots] at X14 l14 y14 z14 st14 hQ14
  subst l14 y14 z14
  obtain ⟨rfl, N14q, K14, Gv14, Gc14, Gn14, V14⟩ := hQ14
  have N14 := Fr.app N13 N14q
  refine Go.by (fun t k => st14.trans k) ?_
  have f14_0 := (Nat.le_trans f13_0 K14.1)
  have f14_1 := (CHr.trans f13_1 (CHr.keep K14 (sfS f13_19 (sfS sf_d13 sf0)) f13_1.1))
  have f14_2 := (Nat.le_trans f13_2 K14.1)
  have f14_3 := (Keep.trans f13_3 K14 (allS (Or.inr sz_b12) (allS (Or.inr sz_d13) all0)))
  have f14_4 := (Old.keep f13_4 K14 (allS g_b12 (allS g_d13 all0)))
  have f14_5 := (Exa.keep f13_5 K14)
  have f14_6 := (Fld.keep f13_6 K14 (ninS ne_a1__b12 (ninS ne_a1__d13 nin0)))
  have f14_7 := (Fld.keep f13_7 K14 (ninS ne_a1__b12 (ninS ne_a1__d13 nin0)))
  have f14_8 := (Arv.keep f13_8 K14 (ninS ne_d1_b12 (ninS ne_d1_d13 nin0)))
  have f14_9 := (Safe.keep K14 (sfS f13_19 (sfS sf_d13 sf0)) f13_1.1 f13_9)
  have f14_10 := (Exa.keep f13_10 K14)
  have f14_11 := (Fld.keep f13_11 K14 (ninS ne_b11_b12 (ninS ne_b11_d13 nin0)))
  have f14_12 := (Fld.keep f13_12 K14 (ninS ne_b11_b12 (ninS ne_b11_d13 nin0)))
  have f14_13 := (Fld.keep f13_13 K14 (ninS ne_b11_b12 (ninS ne_b11_d13 nin0)))
  have f14_14 := (Fld.keep f13_14 K14 (ninS ne_b11_b12 (ninS ne_b11_d13 nin0)))
  have f14_15 := (Fld.keep f13_15 K14 (ninS ne_b11_b12 (ninS ne_b11_d13 nin0)))
  have f14_16 := (Fld.keep f13_16 K14 (ninS ne_b11_b12 (ninS ne_b11_d13 nin0)))
  have f14_17 := (Fld.keep f13_17 K14 (ninS ne_b11_b12 (ninS ne_b11_d13 nin0)))
  have f14_18 := Unt.keep K14 (ninS ne_b11_b12 (ninS ne_b11_d13 nin0)) f13_18
  have f14_19 := (Safe.keep K14 (sfS f13_19 (sfS sf_d13 sf0)) f13_1.1 f13_19)
  have f14_20 := (Exa.keep f13_20 K14)
  have f14_21 := (Safe.keep K14 (sfS f13_19 (sfS sf_d13 sf0)) f13_1.1 sf_d13)
  have hbl14 : (([] : List Value) ++ ([(.int w0), (.int w1)] : List Value)).length = ((2 : Int32)).toNatClampNeg := rfl
  have VX14 : Arv Z T14.heap d13 kd13 .byte (16 : Int32) (own_full 16 ([(.int w0), (.int w1)] : List Value)) (.int 0) := V14
  show oG p e below P m T14 16 #[(vI p0), (vR a1_), (vI p2)] [(.ref b12), (.int p0), (.ref b11), (.ref b11)]
  obtain ⟨b15, T15, h15, k115, d15, kd15, X15, e15, E15, hS15, hk15, hZ15, hown15, Eb15, Fc15, Fv15, Vd15, lb15, ld15, C15, Lt15, Sf15, st15⟩ := ldcCH X14 hx hZ hown (tw_249 hw) wS rfl hS0 f14_2 hEL (by decide) f14_1.1 (vs := [(.int 32), (.int 105), (.int 115), (.int 32), (.int 103), (.int 105), (.int 118), (.int 101), (.int 110), (.int 32), (.int 116), (.int 119), (.int 105), (.int 99), (.int 101), (.int 44), (.int 32), (.int 102), (.int 105), (.int 114), (.int 115), (.int 116), (.int 32), (.int 111), (.int 110), (.int 32), (.int 108), (.int 105), (.int 110), (.int 101), (.int 32)]) (z := (31 : Int32)) ⟨by decide, by decide⟩ (by decide) (by decide) (g := (mkF m 16 #[(vI p0), (vR a1_), (vI p2)] [(.ref b12), (.int p0), (.ref b11), (.ref b11)])) rfl (hb hby dp36_2_16) (n := 124) (by decide) (by decide) (by decide) (by decide)
  have f15_0 := (Nat.le_trans f14_0 E15.1)
  have f15_1 := (CHr.trans f14_1 C15)
  have f15_2 := hk15
  have f15_3 := (Keep.ext f14_3 E15)
  have f15_4 := (Old.ext f14_4 E15)
  have f15_5 := (Exa.ext E15 f14_5)
  have f15_6 := (Fld.ext E15 f14_6)
  have f15_7 := (Fld.ext E15 f14_7)
  have f15_8 := (Arv.ext f14_8 E15)
  have f15_9 := (CHr.safe C15 (f14_10.lt) f14_9)
  have f15_10 := (Exa.ext E15 f14_10)
  have f15_11 := (Fld.ext E15 f14_11)
  have f15_12 := (Fld.ext E15 f14_12)
  have f15_13 := (Fld.ext E15 f14_13)
  have f15_14 := (Fld.ext E15 f14_14)
  have f15_15 := (Fld.ext E15 f14_15)
  have f15_16 := (Fld.ext E15 f14_16)
  have f15_17 := (Fld.ext E15 f14_17)
  have f15_18 := Unt.ext E15 f14_18
  have f15_19 := (CHr.safe C15 (f14_20.lt) f14_19)
  have f15_20 := (Exa.ext E15 f14_20)
  have f15_21 := (CHr.safe C15 (VX14.lt) f14_21)
  have f15_22 := (Fld.ext E15 Gv14)
  have f15_23 := (Fld.ext E15 Gc14)
  have f15_24 := (Fld.ext E15 Gn14)
  have f15_25 := (Arv.ext VX14 E15)
  refine Go.by st15 ?_
  obtain ⟨cq16, kq16, q16a, q16b, q16c⟩ := isOf hZ15 e15 f15_20
  obtain ⟨_, _, ⟨T16, L16, k16, n16⟩, -, X16, ⟨Lc16, hQ16, l16, y16, z16⟩, st16⟩ := X15.virtualBack hx (y := oY0) (z := oY0) hown15 (mvT hZ15 (tw_58 hw)) (mvT hZ15 (tw_59 hw)) (notFace_of_selects (args := #[]) (mvT hZ15 (tw_61 hw))) (mvT hZ15 (tw_61 hw)) (mvT hZ15 (tw_60 hw)) (by decide) (backOf (W := 3) (rm_sbAppG l Z a0 hw [] b12 d13 kd13 (16 : Int32) 16 ([(.int w0), (.int w1)] : List Value) (2 : Int32) b15 d15 kd15 (31 : Int32) ([(.int 32), (.int 105), (.int 115), (.int 32), (.int 103), (.int 105), (.int 118), (.int 101), (.int 110), (.int 32), (.int 116), (.int 119), (.int 105), (.int 99), (.int 101), (.int 44), (.int 32), (.int 102), (.int 105), (.int 114), (.int 115), (.int 116), (.int 32), (.int 111), (.int 110), (.int 32), (.int 108), (.int 105), (.int 110), (.int 101), (.int 32)] : List Value) (33 : Int32) (18 : Int32) (34 : Int32) 34 cs h15 n0 f15_0 f15_4 Scs hcs f15_20 g_b12 f15_22 f15_23 f15_24 g_d13 f15_25 ne_b12_d13 Eb15 Fc15 Fv15 Vd15 (by decide) (Ne.symm (Sf15 _ f15_21).2) (Ne.symm (Sf15 _ (Safe.exa hZ15.alike f15_20 (by decide) (by decide))).2) (Ne.symm (Sf15 _ (Safe.exa hZ15.alike f15_20 (by decide) (by decide))).1) (Ne.symm (Sf15 _ f15_21).1) rfl (by decide) (by decide) (by decide) (by decide) (by decide) (by decide) (by decide) (by decide) (by decide) (by decide) (Nat.le_of_ble_eq_true rfl) (by decide) (by decide) (by decide) (by decide) (by decide) (by decide)) hZ15 (tw_62 hw) (tw_39 hw) (by decide) (by decide)) q16a q16c (g := (mkF m 18 #[(vI p0), (vR a1_), (vI p2)] [(.ref b15), (.ref b12), (.int p0), (.ref b11), (.ref b11)])) rfl (by rw [hml]; rfl) (Steps.refl _) (argsL := [(.ref b15)]) (rest := [(.int p0), (.ref b11), (.ref b11)]) (lenOf pd__Ljava_lang_String__Ljava_lang_StringBuilder_ rfl) rfl (by show 2 * 0 + _ ≤ _; exact Nat.le_of_eq rfl) (hb hby dp36_2_18) (fun _ _ => ⟨rfl, e15, (by decide : 5 + 1 ≤ _), (by decide : 155 + 128 ≤ _)⟩)
  dsimp only [Pt.U, Pt.locs, Pt.cells, Pt.slots] at X16 l16 y16 z16 st16 hQ16
  subst l16 y16 z16
  obtain ⟨rfl, N16q, d16, kd16, K16, z16, Gv16, Gc16, Gn16, Ex16, V16⟩ := hQ16
  have N16 := Fr.app N14 N16q
  refine Go.by (fun t k => st16.trans k) ?_
  have f16_0 := (Nat.le_trans f15_0 K16.1)
  have f16_1 := (CHr.trans f15_1 (CHr.keep K16 (sfS f15_19 sf0) f15_1.1))
  have f16_2 := (Nat.le_trans f15_2 K16.1)
  have f16_3 := (Keep.trans f15_3 K16 (allS (Or.inr sz_b12) all0))
  have f16_4 := (Old.keep f15_4 K16 (allS g_b12 all0))
  have f16_5 := (Exa.keep f15_5 K16)
  have f16_6 := (Fld.keep f15_6 K16 (ninS ne_a1__b12 nin0))
  have f16_7 := (Fld.keep f15_7 K16 (ninS ne_a1__b12 nin0))
  have f16_8 := (Arv.keep f15_8 K16 (ninS ne_d1_b12 nin0))
  have f16_9 := (Safe.keep K16 (sfS f15_19 sf0) f15_1.1 f15_9)
  have f16_10 := (Exa.keep f15_10 K16)
  have f16_11 := (Fld.keep f15_11 K16 (ninS ne_b11_b12 nin0))
  have f16_12 := (Fld.keep f15_12 K16 (ninS ne_b11_b12 nin0))
  have f16_13 := (Fld.keep f15_13 K16 (ninS ne_b11_b12 nin0))
  have f16_14 := (Fld.keep f15_14 K16 (ninS ne_b11_b12 nin0))
  have f16_15 := (Fld.keep f15_15 K16 (ninS ne_b11_b12 nin0))
  have f16_16 := (Fld.keep f15_16 K16 (ninS ne_b11_b12 nin0))
  have f16_17 := (Fld.keep f15_17 K16 (ninS ne_b11_b12 nin0))
  have f16_18 := Unt.keep K16 (ninS ne_b11_b12 nin0) f15_18
  have f16_19 := (Safe.keep K16 (sfS f15_19 sf0) f15_1.1 f15_19)
  have f16_20 := (Exa.keep f15_20 K16)
  have f16_21 := (Safe.keep K16 (sfS f15_19 sf0) f15_1.1 f15_21)
  have f16_22 := (Arv.keep f15_25 K16 (ninS (Ne.symm ne_b12_d13) nin0))
  have f16_23 := (Exa.keep Eb15 K16)
  have f16_24 := (Fld.keep Fc15 K16 (ninS (Ne.symm (Sf15 _ (Safe.exa hZ15.alike f15_20 (by decide) (by decide))).1) nin0))
  have f16_25 := (Fld.keep Fv15 K16 (ninS (Ne.symm (Sf15 _ (Safe.exa hZ15.alike f15_20 (by decide) (by decide))).1) nin0))
  have f16_26 := (Arv.keep Vd15 K16 (ninS (Ne.symm (Sf15 _ (Safe.exa hZ15.alike f15_20 (by decide) (by decide))).2) nin0))
  have g_d16 : n0 ≤ d16 := Nat.le_trans f15_0 z16
  have sz_d16 : h0.size ≤ d16 := Nat.le_trans f15_3.1 z16
  have ne_a1__d16 : a1_ ≠ d16 := Nat.ne_of_lt (Nat.lt_of_lt_of_le (f15_5.lt) z16)
  have ne_d1_d16 : d1 ≠ d16 := Nat.ne_of_lt (Nat.lt_of_lt_of_le (f15_8.lt) z16)
  have ne_b11_d16 : b11 ≠ d16 := Nat.ne_of_lt (Nat.lt_of_lt_of_le (f15_10.lt) z16)
  have ne_b12_d16 : b12 ≠ d16 := Nat.ne_of_lt (Nat.lt_of_lt_of_le (f15_20.lt) z16)
  have ne_d13_d16 : d13 ≠ d16 := Nat.ne_of_lt (Nat.lt_of_lt_of_le (f15_25.lt) z16)
  have ne_b15_d16 : b15 ≠ d16 := Nat.ne_of_lt (Nat.lt_of_lt_of_le (Eb15.lt) z16)
  have ne_d15_d16 : d15 ≠ d16 := Nat.ne_of_lt (Nat.lt_of_lt_of_le (Vd15.lt) z16)
  have sf_d16 : Safe Z own_EL T15.vm T16.heap d16 := Safe.keep K16 (sfS f15_19 sf0) f15_1.1 (Safe.new z16)
  have hbl16 : (([(.int w0), (.int w1)] : List Value) ++ ([(.int 32), (.int 105), (.int 115), (.int 32), (.int 103), (.int 105), (.int 118), (.int 101), (.int 110), (.int 32), (.int 116), (.int 119), (.int 105), (.int 99), (.int 101), (.int 44), (.int 32), (.int 102), (.int 105), (.int 114), (.int 115), (.int 116), (.int 32), (.int 111), (.int 110), (.int 32), (.int 108), (.int 105), (.int 110), (.int 101), (.int 32)] : List Value)).length = ((33 : Int32)).toNatClampNeg := rfl
  have VX16 : Arv Z T16.heap d16 kd16 .byte (34 : Int32) [(.int w0), (.int w1), (.int 32), (.int 105), (.int 115), (.int 32), (.int 103), (.int 105), (.int 118), (.int 101), (.int 110), (.int 32), (.int 116), (.int 119), (.int 105), (.int 99), (.int 101), (.int 44), (.int 32), (.int 102), (.int 105), (.int 114), (.int 115), (.int 116), (.int 32), (.int 111), (.int 110), (.int 32), (.int 108), (.int 105), (.int 110), (.int 101), (.int 32), (.int 0)] (.int 0) := V16
  show oG p e below P m T16 21 #[(vI p0), (vR a1_), (vI p2)] [(.ref b12), (.int p0), (.ref b11), (.ref b11)]
  refine w_iloadN X16 hx hby dp36_2_21 rfl ?_
  obtain ⟨cq17, kq17, q17a, q17b, q17c⟩ := isOf hZ15 rfl f16_20
  obtain ⟨_, _, ⟨T17, L17, k17, n17⟩, -, X17, ⟨Lc17, hQ17, l17, y17, z17⟩, st17⟩ := X16.virtualBack hx (y := oY5) (z := oY5) hown15 (mvT hZ15 (tw_105 hw)) (mvT hZ15 (tw_106 hw)) (notFace_of_selects (args := #[]) (mvT hZ15 (tw_108 hw))) (mvT hZ15 (tw_108 hw)) (mvT hZ15 (tw_107 hw)) (by decide) (backOf (W := 3) (rm_sbIe0_1 l Z a0 hw [] b12 d16 kd16 p2 w0 w1 D1 kD1 D2 kD2 cs T16.heap n0 f16_0 f16_4 Scs hcs f16_20 g_b12 Gv16 Gc16 Gn16 g_d16 ne_b12_d16 VX16 S1 S2 VD1 VD2 es elo ehi) hZ15 (tw_109 hw) (tw_39 hw) (by decide) (by decide)) q17a q17c (g := (mkF m 22 #[(vI p0), (vR a1_), (vI p2)] [(.int p2), (.ref b12), (.int p0), (.ref b11), (.ref b11)])) rfl (by rw [hml]; rfl) (Steps.refl _) (argsL := [(.int p2)]) (rest := [(.int p0), (.ref b11), (.ref b11)]) (lenOf pd__I_Ljava_lang_StringBuilder_ rfl) rfl (by show 2 * 0 + _ ≤ _; exact Nat.le_of_eq rfl) (hb hby dp36_2_22) (fun _ _ => ⟨rfl, rfl, (by decide : 6 + 0 ≤ _), (by decide : 283 + 0 ≤ _)⟩)
  dsimp only [Pt.U, Pt.locs, Pt.cells, Pt.slots] at X17 l17 y17 z17 st17 hQ17
  subst l17 y17 z17
  obtain ⟨rfl, N17q, K17, Gv17, Gc17, Gn17, V17⟩ := hQ17
  have N17 := Fr.app N16 N17q
  refine Go.by (fun t k => st17.trans k) ?_
  have f17_0 := (Nat.le_trans f16_0 K17.1)
  have f17_1 := (CHr.trans f16_1 (CHr.keep K17 (sfS f16_19 (sfS sf_d16 sf0)) f16_1.1))
  have f17_2 := (Nat.le_trans f16_2 K17.1)
  have f17_3 := (Keep.trans f16_3 K17 (allS (Or.inr sz_b12) (allS (Or.inr sz_d16) all0)))
  have f17_4 := (Old.keep f16_4 K17 (allS g_b12 (allS g_d16 all0)))
  have f17_5 := (Exa.keep f16_5 K17)
  have f17_6 := (Fld.keep f16_6 K17 (ninS ne_a1__b12 (ninS ne_a1__d16 nin0)))
  have f17_7 := (Fld.keep f16_7 K17 (ninS ne_a1__b12 (ninS ne_a1__d16 nin0)))
  have f17_8 := (Arv.keep f16_8 K17 (ninS ne_d1_b12 (ninS ne_d1_d16 nin0)))
  have f17_9 := (Safe.keep K17 (sfS f16_19 (sfS sf_d16 sf0)) f16_1.1 f16_9)
  have f17_10 := (Exa.keep f16_10 K17)
  have f17_11 := (Fld.keep f16_11 K17 (ninS ne_b11_b12 (ninS ne_b11_d16 nin0)))
  have f17_12 := (Fld.keep f16_12 K17 (ninS ne_b11_b12 (ninS ne_b11_d16 nin0)))
  have f17_13 := (Fld.keep f16_13 K17 (ninS ne_b11_b12 (ninS ne_b11_d16 nin0)))
  have f17_14 := (Fld.keep f16_14 K17 (ninS ne_b11_b12 (ninS ne_b11_d16 nin0)))
  have f17_15 := (Fld.keep f16_15 K17 (ninS ne_b11_b12 (ninS ne_b11_d16 nin0)))
  have f17_16 := (Fld.keep f16_16 K17 (ninS ne_b11_b12 (ninS ne_b11_d16 nin0)))
  have f17_17 := (Fld.keep f16_17 K17 (ninS ne_b11_b12 (ninS ne_b11_d16 nin0)))
  have f17_18 := Unt.keep K17 (ninS ne_b11_b12 (ninS ne_b11_d16 nin0)) f16_18
  have f17_19 := (Safe.keep K17 (sfS f16_19 (sfS sf_d16 sf0)) f16_1.1 f16_19)
  have f17_20 := (Exa.keep f16_20 K17)
  have f17_21 := (Safe.keep K17 (sfS f16_19 (sfS sf_d16 sf0)) f16_1.1 f16_21)
  have f17_22 := (Arv.keep f16_22 K17 (ninS (Ne.symm ne_b12_d13) (ninS ne_d13_d16 nin0)))
  have f17_23 := (Exa.keep f16_23 K17)
  have f17_24 := (Fld.keep f16_24 K17 (ninS (Ne.symm (Sf15 _ (Safe.exa hZ15.alike f15_20 (by decide) (by decide))).1) (ninS ne_b15_d16 nin0)))
  have f17_25 := (Fld.keep f16_25 K17 (ninS (Ne.symm (Sf15 _ (Safe.exa hZ15.alike f15_20 (by decide) (by decide))).1) (ninS ne_b15_d16 nin0)))
  have f17_26 := (Arv.keep f16_26 K17 (ninS (Ne.symm (Sf15 _ (Safe.exa hZ15.alike f15_20 (by decide) (by decide))).2) (ninS ne_d15_d16 nin0)))
  have f17_27 := (Safe.keep K17 (sfS f16_19 (sfS sf_d16 sf0)) f16_1.1 sf_d16)
  have f17_28 := (Exa.keep Ex16 K17)
  have VX17 : Arv Z T17.heap d16 kd16 .byte (34 : Int32) (own_full 34 ([(.int w0), (.int w1), (.int 32), (.int 105), (.int 115), (.int 32), (.int 103), (.int 105), (.int 118), (.int 101), (.int 110), (.int 32), (.int 116), (.int 119), (.int 105), (.int 99), (.int 101), (.int 44), (.int 32), (.int 102), (.int 105), (.int 114), (.int 115), (.int 116), (.int 32), (.int 111), (.int 110), (.int 32), (.int 108), (.int 105), (.int 110), (.int 101), (.int 32), (.int ((own_d1 (-(-p2))).toInt8.toInt32))] : List Value)) (.int 0) := V17
  show oG p e below P m T17 25 #[(vI p0), (vR a1_), (vI p2)] [(.ref b12), (.int p0), (.ref b11), (.ref b11)]
  obtain ⟨cq18, kq18, q18a, q18b, q18c⟩ := isOf hZ15 rfl f17_20
  obtain ⟨_, _, ⟨T18, L18, k18, n18⟩, -, X18, ⟨Lc18, hQ18, l18, y18, z18⟩, st18⟩ := X17.virtualBack hx (y := oY2) (z := oY2) hown15 (mvT hZ15 (tw_151 hw)) (mvT hZ15 (tw_152 hw)) (notFace_of_selects (args := #[]) (mvT hZ15 (tw_154 hw))) (mvT hZ15 (tw_154 hw)) (mvT hZ15 (tw_153 hw)) (by decide) (backOf (W := 3) (rm_sbToSE l Z a0 hw [] b12 d16 kd16 (34 : Int32) 34 ([(.int w0), (.int w1), (.int 32), (.int 105), (.int 115), (.int 32), (.int 103), (.int 105), (.int 118), (.int 101), (.int 110), (.int 32), (.int 116), (.int 119), (.int 105), (.int 99), (.int 101), (.int 44), (.int 32), (.int 102), (.int 105), (.int 114), (.int 115), (.int 116), (.int 32), (.int 111), (.int 110), (.int 32), (.int 108), (.int 105), (.int 110), (.int 101), (.int 32), (.int ((own_d1 (-(-p2))).toInt8.toInt32))] : List Value) cs T17.heap n0 f17_0 f17_4 Scs hcs f17_20 g_b12 Gv17 Gc17 Gn17 g_d16 VX17 ne_b12_d16 f17_28 (by decide) rfl (by decide)) hZ15 (tw_155 hw) (tw_39 hw) (by decide) (by decide)) q18a q18c (g := (mkF m 25 #[(vI p0), (vR a1_), (vI p2)] [(.ref b12), (.int p0), (.ref b11), (.ref b11)])) rfl (by rw [hml]; rfl) (Steps.refl _) (argsL := []) (rest := [(.int p0), (.ref b11), (.ref b11)]) (lenOf pd___Ljava_lang_String_ rfl) rfl (by show 2 * 0 + _ ≤ _; exact Nat.le_of_eq rfl) (hb hby dp36_2_25) (fun _ _ => ⟨rfl, rfl, (by decide : 6 + 2 ≤ _), (by decide : 283 + 132 ≤ _)⟩)
  dsimp only [Pt.U, Pt.locs, Pt.cells, Pt.slots] at X18 l18 y18 z18 st18 hQ18
  subst l18 y18 z18
  obtain ⟨t18, rfl, N18q, K18, z18, Es18, Gc18, e18d, k18d, zd18, Gv18, V18⟩ := hQ18
  have N18 := Fr.app N17 N18q
  refine Go.by (fun t k => st18.trans k) ?_
  have f18_0 := (Nat.le_trans f17_0 K18.1)
  have f18_1 := (CHr.trans f17_1 (CHr.keep K18 sf0 f17_1.1))
  have f18_2 := (Nat.le_trans f17_2 K18.1)
  have f18_3 := (Keep.trans f17_3 K18 all0)
  have f18_4 := (Old.keep f17_4 K18 all0)
  have f18_5 := (Exa.keep f17_5 K18)
  have f18_6 := (Fld.keep f17_6 K18 nin0)
  have f18_7 := (Fld.keep f17_7 K18 nin0)
  have f18_8 := (Arv.keep f17_8 K18 nin0)
  have f18_9 := (Safe.keep K18 sf0 f17_1.1 f17_9)
  have f18_10 := (Exa.keep f17_10 K18)
  have f18_11 := (Fld.keep f17_11 K18 nin0)
  have f18_12 := (Fld.keep f17_12 K18 nin0)
  have f18_13 := (Fld.keep f17_13 K18 nin0)
  have f18_14 := (Fld.keep f17_14 K18 nin0)
  have f18_15 := (Fld.keep f17_15 K18 nin0)
  have f18_16 := (Fld.keep f17_16 K18 nin0)
  have f18_17 := (Fld.keep f17_17 K18 nin0)
  have f18_18 := Unt.keep K18 nin0 f17_18
  have f18_19 := (Safe.keep K18 sf0 f17_1.1 f17_19)
  have f18_20 := (Exa.keep f17_20 K18)
  have f18_21 := (Safe.keep K18 sf0 f17_1.1 f17_21)
  have f18_22 := (Arv.keep f17_22 K18 nin0)
  have f18_23 := (Exa.keep f17_23 K18)
  have f18_24 := (Fld.keep f17_24 K18 nin0)
  have f18_25 := (Fld.keep f17_25 K18 nin0)
  have f18_26 := (Arv.keep f17_26 K18 nin0)
  have f18_27 := (Safe.keep K18 sf0 f17_1.1 f17_27)
  have f18_28 := (Exa.keep f17_28 K18)
  have f18_29 := (Fld.keep Gv17 K18 nin0)
  have f18_30 := (Fld.keep Gc17 K18 nin0)
  have f18_31 := (Fld.keep Gn17 K18 nin0)
  have f18_32 := (Arv.keep VX17 K18 nin0)
  have g_t18 : n0 ≤ t18 := Nat.le_trans f17_0 z18
  have sz_t18 : h0.size ≤ t18 := Nat.le_trans f17_3.1 z18
  have ne_a1__t18 : a1_ ≠ t18 := Nat.ne_of_lt (Nat.lt_of_lt_of_le (f17_5.lt) z18)
  have ne_d1_t18 : d1 ≠ t18 := Nat.ne_of_lt (Nat.lt_of_lt_of_le (f17_8.lt) z18)
  have ne_b11_t18 : b11 ≠ t18 := Nat.ne_of_lt (Nat.lt_of_lt_of_le (f17_10.lt) z18)
  have ne_b12_t18 : b12 ≠ t18 := Nat.ne_of_lt (Nat.lt_of_lt_of_le (f17_20.lt) z18)
  have ne_d13_t18 : d13 ≠ t18 := Nat.ne_of_lt (Nat.lt_of_lt_of_le (f17_22.lt) z18)
  have ne_b15_t18 : b15 ≠ t18 := Nat.ne_of_lt (Nat.lt_of_lt_of_le (f17_23.lt) z18)
  have ne_d15_t18 : d15 ≠ t18 := Nat.ne_of_lt (Nat.lt_of_lt_of_le (f17_26.lt) z18)
  have ne_d16_t18 : d16 ≠ t18 := Nat.ne_of_lt (Nat.lt_of_lt_of_le (f17_28.lt) z18)
  have sf_t18 : Safe Z own_EL T15.vm T18.heap t18 := Safe.keep K18 sf0 f17_1.1 (Safe.new z18)
  have g_e18d : n0 ≤ e18d := Nat.le_trans f17_0 zd18
  have sz_e18d : h0.size ≤ e18d := Nat.le_trans f17_3.1 zd18
  have ne_a1__e18d : a1_ ≠ e18d := Nat.ne_of_lt (Nat.lt_of_lt_of_le (f17_5.lt) zd18)
  have ne_d1_e18d : d1 ≠ e18d := Nat.ne_of_lt (Nat.lt_of_lt_of_le (f17_8.lt) zd18)
  have ne_b11_e18d : b11 ≠ e18d := Nat.ne_of_lt (Nat.lt_of_lt_of_le (f17_10.lt) zd18)
  have ne_b12_e18d : b12 ≠ e18d := Nat.ne_of_lt (Nat.lt_of_lt_of_le (f17_20.lt) zd18)
  have ne_d13_e18d : d13 ≠ e18d := Nat.ne_of_lt (Nat.lt_of_lt_of_le (f17_22.lt) zd18)
  have ne_b15_e18d : b15 ≠ e18d := Nat.ne_of_lt (Nat.lt_of_lt_of_le (f17_23.lt) zd18)
  have ne_d15_e18d : d15 ≠ e18d := Nat.ne_of_lt (Nat.lt_of_lt_of_le (f17_26.lt) zd18)
  have ne_d16_e18d : d16 ≠ e18d := Nat.ne_of_lt (Nat.lt_of_lt_of_le (f17_28.lt) zd18)
  have sf_e18d : Safe Z own_EL T15.vm T18.heap e18d := Safe.keep K18 sf0 f17_1.1 (Safe.new zd18)
  show oG p e below P m T18 28 #[(vI p0), (vR a1_), (vI p2)] [(.ref t18), (.int p0), (.ref b11), (.ref b11)]
  obtain ⟨_, _, ⟨T19, L19, k19, n19⟩, -, X19', hS19', hg19, ⟨Lc19, hQ19, l19, y19, z19, C19⟩, st19⟩ := X18.specialBackS hx (y := oY27) rfl hown15 (mvT hZ15 (tw_250 hw)) (mvT hZ15 (tw_35 hw)) (mvT hZ15 (tw_36 hw)) (by decide) (own_backCK (W := 1) (rm_cexA l Z a0 hw hEL [] b11 p0 t18 e18d k18d ([(.int w0), (.int w1), (.int 32), (.int 105), (.int 115), (.int 32), (.int 103), (.int 105), (.int 118), (.int 101), (.int 110), (.int 32), (.int 116), (.int 119), (.int 105), (.int 99), (.int 101), (.int 44), (.int 32), (.int 102), (.int 105), (.int 114), (.int 115), (.int 116), (.int 32), (.int 111), (.int 110), (.int 32), (.int 108), (.int 105), (.int 110), (.int 101), (.int 32), (.int ((own_d1 (-(-p2))).toInt8.toInt32))] : List Value) D1 kD1 D2 kD2 u sn cs T18.heap n0 f18_0 f18_4 Scs hcs Su hu Ssn hsn hl S1 S2 VD1 VD2 f18_10 g_b11 f18_18 f18_11 f18_12 f18_13 f18_14 f18_15 f18_16 f18_17 Es18 Gc18 Gv18 V18 rfl) hZ15 (tw_36 hw) (tw_33 hw) (by decide) (by decide) hEL f18_1.1 (own_ssS f18_9 (f18_10.lt) own_ss0) (Vm.MethodsKnown.alikeC (hZs.alike.symm.trans hZ15.alike) hK.1) (Vm.FramesKnown.alikeC (hZs.alike.symm.trans hZ15.alike) hK.2)) (g := (mkF m 28 #[(vI p0), (vR a1_), (vI p2)] [(.ref t18), (.int p0), (.ref b11), (.ref b11)])) rfl (by rw [hml]; rfl) (Steps.refl _) (a := b11) (argsL := [(.int p0), (.ref t18)]) (rest := [(.ref b11)]) (lenOf pd__ILjava_lang_String__V rfl) rfl (by show 2 * 0 + _ ≤ _; exact Nat.le_of_eq rfl) (hb hby dp36_2_28) (fun _ _ => ⟨rfl, rfl, (by decide : 8 + 12 ≤ _), (by decide : 415 + 3300 ≤ _)⟩)
  dsimp only [Pt.U, Pt.locs, Pt.cells, Pt.slots] at X19' hS19' hg19 l19 y19 z19 st19 hQ19 C19
  subst l19 y19 z19
  obtain ⟨X19, hS19, hZ19, hown19⟩ := rebS hS15 (f18_2) X19' hS19' hg19 hZ15 hown15
  have hk19 : T19.heap.size ≤ T19.heap.size := Nat.le_refl _
  obtain ⟨rfl, N19q, K19, Gl19, m19s, m19d, m19k, Gm19, zs19, zd19, Es19, Gc19, Gv19, V19⟩ := hQ19
  have N19 := Fr.app N18 N19q
  refine Go.by (fun t k => st19.trans k) ?_
  have f19_0 := (Nat.le_trans f18_0 K19.1)
  have f19_1 := (CHr.trans f18_1 C19)
  have f19_2 := hk19
  have f19_3 := (Keep.trans f18_3 K19 (allS (Or.inr sz_b11) all0))
  have f19_4 := (Old.keep f18_4 K19 (allS g_b11 all0))
  have f19_5 := (Exa.keep f18_5 K19)
  have f19_6 := (Fld.keep f18_6 K19 (ninS ne_a1__b11 nin0))
  have f19_7 := (Fld.keep f18_7 K19 (ninS ne_a1__b11 nin0))
  have f19_8 := (Arv.keep f18_8 K19 (ninS ne_d1_b11 nin0))
  have f19_9 := (CHr.safe C19 (f18_10.lt) f18_9)
  have f19_10 := (Exa.keep f18_10 K19)
  have f19_11 := (CHr.safe C19 (f18_20.lt) f18_19)
  have f19_12 := (Exa.keep f18_20 K19)
  have f19_13 := (CHr.safe C19 (f18_22.lt) f18_21)
  have f19_14 := (Arv.keep f18_22 K19 (ninS (Ne.symm ne_b11_d13) nin0))
  have f19_15 := (Exa.keep f18_23 K19)
  have f19_16 := (Fld.keep f18_24 K19 (ninS (Ne.symm (Sf15 _ (Safe.exa hZ15.alike f15_10 (by decide) (by decide))).1) nin0))
  have f19_17 := (Fld.keep f18_25 K19 (ninS (Ne.symm (Sf15 _ (Safe.exa hZ15.alike f15_10 (by decide) (by decide))).1) nin0))
  have f19_18 := (Arv.keep f18_26 K19 (ninS (Ne.symm (Sf15 _ (Safe.exa hZ15.alike f15_10 (by decide) (by decide))).2) nin0))
  have f19_19 := (CHr.safe C19 (f18_28.lt) f18_27)
  have f19_20 := (Exa.keep f18_28 K19)
  have f19_21 := (Fld.keep f18_29 K19 (ninS (Ne.symm ne_b11_b12) nin0))
  have f19_22 := (Fld.keep f18_30 K19 (ninS (Ne.symm ne_b11_b12) nin0))
  have f19_23 := (Fld.keep f18_31 K19 (ninS (Ne.symm ne_b11_b12) nin0))
  have f19_24 := (Arv.keep f18_32 K19 (ninS (Ne.symm ne_b11_d16) nin0))
  have f19_25 := (CHr.safe C19 (Es18.lt) sf_t18)
  have f19_26 := (CHr.safe C19 (V18.lt) sf_e18d)
  have f19_27 := (Exa.keep Es18 K19)
  have f19_28 := (Fld.keep Gc18 K19 (ninS (Ne.symm ne_b11_t18) nin0))
  have f19_29 := (Fld.keep Gv18 K19 (ninS (Ne.symm ne_b11_t18) nin0))
  have f19_30 := (Arv.keep V18 K19 (ninS (Ne.symm ne_b11_e18d) nin0))
  show oG p e below P m T19 31 #[(vI p0), (vR a1_), (vI p2)] [(.ref b11)]
  refine own_finW hP hlk hEL hh X19 (v := some (.ref b11)) (fun h => by rw [Bd.returns] at h; cases h) (by decide) (by decide) rfl hS19 f19_2 hZ19 f19_1 ?_ (fun fs hr => retOut X19 hx Bd.returns rfl (Or.inr (Or.inr (Or.inr (Or.inr ⟨rfl, rfl, rfl⟩)))) (hb hby dp36_2_31) hr)
  exact ⟨b11, rfl, N19, f19_3, f19_10, Gl19, m19s, m19d, m19k, Gm19, Nat.le_trans f18_3.1 zs19, Nat.le_trans f18_3.1 zd19, Es19, Gc19, Gv19, V19⟩
def Q_line (Z : State) (a0_ : Addr) (x : Int32) (h0 : Heap) (n0 : Nat) (v : Option Value) (h : Heap) (L : List Loc) : Prop := v = some (.int x) ∧ Fr n0 L ∧ h = h0
theorem ef_line (m : MethodId) (a0_ : Addr) (x : Int32) : entryFrame m #[(.ref a0_)] 1 = mkF m 0 #[(vR a0_)] [] := by first | (simp [entryFrame, mkF, argsToLocals, Value.category]; done) | rfl
set_option maxRecDepth 65536 in
set_option maxHeartbeats 40000000 in
theorem rm_line (l : Launch) (Z : State) (a0 : Array Value) (hw : oW a0 Z) (ws : List Jvm.Cond) (a0_ : Addr) (x : Int32) (h0 : Heap) (n0 : Nat) (Z0 : n0 ≤ h0.size) (F0 : Fld Z h0 a0_ "com/example/carovita/carovita/index/CsvFormatException" "line" "I" (.int x)) :
    oM l oY28 prog_36_method_3_code 1 (some .int) ws (own_R 0 0 0 0) #[(.ref a0_)] Z h0 (Q_line Z a0_ x h0 n0) := by
  refine own_open (n0 := n0) (cn := "com/example/carovita/carovita/index/CsvFormatException") rfl (plainFor_of_name pn_com_example_carovita_carovita_index_CsvFormatException) (fun m => ef_line m a0_ x) ?_
  intro p e s m below meth c s₁ P hx hby hml hown hnm X0 e0 N0 hlk hret hZ hP
  refine w_aloadN X0 hx hby dp36_3_0 rfl rfl ?_
  obtain ⟨T11, X11, e11, st11⟩ := getF X0 hx hZ hown (host := "") (Or.inl (tw_243 hw)) Via.refl e0 F0 (g := (mkF m 1 #[(vR a0_)] [(.ref a0_)])) rfl rfl (hb hby dp36_3_1)
  refine Go.by st11 ?_
  show oG p e below P m T11 4 #[(vR a0_)] [(.int x)]
  refine own_fin hP hlk X11 (v := some (.int x)) (fun h => by rw [hret] at h; cases h) (by decide) (by decide) ?_ (fun fs hr => retOut X11 hx hret rfl (Or.inl ⟨rfl, Or.inl rfl, _, rfl⟩) (hb hby dp36_3_4) hr)
  rw [e11]
  exact ⟨rfl, N0, rfl⟩
def Q_getMsg (Z : State) (a0_ : Addr) (r : Addr) (h0 : Heap) (n0 : Nat) (v : Option Value) (h : Heap) (L : List Loc) : Prop := v = some (.ref r) ∧ Fr n0 L ∧ h = h0
theorem ef_getMsg (m : MethodId) (a0_ : Addr) (r : Addr) : entryFrame m #[(.ref a0_)] 1 = mkF m 0 #[(vR a0_)] [] := by first | (simp [entryFrame, mkF, argsToLocals, Value.category]; done) | rfl
set_option maxRecDepth 65536 in
set_option maxHeartbeats 40000000 in
theorem rm_getMsg (l : Launch) (Z : State) (a0 : Array Value) (hw : oW a0 Z) (ws : List Jvm.Cond) (a0_ : Addr) (r : Addr) (h0 : Heap) (n0 : Nat) (Z0 : n0 ≤ h0.size) (F0 : Fld Z h0 a0_ "java/lang/Throwable" "detailMessage" "Ljava/lang/String;" (.ref r)) :
    oM l oY29 jdk_78_method_6_code 1 (some (.object "java/lang/String")) ws (own_R 0 0 0 0) #[(.ref a0_)] Z h0 (Q_getMsg Z a0_ r h0 n0) := by
  refine own_open (n0 := n0) (cn := "java/lang/Throwable") rfl (plainFor_of_name pn_java_lang_Throwable) (fun m => ef_getMsg m a0_ r) ?_
  intro p e s m below meth c s₁ P hx hby hml hown hnm X0 e0 N0 hlk hret hZ hP
  refine w_aloadN X0 hx hby dj78_6_0 rfl rfl ?_
  obtain ⟨T11, X11, e11, st11⟩ := getF X0 hx hZ hown (host := "") (Or.inl (tw_242 hw)) Via.refl e0 F0 (g := (mkF m 1 #[(vR a0_)] [(.ref a0_)])) rfl rfl (hb hby dj78_6_1)
  refine Go.by st11 ?_
  show oG p e below P m T11 4 #[(vR a0_)] [(.ref r)]
  refine own_fin hP hlk X11 (v := some (.ref r)) (fun h => by rw [hret] at h; cases h) (by decide) (by decide) ?_ (fun fs hr => retOut X11 hx hret rfl (Or.inr (Or.inr (Or.inr (Or.inr ⟨rfl, rfl, rfl⟩)))) (hb hby dj78_6_4) hr)
  rw [e11]
  exact ⟨rfl, N0, rfl⟩
def Q_eqL1 (Z : State) (a0_ : Addr) (k0 : ClassId) (a1_ : Addr) (k1 : ClassId) (z : Int32) (vs : List Value) (h0 : Heap) (n0 : Nat) (v : Option Value) (h : Heap) (L : List Loc) : Prop := v = some (.int 1) ∧ Fr n0 L ∧ h = h0
theorem ef_eqL1 (m : MethodId) (a0_ : Addr) (k0 : ClassId) (a1_ : Addr) (k1 : ClassId) (z : Int32) (vs : List Value) : entryFrame m #[(.ref a0_), (.ref a1_)] 3 = mkF m 0 #[(vR a0_), (vR a1_), .unset] [] := by first | (simp [entryFrame, mkF, argsToLocals, Value.category]; done) | rfl
set_option maxRecDepth 65536 in
set_option maxHeartbeats 40000000 in
theorem rm_eqL1 (l : Launch) (Z : State) (a0 : Array Value) (hw : oW a0 Z) (ws : List Jvm.Cond) (a0_ : Addr) (k0 : ClassId) (a1_ : Addr) (k1 : ClassId) (z : Int32) (vs : List Value) (h0 : Heap) (n0 : Nat) (Z0 : n0 ≤ h0.size) (V0 : Arv Z h0 a0_ k0 .byte z vs (.int 0)) (V1 : Arv Z h0 a1_ k1 .byte z vs (.int 0)) :
    oM l oY42 jdk_43_method_13_code 3 (some .boolean) ws (own_R 0 0 0 0) #[(.ref a0_), (.ref a1_)] Z h0 (Q_eqL1 Z a0_ k0 a1_ k1 z vs h0 n0) := by
  refine own_open (n0 := n0) (cn := "java/lang/StringLatin1") rfl (plainFor_of_name pn_java_lang_StringLatin1) (fun m => ef_eqL1 m a0_ k0 a1_ k1 z vs) ?_
  intro p e s m below meth c s₁ P hx hby hml hown hnm X0 e0 N0 hlk hret hZ hP
  refine w_aloadN X0 hx hby dj43_13_0 rfl rfl ?_
  have av11 := V0
  obtain ⟨cl11, Ar11, -, Sz11, Nn11, -, -⟩ := av11
  refine Go.by (X0.arraylength hx (by rw [e0]; exact Ar11.1) (State.isArrayOf_alike hZ.alike Ar11.2.1) (g := (mkF m 1 #[(vR a0_), (vR a1_), .unset] [(.ref a0_)])) rfl rfl (hb hby dj43_13_1)) ?_
  rw [len_of Sz11 Nn11]
  show oG p e below P m s₁ 2 #[(vR a0_), (vR a1_), .unset] [(.int z)]
  refine w_aloadN X0 hx hby dj43_13_2 rfl rfl ?_
  have av12 := V1
  obtain ⟨cl12, Ar12, -, Sz12, Nn12, -, -⟩ := av12
  refine Go.by (X0.arraylength hx (by rw [e0]; exact Ar12.1) (State.isArrayOf_alike hZ.alike Ar12.2.1) (g := (mkF m 3 #[(vR a0_), (vR a1_), .unset] [(.ref a1_), (.int z)])) rfl rfl (hb hby dj43_13_3)) ?_
  rw [len_of Sz12 Nn12]
  show oG p e below P m s₁ 4 #[(vR a0_), (vR a1_), .unset] [(.int z), (.int z)]
  refine w_icmpNo X0 hx hby dj43_13_4 (XT.ii_ne_f rfl) ?_
  refine w_iconst X0 hx hby dj43_13_7 (v := 0) rfl ?_
  refine w_istoreN X0 hx hby dj43_13_8 (l' := #[(vR a0_), (vR a1_), (vI 0)]) rfl ?_
  have loop : ∀ (k : Nat) (j : Int32), ¬ j < 0 → j.toInt + k = z.toInt → Go p e below P (s₁.setTop (mkF m 9 #[(vR a0_), (vR a1_), (vI j)] [])) := by
    intro k
    induction k with
    | zero =>
      intro j hj0 hj
      have hlt : ¬ j < z := by rw [Int32.lt_iff_toInt_lt]; omega
      show oG p e below P m s₁ 9 #[(vR a0_), (vR a1_), (vI j)] []
      refine w_iloadN X0 hx hby dj43_13_9 rfl ?_
      refine w_aloadN X0 hx hby dj43_13_10 rfl rfl ?_
      have av13 := V0
      obtain ⟨cl13, Ar13, -, Sz13, Nn13, -, -⟩ := av13
      refine Go.by (X0.arraylength hx (by rw [e0]; exact Ar13.1) (State.isArrayOf_alike hZ.alike Ar13.2.1) (g := (mkF m 11 #[(vR a0_), (vR a1_), (vI j)] [(.ref a0_), (.int j)])) rfl rfl (hb hby dj43_13_11)) ?_
      rw [len_of Sz13 Nn13]
      show oG p e below P m s₁ 12 #[(vR a0_), (vR a1_), (vI j)] [(.int z), (.int j)]
      refine w_icmpYes X0 hx hby dj43_13_12 (pc' := 32) (XT.ii_ge_t hlt) (by decide) ?_
      refine w_iconst X0 hx hby dj43_13_32 (v := 1) rfl ?_
      refine own_fin hP hlk X0 (v := some (.int 1)) (fun h => by rw [hret] at h; cases h) (by decide) (by decide) ?_ (fun fs hr => retOut X0 hx hret rfl (Or.inl ⟨rfl, Or.inr (Or.inl rfl), _, rfl⟩) (hb hby dj43_13_33) hr)
      rw [e0]
      exact ⟨rfl, N0, rfl⟩
    | succ k ih =>
      intro j hj0 hj
      have hlt : j < z := by rw [Int32.lt_iff_toInt_lt]; omega
      show oG p e below P m s₁ 9 #[(vR a0_), (vR a1_), (vI j)] []
      refine w_iloadN X0 hx hby dj43_13_9 rfl ?_
      refine w_aloadN X0 hx hby dj43_13_10 rfl rfl ?_
      have av14 := V0
      obtain ⟨cl14, Ar14, -, Sz14, Nn14, -, -⟩ := av14
      refine Go.by (X0.arraylength hx (by rw [e0]; exact Ar14.1) (State.isArrayOf_alike hZ.alike Ar14.2.1) (g := (mkF m 11 #[(vR a0_), (vR a1_), (vI j)] [(.ref a0_), (.int j)])) rfl rfl (hb hby dj43_13_11)) ?_
      rw [len_of Sz14 Nn14]
      show oG p e below P m s₁ 12 #[(vR a0_), (vR a1_), (vI j)] [(.int z), (.int j)]
      refine w_icmpNo X0 hx hby dj43_13_12 (XT.ii_ge_f hlt) ?_
      refine w_aloadN X0 hx hby dj43_13_15 rfl rfl ?_
      refine w_iloadN X0 hx hby dj43_13_16 rfl ?_
      have av15 := V0
      obtain ⟨cl15, Ar15, -, Sz15, Nn15, Ha15, Gf15⟩ := av15
      have hin15 : ¬ (j < 0 ∨ cl15.slots.size ≤ (j).toNatClampNeg) := inb_of Sz15 ⟨hj0, hlt⟩
      have hat15 : cl15.slots[(j).toNatClampNeg]? = some (.int (own_at vs j)) := Ha15.at hin15 (own_atv V0 hj0 hlt)
      refine Go.by (X0.baloadBytes hx (j := j) (v := (.int (own_at vs j))) (by rw [e0]; exact Ar15.1) (State.isArrayOf_alike hZ.alike Ar15.2.1) Ar15.2.2 hin15 hat15 (g := (mkF m 17 #[(vR a0_), (vR a1_), (vI j)] [(.int j), (.ref a0_)])) rfl rfl (hb hby dj43_13_17)) ?_
      show oG p e below P m s₁ 18 #[(vR a0_), (vR a1_), (vI j)] [(.int (own_at vs j))]
      refine w_aloadN X0 hx hby dj43_13_18 rfl rfl ?_
      refine w_iloadN X0 hx hby dj43_13_19 rfl ?_
      have av16 := V1
      obtain ⟨cl16, Ar16, -, Sz16, Nn16, Ha16, Gf16⟩ := av16
      have hin16 : ¬ (j < 0 ∨ cl16.slots.size ≤ (j).toNatClampNeg) := inb_of Sz16 ⟨hj0, hlt⟩
      have hat16 : cl16.slots[(j).toNatClampNeg]? = some (.int (own_at vs j)) := Ha16.at hin16 (own_atv V0 hj0 hlt)
      refine Go.by (X0.baloadBytes hx (j := j) (v := (.int (own_at vs j))) (by rw [e0]; exact Ar16.1) (State.isArrayOf_alike hZ.alike Ar16.2.1) Ar16.2.2 hin16 hat16 (g := (mkF m 20 #[(vR a0_), (vR a1_), (vI j)] [(.int j), (.ref a1_), (.int (own_at vs j))])) rfl rfl (hb hby dj43_13_20)) ?_
      show oG p e below P m s₁ 21 #[(vR a0_), (vR a1_), (vI j)] [(.int (own_at vs j)), (.int (own_at vs j))]
      refine w_icmpYes X0 hx hby dj43_13_21 (pc' := 26) (XT.ii_eq_t rfl) (by decide) ?_
      refine w_iinc X0 hx hby dj43_13_26 rfl (l' := #[(vR a0_), (vR a1_), (vI (j + (1 : Int32)))]) rfl ?_
      refine w_goto X0 hx hby dj43_13_29 (pc' := 9) (by decide) ?_
      exact ih (j + (1 : Int32)) (own_jn hj0 hlt).1 (by rw [(own_jn hj0 hlt).2]; omega)
  have nn : ¬ z < 0 := by obtain ⟨_, _, _, _, q, _⟩ := V0; exact q
  rw [Int32.lt_iff_toInt_lt] at nn
  have z0 : (0 : Int32).toInt = 0 := rfl
  exact loop z.toInt.toNat 0 (by decide) (by omega)
def Q_strEq (Z : State) (a0_ : Addr) (d : Addr) (kd : ClassId) (z : Int32) (vs : List Value) (a1_ : Addr) (d1 : Addr) (k1 : ClassId) (cs : Int32) (h0 : Heap) (n0 : Nat) (v : Option Value) (h : Heap) (L : List Loc) : Prop := v = some (.int 1) ∧ Fr n0 L ∧ h = h0
theorem ef_strEq (m : MethodId) (a0_ : Addr) (d : Addr) (kd : ClassId) (z : Int32) (vs : List Value) (a1_ : Addr) (d1 : Addr) (k1 : ClassId) (cs : Int32) : entryFrame m #[(.ref a0_), (.ref a1_)] 3 = mkF m 0 #[(vR a0_), (vR a1_), .unset] [] := by first | (simp [entryFrame, mkF, argsToLocals, Value.category]; done) | rfl
set_option maxRecDepth 65536 in
set_option maxHeartbeats 40000000 in
theorem rm_strEq (l : Launch) (Z : State) (a0 : Array Value) (hw : oW a0 Z) (ws : List Jvm.Cond) (a0_ : Addr) (d : Addr) (kd : ClassId) (z : Int32) (vs : List Value) (a1_ : Addr) (d1 : Addr) (k1 : ClassId) (cs : Int32) (h0 : Heap) (n0 : Nat) (Z0 : n0 ≤ h0.size) (O0 : Old Z n0 h0) (Scs : Sta Z Z.heap "java/lang/String" "COMPACT_STRINGS" "Z" (.int cs)) (hcs : ¬ cs = (0 : Int32)) (E0 : Exa Z h0 a0_ "java/lang/String") (FC : Fld Z h0 a0_ "java/lang/String" "coder" "B" (.int 0)) (FV : Fld Z h0 a0_ "java/lang/String" "value" "[B" (.ref d)) (V0 : Arv Z h0 d kd .byte z vs (.int 0)) (E1 : Exa Z h0 a1_ "java/lang/String") (FC1 : Fld Z h0 a1_ "java/lang/String" "coder" "B" (.int 0)) (FV1 : Fld Z h0 a1_ "java/lang/String" "value" "[B" (.ref d1)) (V1 : Arv Z h0 d1 k1 .byte z vs (.int 0)) :
    oM l oY30 jdk_42_method_66_code 3 (some .boolean) ws (own_R 1 0 0 16) #[(.ref a0_), (.ref a1_)] Z h0 (Q_strEq Z a0_ d kd z vs a1_ d1 k1 cs h0 n0) := by
  refine own_open (n0 := n0) (cn := "java/lang/String") rfl (plainFor_of_name pn_java_lang_String) (fun m => ef_strEq m a0_ d kd z vs a1_ d1 k1 cs) ?_
  intro p e s m below meth c s₁ P hx hby hml hown hnm X0 e0 N0 hlk hret hZ hP
  refine w_aloadN X0 hx hby dj42_66_0 rfl rfl ?_
  refine w_aloadN X0 hx hby dj42_66_1 rfl rfl ?_
  by_cases hc2_11 : a0_ = a1_
  · refine Go.by (fun _ => Jvm.RoadKit.acmp (g := (mkF m 2 #[(vR a0_), (vR a1_), .unset] [(.ref a1_), (.ref a0_)])) X0 hx rfl rfl rfl (pc0 := 2) (pc' := 5) (same := true) rfl (hb hby dj42_66_2) rfl (decide_eq_true (congrArg Value.ref hc2_11)) (by decide) (by decide)) ?_
    show oG p e below P m s₁ 5 #[(vR a0_), (vR a1_), .unset] []
    refine w_iconst X0 hx hby dj42_66_5 (v := 1) rfl ?_
    refine own_fin hP hlk X0 (v := some (.int 1)) (fun h => by rw [hret] at h; cases h) (by decide) (by decide) ?_ (fun fs hr => retOut X0 hx hret rfl (Or.inl ⟨rfl, Or.inr (Or.inl rfl), _, rfl⟩) (hb hby dj42_66_6) hr)
    rw [e0]
    exact ⟨rfl, N0, rfl⟩
  · refine Go.by (fun _ => Jvm.RoadKit.acmp (g := (mkF m 2 #[(vR a0_), (vR a1_), .unset] [(.ref a1_), (.ref a0_)])) X0 hx rfl rfl rfl (pc0 := 2) (pc' := 7) (same := false) rfl (hb hby dj42_66_2) rfl (decide_eq_false fun q => hc2_11 (Value.ref.inj q)) (by decide) (by decide)) ?_
    show oG p e below P m s₁ 7 #[(vR a0_), (vR a1_), .unset] []
    refine w_aloadN X0 hx hby dj42_66_7 rfl rfl ?_
    obtain ⟨T12, X12, e12, st12⟩ := instY X0 hx hZ hown (tw_267 hw) e0 (Ins.self E1) (g := (mkF m 8 #[(vR a0_), (vR a1_), .unset] [(.ref a1_)])) rfl rfl (hb hby dj42_66_8)
    refine Go.by st12 ?_
    show oG p e below P m T12 11 #[(vR a0_), (vR a1_), .unset] [(.int 1)]
    refine w_ifNo X12 hx hby dj42_66_11 (XT.i0_eq_f (by decide : ¬ (1 : Int32) = (0 : Int32))) ?_
    refine w_aloadN X12 hx hby dj42_66_14 rfl rfl ?_
    obtain ⟨T13, X13, e13, st13⟩ := castY X12 hx hZ hown (tw_267 hw) e12 (Ins.self E1) (g := (mkF m 15 #[(vR a0_), (vR a1_), .unset] [(.ref a1_)])) rfl rfl (hb hby dj42_66_15)
    refine Go.by st13 ?_
    show oG p e below P m T13 18 #[(vR a0_), (vR a1_), .unset] [(.ref a1_)]
    refine w_astoreN X13 hx hby dj42_66_18 rfl (l' := #[(vR a0_), (vR a1_), (vR a1_)]) rfl ?_
    obtain ⟨T14, X14, e14, st14⟩ := getS2 X13 hx hZ hown (host := "") (Or.inl (tw_15 hw)) Via.refl e13 (Scs.ext O0.2) (g := (mkF m 19 #[(vR a0_), (vR a1_), (vR a1_)] [])) rfl (hb hby dj42_66_19)
    refine Go.by st14 ?_
    show oG p e below P m T14 22 #[(vR a0_), (vR a1_), (vR a1_)] [(.int cs)]
    refine w_ifNo X14 hx hby dj42_66_22 (XT.i0_eq_f hcs) ?_
    refine w_aloadN X14 hx hby dj42_66_25 rfl rfl ?_
    obtain ⟨T15, X15, e15, st15⟩ := getF X14 hx hZ hown (host := "") (Or.inl (tw_27 hw)) Via.refl e14 FC (g := (mkF m 26 #[(vR a0_), (vR a1_), (vR a1_)] [(.ref a0_)])) rfl rfl (hb hby dj42_66_26)
    refine Go.by st15 ?_
    show oG p e below P m T15 29 #[(vR a0_), (vR a1_), (vR a1_)] [(.int 0)]
    refine w_aloadN X15 hx hby dj42_66_29 rfl rfl ?_
    obtain ⟨T16, X16, e16, st16⟩ := getF X15 hx hZ hown (host := "") (Or.inl (tw_27 hw)) Via.refl e15 FC1 (g := (mkF m 30 #[(vR a0_), (vR a1_), (vR a1_)] [(.ref a1_), (.int 0)])) rfl rfl (hb hby dj42_66_30)
    refine Go.by st16 ?_
    show oG p e below P m T16 33 #[(vR a0_), (vR a1_), (vR a1_)] [(.int 0), (.int 0)]
    refine w_icmpNo X16 hx hby dj42_66_33 (XT.ii_ne_f (by decide : (0 : Int32) = (0 : Int32))) ?_
    refine w_aloadN X16 hx hby dj42_66_36 rfl rfl ?_
    obtain ⟨T17, X17, e17, st17⟩ := getF X16 hx hZ hown (host := "") (Or.inl (tw_29 hw)) Via.refl e16 FV (g := (mkF m 37 #[(vR a0_), (vR a1_), (vR a1_)] [(.ref a0_)])) rfl rfl (hb hby dj42_66_37)
    refine Go.by st17 ?_
    show oG p e below P m T17 40 #[(vR a0_), (vR a1_), (vR a1_)] [(.ref d)]
    refine w_aloadN X17 hx hby dj42_66_40 rfl rfl ?_
    obtain ⟨T18, X18, e18, st18⟩ := getF X17 hx hZ hown (host := "") (Or.inl (tw_29 hw)) Via.refl e17 FV1 (g := (mkF m 41 #[(vR a0_), (vR a1_), (vR a1_)] [(.ref a1_), (.ref d)])) rfl rfl (hb hby dj42_66_41)
    refine Go.by st18 ?_
    obtain ⟨_, _, ⟨T19, L19, k19, n19⟩, -, X19, ⟨Lc19, hQ19, l19, y19, z19⟩, st19⟩ := Jvm.LawKit.callS X18 hx (y := oY42) hown (mvT hZ (tw_268 hw)) (mvT hZ (tw_269 hw)) (mvT hZ (tw_270 hw)) (mvT hZ (tw_271 hw)) (by decide) (backOf (W := 0) (rm_eqL1 l Z a0 hw [] d kd d1 k1 z vs h0 n0 Z0 V0 V1) hZ (tw_271 hw) (tw_270 hw) (by decide) (by decide)) (g := (mkF m 44 #[(vR a0_), (vR a1_), (vR a1_)] [(.ref d1), (.ref d)])) rfl (by rw [hml]; rfl) (argsL := [(.ref d), (.ref d1)]) (rest := []) (lenOf pd___B_B_Z rfl) rfl (by show 2 * 0 + _ ≤ _; exact Nat.le_of_eq rfl) (hb hby dj42_66_44) (fun _ _ => ⟨rfl, e18, (by decide : 0 + 0 ≤ _), (by decide : 0 + 0 ≤ _)⟩)
    dsimp only [Pt.U, Pt.locs, Pt.cells, Pt.slots] at X19 l19 y19 z19 st19 hQ19
    subst l19 y19 z19
    obtain ⟨rfl, N19q, q19⟩ := hQ19
    have N19 := Fr.app N0 N19q
    refine Go.by (fun t k => st19 t k) ?_
    show oG p e below P m T19 47 #[(vR a0_), (vR a1_), (vR a1_)] [(.int 1)]
    refine w_ifNo X19 hx hby dj42_66_47 (XT.i0_eq_f (by decide : ¬ (1 : Int32) = (0 : Int32))) ?_
    refine w_iconst X19 hx hby dj42_66_50 (v := 1) rfl ?_
    refine w_goto X19 hx hby dj42_66_51 (pc' := 55) (by decide) ?_
    refine own_fin hP hlk X19 (v := some (.int 1)) (fun h => by rw [hret] at h; cases h) (by decide) (by decide) ?_ (fun fs hr => retOut X19 hx hret rfl (Or.inl ⟨rfl, Or.inr (Or.inl rfl), _, rfl⟩) (hb hby dj42_66_55) hr)
    rw [q19]
    exact ⟨rfl, N19, rfl⟩
def Q_cmp5_2 (Z : State) (a1 : Addr) (k1 : ClassId) (a2 : Addr) (k2 : ClassId) (x0 : Int32) (x1 : Int32) (h0 : Heap) (n0 : Nat) (v : Option Value) (h : Heap) (L : List Loc) : Prop := v = some (.int 2) ∧ Fr n0 L ∧ Keep h0 h [a2] ∧ Arv Z h a2 k2 .byte (2 : Int32) [(.int (x0.toInt8.toInt32)), (.int (x1.toInt8.toInt32))] (.int 0)
theorem ef_cmp5_2 (m : MethodId) (a1 : Addr) (k1 : ClassId) (a2 : Addr) (k2 : ClassId) (x0 : Int32) (x1 : Int32) : entryFrame m #[(.ref a1), (.int 0), (.ref a2), (.int 0), (.int 2)] 7 = mkF m 0 #[(vR a1), (vI 0), (vR a2), (vI 0), (vI 2), .unset, .unset] [] := by first | (simp [entryFrame, mkF, argsToLocals, Value.category]; done) | rfl
set_option maxRecDepth 65536 in
set_option maxHeartbeats 40000000 in
theorem rm_cmp5_2 (l : Launch) (Z : State) (a0 : Array Value) (hw : oW a0 Z) (ws : List Jvm.Cond) (a1 : Addr) (k1 : ClassId) (a2 : Addr) (k2 : ClassId) (x0 : Int32) (x1 : Int32) (h0 : Heap) (n0 : Nat) (Z0 : n0 ≤ h0.size) (V1 : Arv Z h0 a1 k1 .char (2 : Int32) [(.int x0), (.int x1)] (.int 0)) (V2 : Arv Z h0 a2 k2 .byte (2 : Int32) [(.int 0), (.int 0)] (.int 0)) (ne12 : a1 ≠ a2) (g_a2 : n0 ≤ a2) (hx0a : ¬ x0 < 0) (hx0b : ¬ (255 : Int32) < x0) (hx1a : ¬ x1 < 0) (hx1b : ¬ (255 : Int32) < x1) :
    oM l oY15 jdk_52_method_21_code 7 (some .int) ws (own_R 0 0 0 0) #[(.ref a1), (.int 0), (.ref a2), (.int 0), (.int 2)] Z h0 (Q_cmp5_2 Z a1 k1 a2 k2 x0 x1 h0 n0) := by
  refine own_open (n0 := n0) (cn := "java/lang/StringUTF16") rfl (plainFor_of_name pn_java_lang_StringUTF16) (fun m => ef_cmp5_2 m a1 k1 a2 k2 x0 x1) ?_
  intro p e s m below meth c s₁ P hx hby hml hown hnm X0 e0 N0 hlk hret hZ hP
  refine w_iconst X0 hx hby dj52_21_0 (v := 0) rfl ?_
  refine w_istore X0 hx hby dj52_21_1 (l' := #[(vR a1), (vI 0), (vR a2), (vI 0), (vI 2), (vI 0), .unset]) rfl ?_
  refine w_iload X0 hx hby dj52_21_3 rfl ?_
  refine w_iload X0 hx hby dj52_21_5 rfl ?_
  refine w_icmpNo X0 hx hby dj52_21_7 (XT.ii_ge_f (by decide : (0 : Int32) < (2 : Int32))) ?_
  refine w_aloadN X0 hx hby dj52_21_10 rfl rfl ?_
  refine w_iloadN X0 hx hby dj52_21_11 rfl ?_
  have av11 := V1
  obtain ⟨cl11, Ar11, -, Sz11, Nn11, Ha11, Gf11⟩ := av11
  have hin11 : ¬ ((0 : Int32) < 0 ∨ cl11.slots.size ≤ ((0 : Int32)).toNatClampNeg) := inb_of Sz11 ⟨by decide, by decide⟩
  have hat11 : cl11.slots[((0 : Int32)).toNatClampNeg]? = some (.int x0) := Ha11.at hin11 rfl
  refine Go.by (X0.caload hx (j := (0 : Int32)) (v := (.int x0)) (by rw [e0]; exact Ar11.1) (State.isArrayOf_alike hZ.alike Ar11.2.1) Ar11.2.2 hin11 hat11 (g := (mkF m 12 #[(vR a1), (vI 0), (vR a2), (vI 0), (vI 2), (vI 0), .unset] [(.int 0), (.ref a1)])) rfl rfl (hb hby dj52_21_12)) ?_
  show oG p e below P m s₁ 13 #[(vR a1), (vI 0), (vR a2), (vI 0), (vI 2), (vI 0), .unset] [(.int x0)]
  refine w_istore X0 hx hby dj52_21_13 (l' := #[(vR a1), (vI 0), (vR a2), (vI 0), (vI 2), (vI 0), (vI x0)]) rfl ?_
  refine w_iload X0 hx hby dj52_21_15 rfl ?_
  refine w_sipush X0 hx hby dj52_21_17 (v := 255) rfl ?_
  refine w_icmpYes X0 hx hby dj52_21_20 (pc' := 26) (XT.ii_le_t hx0b) (by decide) ?_
  refine w_aloadN X0 hx hby dj52_21_26 rfl rfl ?_
  refine w_iloadN X0 hx hby dj52_21_27 rfl ?_
  refine w_iload X0 hx hby dj52_21_28 rfl ?_
  refine Go.by (fun _ => XS.i2b X0.here hx rfl (hb hby dj52_21_30) rfl) ?_
  have av12 := V2
  obtain ⟨cl12, Ar12, q12, Sz12, Nn12, Ha12, Gf12⟩ := av12
  have hin12 : ¬ ((0 : Int32) < 0 ∨ cl12.slots.size ≤ ((0 : Int32)).toNatClampNeg) := inb_of Sz12 ⟨by decide, by decide⟩
  obtain ⟨T13, h13, X13, e13, W13, st13⟩ := stB X0 hx hZ e0 Ar12 (j := (0 : Int32)) hin12 (g := (mkF m 31 #[(vR a1), (vI 0), (vR a2), (vI 0), (vI 2), (vI 0), (vI x0)] [(.int (x0.toInt8.toInt32)), (.int 0), (.ref a2)])) rfl rfl (hb hby dj52_21_31)
  have W13' : Wr h0 h13 a2 ((0 : Int32)).toNatClampNeg (.int (x0.toInt8.toInt32)) := (by have q : Wr h0 h13 a2 ((0 : Int32)).toNatClampNeg (.int ((x0.toInt8.toInt32)).toInt8.toInt32) := W13; rw [own_bb] at q; exact q)
  have V13 : Arv Z h13 a2 k2 .byte (2 : Int32) [(.int (x0.toInt8.toInt32)), (.int 0)] (.int 0) := Arv.set Ar12 q12 Sz12 Nn12 Ha12 Gf12 (fits_nar_byte _) W13' 0 rfl (Nat.le_of_ble_eq_true rfl)
  have N13 := Fr.snoc X13 N0 g_a2
  have f13_0 := (Nat.le_trans Z0 (Keep.of_wr W13).1)
  have f13_1 := (Keep.wr (Keep.refl h0 [a2]) W13 (Or.inl (List.mem_of_getElem? (i := 0) rfl)))
  have f13_2 := (Arv.other V1 W13 ne12)
  refine Go.by st13 ?_
  show oG p e below P m T13 32 #[(vR a1), (vI 0), (vR a2), (vI 0), (vI 2), (vI 0), (vI x0)] []
  refine w_iinc X13 hx hby dj52_21_32 rfl (l' := #[(vR a1), (vI 1), (vR a2), (vI 0), (vI 2), (vI 0), (vI x0)]) rfl ?_
  refine w_iinc X13 hx hby dj52_21_35 rfl (l' := #[(vR a1), (vI 1), (vR a2), (vI 1), (vI 2), (vI 0), (vI x0)]) rfl ?_
  refine w_iinc X13 hx hby dj52_21_38 rfl (l' := #[(vR a1), (vI 1), (vR a2), (vI 1), (vI 2), (vI 1), (vI x0)]) rfl ?_
  refine w_goto X13 hx hby dj52_21_41 (pc' := 3) (by decide) ?_
  refine w_iload X13 hx hby dj52_21_3 rfl ?_
  refine w_iload X13 hx hby dj52_21_5 rfl ?_
  refine w_icmpNo X13 hx hby dj52_21_7 (XT.ii_ge_f (by decide : (1 : Int32) < (2 : Int32))) ?_
  refine w_aloadN X13 hx hby dj52_21_10 rfl rfl ?_
  refine w_iloadN X13 hx hby dj52_21_11 rfl ?_
  have av14 := f13_2
  obtain ⟨cl14, Ar14, -, Sz14, Nn14, Ha14, Gf14⟩ := av14
  have hin14 : ¬ ((1 : Int32) < 0 ∨ cl14.slots.size ≤ ((1 : Int32)).toNatClampNeg) := inb_of Sz14 ⟨by decide, by decide⟩
  have hat14 : cl14.slots[((1 : Int32)).toNatClampNeg]? = some (.int x1) := Ha14.at hin14 rfl
  refine Go.by (X13.caload hx (j := (1 : Int32)) (v := (.int x1)) (by rw [e13]; exact Ar14.1) (State.isArrayOf_alike hZ.alike Ar14.2.1) Ar14.2.2 hin14 hat14 (g := (mkF m 12 #[(vR a1), (vI 1), (vR a2), (vI 1), (vI 2), (vI 1), (vI x0)] [(.int 1), (.ref a1)])) rfl rfl (hb hby dj52_21_12)) ?_
  show oG p e below P m T13 13 #[(vR a1), (vI 1), (vR a2), (vI 1), (vI 2), (vI 1), (vI x0)] [(.int x1)]
  refine w_istore X13 hx hby dj52_21_13 (l' := #[(vR a1), (vI 1), (vR a2), (vI 1), (vI 2), (vI 1), (vI x1)]) rfl ?_
  refine w_iload X13 hx hby dj52_21_15 rfl ?_
  refine w_sipush X13 hx hby dj52_21_17 (v := 255) rfl ?_
  refine w_icmpYes X13 hx hby dj52_21_20 (pc' := 26) (XT.ii_le_t hx1b) (by decide) ?_
  refine w_aloadN X13 hx hby dj52_21_26 rfl rfl ?_
  refine w_iloadN X13 hx hby dj52_21_27 rfl ?_
  refine w_iload X13 hx hby dj52_21_28 rfl ?_
  refine Go.by (fun _ => XS.i2b X13.here hx rfl (hb hby dj52_21_30) rfl) ?_
  have av15 := V13
  obtain ⟨cl15, Ar15, q15, Sz15, Nn15, Ha15, Gf15⟩ := av15
  have hin15 : ¬ ((1 : Int32) < 0 ∨ cl15.slots.size ≤ ((1 : Int32)).toNatClampNeg) := inb_of Sz15 ⟨by decide, by decide⟩
  obtain ⟨T16, h16, X16, e16, W16, st16⟩ := stB X13 hx hZ e13 Ar15 (j := (1 : Int32)) hin15 (g := (mkF m 31 #[(vR a1), (vI 1), (vR a2), (vI 1), (vI 2), (vI 1), (vI x1)] [(.int (x1.toInt8.toInt32)), (.int 1), (.ref a2)])) rfl rfl (hb hby dj52_21_31)
  have W16' : Wr h13 h16 a2 ((1 : Int32)).toNatClampNeg (.int (x1.toInt8.toInt32)) := (by have q : Wr h13 h16 a2 ((1 : Int32)).toNatClampNeg (.int ((x1.toInt8.toInt32)).toInt8.toInt32) := W16; rw [own_bb] at q; exact q)
  have V16 : Arv Z h16 a2 k2 .byte (2 : Int32) [(.int (x0.toInt8.toInt32)), (.int (x1.toInt8.toInt32))] (.int 0) := Arv.set Ar15 q15 Sz15 Nn15 Ha15 Gf15 (fits_nar_byte _) W16' 1 rfl (Nat.le_of_ble_eq_true rfl)
  have N16 := Fr.snoc X16 N13 g_a2
  have f16_0 := (Nat.le_trans f13_0 (Keep.of_wr W16).1)
  have f16_1 := (Keep.wr f13_1 W16 (Or.inl (List.mem_of_getElem? (i := 0) rfl)))
  have f16_2 := (Arv.other f13_2 W16 ne12)
  refine Go.by st16 ?_
  show oG p e below P m T16 32 #[(vR a1), (vI 1), (vR a2), (vI 1), (vI 2), (vI 1), (vI x1)] []
  refine w_iinc X16 hx hby dj52_21_32 rfl (l' := #[(vR a1), (vI 2), (vR a2), (vI 1), (vI 2), (vI 1), (vI x1)]) rfl ?_
  refine w_iinc X16 hx hby dj52_21_35 rfl (l' := #[(vR a1), (vI 2), (vR a2), (vI 2), (vI 2), (vI 1), (vI x1)]) rfl ?_
  refine w_iinc X16 hx hby dj52_21_38 rfl (l' := #[(vR a1), (vI 2), (vR a2), (vI 2), (vI 2), (vI 2), (vI x1)]) rfl ?_
  refine w_goto X16 hx hby dj52_21_41 (pc' := 3) (by decide) ?_
  refine w_iload X16 hx hby dj52_21_3 rfl ?_
  refine w_iload X16 hx hby dj52_21_5 rfl ?_
  refine w_icmpYes X16 hx hby dj52_21_7 (pc' := 44) (XT.ii_ge_t (by decide : ¬ (2 : Int32) < (2 : Int32))) (by decide) ?_
  refine w_iload X16 hx hby dj52_21_44 rfl ?_
  refine own_fin hP hlk X16 (v := some (.int 2)) (fun h => by rw [hret] at h; cases h) (by decide) (by decide) ?_ (fun fs hr => retOut X16 hx hret rfl (Or.inl ⟨rfl, Or.inl rfl, _, rfl⟩) (hb hby dj52_21_46) hr)
  rw [e16]
  exact ⟨rfl, N16, f16_1, V16⟩
def Q_cmp3_2 (Z : State) (a1 : Addr) (k1 : ClassId) (x0 : Int32) (x1 : Int32) (h0 : Heap) (n0 : Nat) (v : Option Value) (h : Heap) (L : List Loc) : Prop := ∃ d k, v = some (.ref d) ∧ Fr n0 L ∧ Keep h0 h [] ∧ h0.size ≤ d ∧ Arv Z h d k .byte (2 : Int32) [(.int (x0.toInt8.toInt32)), (.int (x1.toInt8.toInt32))] (.int 0)
theorem ef_cmp3_2 (m : MethodId) (a1 : Addr) (k1 : ClassId) (x0 : Int32) (x1 : Int32) : entryFrame m #[(.ref a1), (.int 0), (.int 2)] 6 = mkF m 0 #[(vR a1), (vI 0), (vI 2), .unset, .unset, .unset] [] := by first | (simp [entryFrame, mkF, argsToLocals, Value.category]; done) | rfl
set_option maxRecDepth 65536 in
set_option maxHeartbeats 40000000 in
theorem rm_cmp3_2 (l : Launch) (Z : State) (a0 : Array Value) (hw : oW a0 Z) (ws : List Jvm.Cond) (a1 : Addr) (k1 : ClassId) (x0 : Int32) (x1 : Int32) (h0 : Heap) (n0 : Nat) (Z0 : n0 ≤ h0.size) (V1 : Arv Z h0 a1 k1 .char (2 : Int32) [(.int x0), (.int x1)] (.int 0)) (hx0a : ¬ x0 < 0) (hx0b : ¬ (255 : Int32) < x0) (hx1a : ¬ x1 < 0) (hx1b : ¬ (255 : Int32) < x1) :
    oM l oY16 jdk_52_method_16_code 6 (some (.array .byte)) ws (own_R 1 1 2 30) #[(.ref a1), (.int 0), (.int 2)] Z h0 (Q_cmp3_2 Z a1 k1 x0 x1 h0 n0) := by
  refine own_open (n0 := n0) (cn := "java/lang/StringUTF16") rfl (plainFor_of_name pn_java_lang_StringUTF16) (fun m => ef_cmp3_2 m a1 k1 x0 x1) ?_
  intro p e s m below meth c s₁ P hx hby hml hown hnm X0 e0 N0 hlk hret hZ hP
  refine w_iloadN X0 hx hby dj52_16_0 rfl ?_
  obtain ⟨T11, h11, k11, X11, e11, E11, A11, st11⟩ := newP X0 hx hZ (aty := .byte) (tw_20 hw) e0 (g := (mkF m 1 #[(vR a1), (vI 0), (vI 2), .unset, .unset, .unset] [(.int 2)])) rfl (hb hby dj52_16_1) rfl (by decide) (cap := 2) (by decide) (by decide) (by decide) (by decide)
  obtain ⟨b11, g11⟩ : ∃ z, z = h0.size := ⟨_, rfl⟩
  rw [← g11] at A11 st11
  have g_b11 : n0 ≤ b11 := Nat.le_trans Z0 (Nat.le_of_eq g11.symm)
  have sz_b11 : h0.size ≤ b11 := Nat.le_trans (Keep.refl h0 []).1 (Nat.le_of_eq g11.symm)
  have ne_a1_b11 : a1 ≠ b11 := Nat.ne_of_lt (Nat.lt_of_lt_of_le (V1.lt) (Nat.le_of_eq g11.symm))
  have f11_0 := (Nat.le_trans Z0 E11.1)
  have f11_1 := (Keep.ext (Keep.refl h0 []) E11)
  have f11_2 := (Arv.ext V1 E11)
  refine Go.by st11 ?_
  have V11 : Arv Z h11 b11 k11 .byte (2 : Int32) [(.int 0), (.int 0)] (.int 0) := (Arv.new A11 (by decide)).pad (pad_rep [] (.int 0) 2)
  show oG p e below P m T11 3 #[(vR a1), (vI 0), (vI 2), .unset, .unset, .unset] [(.ref b11)]
  refine w_astoreN X11 hx hby dj52_16_3 rfl (l' := #[(vR a1), (vI 0), (vI 2), (vR b11), .unset, .unset]) rfl ?_
  refine w_aloadN X11 hx hby dj52_16_4 rfl rfl ?_
  refine w_iloadN X11 hx hby dj52_16_5 rfl ?_
  refine w_aloadN X11 hx hby dj52_16_6 rfl rfl ?_
  refine w_iconst X11 hx hby dj52_16_7 (v := 0) rfl ?_
  refine w_iloadN X11 hx hby dj52_16_8 rfl ?_
  obtain ⟨_, _, ⟨T12, L12, k12, n12⟩, -, X12, ⟨Lc12, hQ12, l12, y12, z12⟩, st12⟩ := Jvm.LawKit.callS X11 hx (y := oY15) hown (mvT hZ (tw_21 hw)) (mvT hZ (tw_22 hw)) (mvT hZ (tw_18 hw)) (mvT hZ (tw_23 hw)) (by decide) (backOf (W := 0) (rm_cmp5_2 l Z a0 hw [] a1 k1 b11 k11 x0 x1 h11 n0 f11_0 f11_2 V11 ne_a1_b11 g_b11 hx0a hx0b hx1a hx1b) hZ (tw_23 hw) (tw_18 hw) (by decide) (by decide)) (g := (mkF m 9 #[(vR a1), (vI 0), (vI 2), (vR b11), .unset, .unset] [(.int 2), (.int 0), (.ref b11), (.int 0), (.ref a1)])) rfl (by rw [hml]; rfl) (argsL := [(.ref a1), (.int 0), (.ref b11), (.int 0), (.int 2)]) (rest := []) (lenOf pd___CI_BII_I rfl) rfl (by show 2 * 0 + _ ≤ _; exact Nat.le_of_eq rfl) (hb hby dj52_16_9) (fun _ _ => ⟨rfl, e11, (by decide : 1 + 0 ≤ _), (by decide : 2 + 0 ≤ _)⟩)
  dsimp only [Pt.U, Pt.locs, Pt.cells, Pt.slots] at X12 l12 y12 z12 st12 hQ12
  subst l12 y12 z12
  obtain ⟨rfl, N12q, K12, V12⟩ := hQ12
  have N12 := Fr.app N0 N12q
  refine Go.by (fun t k => st12 t k) ?_
  have f12_0 := (Nat.le_trans f11_0 K12.1)
  have f12_1 := (Keep.trans f11_1 K12 (allS (Or.inr sz_b11) all0))
  have f12_2 := (Arv.keep f11_2 K12 (ninS ne_a1_b11 nin0))
  show oG p e below P m T12 12 #[(vR a1), (vI 0), (vI 2), (vR b11), .unset, .unset] [(.int 2)]
  refine w_istore X12 hx hby dj52_16_12 (l' := #[(vR a1), (vI 0), (vI 2), (vR b11), (vI 2), .unset]) rfl ?_
  refine w_iload X12 hx hby dj52_16_14 rfl ?_
  refine w_iloadN X12 hx hby dj52_16_16 rfl ?_
  refine w_icmpYes X12 hx hby dj52_16_17 (pc' := 57) (XT.ii_eq_t (by decide : (2 : Int32) = (2 : Int32))) (by decide) ?_
  refine w_aloadN X12 hx hby dj52_16_57 rfl rfl ?_
  refine own_fin hP hlk X12 (v := some (.ref b11)) (fun h => by rw [hret] at h; cases h) (by decide) (by decide) ?_ (fun fs hr => retOut X12 hx hret rfl (Or.inr (Or.inr (Or.inr (Or.inr ⟨rfl, rfl, rfl⟩)))) (hb hby dj52_16_58) hr)
  exact ⟨b11, k11, rfl, N12, f12_1, sz_b11, V12⟩
def Q_cfal_2 (Z : State) (a1 : Addr) (k1 : ClassId) (x0 : Int32) (x1 : Int32) (h0 : Heap) (n0 : Nat) (v : Option Value) (h : Heap) (L : List Loc) : Prop := v = some (.int 0) ∧ Fr n0 L ∧ h = h0
theorem ef_cfal_2 (m : MethodId) (a1 : Addr) (k1 : ClassId) (x0 : Int32) (x1 : Int32) : entryFrame m #[(.ref a1), (.int 2)] 2 = mkF m 0 #[(vR a1), (vI 2)] [] := by first | (simp [entryFrame, mkF, argsToLocals, Value.category]; done) | rfl
set_option maxRecDepth 65536 in
set_option maxHeartbeats 40000000 in
theorem rm_cfal_2 (l : Launch) (Z : State) (a0 : Array Value) (hw : oW a0 Z) (ws : List Jvm.Cond) (a1 : Addr) (k1 : ClassId) (x0 : Int32) (x1 : Int32) (h0 : Heap) (n0 : Nat) (Z0 : n0 ≤ h0.size) (V1 : Arv Z h0 a1 k1 .byte (2 : Int32) [(.int (x0.toInt8.toInt32)), (.int (x1.toInt8.toInt32))] (.int 0)) :
    oM l oY17 jdk_52_method_15_code 2 (some .byte) ws (own_R 0 0 0 0) #[(.ref a1), (.int 2)] Z h0 (Q_cfal_2 Z a1 k1 x0 x1 h0 n0) := by
  refine own_open (n0 := n0) (cn := "java/lang/StringUTF16") rfl (plainFor_of_name pn_java_lang_StringUTF16) (fun m => ef_cfal_2 m a1 k1 x0 x1) ?_
  intro p e s m below meth c s₁ P hx hby hml hown hnm X0 e0 N0 hlk hret hZ hP
  refine w_iloadN X0 hx hby dj52_15_0 rfl ?_
  refine w_aloadN X0 hx hby dj52_15_1 rfl rfl ?_
  have av11 := V1
  obtain ⟨cl11, Ar11, -, Sz11, Nn11, -, -⟩ := av11
  refine Go.by (X0.arraylength hx (by rw [e0]; exact Ar11.1) (State.isArrayOf_alike hZ.alike Ar11.2.1) (g := (mkF m 2 #[(vR a1), (vI 2)] [(.ref a1), (.int 2)])) rfl rfl (hb hby dj52_15_2)) ?_
  rw [len_of Sz11 Nn11]
  show oG p e below P m s₁ 3 #[(vR a1), (vI 2)] [(.int 2), (.int 2)]
  refine w_isub X0 hx hby dj52_15_3 (v := 0) rfl ?_
  refine w_bipush X0 hx hby dj52_15_4 (v := 31) rfl ?_
  refine Go.by (fun _ => XS.iushr X0.here hx rfl (hb hby dj52_15_6) rfl) ?_
  show oG p e below P m s₁ 7 #[(vR a1), (vI 2)] [(.int (((0 : Int32).toUInt32 >>> ((31 : Int32) &&& 31).toUInt32).toInt32))]
  refine Go.by (fun _ => XS.i2b X0.here hx rfl (hb hby dj52_15_7) rfl) ?_
  show oG p e below P m s₁ 8 #[(vR a1), (vI 2)] [(.int ((((0 : Int32).toUInt32 >>> ((31 : Int32) &&& 31).toUInt32).toInt32).toInt8.toInt32))]
  show oG p e below P m s₁ 8 #[(vR a1), (vI 2)] [(.int 0)]
  refine own_fin hP hlk X0 (v := some (.int 0)) (fun h => by rw [hret] at h; cases h) (by decide) (by decide) ?_ (fun fs hr => retOut X0 hx hret rfl (Or.inl ⟨rfl, Or.inr (Or.inr (Or.inl rfl)), _, rfl⟩) (hb hby dj52_15_8) hr)
  rw [e0]
  exact ⟨rfl, N0, rfl⟩
def Q_si4_2 (Z : State) (a0_ : Addr) (a1 : Addr) (k1 : ClassId) (x0 : Int32) (x1 : Int32) (cs : Int32) (h0 : Heap) (n0 : Nat) (v : Option Value) (h : Heap) (L : List Loc) : Prop := v = none ∧ Fr n0 L ∧ Keep h0 h [a0_] ∧ Fld Z h a0_ "java/lang/String" "coder" "B" (.int 0) ∧ ∃ d k, h0.size ≤ d ∧ Fld Z h a0_ "java/lang/String" "value" "[B" (.ref d) ∧ Arv Z h d k .byte (2 : Int32) [(.int (x0.toInt8.toInt32)), (.int (x1.toInt8.toInt32))] (.int 0)
theorem ef_si4_2 (m : MethodId) (a0_ : Addr) (a1 : Addr) (k1 : ClassId) (x0 : Int32) (x1 : Int32) (cs : Int32) : entryFrame m #[(.ref a0_), (.ref a1), (.int 0), (.int 2), .null] 6 = mkF m 0 #[(vR a0_), (vR a1), (vI 0), (vI 2), .val .null, .unset] [] := by first | (simp [entryFrame, mkF, argsToLocals, Value.category]; done) | rfl
set_option maxRecDepth 65536 in
set_option maxHeartbeats 40000000 in
theorem rm_si4_2 (l : Launch) (Z : State) (a0 : Array Value) (hw : oW a0 Z) (ws : List Jvm.Cond) (a0_ : Addr) (a1 : Addr) (k1 : ClassId) (x0 : Int32) (x1 : Int32) (cs : Int32) (h0 : Heap) (n0 : Nat) (Z0 : n0 ≤ h0.size) (O0 : Old Z n0 h0) (Scs : Sta Z Z.heap "java/lang/String" "COMPACT_STRINGS" "Z" (.int cs)) (hcs : ¬ cs = (0 : Int32)) (E0 : Exa Z h0 a0_ "java/lang/String") (g_a0_ : n0 ≤ a0_) (F0c : Fld Z h0 a0_ "java/lang/String" "coder" "B" (.int 0)) (F0v : Fld Z h0 a0_ "java/lang/String" "value" "[B" .null) (V1 : Arv Z h0 a1 k1 .char (2 : Int32) [(.int x0), (.int x1)] (.int 0)) (hx0a : ¬ x0 < 0) (hx0b : ¬ (255 : Int32) < x0) (hx1a : ¬ x1 < 0) (hx1b : ¬ (255 : Int32) < x1) :
    oM l oY18 jdk_42_method_149_code 6 none ws (own_R 2 1 2 50) #[(.ref a0_), (.ref a1), (.int 0), (.int 2), .null] Z h0 (Q_si4_2 Z a0_ a1 k1 x0 x1 cs h0 n0) := by
  refine own_open (n0 := n0) (cn := "java/lang/String") rfl (plainFor_of_name pn_java_lang_String) (fun m => ef_si4_2 m a0_ a1 k1 x0 x1 cs) ?_
  intro p e s m below meth c s₁ P hx hby hml hown hnm X0 e0 N0 hlk hret hZ hP
  have ne01 : a0_ ≠ a1 := fun q => by obtain ⟨c, Ar, -⟩ := V1; exact ne_arr E0 (tw_3 hw) Ar q
  show oG p e below P m s₁ 0 #[(vR a0_), (vR a1), (vI 0), (vI 2), .val .null, .unset] []
  refine w_aloadN X0 hx hby dj42_149_0 rfl rfl ?_
  obtain ⟨T11, X11, e11, st11⟩ := initO X0 hx hZ hown (tw_12 hw) (tw_13 hw) (tw_14 hw) e0 (g := (mkF m 1 #[(vR a0_), (vR a1), (vI 0), (vI 2), .val .null, .unset] [(.ref a0_)])) rfl (by rw [hml]; rfl) rfl (hb hby dj42_149_1) (by decide) (W := 0) (by show 2 * 0 + _ ≤ _; exact Nat.le_of_eq rfl) (by decide)
  refine Go.by st11 ?_
  show oG p e below P m T11 4 #[(vR a0_), (vR a1), (vI 0), (vI 2), .val .null, .unset] []
  refine w_iloadN X11 hx hby dj42_149_4 rfl ?_
  refine w_ifYes X11 hx hby dj42_149_5 (pc' := 27) (XT.i0_ne_t (by decide : ¬ (2 : Int32) = (0 : Int32))) (by decide) ?_
  obtain ⟨T12, X12, e12, st12⟩ := getS2 X11 hx hZ hown (host := "") (Or.inl (tw_15 hw)) Via.refl e11 (Scs.ext O0.2) (g := (mkF m 27 #[(vR a0_), (vR a1), (vI 0), (vI 2), .val .null, .unset] [])) rfl (hb hby dj42_149_27)
  refine Go.by st12 ?_
  show oG p e below P m T12 30 #[(vR a0_), (vR a1), (vI 0), (vI 2), .val .null, .unset] [(.int cs)]
  refine w_ifNo X12 hx hby dj42_149_30 (XT.i0_eq_f hcs) ?_
  refine w_aloadN X12 hx hby dj42_149_33 rfl rfl ?_
  refine w_iloadN X12 hx hby dj42_149_34 rfl ?_
  refine w_iloadN X12 hx hby dj42_149_35 rfl ?_
  obtain ⟨_, _, ⟨T13, L13, k13, n13⟩, -, X13, ⟨Lc13, hQ13, l13, y13, z13⟩, st13⟩ := Jvm.LawKit.callS X12 hx (y := oY16) hown (mvT hZ (tw_16 hw)) (mvT hZ (tw_17 hw)) (mvT hZ (tw_18 hw)) (mvT hZ (tw_19 hw)) (by decide) (backOf (W := 0) (rm_cmp3_2 l Z a0 hw [] a1 k1 x0 x1 h0 n0 Z0 V1 hx0a hx0b hx1a hx1b) hZ (tw_19 hw) (tw_18 hw) (by decide) (by decide)) (g := (mkF m 36 #[(vR a0_), (vR a1), (vI 0), (vI 2), .val .null, .unset] [(.int 2), (.int 0), (.ref a1)])) rfl (by rw [hml]; rfl) (argsL := [(.ref a1), (.int 0), (.int 2)]) (rest := []) (lenOf pd___CII__B rfl) rfl (by show 2 * 0 + _ ≤ _; exact Nat.le_of_eq rfl) (hb hby dj42_149_36) (fun _ _ => ⟨rfl, e12, (by decide : 0 + 1 ≤ _), (by decide : 0 + 2 ≤ _)⟩)
  dsimp only [Pt.U, Pt.locs, Pt.cells, Pt.slots] at X13 l13 y13 z13 st13 hQ13
  subst l13 y13 z13
  obtain ⟨d13, kd13, rfl, N13q, K13, z13, V13⟩ := hQ13
  have N13 := Fr.app N0 N13q
  refine Go.by (fun t k => st13 t k) ?_
  have f13_0 := (Nat.le_trans Z0 K13.1)
  have f13_1 := (Keep.trans (Keep.refl h0 [a0_]) K13 all0)
  have f13_2 := (Old.keep O0 K13 all0)
  have f13_3 := (Exa.keep E0 K13)
  have f13_4 := (Fld.keep F0c K13 nin0)
  have f13_5 := (Fld.keep F0v K13 nin0)
  have f13_6 := (Arv.keep V1 K13 nin0)
  have g_d13 : n0 ≤ d13 := Nat.le_trans Z0 z13
  have sz_d13 : h0.size ≤ d13 := z13
  have ne0d13 : a0_ ≠ d13 := Nat.ne_of_lt (Nat.lt_of_lt_of_le E0.lt z13)
  show oG p e below P m T13 39 #[(vR a0_), (vR a1), (vI 0), (vI 2), .val .null, .unset] [(.ref d13)]
  refine w_astore X13 hx hby dj42_149_39 rfl (l' := #[(vR a0_), (vR a1), (vI 0), (vI 2), .val .null, (vR d13)]) rfl ?_
  refine w_aloadN X13 hx hby dj42_149_41 rfl rfl ?_
  refine w_aload X13 hx hby dj42_149_42 rfl rfl ?_
  refine w_iloadN X13 hx hby dj42_149_44 rfl ?_
  obtain ⟨_, _, ⟨T14, L14, k14, n14⟩, -, X14, ⟨Lc14, hQ14, l14, y14, z14⟩, st14⟩ := Jvm.LawKit.callS X13 hx (y := oY17) hown (mvT hZ (tw_24 hw)) (mvT hZ (tw_25 hw)) (mvT hZ (tw_18 hw)) (mvT hZ (tw_26 hw)) (by decide) (backOf (W := 1) (rm_cfal_2 l Z a0 hw [] d13 kd13 x0 x1 T13.heap n0 f13_0 V13) hZ (tw_26 hw) (tw_18 hw) (by decide) (by decide)) (g := (mkF m 45 #[(vR a0_), (vR a1), (vI 0), (vI 2), .val .null, (vR d13)] [(.int 2), (.ref d13), (.ref a0_)])) rfl (by rw [hml]; rfl) (argsL := [(.ref d13), (.int 2)]) (rest := [(.ref a0_)]) (lenOf pd___BI_B rfl) rfl (by show 2 * 0 + _ ≤ _; exact Nat.le_of_eq rfl) (hb hby dj42_149_45) (fun _ _ => ⟨rfl, rfl, (by decide : 1 + 0 ≤ _), (by decide : 2 + 0 ≤ _)⟩)
  dsimp only [Pt.U, Pt.locs, Pt.cells, Pt.slots] at X14 l14 y14 z14 st14 hQ14
  subst l14 y14 z14
  obtain ⟨rfl, N14q, q14⟩ := hQ14
  have N14 := Fr.app N13 N14q
  refine Go.by (fun t k => st14 t k) ?_
  obtain ⟨T15, h15, X15, e15, W15, st15⟩ := putFN X14 hx hZ hown (tw_27 hw) Via.refl q14 f13_4 f13_3 (Or.inr ⟨(tw_28 hw), rfl, hnm⟩) (tw_3 hw) (ty := .byte) (v' := (.int 0)) (by decide) rfl rfl (g := (mkF m 48 #[(vR a0_), (vR a1), (vI 0), (vI 2), .val .null, (vR d13)] [(.int 0), (.ref a0_)])) rfl rfl (hb hby dj42_149_48)
  refine Go.by st15 ?_
  have N15 := Fr.snoc X15 N14 g_a0_
  have f15_0 := (Nat.le_trans f13_0 (Keep.of_wr W15).1)
  have f15_1 := (Keep.wr f13_1 W15 (Or.inl (List.mem_of_getElem? (i := 0) rfl)))
  have f15_2 := (Old.wr f13_2 W15 g_a0_)
  have f15_3 := (Exa.wr W15 f13_3)
  have f15_4 := (Fld.same W15 f13_4)
  have f15_5 := (Fld.other W15 f13_5 (Or.inr (slot_ne (Or.inr (tw_30 hw)) (Or.inr (tw_28 hw)) (by decide) (t := (.array .byte)) (t' := .byte) (by decide) (by decide))))
  have f15_6 := (Arv.other f13_6 W15 (Ne.symm ne01))
  have f15_7 := (Arv.other V13 W15 (Ne.symm ne0d13))
  show oG p e below P m T15 51 #[(vR a0_), (vR a1), (vI 0), (vI 2), .val .null, (vR d13)] []
  refine w_aloadN X15 hx hby dj42_149_51 rfl rfl ?_
  refine w_aload X15 hx hby dj42_149_52 rfl rfl ?_
  obtain ⟨T16, h16, X16, e16, W16, st16⟩ := putF X15 hx hZ hown (host := "") (Or.inl (tw_29 hw)) Via.refl e15 f15_5 f15_3 (Or.inr ⟨(tw_30 hw), rfl, hnm⟩) (tw_3 hw) (ty := (.array .byte)) (by decide) rfl rfl (g := (mkF m 54 #[(vR a0_), (vR a1), (vI 0), (vI 2), .val .null, (vR d13)] [(.ref d13), (.ref a0_)])) rfl rfl (hb hby dj42_149_54)
  refine Go.by st16 ?_
  have N16 := Fr.snoc X16 N15 g_a0_
  have f16_0 := (Nat.le_trans f15_0 (Keep.of_wr W16).1)
  have f16_1 := (Keep.wr f15_1 W16 (Or.inl (List.mem_of_getElem? (i := 0) rfl)))
  have f16_2 := (Old.wr f15_2 W16 g_a0_)
  have f16_3 := (Exa.wr W16 f15_3)
  have f16_4 := (Fld.other W16 f15_4 (Or.inr (slot_ne (Or.inr (tw_28 hw)) (Or.inr (tw_30 hw)) (by decide) (t := .byte) (t' := (.array .byte)) (by decide) (by decide))))
  have f16_5 := (Fld.same W16 f15_5)
  have f16_6 := (Arv.other f15_6 W16 (Ne.symm ne01))
  have f16_7 := (Arv.other f15_7 W16 (Ne.symm ne0d13))
  show oG p e below P m T16 57 #[(vR a0_), (vR a1), (vI 0), (vI 2), .val .null, (vR d13)] []
  refine own_fin hP hlk X16 (v := none) (fun _ => rfl) (by decide) (by decide) ?_ (fun fs hr => X16.returnOut hx hret (hb hby dj42_149_57) hr)
  rw [e16]
  exact ⟨rfl, N16, f16_1, f16_4, d13, kd13, sz_d13, f16_5, f16_7⟩
def Q_si1_2 (Z : State) (a0_ : Addr) (a1 : Addr) (k1 : ClassId) (x0 : Int32) (x1 : Int32) (cs : Int32) (h0 : Heap) (n0 : Nat) (v : Option Value) (h : Heap) (L : List Loc) : Prop := v = none ∧ Fr n0 L ∧ Keep h0 h [a0_] ∧ Fld Z h a0_ "java/lang/String" "coder" "B" (.int 0) ∧ ∃ d k, h0.size ≤ d ∧ Fld Z h a0_ "java/lang/String" "value" "[B" (.ref d) ∧ Arv Z h d k .byte (2 : Int32) [(.int (x0.toInt8.toInt32)), (.int (x1.toInt8.toInt32))] (.int 0)
theorem ef_si1_2 (m : MethodId) (a0_ : Addr) (a1 : Addr) (k1 : ClassId) (x0 : Int32) (x1 : Int32) (cs : Int32) : entryFrame m #[(.ref a0_), (.ref a1)] 2 = mkF m 0 #[(vR a0_), (vR a1)] [] := by first | (simp [entryFrame, mkF, argsToLocals, Value.category]; done) | rfl
set_option maxRecDepth 65536 in
set_option maxHeartbeats 40000000 in
theorem rm_si1_2 (l : Launch) (Z : State) (a0 : Array Value) (hw : oW a0 Z) (ws : List Jvm.Cond) (a0_ : Addr) (a1 : Addr) (k1 : ClassId) (x0 : Int32) (x1 : Int32) (cs : Int32) (h0 : Heap) (n0 : Nat) (Z0 : n0 ≤ h0.size) (O0 : Old Z n0 h0) (Scs : Sta Z Z.heap "java/lang/String" "COMPACT_STRINGS" "Z" (.int cs)) (hcs : ¬ cs = (0 : Int32)) (E0 : Exa Z h0 a0_ "java/lang/String") (g_a0_ : n0 ≤ a0_) (F0c : Fld Z h0 a0_ "java/lang/String" "coder" "B" (.int 0)) (F0v : Fld Z h0 a0_ "java/lang/String" "value" "[B" .null) (V1 : Arv Z h0 a1 k1 .char (2 : Int32) [(.int x0), (.int x1)] (.int 0)) (hx0a : ¬ x0 < 0) (hx0b : ¬ (255 : Int32) < x0) (hx1a : ¬ x1 < 0) (hx1b : ¬ (255 : Int32) < x1) :
    MetFree l oY19 (head1 (Jvm.Cond.code oY19 jdk_42_method_3_code 2 none :: ws) (own_R 3 1 2 75)) (fun a U => a = #[(.ref a0_), (.ref a1)] ∧ Z.Warmed39 U.vm ∧ U.heap = h0) (fun _ _ _ _ _ => True) (fun _ U o U' => ∃ v L, o = .returned v ∧ Q_si1_2 Z a0_ a1 k1 x0 x1 cs h0 n0 v U'.heap L ∧ FrameEnd U o U' L (own_R 3 1 2 75).cells (own_R 3 1 2 75).slots) := by
  refine MetFree.of_bodySF (plainFor_of_name pn_java_lang_String) hisR ?_
  intro p e s m args below meth c s₁ Bd hml0 hP hK
  obtain ⟨rfl, hZ, hh⟩ := hP
  have hx := Bd.exec
  have hby := Bd.bytes
  have hml : c.maxLocals = 2 := hml0
  have hown : s.vm.findClass "java/lang/String" = some m.cls := findClass_of_methodNamed Bd.named
  have hnm := (name_of_methodNamed Bd.named Bd.method).1
  have X0 : Stand p l e (own_R 3 1 2 75) s m #[(.ref a0_), (.ref a1)] below meth c s₁ [] 0 0 := Stand.of_body Bd
  have e0 : s₁.heap = h0 := by rw [← hh, Bd.state]; rfl
  have N0 := Fr.nil n0
  have hlk : meth.locks = false := Bd.notSynchronized
  obtain ⟨P, hP⟩ : ∃ P : Outcome → State → Prop, P = PQ s (Q_si1_2 Z a0_ a1 k1 x0 x1 cs h0 n0) (own_R 3 1 2 75).cells (own_R 3 1 2 75).slots := ⟨_, rfl⟩
  suffices hgo : Go p e below P (s₁.setTop (mkF m 0 #[(vR a0_), (vR a1)] [])) by
    rw [hP] at hgo
    exact Go.by (fun t k => castTop (ef_si1_2 m a0_ a1 k1 x0 x1 cs) k) hgo
  have ne01 : a0_ ≠ a1 := fun q => by obtain ⟨c, Ar, -⟩ := V1; exact ne_arr E0 (tw_3 hw) Ar q
  show oG p e below P m s₁ 0 #[(vR a0_), (vR a1)] []
  refine w_aloadN X0 hx hby dj42_3_0 rfl rfl ?_
  refine w_aloadN X0 hx hby dj42_3_1 rfl rfl ?_
  refine w_iconst X0 hx hby dj42_3_2 (v := 0) rfl ?_
  refine w_aloadN X0 hx hby dj42_3_3 rfl rfl ?_
  have av3 := V1
  obtain ⟨cl3, Ar3, -, Sz3, Nn3, -, -⟩ := av3
  refine Go.by (X0.arraylength hx (by rw [e0]; exact Ar3.1) (State.isArrayOf_alike hZ.alike Ar3.2.1) (g := (mkF m 4 #[(vR a0_), (vR a1)] [(.ref a1), (.int 0), (.ref a1), (.ref a0_)])) rfl rfl (hb hby dj42_3_4)) ?_
  rw [len_of Sz3 Nn3]
  show oG p e below P m s₁ 5 #[(vR a0_), (vR a1)] [(.int 2), (.int 0), (.ref a1), (.ref a0_)]
  refine w_aconstNull X0 hx hby dj42_3_5 ?_
  obtain ⟨_, _, ⟨T4, L4, k4, n4⟩, -, X4, ⟨Lc4, hQ4, l4, y4, z4⟩, st4⟩ := X0.specialBack hx (y := oY18) rfl hown (mvT hZ (tw_8 hw)) (mvT hZ (tw_9 hw)) (mvT hZ (tw_11 hw)) (by decide) (backOf (W := 0) (rm_si4_2 l Z a0 hw [] a0_ a1 k1 x0 x1 cs h0 n0 Z0 O0 Scs hcs E0 g_a0_ F0c F0v V1 hx0a hx0b hx1a hx1b) hZ (tw_11 hw) (tw_4 hw) (by decide) (by decide)) (g := (mkF m 6 #[(vR a0_), (vR a1)] [.null, (.int 2), (.int 0), (.ref a1), (.ref a0_)])) rfl (by rw [hml]; rfl) (Steps.refl _) (a := a0_) (argsL := [(.ref a1), (.int 0), (.int 2), .null]) (rest := []) (lenOf pd___CIILjava_lang_Void__V rfl) rfl (by show 2 * 0 + _ ≤ _; exact Nat.le_of_eq rfl) (hb hby dj42_3_6) (fun _ _ => ⟨rfl, e0, (by decide : 0 + 1 ≤ _), (by decide : 0 + 2 ≤ _)⟩)
  dsimp only [Pt.U, Pt.locs, Pt.cells, Pt.slots] at X4 l4 y4 z4 st4 hQ4
  subst l4 y4 z4
  obtain ⟨rfl, N4q, K4, Gc4, d4, kd4, z4, Gv4, V4⟩ := hQ4
  have N4 := Fr.app N0 N4q
  refine Go.by (fun t k => st4.trans k) ?_
  have f4_0 := (Nat.le_trans Z0 K4.1)
  have f4_1 := (Keep.trans (Keep.refl h0 [a0_]) K4 (allS (Or.inl (List.mem_of_getElem? (i := 0) rfl)) all0))
  have f4_2 := (Old.keep O0 K4 (allS g_a0_ all0))
  have f4_3 := (Exa.keep E0 K4)
  have f4_4 := (Arv.keep V1 K4 (ninS (Ne.symm ne01) nin0))
  show oG p e below P m T4 9 #[(vR a0_), (vR a1)] []
  refine own_fin hP hlk X4 (v := none) (fun _ => rfl) (by decide) (by decide) ?_ (fun fs hr => X4.returnOut hx Bd.returns (hb hby dj42_3_9) hr)
  exact ⟨rfl, N4, f4_1, Gc4, d4, kd4, z4, Gv4, V4⟩
set_option maxRecDepth 65536 in
set_option maxHeartbeats 40000000 in
theorem sg_C {p : Program} {l : Launch} {e : Env} {R : Room} {s : State} {m : MethodId} {args : Array Value} {below : List Frame} {meth : Method} {c : Code} {P : Outcome → State → Prop} {Z : State} {a0 : Array Value} (hw : oW a0 Z) (hx : p.tables.exec = Jvm.exec) (hby : c.code = jdk_52_method_21_code) (hZ : Z.Warmed39 s.vm) {a1 : Addr} {k1 : ClassId} {a2 : Addr} {k2 : ClassId} {h0 : Heap} {n0 : Nat} (ne12 : a1 ≠ a2) (g_a2 : n0 ≤ a2) {T : State} {locs : List Loc} {h : Heap} (X0 : Stand p l e R s m args below meth c T locs 0 0) (e0 : T.heap = h) (N0 : Fr n0 locs) (Z0 : n0 ≤ h.size) (K0 : Keep h0 h [a2]) {z j x : Int32} {us vs : List Value} {n : Nat} (V1 : Arv Z h a1 k1 .char z us (.int 0)) (V2 : Arv Z h a2 k2 .byte z vs (.int 0)) {A6 : Slot} (hA6 : A6 = .unset ∨ ∃ y, A6 = (vI y)) (hj0 : ¬ j < 0) (hjz : j < z) (hu : us.getD j.toNatClampNeg (.int 0) = .int x) (hxb : ¬ (255 : Int32) < x) (hjn : j.toNatClampNeg = n) {N : Nat} (hN : vs.length = N) (hn : n < N) (k : ∀ {T' : State} {locs' : List Loc} {h' : Heap}, Stand p l e R s m args below meth c T' locs' 0 0 → T'.heap = h' → Fr n0 locs' → n0 ≤ h'.size → Keep h0 h' [a2] → Arv Z h' a1 k1 .char z us (.int 0) → Arv Z h' a2 k2 .byte z (vs.set n (.int (x.toInt8.toInt32))) (.int 0) → (vs.set n (.int (x.toInt8.toInt32))).length = N → Go p e below P (T'.setTop (mkF m 3 #[(vR a1), (vI (j + (1 : Int32))), (vR a2), (vI (j + (1 : Int32))), (vI z), (vI (j + (1 : Int32))), (vI x)] []))) : Go p e below P (T.setTop (mkF m 3 #[(vR a1), (vI j), (vR a2), (vI j), (vI z), (vI j), A6] [])) := by
  show oG p e below P m T 3 #[(vR a1), (vI j), (vR a2), (vI j), (vI z), (vI j), A6] []
  refine w_iload X0 hx hby dj52_21_3 rfl ?_
  refine w_iload X0 hx hby dj52_21_5 rfl ?_
  refine w_icmpNo X0 hx hby dj52_21_7 (XT.ii_ge_f hjz) ?_
  refine w_aloadN X0 hx hby dj52_21_10 rfl rfl ?_
  refine w_iloadN X0 hx hby dj52_21_11 rfl ?_
  have av11 := V1
  obtain ⟨cl11, Ar11, -, Sz11, Nn11, Ha11, Gf11⟩ := av11
  have hin11 : ¬ (j < 0 ∨ cl11.slots.size ≤ (j).toNatClampNeg) := inb_of Sz11 ⟨hj0, hjz⟩
  have hat11 : cl11.slots[(j).toNatClampNeg]? = some (.int x) := Ha11.at hin11 hu
  refine Go.by (X0.caload hx (j := j) (v := (.int x)) (by rw [e0]; exact Ar11.1) (State.isArrayOf_alike hZ.alike Ar11.2.1) Ar11.2.2 hin11 hat11 (g := (mkF m 12 #[(vR a1), (vI j), (vR a2), (vI j), (vI z), (vI j), A6] [(.int j), (.ref a1)])) rfl rfl (hb hby dj52_21_12)) ?_
  show oG p e below P m T 13 #[(vR a1), (vI j), (vR a2), (vI j), (vI z), (vI j), A6] [(.int x)]
  refine w_istore X0 hx hby dj52_21_13 (l' := #[(vR a1), (vI j), (vR a2), (vI j), (vI z), (vI j), (vI x)]) (by rcases hA6 with rfl | ⟨_, rfl⟩ <;> rfl) ?_
  refine w_iload X0 hx hby dj52_21_15 rfl ?_
  refine w_sipush X0 hx hby dj52_21_17 (v := 255) rfl ?_
  refine w_icmpYes X0 hx hby dj52_21_20 (pc' := 26) (XT.ii_le_t hxb) (by decide) ?_
  refine w_aloadN X0 hx hby dj52_21_26 rfl rfl ?_
  refine w_iloadN X0 hx hby dj52_21_27 rfl ?_
  refine w_iload X0 hx hby dj52_21_28 rfl ?_
  refine Go.by (fun _ => XS.i2b X0.here hx rfl (hb hby dj52_21_30) rfl) ?_
  have av12 := V2
  obtain ⟨cl12, Ar12, q12, Sz12, Nn12, Ha12, Gf12⟩ := av12
  have hin12 : ¬ (j < 0 ∨ cl12.slots.size ≤ (j).toNatClampNeg) := inb_of Sz12 ⟨hj0, hjz⟩
  obtain ⟨T13, h13, X13, e13, W13, st13⟩ := stB X0 hx hZ e0 Ar12 (j := j) hin12 (g := (mkF m 31 #[(vR a1), (vI j), (vR a2), (vI j), (vI z), (vI j), (vI x)] [(.int (x.toInt8.toInt32)), (.int j), (.ref a2)])) rfl rfl (hb hby dj52_21_31)
  have W13' : Wr h h13 a2 (j).toNatClampNeg (.int (x.toInt8.toInt32)) := (by have q : Wr h h13 a2 (j).toNatClampNeg (.int ((x.toInt8.toInt32)).toInt8.toInt32) := W13; rw [own_bb] at q; exact q)
  have V13 : Arv Z h13 a2 k2 .byte z (vs.set n (.int (x.toInt8.toInt32))) (.int 0) := Arv.set Ar12 q12 Sz12 Nn12 Ha12 Gf12 (fits_nar_byte _) W13' n hjn (by rw [hN]; exact hn)
  have N13 := Fr.snoc X13 N0 g_a2
  have f13_0 := (Nat.le_trans Z0 (Keep.of_wr W13).1)
  have f13_1 := (Keep.wr K0 W13 (Or.inl (List.mem_of_getElem? (i := 0) rfl)))
  have f13_2 := (Arv.other V1 W13 ne12)
  refine Go.by st13 ?_
  show oG p e below P m T13 32 #[(vR a1), (vI j), (vR a2), (vI j), (vI z), (vI j), (vI x)] []
  refine w_iinc X13 hx hby dj52_21_32 rfl (l' := #[(vR a1), (vI (j + (1 : Int32))), (vR a2), (vI j), (vI z), (vI j), (vI x)]) rfl ?_
  refine w_iinc X13 hx hby dj52_21_35 rfl (l' := #[(vR a1), (vI (j + (1 : Int32))), (vR a2), (vI (j + (1 : Int32))), (vI z), (vI j), (vI x)]) rfl ?_
  refine w_iinc X13 hx hby dj52_21_38 rfl (l' := #[(vR a1), (vI (j + (1 : Int32))), (vR a2), (vI (j + (1 : Int32))), (vI z), (vI (j + (1 : Int32))), (vI x)]) rfl ?_
  refine w_goto X13 hx hby dj52_21_41 (pc' := 3) (by decide) ?_
  exact k X13 e13 N13 f13_0 f13_1 f13_2 V13 (by rw [List.length_set]; exact hN)
def Q_cmp5_34 (Z : State) (a1 : Addr) (k1 : ClassId) (a2 : Addr) (k2 : ClassId) (x0 : Int32) (x1 : Int32) (x2 : Int32) (h0 : Heap) (n0 : Nat) (v : Option Value) (h : Heap) (L : List Loc) : Prop := v = some (.int 34) ∧ Fr n0 L ∧ Keep h0 h [a2] ∧ Arv Z h a2 k2 .byte (34 : Int32) [(.int (x0.toInt8.toInt32)), (.int (x1.toInt8.toInt32)), (.int ((32 : Int32).toInt8.toInt32)), (.int ((105 : Int32).toInt8.toInt32)), (.int ((115 : Int32).toInt8.toInt32)), (.int ((32 : Int32).toInt8.toInt32)), (.int ((103 : Int32).toInt8.toInt32)), (.int ((105 : Int32).toInt8.toInt32)), (.int ((118 : Int32).toInt8.toInt32)), (.int ((101 : Int32).toInt8.toInt32)), (.int ((110 : Int32).toInt8.toInt32)), (.int ((32 : Int32).toInt8.toInt32)), (.int ((116 : Int32).toInt8.toInt32)), (.int ((119 : Int32).toInt8.toInt32)), (.int ((105 : Int32).toInt8.toInt32)), (.int ((99 : Int32).toInt8.toInt32)), (.int ((101 : Int32).toInt8.toInt32)), (.int ((44 : Int32).toInt8.toInt32)), (.int ((32 : Int32).toInt8.toInt32)), (.int ((102 : Int32).toInt8.toInt32)), (.int ((105 : Int32).toInt8.toInt32)), (.int ((114 : Int32).toInt8.toInt32)), (.int ((115 : Int32).toInt8.toInt32)), (.int ((116 : Int32).toInt8.toInt32)), (.int ((32 : Int32).toInt8.toInt32)), (.int ((111 : Int32).toInt8.toInt32)), (.int ((110 : Int32).toInt8.toInt32)), (.int ((32 : Int32).toInt8.toInt32)), (.int ((108 : Int32).toInt8.toInt32)), (.int ((105 : Int32).toInt8.toInt32)), (.int ((110 : Int32).toInt8.toInt32)), (.int ((101 : Int32).toInt8.toInt32)), (.int ((32 : Int32).toInt8.toInt32)), (.int (x2.toInt8.toInt32))] (.int 0)
theorem ef_cmp5_34 (m : MethodId) (a1 : Addr) (k1 : ClassId) (a2 : Addr) (k2 : ClassId) (x0 : Int32) (x1 : Int32) (x2 : Int32) : entryFrame m #[(.ref a1), (.int 0), (.ref a2), (.int 0), (.int 34)] 7 = mkF m 0 #[(vR a1), (vI 0), (vR a2), (vI 0), (vI 34), .unset, .unset] [] := by first | (simp [entryFrame, mkF, argsToLocals, Value.category]; done) | rfl
set_option maxRecDepth 65536 in
set_option maxHeartbeats 40000000 in
theorem rm_cmp5_34 (l : Launch) (Z : State) (a0 : Array Value) (hw : oW a0 Z) (ws : List Jvm.Cond) (a1 : Addr) (k1 : ClassId) (a2 : Addr) (k2 : ClassId) (x0 : Int32) (x1 : Int32) (x2 : Int32) (h0 : Heap) (n0 : Nat) (Z0 : n0 ≤ h0.size) (V1 : Arv Z h0 a1 k1 .char (34 : Int32) [(.int x0), (.int x1), (.int 32), (.int 105), (.int 115), (.int 32), (.int 103), (.int 105), (.int 118), (.int 101), (.int 110), (.int 32), (.int 116), (.int 119), (.int 105), (.int 99), (.int 101), (.int 44), (.int 32), (.int 102), (.int 105), (.int 114), (.int 115), (.int 116), (.int 32), (.int 111), (.int 110), (.int 32), (.int 108), (.int 105), (.int 110), (.int 101), (.int 32), (.int x2)] (.int 0)) (V2 : Arv Z h0 a2 k2 .byte (34 : Int32) [(.int 0), (.int 0), (.int 0), (.int 0), (.int 0), (.int 0), (.int 0), (.int 0), (.int 0), (.int 0), (.int 0), (.int 0), (.int 0), (.int 0), (.int 0), (.int 0), (.int 0), (.int 0), (.int 0), (.int 0), (.int 0), (.int 0), (.int 0), (.int 0), (.int 0), (.int 0), (.int 0), (.int 0), (.int 0), (.int 0), (.int 0), (.int 0), (.int 0), (.int 0)] (.int 0)) (ne12 : a1 ≠ a2) (g_a2 : n0 ≤ a2) (hx0a : ¬ x0 < 0) (hx0b : ¬ (255 : Int32) < x0) (hx1a : ¬ x1 < 0) (hx1b : ¬ (255 : Int32) < x1) (hx2a : ¬ x2 < 0) (hx2b : ¬ (255 : Int32) < x2) :
    oM l oY15 jdk_52_method_21_code 7 (some .int) ws (own_R 0 0 0 0) #[(.ref a1), (.int 0), (.ref a2), (.int 0), (.int 34)] Z h0 (Q_cmp5_34 Z a1 k1 a2 k2 x0 x1 x2 h0 n0) := by
  refine own_open (n0 := n0) (cn := "java/lang/StringUTF16") rfl (plainFor_of_name pn_java_lang_StringUTF16) (fun m => ef_cmp5_34 m a1 k1 a2 k2 x0 x1 x2) ?_
  intro p e s m below meth c s₁ P hx hby hml hown hnm X0 e0 N0 hlk hret hZ hP
  refine w_iconst X0 hx hby dj52_21_0 (v := 0) rfl ?_
  refine w_istore X0 hx hby dj52_21_1 (l' := #[(vR a1), (vI 0), (vR a2), (vI 0), (vI 34), (vI 0), .unset]) rfl ?_
  refine sg_C (n := 0) hw hx hby hZ ne12 g_a2 X0 e0 N0 Z0 (Keep.refl h0 [a2]) V1 V2 (Or.inl rfl) (by decide) (by decide) rfl hx0b rfl rfl (by decide) ?_
  intro T11 L11 h11 X11 e11 N11 f11_0 f11_1 f11_2 V11 l11
  show oG p e below P m T11 3 #[(vR a1), (vI 1), (vR a2), (vI 1), (vI 34), (vI 1), (vI x0)] []
  refine sg_C (n := 1) hw hx hby hZ ne12 g_a2 X11 e11 N11 f11_0 f11_1 f11_2 V11 (Or.inr ⟨_, rfl⟩) (by decide) (by decide) rfl hx1b rfl l11 (by decide) ?_
  intro T12 L12 h12 X12 e12 N12 f12_0 f12_1 f12_2 V12 l12
  show oG p e below P m T12 3 #[(vR a1), (vI 2), (vR a2), (vI 2), (vI 34), (vI 2), (vI x1)] []
  refine sg_C (n := 2) hw hx hby hZ ne12 g_a2 X12 e12 N12 f12_0 f12_1 f12_2 V12 (Or.inr ⟨_, rfl⟩) (by decide) (by decide) rfl (by decide) rfl l12 (by decide) ?_
  intro T13 L13 h13 X13 e13 N13 f13_0 f13_1 f13_2 V13 l13
  show oG p e below P m T13 3 #[(vR a1), (vI 3), (vR a2), (vI 3), (vI 34), (vI 3), (vI 32)] []
  refine sg_C (n := 3) hw hx hby hZ ne12 g_a2 X13 e13 N13 f13_0 f13_1 f13_2 V13 (Or.inr ⟨_, rfl⟩) (by decide) (by decide) rfl (by decide) rfl l13 (by decide) ?_
  intro T14 L14 h14 X14 e14 N14 f14_0 f14_1 f14_2 V14 l14
  show oG p e below P m T14 3 #[(vR a1), (vI 4), (vR a2), (vI 4), (vI 34), (vI 4), (vI 105)] []
  refine sg_C (n := 4) hw hx hby hZ ne12 g_a2 X14 e14 N14 f14_0 f14_1 f14_2 V14 (Or.inr ⟨_, rfl⟩) (by decide) (by decide) rfl (by decide) rfl l14 (by decide) ?_
  intro T15 L15 h15 X15 e15 N15 f15_0 f15_1 f15_2 V15 l15
  show oG p e below P m T15 3 #[(vR a1), (vI 5), (vR a2), (vI 5), (vI 34), (vI 5), (vI 115)] []
  refine sg_C (n := 5) hw hx hby hZ ne12 g_a2 X15 e15 N15 f15_0 f15_1 f15_2 V15 (Or.inr ⟨_, rfl⟩) (by decide) (by decide) rfl (by decide) rfl l15 (by decide) ?_
  intro T16 L16 h16 X16 e16 N16 f16_0 f16_1 f16_2 V16 l16
  show oG p e below P m T16 3 #[(vR a1), (vI 6), (vR a2), (vI 6), (vI 34), (vI 6), (vI 32)] []
  refine sg_C (n := 6) hw hx hby hZ ne12 g_a2 X16 e16 N16 f16_0 f16_1 f16_2 V16 (Or.inr ⟨_, rfl⟩) (by decide) (by decide) rfl (by decide) rfl l16 (by decide) ?_
  intro T17 L17 h17 X17 e17 N17 f17_0 f17_1 f17_2 V17 l17
  show oG p e below P m T17 3 #[(vR a1), (vI 7), (vR a2), (vI 7), (vI 34), (vI 7), (vI 103)] []
  refine sg_C (n := 7) hw hx hby hZ ne12 g_a2 X17 e17 N17 f17_0 f17_1 f17_2 V17 (Or.inr ⟨_, rfl⟩) (by decide) (by decide) rfl (by decide) rfl l17 (by decide) ?_
  intro T18 L18 h18 X18 e18 N18 f18_0 f18_1 f18_2 V18 l18
  show oG p e below P m T18 3 #[(vR a1), (vI 8), (vR a2), (vI 8), (vI 34), (vI 8), (vI 105)] []
  refine sg_C (n := 8) hw hx hby hZ ne12 g_a2 X18 e18 N18 f18_0 f18_1 f18_2 V18 (Or.inr ⟨_, rfl⟩) (by decide) (by decide) rfl (by decide) rfl l18 (by decide) ?_
  intro T19 L19 h19 X19 e19 N19 f19_0 f19_1 f19_2 V19 l19
  show oG p e below P m T19 3 #[(vR a1), (vI 9), (vR a2), (vI 9), (vI 34), (vI 9), (vI 118)] []
  refine sg_C (n := 9) hw hx hby hZ ne12 g_a2 X19 e19 N19 f19_0 f19_1 f19_2 V19 (Or.inr ⟨_, rfl⟩) (by decide) (by decide) rfl (by decide) rfl l19 (by decide) ?_
  intro T20 L20 h20 X20 e20 N20 f20_0 f20_1 f20_2 V20 l20
  show oG p e below P m T20 3 #[(vR a1), (vI 10), (vR a2), (vI 10), (vI 34), (vI 10), (vI 101)] []
  refine sg_C (n := 10) hw hx hby hZ ne12 g_a2 X20 e20 N20 f20_0 f20_1 f20_2 V20 (Or.inr ⟨_, rfl⟩) (by decide) (by decide) rfl (by decide) rfl l20 (by decide) ?_
  intro T21 L21 h21 X21 e21 N21 f21_0 f21_1 f21_2 V21 l21
  show oG p e below P m T21 3 #[(vR a1), (vI 11), (vR a2), (vI 11), (vI 34), (vI 11), (vI 110)] []
  refine sg_C (n := 11) hw hx hby hZ ne12 g_a2 X21 e21 N21 f21_0 f21_1 f21_2 V21 (Or.inr ⟨_, rfl⟩) (by decide) (by decide) rfl (by decide) rfl l21 (by decide) ?_
  intro T22 L22 h22 X22 e22 N22 f22_0 f22_1 f22_2 V22 l22
  show oG p e below P m T22 3 #[(vR a1), (vI 12), (vR a2), (vI 12), (vI 34), (vI 12), (vI 32)] []
  refine sg_C (n := 12) hw hx hby hZ ne12 g_a2 X22 e22 N22 f22_0 f22_1 f22_2 V22 (Or.inr ⟨_, rfl⟩) (by decide) (by decide) rfl (by decide) rfl l22 (by decide) ?_
  intro T23 L23 h23 X23 e23 N23 f23_0 f23_1 f23_2 V23 l23
  show oG p e below P m T23 3 #[(vR a1), (vI 13), (vR a2), (vI 13), (vI 34), (vI 13), (vI 116)] []
  refine sg_C (n := 13) hw hx hby hZ ne12 g_a2 X23 e23 N23 f23_0 f23_1 f23_2 V23 (Or.inr ⟨_, rfl⟩) (by decide) (by decide) rfl (by decide) rfl l23 (by decide) ?_
  intro T24 L24 h24 X24 e24 N24 f24_0 f24_1 f24_2 V24 l24
  show oG p e below P m T24 3 #[(vR a1), (vI 14), (vR a2), (vI 14), (vI 34), (vI 14), (vI 119)] []
  refine sg_C (n := 14) hw hx hby hZ ne12 g_a2 X24 e24 N24 f24_0 f24_1 f24_2 V24 (Or.inr ⟨_, rfl⟩) (by decide) (by decide) rfl (by decide) rfl l24 (by decide) ?_
  intro T25 L25 h25 X25 e25 N25 f25_0 f25_1 f25_2 V25 l25
  show oG p e below P m T25 3 #[(vR a1), (vI 15), (vR a2), (vI 15), (vI 34), (vI 15), (vI 105)] []
  refine sg_C (n := 15) hw hx hby hZ ne12 g_a2 X25 e25 N25 f25_0 f25_1 f25_2 V25 (Or.inr ⟨_, rfl⟩) (by decide) (by decide) rfl (by decide) rfl l25 (by decide) ?_
  intro T26 L26 h26 X26 e26 N26 f26_0 f26_1 f26_2 V26 l26
  show oG p e below P m T26 3 #[(vR a1), (vI 16), (vR a2), (vI 16), (vI 34), (vI 16), (vI 99)] []
  refine sg_C (n := 16) hw hx hby hZ ne12 g_a2 X26 e26 N26 f26_0 f26_1 f26_2 V26 (Or.inr ⟨_, rfl⟩) (by decide) (by decide) rfl (by decide) rfl l26 (by decide) ?_
  intro T27 L27 h27 X27 e27 N27 f27_0 f27_1 f27_2 V27 l27
  show oG p e below P m T27 3 #[(vR a1), (vI 17), (vR a2), (vI 17), (vI 34), (vI 17), (vI 101)] []
  refine sg_C (n := 17) hw hx hby hZ ne12 g_a2 X27 e27 N27 f27_0 f27_1 f27_2 V27 (Or.inr ⟨_, rfl⟩) (by decide) (by decide) rfl (by decide) rfl l27 (by decide) ?_
  intro T28 L28 h28 X28 e28 N28 f28_0 f28_1 f28_2 V28 l28
  show oG p e below P m T28 3 #[(vR a1), (vI 18), (vR a2), (vI 18), (vI 34), (vI 18), (vI 44)] []
  refine sg_C (n := 18) hw hx hby hZ ne12 g_a2 X28 e28 N28 f28_0 f28_1 f28_2 V28 (Or.inr ⟨_, rfl⟩) (by decide) (by decide) rfl (by decide) rfl l28 (by decide) ?_
  intro T29 L29 h29 X29 e29 N29 f29_0 f29_1 f29_2 V29 l29
  show oG p e below P m T29 3 #[(vR a1), (vI 19), (vR a2), (vI 19), (vI 34), (vI 19), (vI 32)] []
  refine sg_C (n := 19) hw hx hby hZ ne12 g_a2 X29 e29 N29 f29_0 f29_1 f29_2 V29 (Or.inr ⟨_, rfl⟩) (by decide) (by decide) rfl (by decide) rfl l29 (by decide) ?_
  intro T30 L30 h30 X30 e30 N30 f30_0 f30_1 f30_2 V30 l30
  show oG p e below P m T30 3 #[(vR a1), (vI 20), (vR a2), (vI 20), (vI 34), (vI 20), (vI 102)] []
  refine sg_C (n := 20) hw hx hby hZ ne12 g_a2 X30 e30 N30 f30_0 f30_1 f30_2 V30 (Or.inr ⟨_, rfl⟩) (by decide) (by decide) rfl (by decide) rfl l30 (by decide) ?_
  intro T31 L31 h31 X31 e31 N31 f31_0 f31_1 f31_2 V31 l31
  show oG p e below P m T31 3 #[(vR a1), (vI 21), (vR a2), (vI 21), (vI 34), (vI 21), (vI 105)] []
  refine sg_C (n := 21) hw hx hby hZ ne12 g_a2 X31 e31 N31 f31_0 f31_1 f31_2 V31 (Or.inr ⟨_, rfl⟩) (by decide) (by decide) rfl (by decide) rfl l31 (by decide) ?_
  intro T32 L32 h32 X32 e32 N32 f32_0 f32_1 f32_2 V32 l32
  show oG p e below P m T32 3 #[(vR a1), (vI 22), (vR a2), (vI 22), (vI 34), (vI 22), (vI 114)] []
  refine sg_C (n := 22) hw hx hby hZ ne12 g_a2 X32 e32 N32 f32_0 f32_1 f32_2 V32 (Or.inr ⟨_, rfl⟩) (by decide) (by decide) rfl (by decide) rfl l32 (by decide) ?_
  intro T33 L33 h33 X33 e33 N33 f33_0 f33_1 f33_2 V33 l33
  show oG p e below P m T33 3 #[(vR a1), (vI 23), (vR a2), (vI 23), (vI 34), (vI 23), (vI 115)] []
  refine sg_C (n := 23) hw hx hby hZ ne12 g_a2 X33 e33 N33 f33_0 f33_1 f33_2 V33 (Or.inr ⟨_, rfl⟩) (by decide) (by decide) rfl (by decide) rfl l33 (by decide) ?_
  intro T34 L34 h34 X34 e34 N34 f34_0 f34_1 f34_2 V34 l34
  show oG p e below P m T34 3 #[(vR a1), (vI 24), (vR a2), (vI 24), (vI 34), (vI 24), (vI 116)] []
  refine sg_C (n := 24) hw hx hby hZ ne12 g_a2 X34 e34 N34 f34_0 f34_1 f34_2 V34 (Or.inr ⟨_, rfl⟩) (by decide) (by decide) rfl (by decide) rfl l34 (by decide) ?_
  intro T35 L35 h35 X35 e35 N35 f35_0 f35_1 f35_2 V35 l35
  show oG p e below P m T35 3 #[(vR a1), (vI 25), (vR a2), (vI 25), (vI 34), (vI 25), (vI 32)] []
  refine sg_C (n := 25) hw hx hby hZ ne12 g_a2 X35 e35 N35 f35_0 f35_1 f35_2 V35 (Or.inr ⟨_, rfl⟩) (by decide) (by decide) rfl (by decide) rfl l35 (by decide) ?_
  intro T36 L36 h36 X36 e36 N36 f36_0 f36_1 f36_2 V36 l36
  show oG p e below P m T36 3 #[(vR a1), (vI 26), (vR a2), (vI 26), (vI 34), (vI 26), (vI 111)] []
  refine sg_C (n := 26) hw hx hby hZ ne12 g_a2 X36 e36 N36 f36_0 f36_1 f36_2 V36 (Or.inr ⟨_, rfl⟩) (by decide) (by decide) rfl (by decide) rfl l36 (by decide) ?_
  intro T37 L37 h37 X37 e37 N37 f37_0 f37_1 f37_2 V37 l37
  show oG p e below P m T37 3 #[(vR a1), (vI 27), (vR a2), (vI 27), (vI 34), (vI 27), (vI 110)] []
  refine sg_C (n := 27) hw hx hby hZ ne12 g_a2 X37 e37 N37 f37_0 f37_1 f37_2 V37 (Or.inr ⟨_, rfl⟩) (by decide) (by decide) rfl (by decide) rfl l37 (by decide) ?_
  intro T38 L38 h38 X38 e38 N38 f38_0 f38_1 f38_2 V38 l38
  show oG p e below P m T38 3 #[(vR a1), (vI 28), (vR a2), (vI 28), (vI 34), (vI 28), (vI 32)] []
  refine sg_C (n := 28) hw hx hby hZ ne12 g_a2 X38 e38 N38 f38_0 f38_1 f38_2 V38 (Or.inr ⟨_, rfl⟩) (by decide) (by decide) rfl (by decide) rfl l38 (by decide) ?_
  intro T39 L39 h39 X39 e39 N39 f39_0 f39_1 f39_2 V39 l39
  show oG p e below P m T39 3 #[(vR a1), (vI 29), (vR a2), (vI 29), (vI 34), (vI 29), (vI 108)] []
  refine sg_C (n := 29) hw hx hby hZ ne12 g_a2 X39 e39 N39 f39_0 f39_1 f39_2 V39 (Or.inr ⟨_, rfl⟩) (by decide) (by decide) rfl (by decide) rfl l39 (by decide) ?_
  intro T40 L40 h40 X40 e40 N40 f40_0 f40_1 f40_2 V40 l40
  show oG p e below P m T40 3 #[(vR a1), (vI 30), (vR a2), (vI 30), (vI 34), (vI 30), (vI 105)] []
  refine sg_C (n := 30) hw hx hby hZ ne12 g_a2 X40 e40 N40 f40_0 f40_1 f40_2 V40 (Or.inr ⟨_, rfl⟩) (by decide) (by decide) rfl (by decide) rfl l40 (by decide) ?_
  intro T41 L41 h41 X41 e41 N41 f41_0 f41_1 f41_2 V41 l41
  show oG p e below P m T41 3 #[(vR a1), (vI 31), (vR a2), (vI 31), (vI 34), (vI 31), (vI 110)] []
  refine sg_C (n := 31) hw hx hby hZ ne12 g_a2 X41 e41 N41 f41_0 f41_1 f41_2 V41 (Or.inr ⟨_, rfl⟩) (by decide) (by decide) rfl (by decide) rfl l41 (by decide) ?_
  intro T42 L42 h42 X42 e42 N42 f42_0 f42_1 f42_2 V42 l42
  show oG p e below P m T42 3 #[(vR a1), (vI 32), (vR a2), (vI 32), (vI 34), (vI 32), (vI 101)] []
  refine sg_C (n := 32) hw hx hby hZ ne12 g_a2 X42 e42 N42 f42_0 f42_1 f42_2 V42 (Or.inr ⟨_, rfl⟩) (by decide) (by decide) rfl (by decide) rfl l42 (by decide) ?_
  intro T43 L43 h43 X43 e43 N43 f43_0 f43_1 f43_2 V43 l43
  show oG p e below P m T43 3 #[(vR a1), (vI 33), (vR a2), (vI 33), (vI 34), (vI 33), (vI 32)] []
  refine sg_C (n := 33) hw hx hby hZ ne12 g_a2 X43 e43 N43 f43_0 f43_1 f43_2 V43 (Or.inr ⟨_, rfl⟩) (by decide) (by decide) rfl hx2b rfl l43 (by decide) ?_
  intro T44 L44 h44 X44 e44 N44 f44_0 f44_1 f44_2 V44 l44
  show oG p e below P m T44 3 #[(vR a1), (vI 34), (vR a2), (vI 34), (vI 34), (vI 34), (vI x2)] []
  have VX : Arv Z h44 a2 k2 .byte (34 : Int32) [(.int (x0.toInt8.toInt32)), (.int (x1.toInt8.toInt32)), (.int ((32 : Int32).toInt8.toInt32)), (.int ((105 : Int32).toInt8.toInt32)), (.int ((115 : Int32).toInt8.toInt32)), (.int ((32 : Int32).toInt8.toInt32)), (.int ((103 : Int32).toInt8.toInt32)), (.int ((105 : Int32).toInt8.toInt32)), (.int ((118 : Int32).toInt8.toInt32)), (.int ((101 : Int32).toInt8.toInt32)), (.int ((110 : Int32).toInt8.toInt32)), (.int ((32 : Int32).toInt8.toInt32)), (.int ((116 : Int32).toInt8.toInt32)), (.int ((119 : Int32).toInt8.toInt32)), (.int ((105 : Int32).toInt8.toInt32)), (.int ((99 : Int32).toInt8.toInt32)), (.int ((101 : Int32).toInt8.toInt32)), (.int ((44 : Int32).toInt8.toInt32)), (.int ((32 : Int32).toInt8.toInt32)), (.int ((102 : Int32).toInt8.toInt32)), (.int ((105 : Int32).toInt8.toInt32)), (.int ((114 : Int32).toInt8.toInt32)), (.int ((115 : Int32).toInt8.toInt32)), (.int ((116 : Int32).toInt8.toInt32)), (.int ((32 : Int32).toInt8.toInt32)), (.int ((111 : Int32).toInt8.toInt32)), (.int ((110 : Int32).toInt8.toInt32)), (.int ((32 : Int32).toInt8.toInt32)), (.int ((108 : Int32).toInt8.toInt32)), (.int ((105 : Int32).toInt8.toInt32)), (.int ((110 : Int32).toInt8.toInt32)), (.int ((101 : Int32).toInt8.toInt32)), (.int ((32 : Int32).toInt8.toInt32)), (.int (x2.toInt8.toInt32))] (.int 0) := by
    have q := V44
    simp only [List.set_cons_zero, List.set_cons_succ] at q
    exact q
  refine w_iload X44 hx hby dj52_21_3 rfl ?_
  refine w_iload X44 hx hby dj52_21_5 rfl ?_
  refine w_icmpYes X44 hx hby dj52_21_7 (pc' := 44) (XT.ii_ge_t (by decide : ¬ (34 : Int32) < (34 : Int32))) (by decide) ?_
  refine w_iload X44 hx hby dj52_21_44 rfl ?_
  refine own_fin hP hlk X44 (v := some (.int 34)) (fun h => by rw [hret] at h; cases h) (by decide) (by decide) ?_ (fun fs hr => retOut X44 hx hret rfl (Or.inl ⟨rfl, Or.inl rfl, _, rfl⟩) (hb hby dj52_21_46) hr)
  rw [e44]
  exact ⟨rfl, N44, f44_1, VX⟩
def Q_cmp3_34 (Z : State) (a1 : Addr) (k1 : ClassId) (x0 : Int32) (x1 : Int32) (x2 : Int32) (h0 : Heap) (n0 : Nat) (v : Option Value) (h : Heap) (L : List Loc) : Prop := ∃ d k, v = some (.ref d) ∧ Fr n0 L ∧ Keep h0 h [] ∧ h0.size ≤ d ∧ Arv Z h d k .byte (34 : Int32) [(.int (x0.toInt8.toInt32)), (.int (x1.toInt8.toInt32)), (.int ((32 : Int32).toInt8.toInt32)), (.int ((105 : Int32).toInt8.toInt32)), (.int ((115 : Int32).toInt8.toInt32)), (.int ((32 : Int32).toInt8.toInt32)), (.int ((103 : Int32).toInt8.toInt32)), (.int ((105 : Int32).toInt8.toInt32)), (.int ((118 : Int32).toInt8.toInt32)), (.int ((101 : Int32).toInt8.toInt32)), (.int ((110 : Int32).toInt8.toInt32)), (.int ((32 : Int32).toInt8.toInt32)), (.int ((116 : Int32).toInt8.toInt32)), (.int ((119 : Int32).toInt8.toInt32)), (.int ((105 : Int32).toInt8.toInt32)), (.int ((99 : Int32).toInt8.toInt32)), (.int ((101 : Int32).toInt8.toInt32)), (.int ((44 : Int32).toInt8.toInt32)), (.int ((32 : Int32).toInt8.toInt32)), (.int ((102 : Int32).toInt8.toInt32)), (.int ((105 : Int32).toInt8.toInt32)), (.int ((114 : Int32).toInt8.toInt32)), (.int ((115 : Int32).toInt8.toInt32)), (.int ((116 : Int32).toInt8.toInt32)), (.int ((32 : Int32).toInt8.toInt32)), (.int ((111 : Int32).toInt8.toInt32)), (.int ((110 : Int32).toInt8.toInt32)), (.int ((32 : Int32).toInt8.toInt32)), (.int ((108 : Int32).toInt8.toInt32)), (.int ((105 : Int32).toInt8.toInt32)), (.int ((110 : Int32).toInt8.toInt32)), (.int ((101 : Int32).toInt8.toInt32)), (.int ((32 : Int32).toInt8.toInt32)), (.int (x2.toInt8.toInt32))] (.int 0)
theorem ef_cmp3_34 (m : MethodId) (a1 : Addr) (k1 : ClassId) (x0 : Int32) (x1 : Int32) (x2 : Int32) : entryFrame m #[(.ref a1), (.int 0), (.int 34)] 6 = mkF m 0 #[(vR a1), (vI 0), (vI 34), .unset, .unset, .unset] [] := by first | (simp [entryFrame, mkF, argsToLocals, Value.category]; done) | rfl
set_option maxRecDepth 65536 in
set_option maxHeartbeats 40000000 in
theorem rm_cmp3_34 (l : Launch) (Z : State) (a0 : Array Value) (hw : oW a0 Z) (ws : List Jvm.Cond) (a1 : Addr) (k1 : ClassId) (x0 : Int32) (x1 : Int32) (x2 : Int32) (h0 : Heap) (n0 : Nat) (Z0 : n0 ≤ h0.size) (V1 : Arv Z h0 a1 k1 .char (34 : Int32) [(.int x0), (.int x1), (.int 32), (.int 105), (.int 115), (.int 32), (.int 103), (.int 105), (.int 118), (.int 101), (.int 110), (.int 32), (.int 116), (.int 119), (.int 105), (.int 99), (.int 101), (.int 44), (.int 32), (.int 102), (.int 105), (.int 114), (.int 115), (.int 116), (.int 32), (.int 111), (.int 110), (.int 32), (.int 108), (.int 105), (.int 110), (.int 101), (.int 32), (.int x2)] (.int 0)) (hx0a : ¬ x0 < 0) (hx0b : ¬ (255 : Int32) < x0) (hx1a : ¬ x1 < 0) (hx1b : ¬ (255 : Int32) < x1) (hx2a : ¬ x2 < 0) (hx2b : ¬ (255 : Int32) < x2) :
    oM l oY16 jdk_52_method_16_code 6 (some (.array .byte)) ws (own_R 1 1 34 30) #[(.ref a1), (.int 0), (.int 34)] Z h0 (Q_cmp3_34 Z a1 k1 x0 x1 x2 h0 n0) := by
  refine own_open (n0 := n0) (cn := "java/lang/StringUTF16") rfl (plainFor_of_name pn_java_lang_StringUTF16) (fun m => ef_cmp3_34 m a1 k1 x0 x1 x2) ?_
  intro p e s m below meth c s₁ P hx hby hml hown hnm X0 e0 N0 hlk hret hZ hP
  refine w_iloadN X0 hx hby dj52_16_0 rfl ?_
  obtain ⟨T11, h11, k11, X11, e11, E11, A11, st11⟩ := newP X0 hx hZ (aty := .byte) (tw_20 hw) e0 (g := (mkF m 1 #[(vR a1), (vI 0), (vI 34), .unset, .unset, .unset] [(.int 34)])) rfl (hb hby dj52_16_1) rfl (by decide) (cap := 34) (by decide) (by decide) (by decide) (by decide)
  obtain ⟨b11, g11⟩ : ∃ z, z = h0.size := ⟨_, rfl⟩
  rw [← g11] at A11 st11
  have g_b11 : n0 ≤ b11 := Nat.le_trans Z0 (Nat.le_of_eq g11.symm)
  have sz_b11 : h0.size ≤ b11 := Nat.le_trans (Keep.refl h0 []).1 (Nat.le_of_eq g11.symm)
  have ne_a1_b11 : a1 ≠ b11 := Nat.ne_of_lt (Nat.lt_of_lt_of_le (V1.lt) (Nat.le_of_eq g11.symm))
  have f11_0 := (Nat.le_trans Z0 E11.1)
  have f11_1 := (Keep.ext (Keep.refl h0 []) E11)
  have f11_2 := (Arv.ext V1 E11)
  refine Go.by st11 ?_
  have V11 : Arv Z h11 b11 k11 .byte (34 : Int32) [(.int 0), (.int 0), (.int 0), (.int 0), (.int 0), (.int 0), (.int 0), (.int 0), (.int 0), (.int 0), (.int 0), (.int 0), (.int 0), (.int 0), (.int 0), (.int 0), (.int 0), (.int 0), (.int 0), (.int 0), (.int 0), (.int 0), (.int 0), (.int 0), (.int 0), (.int 0), (.int 0), (.int 0), (.int 0), (.int 0), (.int 0), (.int 0), (.int 0), (.int 0)] (.int 0) := (Arv.new A11 (by decide)).pad (pad_rep [] (.int 0) 34)
  show oG p e below P m T11 3 #[(vR a1), (vI 0), (vI 34), .unset, .unset, .unset] [(.ref b11)]
  refine w_astoreN X11 hx hby dj52_16_3 rfl (l' := #[(vR a1), (vI 0), (vI 34), (vR b11), .unset, .unset]) rfl ?_
  refine w_aloadN X11 hx hby dj52_16_4 rfl rfl ?_
  refine w_iloadN X11 hx hby dj52_16_5 rfl ?_
  refine w_aloadN X11 hx hby dj52_16_6 rfl rfl ?_
  refine w_iconst X11 hx hby dj52_16_7 (v := 0) rfl ?_
  refine w_iloadN X11 hx hby dj52_16_8 rfl ?_
  obtain ⟨_, _, ⟨T12, L12, k12, n12⟩, -, X12, ⟨Lc12, hQ12, l12, y12, z12⟩, st12⟩ := Jvm.LawKit.callS X11 hx (y := oY15) hown (mvT hZ (tw_21 hw)) (mvT hZ (tw_22 hw)) (mvT hZ (tw_18 hw)) (mvT hZ (tw_23 hw)) (by decide) (backOf (W := 0) (rm_cmp5_34 l Z a0 hw [] a1 k1 b11 k11 x0 x1 x2 h11 n0 f11_0 f11_2 V11 ne_a1_b11 g_b11 hx0a hx0b hx1a hx1b hx2a hx2b) hZ (tw_23 hw) (tw_18 hw) (by decide) (by decide)) (g := (mkF m 9 #[(vR a1), (vI 0), (vI 34), (vR b11), .unset, .unset] [(.int 34), (.int 0), (.ref b11), (.int 0), (.ref a1)])) rfl (by rw [hml]; rfl) (argsL := [(.ref a1), (.int 0), (.ref b11), (.int 0), (.int 34)]) (rest := []) (lenOf pd___CI_BII_I rfl) rfl (by show 2 * 0 + _ ≤ _; exact Nat.le_of_eq rfl) (hb hby dj52_16_9) (fun _ _ => ⟨rfl, e11, (by decide : 1 + 0 ≤ _), (by decide : 34 + 0 ≤ _)⟩)
  dsimp only [Pt.U, Pt.locs, Pt.cells, Pt.slots] at X12 l12 y12 z12 st12 hQ12
  subst l12 y12 z12
  obtain ⟨rfl, N12q, K12, V12⟩ := hQ12
  have N12 := Fr.app N0 N12q
  refine Go.by (fun t k => st12 t k) ?_
  have f12_0 := (Nat.le_trans f11_0 K12.1)
  have f12_1 := (Keep.trans f11_1 K12 (allS (Or.inr sz_b11) all0))
  have f12_2 := (Arv.keep f11_2 K12 (ninS ne_a1_b11 nin0))
  show oG p e below P m T12 12 #[(vR a1), (vI 0), (vI 34), (vR b11), .unset, .unset] [(.int 34)]
  refine w_istore X12 hx hby dj52_16_12 (l' := #[(vR a1), (vI 0), (vI 34), (vR b11), (vI 34), .unset]) rfl ?_
  refine w_iload X12 hx hby dj52_16_14 rfl ?_
  refine w_iloadN X12 hx hby dj52_16_16 rfl ?_
  refine w_icmpYes X12 hx hby dj52_16_17 (pc' := 57) (XT.ii_eq_t (by decide : (34 : Int32) = (34 : Int32))) (by decide) ?_
  refine w_aloadN X12 hx hby dj52_16_57 rfl rfl ?_
  refine own_fin hP hlk X12 (v := some (.ref b11)) (fun h => by rw [hret] at h; cases h) (by decide) (by decide) ?_ (fun fs hr => retOut X12 hx hret rfl (Or.inr (Or.inr (Or.inr (Or.inr ⟨rfl, rfl, rfl⟩)))) (hb hby dj52_16_58) hr)
  exact ⟨b11, k11, rfl, N12, f12_1, sz_b11, V12⟩
def Q_cfal_34 (Z : State) (a1 : Addr) (k1 : ClassId) (x0 : Int32) (x1 : Int32) (x2 : Int32) (h0 : Heap) (n0 : Nat) (v : Option Value) (h : Heap) (L : List Loc) : Prop := v = some (.int 0) ∧ Fr n0 L ∧ h = h0
theorem ef_cfal_34 (m : MethodId) (a1 : Addr) (k1 : ClassId) (x0 : Int32) (x1 : Int32) (x2 : Int32) : entryFrame m #[(.ref a1), (.int 34)] 2 = mkF m 0 #[(vR a1), (vI 34)] [] := by first | (simp [entryFrame, mkF, argsToLocals, Value.category]; done) | rfl
set_option maxRecDepth 65536 in
set_option maxHeartbeats 40000000 in
theorem rm_cfal_34 (l : Launch) (Z : State) (a0 : Array Value) (hw : oW a0 Z) (ws : List Jvm.Cond) (a1 : Addr) (k1 : ClassId) (x0 : Int32) (x1 : Int32) (x2 : Int32) (h0 : Heap) (n0 : Nat) (Z0 : n0 ≤ h0.size) (V1 : Arv Z h0 a1 k1 .byte (34 : Int32) [(.int (x0.toInt8.toInt32)), (.int (x1.toInt8.toInt32)), (.int ((32 : Int32).toInt8.toInt32)), (.int ((105 : Int32).toInt8.toInt32)), (.int ((115 : Int32).toInt8.toInt32)), (.int ((32 : Int32).toInt8.toInt32)), (.int ((103 : Int32).toInt8.toInt32)), (.int ((105 : Int32).toInt8.toInt32)), (.int ((118 : Int32).toInt8.toInt32)), (.int ((101 : Int32).toInt8.toInt32)), (.int ((110 : Int32).toInt8.toInt32)), (.int ((32 : Int32).toInt8.toInt32)), (.int ((116 : Int32).toInt8.toInt32)), (.int ((119 : Int32).toInt8.toInt32)), (.int ((105 : Int32).toInt8.toInt32)), (.int ((99 : Int32).toInt8.toInt32)), (.int ((101 : Int32).toInt8.toInt32)), (.int ((44 : Int32).toInt8.toInt32)), (.int ((32 : Int32).toInt8.toInt32)), (.int ((102 : Int32).toInt8.toInt32)), (.int ((105 : Int32).toInt8.toInt32)), (.int ((114 : Int32).toInt8.toInt32)), (.int ((115 : Int32).toInt8.toInt32)), (.int ((116 : Int32).toInt8.toInt32)), (.int ((32 : Int32).toInt8.toInt32)), (.int ((111 : Int32).toInt8.toInt32)), (.int ((110 : Int32).toInt8.toInt32)), (.int ((32 : Int32).toInt8.toInt32)), (.int ((108 : Int32).toInt8.toInt32)), (.int ((105 : Int32).toInt8.toInt32)), (.int ((110 : Int32).toInt8.toInt32)), (.int ((101 : Int32).toInt8.toInt32)), (.int ((32 : Int32).toInt8.toInt32)), (.int (x2.toInt8.toInt32))] (.int 0)) :
    oM l oY17 jdk_52_method_15_code 2 (some .byte) ws (own_R 0 0 0 0) #[(.ref a1), (.int 34)] Z h0 (Q_cfal_34 Z a1 k1 x0 x1 x2 h0 n0) := by
  refine own_open (n0 := n0) (cn := "java/lang/StringUTF16") rfl (plainFor_of_name pn_java_lang_StringUTF16) (fun m => ef_cfal_34 m a1 k1 x0 x1 x2) ?_
  intro p e s m below meth c s₁ P hx hby hml hown hnm X0 e0 N0 hlk hret hZ hP
  refine w_iloadN X0 hx hby dj52_15_0 rfl ?_
  refine w_aloadN X0 hx hby dj52_15_1 rfl rfl ?_
  have av11 := V1
  obtain ⟨cl11, Ar11, -, Sz11, Nn11, -, -⟩ := av11
  refine Go.by (X0.arraylength hx (by rw [e0]; exact Ar11.1) (State.isArrayOf_alike hZ.alike Ar11.2.1) (g := (mkF m 2 #[(vR a1), (vI 34)] [(.ref a1), (.int 34)])) rfl rfl (hb hby dj52_15_2)) ?_
  rw [len_of Sz11 Nn11]
  show oG p e below P m s₁ 3 #[(vR a1), (vI 34)] [(.int 34), (.int 34)]
  refine w_isub X0 hx hby dj52_15_3 (v := 0) rfl ?_
  refine w_bipush X0 hx hby dj52_15_4 (v := 31) rfl ?_
  refine Go.by (fun _ => XS.iushr X0.here hx rfl (hb hby dj52_15_6) rfl) ?_
  show oG p e below P m s₁ 7 #[(vR a1), (vI 34)] [(.int (((0 : Int32).toUInt32 >>> ((31 : Int32) &&& 31).toUInt32).toInt32))]
  refine Go.by (fun _ => XS.i2b X0.here hx rfl (hb hby dj52_15_7) rfl) ?_
  show oG p e below P m s₁ 8 #[(vR a1), (vI 34)] [(.int ((((0 : Int32).toUInt32 >>> ((31 : Int32) &&& 31).toUInt32).toInt32).toInt8.toInt32))]
  show oG p e below P m s₁ 8 #[(vR a1), (vI 34)] [(.int 0)]
  refine own_fin hP hlk X0 (v := some (.int 0)) (fun h => by rw [hret] at h; cases h) (by decide) (by decide) ?_ (fun fs hr => retOut X0 hx hret rfl (Or.inl ⟨rfl, Or.inr (Or.inr (Or.inl rfl)), _, rfl⟩) (hb hby dj52_15_8) hr)
  rw [e0]
  exact ⟨rfl, N0, rfl⟩
def Q_si4_34 (Z : State) (a0_ : Addr) (a1 : Addr) (k1 : ClassId) (x0 : Int32) (x1 : Int32) (x2 : Int32) (cs : Int32) (h0 : Heap) (n0 : Nat) (v : Option Value) (h : Heap) (L : List Loc) : Prop := v = none ∧ Fr n0 L ∧ Keep h0 h [a0_] ∧ Fld Z h a0_ "java/lang/String" "coder" "B" (.int 0) ∧ ∃ d k, h0.size ≤ d ∧ Fld Z h a0_ "java/lang/String" "value" "[B" (.ref d) ∧ Arv Z h d k .byte (34 : Int32) [(.int (x0.toInt8.toInt32)), (.int (x1.toInt8.toInt32)), (.int ((32 : Int32).toInt8.toInt32)), (.int ((105 : Int32).toInt8.toInt32)), (.int ((115 : Int32).toInt8.toInt32)), (.int ((32 : Int32).toInt8.toInt32)), (.int ((103 : Int32).toInt8.toInt32)), (.int ((105 : Int32).toInt8.toInt32)), (.int ((118 : Int32).toInt8.toInt32)), (.int ((101 : Int32).toInt8.toInt32)), (.int ((110 : Int32).toInt8.toInt32)), (.int ((32 : Int32).toInt8.toInt32)), (.int ((116 : Int32).toInt8.toInt32)), (.int ((119 : Int32).toInt8.toInt32)), (.int ((105 : Int32).toInt8.toInt32)), (.int ((99 : Int32).toInt8.toInt32)), (.int ((101 : Int32).toInt8.toInt32)), (.int ((44 : Int32).toInt8.toInt32)), (.int ((32 : Int32).toInt8.toInt32)), (.int ((102 : Int32).toInt8.toInt32)), (.int ((105 : Int32).toInt8.toInt32)), (.int ((114 : Int32).toInt8.toInt32)), (.int ((115 : Int32).toInt8.toInt32)), (.int ((116 : Int32).toInt8.toInt32)), (.int ((32 : Int32).toInt8.toInt32)), (.int ((111 : Int32).toInt8.toInt32)), (.int ((110 : Int32).toInt8.toInt32)), (.int ((32 : Int32).toInt8.toInt32)), (.int ((108 : Int32).toInt8.toInt32)), (.int ((105 : Int32).toInt8.toInt32)), (.int ((110 : Int32).toInt8.toInt32)), (.int ((101 : Int32).toInt8.toInt32)), (.int ((32 : Int32).toInt8.toInt32)), (.int (x2.toInt8.toInt32))] (.int 0)
theorem ef_si4_34 (m : MethodId) (a0_ : Addr) (a1 : Addr) (k1 : ClassId) (x0 : Int32) (x1 : Int32) (x2 : Int32) (cs : Int32) : entryFrame m #[(.ref a0_), (.ref a1), (.int 0), (.int 34), .null] 6 = mkF m 0 #[(vR a0_), (vR a1), (vI 0), (vI 34), .val .null, .unset] [] := by first | (simp [entryFrame, mkF, argsToLocals, Value.category]; done) | rfl
set_option maxRecDepth 65536 in
set_option maxHeartbeats 40000000 in
theorem rm_si4_34 (l : Launch) (Z : State) (a0 : Array Value) (hw : oW a0 Z) (ws : List Jvm.Cond) (a0_ : Addr) (a1 : Addr) (k1 : ClassId) (x0 : Int32) (x1 : Int32) (x2 : Int32) (cs : Int32) (h0 : Heap) (n0 : Nat) (Z0 : n0 ≤ h0.size) (O0 : Old Z n0 h0) (Scs : Sta Z Z.heap "java/lang/String" "COMPACT_STRINGS" "Z" (.int cs)) (hcs : ¬ cs = (0 : Int32)) (E0 : Exa Z h0 a0_ "java/lang/String") (g_a0_ : n0 ≤ a0_) (F0c : Fld Z h0 a0_ "java/lang/String" "coder" "B" (.int 0)) (F0v : Fld Z h0 a0_ "java/lang/String" "value" "[B" .null) (V1 : Arv Z h0 a1 k1 .char (34 : Int32) [(.int x0), (.int x1), (.int 32), (.int 105), (.int 115), (.int 32), (.int 103), (.int 105), (.int 118), (.int 101), (.int 110), (.int 32), (.int 116), (.int 119), (.int 105), (.int 99), (.int 101), (.int 44), (.int 32), (.int 102), (.int 105), (.int 114), (.int 115), (.int 116), (.int 32), (.int 111), (.int 110), (.int 32), (.int 108), (.int 105), (.int 110), (.int 101), (.int 32), (.int x2)] (.int 0)) (hx0a : ¬ x0 < 0) (hx0b : ¬ (255 : Int32) < x0) (hx1a : ¬ x1 < 0) (hx1b : ¬ (255 : Int32) < x1) (hx2a : ¬ x2 < 0) (hx2b : ¬ (255 : Int32) < x2) :
    oM l oY18 jdk_42_method_149_code 6 none ws (own_R 2 1 34 50) #[(.ref a0_), (.ref a1), (.int 0), (.int 34), .null] Z h0 (Q_si4_34 Z a0_ a1 k1 x0 x1 x2 cs h0 n0) := by
  refine own_open (n0 := n0) (cn := "java/lang/String") rfl (plainFor_of_name pn_java_lang_String) (fun m => ef_si4_34 m a0_ a1 k1 x0 x1 x2 cs) ?_
  intro p e s m below meth c s₁ P hx hby hml hown hnm X0 e0 N0 hlk hret hZ hP
  have ne01 : a0_ ≠ a1 := fun q => by obtain ⟨c, Ar, -⟩ := V1; exact ne_arr E0 (tw_3 hw) Ar q
  show oG p e below P m s₁ 0 #[(vR a0_), (vR a1), (vI 0), (vI 34), .val .null, .unset] []
  refine w_aloadN X0 hx hby dj42_149_0 rfl rfl ?_
  obtain ⟨T11, X11, e11, st11⟩ := initO X0 hx hZ hown (tw_12 hw) (tw_13 hw) (tw_14 hw) e0 (g := (mkF m 1 #[(vR a0_), (vR a1), (vI 0), (vI 34), .val .null, .unset] [(.ref a0_)])) rfl (by rw [hml]; rfl) rfl (hb hby dj42_149_1) (by decide) (W := 0) (by show 2 * 0 + _ ≤ _; exact Nat.le_of_eq rfl) (by decide)
  refine Go.by st11 ?_
  show oG p e below P m T11 4 #[(vR a0_), (vR a1), (vI 0), (vI 34), .val .null, .unset] []
  refine w_iloadN X11 hx hby dj42_149_4 rfl ?_
  refine w_ifYes X11 hx hby dj42_149_5 (pc' := 27) (XT.i0_ne_t (by decide : ¬ (34 : Int32) = (0 : Int32))) (by decide) ?_
  obtain ⟨T12, X12, e12, st12⟩ := getS2 X11 hx hZ hown (host := "") (Or.inl (tw_15 hw)) Via.refl e11 (Scs.ext O0.2) (g := (mkF m 27 #[(vR a0_), (vR a1), (vI 0), (vI 34), .val .null, .unset] [])) rfl (hb hby dj42_149_27)
  refine Go.by st12 ?_
  show oG p e below P m T12 30 #[(vR a0_), (vR a1), (vI 0), (vI 34), .val .null, .unset] [(.int cs)]
  refine w_ifNo X12 hx hby dj42_149_30 (XT.i0_eq_f hcs) ?_
  refine w_aloadN X12 hx hby dj42_149_33 rfl rfl ?_
  refine w_iloadN X12 hx hby dj42_149_34 rfl ?_
  refine w_iloadN X12 hx hby dj42_149_35 rfl ?_
  obtain ⟨_, _, ⟨T13, L13, k13, n13⟩, -, X13, ⟨Lc13, hQ13, l13, y13, z13⟩, st13⟩ := Jvm.LawKit.callS X12 hx (y := oY16) hown (mvT hZ (tw_16 hw)) (mvT hZ (tw_17 hw)) (mvT hZ (tw_18 hw)) (mvT hZ (tw_19 hw)) (by decide) (backOf (W := 0) (rm_cmp3_34 l Z a0 hw [] a1 k1 x0 x1 x2 h0 n0 Z0 V1 hx0a hx0b hx1a hx1b hx2a hx2b) hZ (tw_19 hw) (tw_18 hw) (by decide) (by decide)) (g := (mkF m 36 #[(vR a0_), (vR a1), (vI 0), (vI 34), .val .null, .unset] [(.int 34), (.int 0), (.ref a1)])) rfl (by rw [hml]; rfl) (argsL := [(.ref a1), (.int 0), (.int 34)]) (rest := []) (lenOf pd___CII__B rfl) rfl (by show 2 * 0 + _ ≤ _; exact Nat.le_of_eq rfl) (hb hby dj42_149_36) (fun _ _ => ⟨rfl, e12, (by decide : 0 + 1 ≤ _), (by decide : 0 + 34 ≤ _)⟩)
  dsimp only [Pt.U, Pt.locs, Pt.cells, Pt.slots] at X13 l13 y13 z13 st13 hQ13
  subst l13 y13 z13
  obtain ⟨d13, kd13, rfl, N13q, K13, z13, V13⟩ := hQ13
  have N13 := Fr.app N0 N13q
  refine Go.by (fun t k => st13 t k) ?_
  have f13_0 := (Nat.le_trans Z0 K13.1)
  have f13_1 := (Keep.trans (Keep.refl h0 [a0_]) K13 all0)
  have f13_2 := (Old.keep O0 K13 all0)
  have f13_3 := (Exa.keep E0 K13)
  have f13_4 := (Fld.keep F0c K13 nin0)
  have f13_5 := (Fld.keep F0v K13 nin0)
  have f13_6 := (Arv.keep V1 K13 nin0)
  have g_d13 : n0 ≤ d13 := Nat.le_trans Z0 z13
  have sz_d13 : h0.size ≤ d13 := z13
  have ne0d13 : a0_ ≠ d13 := Nat.ne_of_lt (Nat.lt_of_lt_of_le E0.lt z13)
  show oG p e below P m T13 39 #[(vR a0_), (vR a1), (vI 0), (vI 34), .val .null, .unset] [(.ref d13)]
  refine w_astore X13 hx hby dj42_149_39 rfl (l' := #[(vR a0_), (vR a1), (vI 0), (vI 34), .val .null, (vR d13)]) rfl ?_
  refine w_aloadN X13 hx hby dj42_149_41 rfl rfl ?_
  refine w_aload X13 hx hby dj42_149_42 rfl rfl ?_
  refine w_iloadN X13 hx hby dj42_149_44 rfl ?_
  obtain ⟨_, _, ⟨T14, L14, k14, n14⟩, -, X14, ⟨Lc14, hQ14, l14, y14, z14⟩, st14⟩ := Jvm.LawKit.callS X13 hx (y := oY17) hown (mvT hZ (tw_24 hw)) (mvT hZ (tw_25 hw)) (mvT hZ (tw_18 hw)) (mvT hZ (tw_26 hw)) (by decide) (backOf (W := 1) (rm_cfal_34 l Z a0 hw [] d13 kd13 x0 x1 x2 T13.heap n0 f13_0 V13) hZ (tw_26 hw) (tw_18 hw) (by decide) (by decide)) (g := (mkF m 45 #[(vR a0_), (vR a1), (vI 0), (vI 34), .val .null, (vR d13)] [(.int 34), (.ref d13), (.ref a0_)])) rfl (by rw [hml]; rfl) (argsL := [(.ref d13), (.int 34)]) (rest := [(.ref a0_)]) (lenOf pd___BI_B rfl) rfl (by show 2 * 0 + _ ≤ _; exact Nat.le_of_eq rfl) (hb hby dj42_149_45) (fun _ _ => ⟨rfl, rfl, (by decide : 1 + 0 ≤ _), (by decide : 34 + 0 ≤ _)⟩)
  dsimp only [Pt.U, Pt.locs, Pt.cells, Pt.slots] at X14 l14 y14 z14 st14 hQ14
  subst l14 y14 z14
  obtain ⟨rfl, N14q, q14⟩ := hQ14
  have N14 := Fr.app N13 N14q
  refine Go.by (fun t k => st14 t k) ?_
  obtain ⟨T15, h15, X15, e15, W15, st15⟩ := putFN X14 hx hZ hown (tw_27 hw) Via.refl q14 f13_4 f13_3 (Or.inr ⟨(tw_28 hw), rfl, hnm⟩) (tw_3 hw) (ty := .byte) (v' := (.int 0)) (by decide) rfl rfl (g := (mkF m 48 #[(vR a0_), (vR a1), (vI 0), (vI 34), .val .null, (vR d13)] [(.int 0), (.ref a0_)])) rfl rfl (hb hby dj42_149_48)
  refine Go.by st15 ?_
  have N15 := Fr.snoc X15 N14 g_a0_
  have f15_0 := (Nat.le_trans f13_0 (Keep.of_wr W15).1)
  have f15_1 := (Keep.wr f13_1 W15 (Or.inl (List.mem_of_getElem? (i := 0) rfl)))
  have f15_2 := (Old.wr f13_2 W15 g_a0_)
  have f15_3 := (Exa.wr W15 f13_3)
  have f15_4 := (Fld.same W15 f13_4)
  have f15_5 := (Fld.other W15 f13_5 (Or.inr (slot_ne (Or.inr (tw_30 hw)) (Or.inr (tw_28 hw)) (by decide) (t := (.array .byte)) (t' := .byte) (by decide) (by decide))))
  have f15_6 := (Arv.other f13_6 W15 (Ne.symm ne01))
  have f15_7 := (Arv.other V13 W15 (Ne.symm ne0d13))
  show oG p e below P m T15 51 #[(vR a0_), (vR a1), (vI 0), (vI 34), .val .null, (vR d13)] []
  refine w_aloadN X15 hx hby dj42_149_51 rfl rfl ?_
  refine w_aload X15 hx hby dj42_149_52 rfl rfl ?_
  obtain ⟨T16, h16, X16, e16, W16, st16⟩ := putF X15 hx hZ hown (host := "") (Or.inl (tw_29 hw)) Via.refl e15 f15_5 f15_3 (Or.inr ⟨(tw_30 hw), rfl, hnm⟩) (tw_3 hw) (ty := (.array .byte)) (by decide) rfl rfl (g := (mkF m 54 #[(vR a0_), (vR a1), (vI 0), (vI 34), .val .null, (vR d13)] [(.ref d13), (.ref a0_)])) rfl rfl (hb hby dj42_149_54)
  refine Go.by st16 ?_
  have N16 := Fr.snoc X16 N15 g_a0_
  have f16_0 := (Nat.le_trans f15_0 (Keep.of_wr W16).1)
  have f16_1 := (Keep.wr f15_1 W16 (Or.inl (List.mem_of_getElem? (i := 0) rfl)))
  have f16_2 := (Old.wr f15_2 W16 g_a0_)
  have f16_3 := (Exa.wr W16 f15_3)
  have f16_4 := (Fld.other W16 f15_4 (Or.inr (slot_ne (Or.inr (tw_28 hw)) (Or.inr (tw_30 hw)) (by decide) (t := .byte) (t' := (.array .byte)) (by decide) (by decide))))
  have f16_5 := (Fld.same W16 f15_5)
  have f16_6 := (Arv.other f15_6 W16 (Ne.symm ne01))
  have f16_7 := (Arv.other f15_7 W16 (Ne.symm ne0d13))
  show oG p e below P m T16 57 #[(vR a0_), (vR a1), (vI 0), (vI 34), .val .null, (vR d13)] []
  refine own_fin hP hlk X16 (v := none) (fun _ => rfl) (by decide) (by decide) ?_ (fun fs hr => X16.returnOut hx hret (hb hby dj42_149_57) hr)
  rw [e16]
  exact ⟨rfl, N16, f16_1, f16_4, d13, kd13, sz_d13, f16_5, f16_7⟩
def Q_si1_34 (Z : State) (a0_ : Addr) (a1 : Addr) (k1 : ClassId) (x0 : Int32) (x1 : Int32) (x2 : Int32) (cs : Int32) (h0 : Heap) (n0 : Nat) (v : Option Value) (h : Heap) (L : List Loc) : Prop := v = none ∧ Fr n0 L ∧ Keep h0 h [a0_] ∧ Fld Z h a0_ "java/lang/String" "coder" "B" (.int 0) ∧ ∃ d k, h0.size ≤ d ∧ Fld Z h a0_ "java/lang/String" "value" "[B" (.ref d) ∧ Arv Z h d k .byte (34 : Int32) [(.int (x0.toInt8.toInt32)), (.int (x1.toInt8.toInt32)), (.int ((32 : Int32).toInt8.toInt32)), (.int ((105 : Int32).toInt8.toInt32)), (.int ((115 : Int32).toInt8.toInt32)), (.int ((32 : Int32).toInt8.toInt32)), (.int ((103 : Int32).toInt8.toInt32)), (.int ((105 : Int32).toInt8.toInt32)), (.int ((118 : Int32).toInt8.toInt32)), (.int ((101 : Int32).toInt8.toInt32)), (.int ((110 : Int32).toInt8.toInt32)), (.int ((32 : Int32).toInt8.toInt32)), (.int ((116 : Int32).toInt8.toInt32)), (.int ((119 : Int32).toInt8.toInt32)), (.int ((105 : Int32).toInt8.toInt32)), (.int ((99 : Int32).toInt8.toInt32)), (.int ((101 : Int32).toInt8.toInt32)), (.int ((44 : Int32).toInt8.toInt32)), (.int ((32 : Int32).toInt8.toInt32)), (.int ((102 : Int32).toInt8.toInt32)), (.int ((105 : Int32).toInt8.toInt32)), (.int ((114 : Int32).toInt8.toInt32)), (.int ((115 : Int32).toInt8.toInt32)), (.int ((116 : Int32).toInt8.toInt32)), (.int ((32 : Int32).toInt8.toInt32)), (.int ((111 : Int32).toInt8.toInt32)), (.int ((110 : Int32).toInt8.toInt32)), (.int ((32 : Int32).toInt8.toInt32)), (.int ((108 : Int32).toInt8.toInt32)), (.int ((105 : Int32).toInt8.toInt32)), (.int ((110 : Int32).toInt8.toInt32)), (.int ((101 : Int32).toInt8.toInt32)), (.int ((32 : Int32).toInt8.toInt32)), (.int (x2.toInt8.toInt32))] (.int 0)
theorem ef_si1_34 (m : MethodId) (a0_ : Addr) (a1 : Addr) (k1 : ClassId) (x0 : Int32) (x1 : Int32) (x2 : Int32) (cs : Int32) : entryFrame m #[(.ref a0_), (.ref a1)] 2 = mkF m 0 #[(vR a0_), (vR a1)] [] := by first | (simp [entryFrame, mkF, argsToLocals, Value.category]; done) | rfl
set_option maxRecDepth 65536 in
set_option maxHeartbeats 40000000 in
theorem rm_si1_34 (l : Launch) (Z : State) (a0 : Array Value) (hw : oW a0 Z) (ws : List Jvm.Cond) (a0_ : Addr) (a1 : Addr) (k1 : ClassId) (x0 : Int32) (x1 : Int32) (x2 : Int32) (cs : Int32) (h0 : Heap) (n0 : Nat) (Z0 : n0 ≤ h0.size) (O0 : Old Z n0 h0) (Scs : Sta Z Z.heap "java/lang/String" "COMPACT_STRINGS" "Z" (.int cs)) (hcs : ¬ cs = (0 : Int32)) (E0 : Exa Z h0 a0_ "java/lang/String") (g_a0_ : n0 ≤ a0_) (F0c : Fld Z h0 a0_ "java/lang/String" "coder" "B" (.int 0)) (F0v : Fld Z h0 a0_ "java/lang/String" "value" "[B" .null) (V1 : Arv Z h0 a1 k1 .char (34 : Int32) [(.int x0), (.int x1), (.int 32), (.int 105), (.int 115), (.int 32), (.int 103), (.int 105), (.int 118), (.int 101), (.int 110), (.int 32), (.int 116), (.int 119), (.int 105), (.int 99), (.int 101), (.int 44), (.int 32), (.int 102), (.int 105), (.int 114), (.int 115), (.int 116), (.int 32), (.int 111), (.int 110), (.int 32), (.int 108), (.int 105), (.int 110), (.int 101), (.int 32), (.int x2)] (.int 0)) (hx0a : ¬ x0 < 0) (hx0b : ¬ (255 : Int32) < x0) (hx1a : ¬ x1 < 0) (hx1b : ¬ (255 : Int32) < x1) (hx2a : ¬ x2 < 0) (hx2b : ¬ (255 : Int32) < x2) :
    oM l oY19 jdk_42_method_3_code 2 none ws (own_R 3 1 34 75) #[(.ref a0_), (.ref a1)] Z h0 (Q_si1_34 Z a0_ a1 k1 x0 x1 x2 cs h0 n0) := by
  refine own_open (n0 := n0) (cn := "java/lang/String") rfl (plainFor_of_name pn_java_lang_String) (fun m => ef_si1_34 m a0_ a1 k1 x0 x1 x2 cs) ?_
  intro p e s m below meth c s₁ P hx hby hml hown hnm X0 e0 N0 hlk hret hZ hP
  have ne01 : a0_ ≠ a1 := fun q => by obtain ⟨c, Ar, -⟩ := V1; exact ne_arr E0 (tw_3 hw) Ar q
  show oG p e below P m s₁ 0 #[(vR a0_), (vR a1)] []
  refine w_aloadN X0 hx hby dj42_3_0 rfl rfl ?_
  refine w_aloadN X0 hx hby dj42_3_1 rfl rfl ?_
  refine w_iconst X0 hx hby dj42_3_2 (v := 0) rfl ?_
  refine w_aloadN X0 hx hby dj42_3_3 rfl rfl ?_
  have av35 := V1
  obtain ⟨cl35, Ar35, -, Sz35, Nn35, -, -⟩ := av35
  refine Go.by (X0.arraylength hx (by rw [e0]; exact Ar35.1) (State.isArrayOf_alike hZ.alike Ar35.2.1) (g := (mkF m 4 #[(vR a0_), (vR a1)] [(.ref a1), (.int 0), (.ref a1), (.ref a0_)])) rfl rfl (hb hby dj42_3_4)) ?_
  rw [len_of Sz35 Nn35]
  show oG p e below P m s₁ 5 #[(vR a0_), (vR a1)] [(.int 34), (.int 0), (.ref a1), (.ref a0_)]
  refine w_aconstNull X0 hx hby dj42_3_5 ?_
  obtain ⟨_, _, ⟨T36, L36, k36, n36⟩, -, X36, ⟨Lc36, hQ36, l36, y36, z36⟩, st36⟩ := X0.specialBack hx (y := oY18) rfl hown (mvT hZ (tw_8 hw)) (mvT hZ (tw_9 hw)) (mvT hZ (tw_11 hw)) (by decide) (backOf (W := 0) (rm_si4_34 l Z a0 hw [] a0_ a1 k1 x0 x1 x2 cs h0 n0 Z0 O0 Scs hcs E0 g_a0_ F0c F0v V1 hx0a hx0b hx1a hx1b hx2a hx2b) hZ (tw_11 hw) (tw_4 hw) (by decide) (by decide)) (g := (mkF m 6 #[(vR a0_), (vR a1)] [.null, (.int 34), (.int 0), (.ref a1), (.ref a0_)])) rfl (by rw [hml]; rfl) (Steps.refl _) (a := a0_) (argsL := [(.ref a1), (.int 0), (.int 34), .null]) (rest := []) (lenOf pd___CIILjava_lang_Void__V rfl) rfl (by show 2 * 0 + _ ≤ _; exact Nat.le_of_eq rfl) (hb hby dj42_3_6) (fun _ _ => ⟨rfl, e0, (by decide : 0 + 1 ≤ _), (by decide : 0 + 34 ≤ _)⟩)
  dsimp only [Pt.U, Pt.locs, Pt.cells, Pt.slots] at X36 l36 y36 z36 st36 hQ36
  subst l36 y36 z36
  obtain ⟨rfl, N36q, K36, Gc36, d36, kd36, z36, Gv36, V36⟩ := hQ36
  have N36 := Fr.app N0 N36q
  refine Go.by (fun t k => st36.trans k) ?_
  have f36_0 := (Nat.le_trans Z0 K36.1)
  have f36_1 := (Keep.trans (Keep.refl h0 [a0_]) K36 (allS (Or.inl (List.mem_of_getElem? (i := 0) rfl)) all0))
  have f36_2 := (Old.keep O0 K36 (allS g_a0_ all0))
  have f36_3 := (Exa.keep E0 K36)
  have f36_4 := (Arv.keep V1 K36 (ninS (Ne.symm ne01) nin0))
  show oG p e below P m T36 9 #[(vR a0_), (vR a1)] []
  refine own_fin hP hlk X36 (v := none) (fun _ => rfl) (by decide) (by decide) ?_ (fun fs hr => X36.returnOut hx hret (hb hby dj42_3_9) hr)
  exact ⟨rfl, N36, f36_1, Gc36, d36, kd36, z36, Gv36, V36⟩
def Q_law (Z : State) (p0 : Int32) (p1 : Int32) (p2 : Int32) (p3 : Int32) (D1 : Addr) (kD1 : ClassId) (D2 : Addr) (kD2 : ClassId) (u : Value) (sn : Value) (cs : Int32) (h0 : Heap) (n0 : Nat) (v : Option Value) (h : Heap) (L : List Loc) : Prop := v = some (.int 1) ∧ Fr n0 L
theorem ef_law (m : MethodId) (p0 : Int32) (p1 : Int32) (p2 : Int32) (p3 : Int32) (D1 : Addr) (kD1 : ClassId) (D2 : Addr) (kD2 : ClassId) (u : Value) (sn : Value) (cs : Int32) : entryFrame m #[(.int p0), (.int p1), (.int p2), (.int p3)] maxLocals = mkF m 0 #[(vI p0), (vI p1), (vI p2), (vI p3), .unset, .unset, .unset, .unset, .unset, .unset, .unset, .unset, .unset, .unset] [] := by first | (simp [entryFrame, mkF, argsToLocals, Value.category, maxLocals]; done) | rfl
set_option maxRecDepth 65536 in
set_option maxHeartbeats 40000000 in
theorem rm_law (l : Launch) (Z : State) (a0 : Array Value) (hw : oW a0 Z) (hEL : EW Z a0 own_EL) (ws : List Jvm.Cond) (p0 : Int32) (p1 : Int32) (p2 : Int32) (p3 : Int32) (D1 : Addr) (kD1 : ClassId) (D2 : Addr) (kD2 : ClassId) (u : Value) (sn : Value) (cs : Int32) (h0 : Heap) (n0 : Nat) (Z0 : n0 ≤ h0.size) (O0 : Old Z n0 h0) (Scs : Sta Z Z.heap "java/lang/String" "COMPACT_STRINGS" "Z" (.int cs)) (hcs : ¬ cs = (0 : Int32)) (Su : Sta Z Z.heap "java/lang/Throwable" "UNASSIGNED_STACK" "[Ljava/lang/StackTraceElement;" u) (hu : u.isRef = true) (Ssn : Sta Z Z.heap "java/lang/Throwable" "SUPPRESSED_SENTINEL" "Ljava/util/List;" sn) (hsn : sn.isRef = true) (hl : l.stackTraces = true) (S1 : Sta Z Z.heap "java/lang/Integer" "DigitOnes" "[B" (.ref D1)) (S2 : Sta Z Z.heap "java/lang/Integer" "DigitTens" "[B" (.ref D2)) (VD1 : Arv Z Z.heap D1 kD1 .byte (100 : Int32) own_ones (.int 0)) (VD2 : Arv Z Z.heap D2 kD2 .byte (100 : Int32) own_tens (.int 0)) :
    MetFree l x (head1 (Jvm.Cond.code x code maxLocals ret :: ws) room_1) (fun a U => a = #[(.int p0), (.int p1), (.int p2), (.int p3)] ∧ Z.Warmed39 U.vm ∧ U.heap = h0 ∧ CHv Z own_EL U.vm h0 ∧ ∀ x ∈ ([] : List Addr), Safe Z own_EL U.vm h0 x) (fun _ _ bl s _ => s.vm.MethodsKnown ∧ s.vm.FramesKnown bl) (fun _ U o U' => ∃ v L, o = .returned v ∧ Q_law Z p0 p1 p2 p3 D1 kD1 D2 kD2 u sn cs h0 n0 v U'.heap L ∧ CHr Z own_EL U.vm U.heap U'.vm U'.heap ∧ ReturnedEndW U o U' L room_1.cells room_1.slots) := by
  refine MetFree.of_bodySF (plainFor_of_name pn_com_example_carovita_carovita_index_CsvFormatExceptionGivenTwicePinLaw) hisR ?_
  intro p e s m args below meth c s₁ Bd hml0 hP hK
  obtain ⟨rfl, hZ, hh, hCH, hSf⟩ := hP
  have hx := Bd.exec
  have hby := Bd.bytes
  have hml : c.maxLocals = 14 := hml0
  have hown : s.vm.findClass "com/example/carovita/carovita/index/CsvFormatExceptionGivenTwicePinLaw" = some m.cls := findClass_of_methodNamed Bd.named
  have hnm := (name_of_methodNamed Bd.named Bd.method).1
  have X0 : Stand p l e room_1 (s.setVm s.vm) m #[(.int p0), (.int p1), (.int p2), (.int p3)] below meth c s₁ [] 0 0 := Stand.of_body Bd
  have e0 : s₁.heap = h0 := by rw [← hh, Bd.state]; rfl
  have N0 := Fr.nil n0
  have hZs := hZ
  have wS := own_wS hw
  have hS0 : s.Since s.vm s.heap.size := (State.WarmedH.refl s).since _
  have hk0 : s.heap.size ≤ h0.size := Nat.le_of_eq (congrArg Array.size hh)
  have hlk : meth.locks = false := Bd.notSynchronized
  obtain ⟨P, hP⟩ : ∃ P : Outcome → State → Prop, P = PQW s Z own_EL (Q_law Z p0 p1 p2 p3 D1 kD1 D2 kD2 u sn cs h0 n0) room_1.cells room_1.slots := ⟨_, rfl⟩
  suffices hgo : Go p e below P (s₁.setTop (mkF m 0 #[(vI p0), (vI p1), (vI p2), (vI p3), .unset, .unset, .unset, .unset, .unset, .unset, .unset, .unset, .unset, .unset] [])) by
    rw [hP] at hgo
    exact Go.by (fun t k => castTop (ef_law m p0 p1 p2 p3 D1 kD1 D2 kD2 u sn cs) k) hgo
  show oG p e below P m s₁ 0 #[(vI p0), (vI p1), (vI p2), (vI p3), .unset, .unset, .unset, .unset, .unset, .unset, .unset, .unset, .unset, .unset] []
  refine w_iloadN X0 hx hby at_0 rfl ?_
  refine w_sipush X0 hx hby at_1 (v := 255) rfl ?_
  refine w_iand X0 hx hby at_4 (v := (p1 &&& (255 : Int32))) rfl ?_
  refine Go.by (fun _ => XS.i2c X0.here hx rfl (hb hby at_5) rfl) ?_
  rw [i2c_mask]
  show oG p e below P m s₁ 6 #[(vI p0), (vI p1), (vI p2), (vI p3), .unset, .unset, .unset, .unset, .unset, .unset, .unset, .unset, .unset, .unset] [(.int (p1 &&& (255 : Int32)))]
  refine w_istore X0 hx hby at_6 (l' := #[(vI p0), (vI p1), (vI p2), (vI p3), (vI (p1 &&& (255 : Int32))), .unset, .unset, .unset, .unset, .unset, .unset, .unset, .unset, .unset]) rfl ?_
  refine w_iloadN X0 hx hby at_8 rfl ?_
  refine w_sipush X0 hx hby at_9 (v := 255) rfl ?_
  refine w_iand X0 hx hby at_12 (v := (p2 &&& (255 : Int32))) rfl ?_
  refine Go.by (fun _ => XS.i2c X0.here hx rfl (hb hby at_13) rfl) ?_
  rw [i2c_mask]
  show oG p e below P m s₁ 14 #[(vI p0), (vI p1), (vI p2), (vI p3), (vI (p1 &&& (255 : Int32))), .unset, .unset, .unset, .unset, .unset, .unset, .unset, .unset, .unset] [(.int (p2 &&& (255 : Int32)))]
  refine w_istore X0 hx hby at_14 (l' := #[(vI p0), (vI p1), (vI p2), (vI p3), (vI (p1 &&& (255 : Int32))), (vI (p2 &&& (255 : Int32))), .unset, .unset, .unset, .unset, .unset, .unset, .unset, .unset]) rfl ?_
  refine w_iloadN X0 hx hby at_16 rfl ?_
  refine Go.by (fun _ => Jvm.Stand.ldcI X0 hx hown (mvT hZ (tw_0 hw)) rfl (hb hby at_17)) ?_
  show oG p e below P m s₁ 19 #[(vI p0), (vI p1), (vI p2), (vI p3), (vI (p1 &&& (255 : Int32))), (vI (p2 &&& (255 : Int32))), .unset, .unset, .unset, .unset, .unset, .unset, .unset, .unset] [(.int 2147483647), (.int p3)]
  refine w_iand X0 hx hby at_19 (v := (p3 &&& (2147483647 : Int32))) rfl ?_
  refine w_bipush X0 hx hby at_20 (v := 10) rfl ?_
  refine Go.by (fun _ => iremM X0 hx rfl (hb hby at_22) rfl (by decide)) ?_
  show oG p e below P m s₁ 23 #[(vI p0), (vI p1), (vI p2), (vI p3), (vI (p1 &&& (255 : Int32))), (vI (p2 &&& (255 : Int32))), .unset, .unset, .unset, .unset, .unset, .unset, .unset, .unset] [(.int ((p3 &&& (2147483647 : Int32)) % (10 : Int32)))]
  obtain ⟨ee, hee⟩ : ∃ z, z = ((p3 &&& (2147483647 : Int32)) % (10 : Int32)) := ⟨_, rfl⟩
  rw [← hee]
  have her := own_n10 p3
  rw [← hee] at her
  clear hee
  show oG p e below P m s₁ 23 #[(vI p0), (vI p1), (vI p2), (vI p3), (vI (p1 &&& (255 : Int32))), (vI (p2 &&& (255 : Int32))), .unset, .unset, .unset, .unset, .unset, .unset, .unset, .unset] [(.int ee)]
  refine w_istore X0 hx hby at_23 (l' := #[(vI p0), (vI p1), (vI p2), (vI p3), (vI (p1 &&& (255 : Int32))), (vI (p2 &&& (255 : Int32))), (vI ee), .unset, .unset, .unset, .unset, .unset, .unset, .unset]) rfl ?_
  refine w_bipush X0 hx hby at_25 (v := 48) rfl ?_
  refine w_iload X0 hx hby at_27 rfl ?_
  refine w_iadd X0 hx hby at_29 (v := ((48 : Int32) + ee)) rfl ?_
  refine Go.by (fun _ => XS.i2c X0.here hx rfl (hb hby at_30) rfl) ?_
  show oG p e below P m s₁ 31 #[(vI p0), (vI p1), (vI p2), (vI p3), (vI (p1 &&& (255 : Int32))), (vI (p2 &&& (255 : Int32))), (vI ee), .unset, .unset, .unset, .unset, .unset, .unset, .unset] [(.int (((48 : Int32) + ee).toUInt32.toUInt16.toUInt32.toInt32))]
  obtain ⟨dg, hdg⟩ : ∃ z, z = (((48 : Int32) + ee).toUInt32.toUInt16.toUInt32.toInt32) := ⟨_, rfl⟩
  rw [← hdg]
  have hdr := own_dgr ee her
  rw [← hdg] at hdr
  clear hdg
  show oG p e below P m s₁ 31 #[(vI p0), (vI p1), (vI p2), (vI p3), (vI (p1 &&& (255 : Int32))), (vI (p2 &&& (255 : Int32))), (vI ee), .unset, .unset, .unset, .unset, .unset, .unset, .unset] [(.int dg)]
  refine w_istore X0 hx hby at_31 (l' := #[(vI p0), (vI p1), (vI p2), (vI p3), (vI (p1 &&& (255 : Int32))), (vI (p2 &&& (255 : Int32))), (vI ee), (vI dg), .unset, .unset, .unset, .unset, .unset, .unset]) rfl ?_
  refine w_iconst X0 hx hby at_33 (v := 2) rfl ?_
  obtain ⟨T11, h11, k11, X11, e11, E11, A11, st11⟩ := newP X0 hx hZ (aty := .char) (tw_1 hw) e0 (g := (mkF m 34 #[(vI p0), (vI p1), (vI p2), (vI p3), (vI (p1 &&& (255 : Int32))), (vI (p2 &&& (255 : Int32))), (vI ee), (vI dg), .unset, .unset, .unset, .unset, .unset, .unset] [(.int 2)])) rfl (hb hby at_34) rfl (by decide) (cap := 2) (by decide) (by decide) (by decide) (by decide)
  obtain ⟨b11, g11⟩ : ∃ z, z = h0.size := ⟨_, rfl⟩
  rw [← g11] at A11 st11
  have g_b11 : n0 ≤ b11 := Nat.le_trans Z0 (Nat.le_of_eq g11.symm)
  have sz_b11 : h0.size ≤ b11 := Nat.le_trans (Keep.refl h0 []).1 (Nat.le_of_eq g11.symm)
  have sf_b11 : Safe Z own_EL s.vm h0 b11 := Safe.new (Nat.le_of_eq g11.symm)
  have f11_0 := (Nat.le_trans Z0 E11.1)
  have f11_1 := (CHr.trans (CHr.refl hCH) (CHr.ext E11 (CHr.refl hCH).1))
  have f11_2 := (Nat.le_trans hk0 E11.1)
  have f11_3 := (Keep.ext (Keep.refl h0 []) E11)
  have f11_4 := (Old.ext O0 E11)
  have f11_5 := (Safe.ext E11 (CHr.refl hCH).1 sf_b11)
  refine Go.by st11 ?_
  have V11 : Arv Z h11 b11 k11 .char (2 : Int32) [(.int 0), (.int 0)] (.int 0) := (Arv.new A11 (by decide)).pad (pad_rep [] (.int 0) 2)
  show oG p e below P m T11 36 #[(vI p0), (vI p1), (vI p2), (vI p3), (vI (p1 &&& (255 : Int32))), (vI (p2 &&& (255 : Int32))), (vI ee), (vI dg), .unset, .unset, .unset, .unset, .unset, .unset] [(.ref b11)]
  refine w_dup X11 hx hby at_36 rfl ?_
  refine w_iconst X11 hx hby at_37 (v := 0) rfl ?_
  refine w_iload X11 hx hby at_38 rfl ?_
  have av12 := V11
  obtain ⟨cl12, Ar12, q12, Sz12, Nn12, Ha12, Gf12⟩ := av12
  have hin12 : ¬ ((0 : Int32) < 0 ∨ cl12.slots.size ≤ ((0 : Int32)).toNatClampNeg) := inb_of Sz12 ⟨by decide, by decide⟩
  obtain ⟨T13, h13, X13, e13, W13, st13⟩ := stC X11 hx hZ e11 Ar12 (j := (0 : Int32)) hin12 (g := (mkF m 40 #[(vI p0), (vI p1), (vI p2), (vI p3), (vI (p1 &&& (255 : Int32))), (vI (p2 &&& (255 : Int32))), (vI ee), (vI dg), .unset, .unset, .unset, .unset, .unset, .unset] [(.int (p1 &&& (255 : Int32))), (.int 0), (.ref b11), (.ref b11)])) rfl rfl (hb hby at_40)
  have W13' : Wr h11 h13 b11 ((0 : Int32)).toNatClampNeg (.int (p1 &&& (255 : Int32))) := (by have q : Wr h11 h13 b11 ((0 : Int32)).toNatClampNeg (.int (nar .char (p1 &&& (255 : Int32)))) := W13; rw [own_chr _ (own_m255 _).1 (own_m255 _).2] at q; exact q)
  have V13 : Arv Z h13 b11 k11 .char (2 : Int32) [(.int (p1 &&& (255 : Int32))), (.int 0)] (.int 0) := Arv.set Ar12 q12 Sz12 Nn12 Ha12 Gf12 (own_chf _ (own_m255 _).1 (own_m255 _).2) W13' 0 rfl (Nat.le_of_ble_eq_true rfl)
  have N13 := Fr.snoc X13 N0 g_b11
  have f13_0 := (Nat.le_trans f11_0 (Keep.of_wr W13).1)
  have f13_1 := (CHr.trans f11_1 (CHr.wr W13 f11_5 f11_1.1))
  have f13_2 := (Nat.le_trans f11_2 (Keep.of_wr W13).1)
  have f13_3 := (Keep.wr f11_3 W13 (Or.inr sz_b11))
  have f13_4 := (Old.wr f11_4 W13 g_b11)
  have f13_5 := (Safe.wr W13 f11_5 f11_1.1 f11_5)
  refine Go.by st13 ?_
  show oG p e below P m T13 41 #[(vI p0), (vI p1), (vI p2), (vI p3), (vI (p1 &&& (255 : Int32))), (vI (p2 &&& (255 : Int32))), (vI ee), (vI dg), .unset, .unset, .unset, .unset, .unset, .unset] [(.ref b11)]
  refine w_dup X13 hx hby at_41 rfl ?_
  refine w_iconst X13 hx hby at_42 (v := 1) rfl ?_
  refine w_iload X13 hx hby at_43 rfl ?_
  have av14 := V13
  obtain ⟨cl14, Ar14, q14, Sz14, Nn14, Ha14, Gf14⟩ := av14
  have hin14 : ¬ ((1 : Int32) < 0 ∨ cl14.slots.size ≤ ((1 : Int32)).toNatClampNeg) := inb_of Sz14 ⟨by decide, by decide⟩
  obtain ⟨T15, h15, X15, e15, W15, st15⟩ := stC X13 hx hZ e13 Ar14 (j := (1 : Int32)) hin14 (g := (mkF m 45 #[(vI p0), (vI p1), (vI p2), (vI p3), (vI (p1 &&& (255 : Int32))), (vI (p2 &&& (255 : Int32))), (vI ee), (vI dg), .unset, .unset, .unset, .unset, .unset, .unset] [(.int (p2 &&& (255 : Int32))), (.int 1), (.ref b11), (.ref b11)])) rfl rfl (hb hby at_45)
  have W15' : Wr h13 h15 b11 ((1 : Int32)).toNatClampNeg (.int (p2 &&& (255 : Int32))) := (by have q : Wr h13 h15 b11 ((1 : Int32)).toNatClampNeg (.int (nar .char (p2 &&& (255 : Int32)))) := W15; rw [own_chr _ (own_m255 _).1 (own_m255 _).2] at q; exact q)
  have V15 : Arv Z h15 b11 k11 .char (2 : Int32) [(.int (p1 &&& (255 : Int32))), (.int (p2 &&& (255 : Int32)))] (.int 0) := Arv.set Ar14 q14 Sz14 Nn14 Ha14 Gf14 (own_chf _ (own_m255 _).1 (own_m255 _).2) W15' 1 rfl (Nat.le_of_ble_eq_true rfl)
  have N15 := Fr.snoc X15 N13 g_b11
  have f15_0 := (Nat.le_trans f13_0 (Keep.of_wr W15).1)
  have f15_1 := (CHr.trans f13_1 (CHr.wr W15 f13_5 f13_1.1))
  have f15_2 := (Nat.le_trans f13_2 (Keep.of_wr W15).1)
  have f15_3 := (Keep.wr f13_3 W15 (Or.inr sz_b11))
  have f15_4 := (Old.wr f13_4 W15 g_b11)
  have f15_5 := (Safe.wr W15 f13_5 f13_1.1 f13_5)
  refine Go.by st15 ?_
  show oG p e below P m T15 46 #[(vI p0), (vI p1), (vI p2), (vI p3), (vI (p1 &&& (255 : Int32))), (vI (p2 &&& (255 : Int32))), (vI ee), (vI dg), .unset, .unset, .unset, .unset, .unset, .unset] [(.ref b11)]
  refine w_astore X15 hx hby at_46 rfl (l' := #[(vI p0), (vI p1), (vI p2), (vI p3), (vI (p1 &&& (255 : Int32))), (vI (p2 &&& (255 : Int32))), (vI ee), (vI dg), (vR b11), .unset, .unset, .unset, .unset, .unset]) rfl ?_
  obtain ⟨T16, h16, X16, e16, E16, A16, D16, U16, st16⟩ := newO X15 hx hZ hown (tw_2 hw) (tw_3 hw) (tw_4 hw) e15 (g := (mkF m 48 #[(vI p0), (vI p1), (vI p2), (vI p3), (vI (p1 &&& (255 : Int32))), (vI (p2 &&& (255 : Int32))), (vI ee), (vI dg), (vR b11), .unset, .unset, .unset, .unset, .unset] [])) rfl (hb hby at_48) (by decide) (by decide)
  obtain ⟨b16, g16⟩ : ∃ z, z = h15.size := ⟨_, rfl⟩
  rw [← g16] at A16 D16 U16 st16
  have g_b16 : n0 ≤ b16 := Nat.le_trans f15_0 (Nat.le_of_eq g16.symm)
  have sz_b16 : h0.size ≤ b16 := Nat.le_trans f15_3.1 (Nat.le_of_eq g16.symm)
  have ne_b11_b16 : b11 ≠ b16 := Nat.ne_of_lt (Nat.lt_of_lt_of_le (V15.lt) (Nat.le_of_eq g16.symm))
  have sf_b16 : Safe Z own_EL s.vm h15 b16 := Safe.new (Nat.le_of_eq g16.symm)
  have f16_0 := (Nat.le_trans f15_0 E16.1)
  have f16_1 := (CHr.trans f15_1 (CHr.ext E16 f15_1.1))
  have f16_2 := (Nat.le_trans f15_2 E16.1)
  have f16_3 := (Keep.ext f15_3 E16)
  have f16_4 := (Old.ext f15_4 E16)
  have f16_5 := (Safe.ext E16 f15_1.1 f15_5)
  have f16_6 := (Arv.ext V15 E16)
  have f16_7 := (Safe.ext E16 f15_1.1 sf_b16)
  refine Go.by st16 ?_
  have F16_coder : Fld Z h16 b16 "java/lang/String" "coder" "B" (.int 0) := D16 (Or.inr (tw_28 hw)) (ty := .byte) (by decide)
  have F16_value : Fld Z h16 b16 "java/lang/String" "value" "[B" .null := D16 (Or.inr (tw_30 hw)) (ty := (.array .byte)) (by decide)
  show oG p e below P m T16 51 #[(vI p0), (vI p1), (vI p2), (vI p3), (vI (p1 &&& (255 : Int32))), (vI (p2 &&& (255 : Int32))), (vI ee), (vI dg), (vR b11), .unset, .unset, .unset, .unset, .unset] [(.ref b16)]
  refine w_dup X16 hx hby at_51 rfl ?_
  refine w_aload X16 hx hby at_52 rfl rfl ?_
  obtain ⟨_, _, ⟨T17, L17, k17, n17⟩, -, X17, ⟨Lc17, hQ17, l17, y17, z17⟩, st17⟩ := X16.specialBack hx (y := oY19) rfl hown (mvT hZ (tw_5 hw)) (mvT hZ (tw_6 hw)) (mvT hZ (tw_7 hw)) (by decide) (backOf (W := 1) (rm_si1_2 l Z a0 hw [] b16 b11 k11 (p1 &&& (255 : Int32)) (p2 &&& (255 : Int32)) cs h16 n0 f16_0 f16_4 Scs hcs A16 g_b16 F16_coder F16_value f16_6 (own_m255 _).1 (own_m255 _).2 (own_m255 _).1 (own_m255 _).2) hZ (tw_7 hw) (tw_4 hw) (by decide) (by decide)) (g := (mkF m 54 #[(vI p0), (vI p1), (vI p2), (vI p3), (vI (p1 &&& (255 : Int32))), (vI (p2 &&& (255 : Int32))), (vI ee), (vI dg), (vR b11), .unset, .unset, .unset, .unset, .unset] [(.ref b11), (.ref b16), (.ref b16)])) rfl (by rw [hml]; rfl) (Steps.refl _) (a := b16) (argsL := [(.ref b11)]) (rest := [(.ref b16)]) (lenOf pd___C_V rfl) rfl (by show 2 * 0 + _ ≤ _; exact Nat.le_of_eq rfl) (hb hby at_54) (fun _ _ => ⟨rfl, e16, (by decide : 2 + 1 ≤ _), (by decide : 6 + 2 ≤ _)⟩)
  dsimp only [Pt.U, Pt.locs, Pt.cells, Pt.slots] at X17 l17 y17 z17 st17 hQ17
  subst l17 y17 z17
  obtain ⟨rfl, N17q, K17, Gc17, d17, kd17, z17, Gv17, V17⟩ := hQ17
  have N17 := Fr.app N15 N17q
  refine Go.by (fun t k => st17.trans k) ?_
  have f17_0 := (Nat.le_trans f16_0 K17.1)
  have f17_1 := (CHr.trans f16_1 (CHr.keep K17 (sfS f16_7 sf0) f16_1.1))
  have f17_2 := (Nat.le_trans f16_2 K17.1)
  have f17_3 := (Keep.trans f16_3 K17 (allS (Or.inr sz_b16) all0))
  have f17_4 := (Old.keep f16_4 K17 (allS g_b16 all0))
  have f17_5 := (Safe.keep K17 (sfS f16_7 sf0) f16_1.1 f16_5)
  have f17_6 := (Arv.keep f16_6 K17 (ninS ne_b11_b16 nin0))
  have f17_7 := (Safe.keep K17 (sfS f16_7 sf0) f16_1.1 f16_7)
  have f17_8 := (Exa.keep A16 K17)
  have g_d17 : n0 ≤ d17 := Nat.le_trans f16_0 z17
  have sz_d17 : h0.size ≤ d17 := Nat.le_trans f16_3.1 z17
  have ne_b11_d17 : b11 ≠ d17 := Nat.ne_of_lt (Nat.lt_of_lt_of_le (f16_6.lt) z17)
  have ne_b16_d17 : b16 ≠ d17 := Nat.ne_of_lt (Nat.lt_of_lt_of_le (A16.lt) z17)
  have sf_d17 : Safe Z own_EL s.vm T17.heap d17 := Safe.keep K17 (sfS f16_7 sf0) f16_1.1 (Safe.new z17)
  show oG p e below P m T17 57 #[(vI p0), (vI p1), (vI p2), (vI p3), (vI (p1 &&& (255 : Int32))), (vI (p2 &&& (255 : Int32))), (vI ee), (vI dg), (vR b11), .unset, .unset, .unset, .unset, .unset] [(.ref b16)]
  refine w_astore X17 hx hby at_57 rfl (l' := #[(vI p0), (vI p1), (vI p2), (vI p3), (vI (p1 &&& (255 : Int32))), (vI (p2 &&& (255 : Int32))), (vI ee), (vI dg), (vR b11), (vR b16), .unset, .unset, .unset, .unset]) rfl ?_
  refine w_bipush X17 hx hby at_59 (v := 34) rfl ?_
  obtain ⟨T18, h18, k18, X18, e18, E18, A18, st18⟩ := newP X17 hx hZ (aty := .char) (tw_1 hw) rfl (g := (mkF m 61 #[(vI p0), (vI p1), (vI p2), (vI p3), (vI (p1 &&& (255 : Int32))), (vI (p2 &&& (255 : Int32))), (vI ee), (vI dg), (vR b11), (vR b16), .unset, .unset, .unset, .unset] [(.int 34)])) rfl (hb hby at_61) rfl (by decide) (cap := 34) (by decide) (by decide) (by decide) (by decide)
  obtain ⟨b18, g18⟩ : ∃ z, z = T17.heap.size := ⟨_, rfl⟩
  rw [← g18] at A18 st18
  have g_b18 : n0 ≤ b18 := Nat.le_trans f17_0 (Nat.le_of_eq g18.symm)
  have sz_b18 : h0.size ≤ b18 := Nat.le_trans f17_3.1 (Nat.le_of_eq g18.symm)
  have ne_b11_b18 : b11 ≠ b18 := Nat.ne_of_lt (Nat.lt_of_lt_of_le (f17_6.lt) (Nat.le_of_eq g18.symm))
  have ne_b16_b18 : b16 ≠ b18 := Nat.ne_of_lt (Nat.lt_of_lt_of_le (f17_8.lt) (Nat.le_of_eq g18.symm))
  have ne_d17_b18 : d17 ≠ b18 := Nat.ne_of_lt (Nat.lt_of_lt_of_le (V17.lt) (Nat.le_of_eq g18.symm))
  have sf_b18 : Safe Z own_EL s.vm T17.heap b18 := Safe.new (Nat.le_of_eq g18.symm)
  have f18_0 := (Nat.le_trans f17_0 E18.1)
  have f18_1 := (CHr.trans f17_1 (CHr.ext E18 f17_1.1))
  have f18_2 := (Nat.le_trans f17_2 E18.1)
  have f18_3 := (Keep.ext f17_3 E18)
  have f18_4 := (Old.ext f17_4 E18)
  have f18_5 := (Safe.ext E18 f17_1.1 f17_5)
  have f18_6 := (Arv.ext f17_6 E18)
  have f18_7 := (Safe.ext E18 f17_1.1 f17_7)
  have f18_8 := (Exa.ext E18 f17_8)
  have f18_9 := (Safe.ext E18 f17_1.1 sf_d17)
  have f18_10 := (Fld.ext E18 Gc17)
  have f18_11 := (Fld.ext E18 Gv17)
  have f18_12 := (Arv.ext V17 E18)
  have f18_13 := (Safe.ext E18 f17_1.1 sf_b18)
  refine Go.by st18 ?_
  have V18 : Arv Z h18 b18 k18 .char (34 : Int32) [(.int 0), (.int 0), (.int 0), (.int 0), (.int 0), (.int 0), (.int 0), (.int 0), (.int 0), (.int 0), (.int 0), (.int 0), (.int 0), (.int 0), (.int 0), (.int 0), (.int 0), (.int 0), (.int 0), (.int 0), (.int 0), (.int 0), (.int 0), (.int 0), (.int 0), (.int 0), (.int 0), (.int 0), (.int 0), (.int 0), (.int 0), (.int 0), (.int 0), (.int 0)] (.int 0) := (Arv.new A18 (by decide)).pad (pad_rep [] (.int 0) 34)
  show oG p e below P m T18 63 #[(vI p0), (vI p1), (vI p2), (vI p3), (vI (p1 &&& (255 : Int32))), (vI (p2 &&& (255 : Int32))), (vI ee), (vI dg), (vR b11), (vR b16), .unset, .unset, .unset, .unset] [(.ref b18)]
  refine w_dup X18 hx hby at_63 rfl ?_
  refine w_iconst X18 hx hby at_64 (v := 0) rfl ?_
  refine w_iload X18 hx hby at_65 rfl ?_
  refine own_cst X18 hx hby hZ e18 V18 N17 g_b18 (Keep.refl h18 [b18]) at_67 (i := 0) (by decide) rfl rfl (by decide) (own_chf _ (own_m255 _).1 (own_m255 _).2) (own_chr _ (own_m255 _).1 (own_m255 _).2) ?_
  intro T19 L19 h19 X19 e19 N19 K19 V19 l19
  refine w_dup X19 hx hby at_68 rfl ?_
  refine w_iconst X19 hx hby at_69 (v := 1) rfl ?_
  refine w_iload X19 hx hby at_70 rfl ?_
  refine own_cst X19 hx hby hZ e19 V19 N19 g_b18 K19 at_72 (i := 1) (by decide) rfl l19 (by decide) (own_chf _ (own_m255 _).1 (own_m255 _).2) (own_chr _ (own_m255 _).1 (own_m255 _).2) ?_
  intro T20 L20 h20 X20 e20 N20 K20 V20 l20
  refine w_dup X20 hx hby at_73 rfl ?_
  refine w_iconst X20 hx hby at_74 (v := 2) rfl ?_
  refine w_bipush X20 hx hby at_75 (v := 32) rfl ?_
  refine own_cst X20 hx hby hZ e20 V20 N20 g_b18 K20 at_77 (i := 2) (by decide) rfl l20 (by decide) rfl rfl ?_
  intro T21 L21 h21 X21 e21 N21 K21 V21 l21
  refine w_dup X21 hx hby at_78 rfl ?_
  refine w_iconst X21 hx hby at_79 (v := 3) rfl ?_
  refine w_bipush X21 hx hby at_80 (v := 105) rfl ?_
  refine own_cst X21 hx hby hZ e21 V21 N21 g_b18 K21 at_82 (i := 3) (by decide) rfl l21 (by decide) rfl rfl ?_
  intro T22 L22 h22 X22 e22 N22 K22 V22 l22
  refine w_dup X22 hx hby at_83 rfl ?_
  refine w_iconst X22 hx hby at_84 (v := 4) rfl ?_
  refine w_bipush X22 hx hby at_85 (v := 115) rfl ?_
  refine own_cst X22 hx hby hZ e22 V22 N22 g_b18 K22 at_87 (i := 4) (by decide) rfl l22 (by decide) rfl rfl ?_
  intro T23 L23 h23 X23 e23 N23 K23 V23 l23
  refine w_dup X23 hx hby at_88 rfl ?_
  refine w_iconst X23 hx hby at_89 (v := 5) rfl ?_
  refine w_bipush X23 hx hby at_90 (v := 32) rfl ?_
  refine own_cst X23 hx hby hZ e23 V23 N23 g_b18 K23 at_92 (i := 5) (by decide) rfl l23 (by decide) rfl rfl ?_
  intro T24 L24 h24 X24 e24 N24 K24 V24 l24
  refine w_dup X24 hx hby at_93 rfl ?_
  refine w_bipush X24 hx hby at_94 (v := 6) rfl ?_
  refine w_bipush X24 hx hby at_96 (v := 103) rfl ?_
  refine own_cst X24 hx hby hZ e24 V24 N24 g_b18 K24 at_98 (i := 6) (by decide) rfl l24 (by decide) rfl rfl ?_
  intro T25 L25 h25 X25 e25 N25 K25 V25 l25
  refine w_dup X25 hx hby at_99 rfl ?_
  refine w_bipush X25 hx hby at_100 (v := 7) rfl ?_
  refine w_bipush X25 hx hby at_102 (v := 105) rfl ?_
  refine own_cst X25 hx hby hZ e25 V25 N25 g_b18 K25 at_104 (i := 7) (by decide) rfl l25 (by decide) rfl rfl ?_
  intro T26 L26 h26 X26 e26 N26 K26 V26 l26
  refine w_dup X26 hx hby at_105 rfl ?_
  refine w_bipush X26 hx hby at_106 (v := 8) rfl ?_
  refine w_bipush X26 hx hby at_108 (v := 118) rfl ?_
  refine own_cst X26 hx hby hZ e26 V26 N26 g_b18 K26 at_110 (i := 8) (by decide) rfl l26 (by decide) rfl rfl ?_
  intro T27 L27 h27 X27 e27 N27 K27 V27 l27
  refine w_dup X27 hx hby at_111 rfl ?_
  refine w_bipush X27 hx hby at_112 (v := 9) rfl ?_
  refine w_bipush X27 hx hby at_114 (v := 101) rfl ?_
  refine own_cst X27 hx hby hZ e27 V27 N27 g_b18 K27 at_116 (i := 9) (by decide) rfl l27 (by decide) rfl rfl ?_
  intro T28 L28 h28 X28 e28 N28 K28 V28 l28
  refine w_dup X28 hx hby at_117 rfl ?_
  refine w_bipush X28 hx hby at_118 (v := 10) rfl ?_
  refine w_bipush X28 hx hby at_120 (v := 110) rfl ?_
  refine own_cst X28 hx hby hZ e28 V28 N28 g_b18 K28 at_122 (i := 10) (by decide) rfl l28 (by decide) rfl rfl ?_
  intro T29 L29 h29 X29 e29 N29 K29 V29 l29
  refine w_dup X29 hx hby at_123 rfl ?_
  refine w_bipush X29 hx hby at_124 (v := 11) rfl ?_
  refine w_bipush X29 hx hby at_126 (v := 32) rfl ?_
  refine own_cst X29 hx hby hZ e29 V29 N29 g_b18 K29 at_128 (i := 11) (by decide) rfl l29 (by decide) rfl rfl ?_
  intro T30 L30 h30 X30 e30 N30 K30 V30 l30
  refine w_dup X30 hx hby at_129 rfl ?_
  refine w_bipush X30 hx hby at_130 (v := 12) rfl ?_
  refine w_bipush X30 hx hby at_132 (v := 116) rfl ?_
  refine own_cst X30 hx hby hZ e30 V30 N30 g_b18 K30 at_134 (i := 12) (by decide) rfl l30 (by decide) rfl rfl ?_
  intro T31 L31 h31 X31 e31 N31 K31 V31 l31
  refine w_dup X31 hx hby at_135 rfl ?_
  refine w_bipush X31 hx hby at_136 (v := 13) rfl ?_
  refine w_bipush X31 hx hby at_138 (v := 119) rfl ?_
  refine own_cst X31 hx hby hZ e31 V31 N31 g_b18 K31 at_140 (i := 13) (by decide) rfl l31 (by decide) rfl rfl ?_
  intro T32 L32 h32 X32 e32 N32 K32 V32 l32
  refine w_dup X32 hx hby at_141 rfl ?_
  refine w_bipush X32 hx hby at_142 (v := 14) rfl ?_
  refine w_bipush X32 hx hby at_144 (v := 105) rfl ?_
  refine own_cst X32 hx hby hZ e32 V32 N32 g_b18 K32 at_146 (i := 14) (by decide) rfl l32 (by decide) rfl rfl ?_
  intro T33 L33 h33 X33 e33 N33 K33 V33 l33
  refine w_dup X33 hx hby at_147 rfl ?_
  refine w_bipush X33 hx hby at_148 (v := 15) rfl ?_
  refine w_bipush X33 hx hby at_150 (v := 99) rfl ?_
  refine own_cst X33 hx hby hZ e33 V33 N33 g_b18 K33 at_152 (i := 15) (by decide) rfl l33 (by decide) rfl rfl ?_
  intro T34 L34 h34 X34 e34 N34 K34 V34 l34
  refine w_dup X34 hx hby at_153 rfl ?_
  refine w_bipush X34 hx hby at_154 (v := 16) rfl ?_
  refine w_bipush X34 hx hby at_156 (v := 101) rfl ?_
  refine own_cst X34 hx hby hZ e34 V34 N34 g_b18 K34 at_158 (i := 16) (by decide) rfl l34 (by decide) rfl rfl ?_
  intro T35 L35 h35 X35 e35 N35 K35 V35 l35
  refine w_dup X35 hx hby at_159 rfl ?_
  refine w_bipush X35 hx hby at_160 (v := 17) rfl ?_
  refine w_bipush X35 hx hby at_162 (v := 44) rfl ?_
  refine own_cst X35 hx hby hZ e35 V35 N35 g_b18 K35 at_164 (i := 17) (by decide) rfl l35 (by decide) rfl rfl ?_
  intro T36 L36 h36 X36 e36 N36 K36 V36 l36
  refine w_dup X36 hx hby at_165 rfl ?_
  refine w_bipush X36 hx hby at_166 (v := 18) rfl ?_
  refine w_bipush X36 hx hby at_168 (v := 32) rfl ?_
  refine own_cst X36 hx hby hZ e36 V36 N36 g_b18 K36 at_170 (i := 18) (by decide) rfl l36 (by decide) rfl rfl ?_
  intro T37 L37 h37 X37 e37 N37 K37 V37 l37
  refine w_dup X37 hx hby at_171 rfl ?_
  refine w_bipush X37 hx hby at_172 (v := 19) rfl ?_
  refine w_bipush X37 hx hby at_174 (v := 102) rfl ?_
  refine own_cst X37 hx hby hZ e37 V37 N37 g_b18 K37 at_176 (i := 19) (by decide) rfl l37 (by decide) rfl rfl ?_
  intro T38 L38 h38 X38 e38 N38 K38 V38 l38
  refine w_dup X38 hx hby at_177 rfl ?_
  refine w_bipush X38 hx hby at_178 (v := 20) rfl ?_
  refine w_bipush X38 hx hby at_180 (v := 105) rfl ?_
  refine own_cst X38 hx hby hZ e38 V38 N38 g_b18 K38 at_182 (i := 20) (by decide) rfl l38 (by decide) rfl rfl ?_
  intro T39 L39 h39 X39 e39 N39 K39 V39 l39
  refine w_dup X39 hx hby at_183 rfl ?_
  refine w_bipush X39 hx hby at_184 (v := 21) rfl ?_
  refine w_bipush X39 hx hby at_186 (v := 114) rfl ?_
  refine own_cst X39 hx hby hZ e39 V39 N39 g_b18 K39 at_188 (i := 21) (by decide) rfl l39 (by decide) rfl rfl ?_
  intro T40 L40 h40 X40 e40 N40 K40 V40 l40
  refine w_dup X40 hx hby at_189 rfl ?_
  refine w_bipush X40 hx hby at_190 (v := 22) rfl ?_
  refine w_bipush X40 hx hby at_192 (v := 115) rfl ?_
  refine own_cst X40 hx hby hZ e40 V40 N40 g_b18 K40 at_194 (i := 22) (by decide) rfl l40 (by decide) rfl rfl ?_
  intro T41 L41 h41 X41 e41 N41 K41 V41 l41
  refine w_dup X41 hx hby at_195 rfl ?_
  refine w_bipush X41 hx hby at_196 (v := 23) rfl ?_
  refine w_bipush X41 hx hby at_198 (v := 116) rfl ?_
  refine own_cst X41 hx hby hZ e41 V41 N41 g_b18 K41 at_200 (i := 23) (by decide) rfl l41 (by decide) rfl rfl ?_
  intro T42 L42 h42 X42 e42 N42 K42 V42 l42
  refine w_dup X42 hx hby at_201 rfl ?_
  refine w_bipush X42 hx hby at_202 (v := 24) rfl ?_
  refine w_bipush X42 hx hby at_204 (v := 32) rfl ?_
  refine own_cst X42 hx hby hZ e42 V42 N42 g_b18 K42 at_206 (i := 24) (by decide) rfl l42 (by decide) rfl rfl ?_
  intro T43 L43 h43 X43 e43 N43 K43 V43 l43
  refine w_dup X43 hx hby at_207 rfl ?_
  refine w_bipush X43 hx hby at_208 (v := 25) rfl ?_
  refine w_bipush X43 hx hby at_210 (v := 111) rfl ?_
  refine own_cst X43 hx hby hZ e43 V43 N43 g_b18 K43 at_212 (i := 25) (by decide) rfl l43 (by decide) rfl rfl ?_
  intro T44 L44 h44 X44 e44 N44 K44 V44 l44
  refine w_dup X44 hx hby at_213 rfl ?_
  refine w_bipush X44 hx hby at_214 (v := 26) rfl ?_
  refine w_bipush X44 hx hby at_216 (v := 110) rfl ?_
  refine own_cst X44 hx hby hZ e44 V44 N44 g_b18 K44 at_218 (i := 26) (by decide) rfl l44 (by decide) rfl rfl ?_
  intro T45 L45 h45 X45 e45 N45 K45 V45 l45
  refine w_dup X45 hx hby at_219 rfl ?_
  refine w_bipush X45 hx hby at_220 (v := 27) rfl ?_
  refine w_bipush X45 hx hby at_222 (v := 32) rfl ?_
  refine own_cst X45 hx hby hZ e45 V45 N45 g_b18 K45 at_224 (i := 27) (by decide) rfl l45 (by decide) rfl rfl ?_
  intro T46 L46 h46 X46 e46 N46 K46 V46 l46
  refine w_dup X46 hx hby at_225 rfl ?_
  refine w_bipush X46 hx hby at_226 (v := 28) rfl ?_
  refine w_bipush X46 hx hby at_228 (v := 108) rfl ?_
  refine own_cst X46 hx hby hZ e46 V46 N46 g_b18 K46 at_230 (i := 28) (by decide) rfl l46 (by decide) rfl rfl ?_
  intro T47 L47 h47 X47 e47 N47 K47 V47 l47
  refine w_dup X47 hx hby at_231 rfl ?_
  refine w_bipush X47 hx hby at_232 (v := 29) rfl ?_
  refine w_bipush X47 hx hby at_234 (v := 105) rfl ?_
  refine own_cst X47 hx hby hZ e47 V47 N47 g_b18 K47 at_236 (i := 29) (by decide) rfl l47 (by decide) rfl rfl ?_
  intro T48 L48 h48 X48 e48 N48 K48 V48 l48
  refine w_dup X48 hx hby at_237 rfl ?_
  refine w_bipush X48 hx hby at_238 (v := 30) rfl ?_
  refine w_bipush X48 hx hby at_240 (v := 110) rfl ?_
  refine own_cst X48 hx hby hZ e48 V48 N48 g_b18 K48 at_242 (i := 30) (by decide) rfl l48 (by decide) rfl rfl ?_
  intro T49 L49 h49 X49 e49 N49 K49 V49 l49
  refine w_dup X49 hx hby at_243 rfl ?_
  refine w_bipush X49 hx hby at_244 (v := 31) rfl ?_
  refine w_bipush X49 hx hby at_246 (v := 101) rfl ?_
  refine own_cst X49 hx hby hZ e49 V49 N49 g_b18 K49 at_248 (i := 31) (by decide) rfl l49 (by decide) rfl rfl ?_
  intro T50 L50 h50 X50 e50 N50 K50 V50 l50
  refine w_dup X50 hx hby at_249 rfl ?_
  refine w_bipush X50 hx hby at_250 (v := 32) rfl ?_
  refine w_bipush X50 hx hby at_252 (v := 32) rfl ?_
  refine own_cst X50 hx hby hZ e50 V50 N50 g_b18 K50 at_254 (i := 32) (by decide) rfl l50 (by decide) rfl rfl ?_
  intro T51 L51 h51 X51 e51 N51 K51 V51 l51
  refine w_dup X51 hx hby at_255 rfl ?_
  refine w_bipush X51 hx hby at_256 (v := 33) rfl ?_
  refine w_iload X51 hx hby at_258 rfl ?_
  refine own_cst X51 hx hby hZ e51 V51 N51 g_b18 K51 at_260 (i := 33) (by decide) rfl l51 (by decide) (own_chf _ hdr.1 hdr.2.1) (own_chr _ hdr.1 hdr.2.1) ?_
  intro T52 L52 h52 X52 e52 N52 K52 V52 l52
  have f52_0 := (Nat.le_trans f18_0 K52.1)
  have f52_1 := (CHr.trans f18_1 (CHr.keep K52 (sfS f18_13 sf0) f18_1.1))
  have f52_2 := (Nat.le_trans f18_2 K52.1)
  have f52_3 := (Keep.trans f18_3 K52 (allS (Or.inr sz_b18) all0))
  have f52_4 := (Old.keep f18_4 K52 (allS g_b18 all0))
  have f52_5 := (Safe.keep K52 (sfS f18_13 sf0) f18_1.1 f18_5)
  have f52_6 := (Arv.keep f18_6 K52 (ninS ne_b11_b18 nin0))
  have f52_7 := (Safe.keep K52 (sfS f18_13 sf0) f18_1.1 f18_7)
  have f52_8 := (Exa.keep f18_8 K52)
  have f52_9 := (Safe.keep K52 (sfS f18_13 sf0) f18_1.1 f18_9)
  have f52_10 := (Fld.keep f18_10 K52 (ninS ne_b16_b18 nin0))
  have f52_11 := (Fld.keep f18_11 K52 (ninS ne_b16_b18 nin0))
  have f52_12 := (Arv.keep f18_12 K52 (ninS ne_d17_b18 nin0))
  have f52_13 := (Safe.keep K52 (sfS f18_13 sf0) f18_1.1 f18_13)
  have VX52 : Arv Z h52 b18 k18 .char (34 : Int32) [(.int (p1 &&& (255 : Int32))), (.int (p2 &&& (255 : Int32))), (.int 32), (.int 105), (.int 115), (.int 32), (.int 103), (.int 105), (.int 118), (.int 101), (.int 110), (.int 32), (.int 116), (.int 119), (.int 105), (.int 99), (.int 101), (.int 44), (.int 32), (.int 102), (.int 105), (.int 114), (.int 115), (.int 116), (.int 32), (.int 111), (.int 110), (.int 32), (.int 108), (.int 105), (.int 110), (.int 101), (.int 32), (.int dg)] (.int 0) := by
    have q := V52
    simp only [List.set_cons_zero, List.set_cons_succ] at q
    exact q
  refine w_astore X52 hx hby at_261 rfl (l' := #[(vI p0), (vI p1), (vI p2), (vI p3), (vI (p1 &&& (255 : Int32))), (vI (p2 &&& (255 : Int32))), (vI ee), (vI dg), (vR b11), (vR b16), (vR b18), .unset, .unset, .unset]) rfl ?_
  obtain ⟨T53, h53, X53, e53, E53, A53, D53, U53, st53⟩ := newO X52 hx hZ hown (tw_2 hw) (tw_3 hw) (tw_4 hw) e52 (g := (mkF m 263 #[(vI p0), (vI p1), (vI p2), (vI p3), (vI (p1 &&& (255 : Int32))), (vI (p2 &&& (255 : Int32))), (vI ee), (vI dg), (vR b11), (vR b16), (vR b18), .unset, .unset, .unset] [])) rfl (hb hby at_263) (by decide) (by decide)
  obtain ⟨b53, g53⟩ : ∃ z, z = h52.size := ⟨_, rfl⟩
  rw [← g53] at A53 D53 U53 st53
  have g_b53 : n0 ≤ b53 := Nat.le_trans f52_0 (Nat.le_of_eq g53.symm)
  have sz_b53 : h0.size ≤ b53 := Nat.le_trans f52_3.1 (Nat.le_of_eq g53.symm)
  have ne_b11_b53 : b11 ≠ b53 := Nat.ne_of_lt (Nat.lt_of_lt_of_le (f52_6.lt) (Nat.le_of_eq g53.symm))
  have ne_b16_b53 : b16 ≠ b53 := Nat.ne_of_lt (Nat.lt_of_lt_of_le (f52_8.lt) (Nat.le_of_eq g53.symm))
  have ne_d17_b53 : d17 ≠ b53 := Nat.ne_of_lt (Nat.lt_of_lt_of_le (f52_12.lt) (Nat.le_of_eq g53.symm))
  have ne_b18_b53 : b18 ≠ b53 := Nat.ne_of_lt (Nat.lt_of_lt_of_le (VX52.lt) (Nat.le_of_eq g53.symm))
  have sf_b53 : Safe Z own_EL s.vm h52 b53 := Safe.new (Nat.le_of_eq g53.symm)
  have f53_0 := (Nat.le_trans f52_0 E53.1)
  have f53_1 := (CHr.trans f52_1 (CHr.ext E53 f52_1.1))
  have f53_2 := (Nat.le_trans f52_2 E53.1)
  have f53_3 := (Keep.ext f52_3 E53)
  have f53_4 := (Old.ext f52_4 E53)
  have f53_5 := (Safe.ext E53 f52_1.1 f52_5)
  have f53_6 := (Arv.ext f52_6 E53)
  have f53_7 := (Safe.ext E53 f52_1.1 f52_7)
  have f53_8 := (Exa.ext E53 f52_8)
  have f53_9 := (Safe.ext E53 f52_1.1 f52_9)
  have f53_10 := (Fld.ext E53 f52_10)
  have f53_11 := (Fld.ext E53 f52_11)
  have f53_12 := (Arv.ext f52_12 E53)
  have f53_13 := (Safe.ext E53 f52_1.1 f52_13)
  have f53_14 := (Arv.ext VX52 E53)
  have f53_15 := (Safe.ext E53 f52_1.1 sf_b53)
  refine Go.by st53 ?_
  have F53_coder : Fld Z h53 b53 "java/lang/String" "coder" "B" (.int 0) := D53 (Or.inr (tw_28 hw)) (ty := .byte) (by decide)
  have F53_value : Fld Z h53 b53 "java/lang/String" "value" "[B" .null := D53 (Or.inr (tw_30 hw)) (ty := (.array .byte)) (by decide)
  show oG p e below P m T53 266 #[(vI p0), (vI p1), (vI p2), (vI p3), (vI (p1 &&& (255 : Int32))), (vI (p2 &&& (255 : Int32))), (vI ee), (vI dg), (vR b11), (vR b16), (vR b18), .unset, .unset, .unset] [(.ref b53)]
  refine w_dup X53 hx hby at_266 rfl ?_
  refine w_aload X53 hx hby at_267 rfl rfl ?_
  obtain ⟨_, _, ⟨T54, L54, k54, n54⟩, -, X54, ⟨Lc54, hQ54, l54, y54, z54⟩, st54⟩ := X53.specialBack hx (y := oY19) rfl hown (mvT hZ (tw_5 hw)) (mvT hZ (tw_6 hw)) (mvT hZ (tw_7 hw)) (by decide) (backOf (W := 1) (rm_si1_34 l Z a0 hw [] b53 b18 k18 (p1 &&& (255 : Int32)) (p2 &&& (255 : Int32)) dg cs h53 n0 f53_0 f53_4 Scs hcs A53 g_b53 F53_coder F53_value f53_14 (own_m255 _).1 (own_m255 _).2 (own_m255 _).1 (own_m255 _).2 hdr.1 hdr.2.1) hZ (tw_7 hw) (tw_4 hw) (by decide) (by decide)) (g := (mkF m 269 #[(vI p0), (vI p1), (vI p2), (vI p3), (vI (p1 &&& (255 : Int32))), (vI (p2 &&& (255 : Int32))), (vI ee), (vI dg), (vR b11), (vR b16), (vR b18), .unset, .unset, .unset] [(.ref b18), (.ref b53), (.ref b53)])) rfl (by rw [hml]; rfl) (Steps.refl _) (a := b53) (argsL := [(.ref b18)]) (rest := [(.ref b53)]) (lenOf pd___C_V rfl) rfl (by show 2 * 0 + _ ≤ _; exact Nat.le_of_eq rfl) (hb hby at_269) (fun _ _ => ⟨rfl, e53, (by decide : 5 + 1 ≤ _), (by decide : 46 + 34 ≤ _)⟩)
  dsimp only [Pt.U, Pt.locs, Pt.cells, Pt.slots] at X54 l54 y54 z54 st54 hQ54
  subst l54 y54 z54
  obtain ⟨rfl, N54q, K54, Gc54, d54, kd54, z54, Gv54, V54⟩ := hQ54
  have N54 := Fr.app N52 N54q
  refine Go.by (fun t k => st54.trans k) ?_
  have f54_0 := (Nat.le_trans f53_0 K54.1)
  have f54_1 := (CHr.trans f53_1 (CHr.keep K54 (sfS f53_15 sf0) f53_1.1))
  have f54_2 := (Nat.le_trans f53_2 K54.1)
  have f54_3 := (Keep.trans f53_3 K54 (allS (Or.inr sz_b53) all0))
  have f54_4 := (Old.keep f53_4 K54 (allS g_b53 all0))
  have f54_5 := (Safe.keep K54 (sfS f53_15 sf0) f53_1.1 f53_5)
  have f54_6 := (Arv.keep f53_6 K54 (ninS ne_b11_b53 nin0))
  have f54_7 := (Safe.keep K54 (sfS f53_15 sf0) f53_1.1 f53_7)
  have f54_8 := (Exa.keep f53_8 K54)
  have f54_9 := (Safe.keep K54 (sfS f53_15 sf0) f53_1.1 f53_9)
  have f54_10 := (Fld.keep f53_10 K54 (ninS ne_b16_b53 nin0))
  have f54_11 := (Fld.keep f53_11 K54 (ninS ne_b16_b53 nin0))
  have f54_12 := (Arv.keep f53_12 K54 (ninS ne_d17_b53 nin0))
  have f54_13 := (Safe.keep K54 (sfS f53_15 sf0) f53_1.1 f53_13)
  have f54_14 := (Arv.keep f53_14 K54 (ninS ne_b18_b53 nin0))
  have f54_15 := (Safe.keep K54 (sfS f53_15 sf0) f53_1.1 f53_15)
  have f54_16 := (Exa.keep A53 K54)
  have g_d54 : n0 ≤ d54 := Nat.le_trans f53_0 z54
  have sz_d54 : h0.size ≤ d54 := Nat.le_trans f53_3.1 z54
  have ne_b11_d54 : b11 ≠ d54 := Nat.ne_of_lt (Nat.lt_of_lt_of_le (f53_6.lt) z54)
  have ne_b16_d54 : b16 ≠ d54 := Nat.ne_of_lt (Nat.lt_of_lt_of_le (f53_8.lt) z54)
  have ne_d17_d54 : d17 ≠ d54 := Nat.ne_of_lt (Nat.lt_of_lt_of_le (f53_12.lt) z54)
  have ne_b18_d54 : b18 ≠ d54 := Nat.ne_of_lt (Nat.lt_of_lt_of_le (f53_14.lt) z54)
  have ne_b53_d54 : b53 ≠ d54 := Nat.ne_of_lt (Nat.lt_of_lt_of_le (A53.lt) z54)
  have sf_d54 : Safe Z own_EL s.vm T54.heap d54 := Safe.keep K54 (sfS f53_15 sf0) f53_1.1 (Safe.new z54)
  have VX54 : Arv Z T54.heap d54 kd54 .byte (34 : Int32) [(.int ((p1 &&& (255 : Int32)).toInt8.toInt32)), (.int ((p2 &&& (255 : Int32)).toInt8.toInt32)), (.int 32), (.int 105), (.int 115), (.int 32), (.int 103), (.int 105), (.int 118), (.int 101), (.int 110), (.int 32), (.int 116), (.int 119), (.int 105), (.int 99), (.int 101), (.int 44), (.int 32), (.int 102), (.int 105), (.int 114), (.int 115), (.int 116), (.int 32), (.int 111), (.int 110), (.int 32), (.int 108), (.int 105), (.int 110), (.int 101), (.int 32), (.int ((own_d1 (-(-ee))).toInt8.toInt32))] (.int 0) := by
    have q := V54
    simp only [own_by32, own_by44, own_by99, own_by101, own_by102, own_by103, own_by105, own_by108, own_by110, own_by111, own_by114, own_by115, own_by116, own_by118, own_by119, hdr.2.2] at q
    exact q
  show oG p e below P m T54 272 #[(vI p0), (vI p1), (vI p2), (vI p3), (vI (p1 &&& (255 : Int32))), (vI (p2 &&& (255 : Int32))), (vI ee), (vI dg), (vR b11), (vR b16), (vR b18), .unset, .unset, .unset] [(.ref b53)]
  refine w_astore X54 hx hby at_272 rfl (l' := #[(vI p0), (vI p1), (vI p2), (vI p3), (vI (p1 &&& (255 : Int32))), (vI (p2 &&& (255 : Int32))), (vI ee), (vI dg), (vR b11), (vR b16), (vR b18), (vR b53), .unset, .unset]) rfl ?_
  obtain ⟨T55, h55, X55, e55, E55, A55, D55, U55, st55⟩ := newO X54 hx hZ hown (tw_31 hw) (tw_32 hw) (tw_33 hw) rfl (g := (mkF m 274 #[(vI p0), (vI p1), (vI p2), (vI p3), (vI (p1 &&& (255 : Int32))), (vI (p2 &&& (255 : Int32))), (vI ee), (vI dg), (vR b11), (vR b16), (vR b18), (vR b53), .unset, .unset] [])) rfl (hb hby at_274) (by decide) (by decide)
  obtain ⟨b55, g55⟩ : ∃ z, z = T54.heap.size := ⟨_, rfl⟩
  rw [← g55] at A55 D55 U55 st55
  have g_b55 : n0 ≤ b55 := Nat.le_trans f54_0 (Nat.le_of_eq g55.symm)
  have sz_b55 : h0.size ≤ b55 := Nat.le_trans f54_3.1 (Nat.le_of_eq g55.symm)
  have ne_b11_b55 : b11 ≠ b55 := Nat.ne_of_lt (Nat.lt_of_lt_of_le (f54_6.lt) (Nat.le_of_eq g55.symm))
  have ne_b16_b55 : b16 ≠ b55 := Nat.ne_of_lt (Nat.lt_of_lt_of_le (f54_8.lt) (Nat.le_of_eq g55.symm))
  have ne_d17_b55 : d17 ≠ b55 := Nat.ne_of_lt (Nat.lt_of_lt_of_le (f54_12.lt) (Nat.le_of_eq g55.symm))
  have ne_b18_b55 : b18 ≠ b55 := Nat.ne_of_lt (Nat.lt_of_lt_of_le (f54_14.lt) (Nat.le_of_eq g55.symm))
  have ne_b53_b55 : b53 ≠ b55 := Nat.ne_of_lt (Nat.lt_of_lt_of_le (f54_16.lt) (Nat.le_of_eq g55.symm))
  have ne_d54_b55 : d54 ≠ b55 := Nat.ne_of_lt (Nat.lt_of_lt_of_le (VX54.lt) (Nat.le_of_eq g55.symm))
  have sf_b55 : Safe Z own_EL s.vm T54.heap b55 := Safe.new (Nat.le_of_eq g55.symm)
  have f55_0 := (Nat.le_trans f54_0 E55.1)
  have f55_1 := (CHr.trans f54_1 (CHr.ext E55 f54_1.1))
  have f55_2 := (Nat.le_trans f54_2 E55.1)
  have f55_3 := (Keep.ext f54_3 E55)
  have f55_4 := (Old.ext f54_4 E55)
  have f55_5 := (Safe.ext E55 f54_1.1 f54_5)
  have f55_6 := (Arv.ext f54_6 E55)
  have f55_7 := (Safe.ext E55 f54_1.1 f54_7)
  have f55_8 := (Exa.ext E55 f54_8)
  have f55_9 := (Safe.ext E55 f54_1.1 f54_9)
  have f55_10 := (Fld.ext E55 f54_10)
  have f55_11 := (Fld.ext E55 f54_11)
  have f55_12 := (Arv.ext f54_12 E55)
  have f55_13 := (Safe.ext E55 f54_1.1 f54_13)
  have f55_14 := (Arv.ext f54_14 E55)
  have f55_15 := (Safe.ext E55 f54_1.1 f54_15)
  have f55_16 := (Exa.ext E55 f54_16)
  have f55_17 := (Safe.ext E55 f54_1.1 sf_d54)
  have f55_18 := (Fld.ext E55 Gc54)
  have f55_19 := (Fld.ext E55 Gv54)
  have f55_20 := (Arv.ext VX54 E55)
  have f55_21 := (Safe.ext E55 f54_1.1 sf_b55)
  refine Go.by st55 ?_
  have F55_cause : Fld Z h55 b55 "java/lang/Throwable" "cause" "Ljava/lang/Throwable;" .null := D55 (Or.inl (tw_208 hw)) (ty := (.object "java/lang/Throwable")) (by decide)
  have F55_stackTrace : Fld Z h55 b55 "java/lang/Throwable" "stackTrace" "[Ljava/lang/StackTraceElement;" .null := D55 (Or.inl (tw_211 hw)) (ty := (.array (.object "java/lang/StackTraceElement"))) (by decide)
  have F55_suppressedExceptions : Fld Z h55 b55 "java/lang/Throwable" "suppressedExceptions" "Ljava/util/List;" .null := D55 (Or.inl (tw_214 hw)) (ty := (.object "java/util/List")) (by decide)
  have F55_detailMessage : Fld Z h55 b55 "java/lang/Throwable" "detailMessage" "Ljava/lang/String;" .null := D55 (Or.inl (tw_238 hw)) (ty := (.object "java/lang/String")) (by decide)
  have F55_backtrace : Fld Z h55 b55 "java/lang/Throwable" "backtrace" "Ljava/lang/Object;" .null := D55 (Or.inl (tw_239 hw)) (ty := (.object "java/lang/Object")) (by decide)
  have F55_depth : Fld Z h55 b55 "java/lang/Throwable" "depth" "I" (.int 0) := D55 (Or.inl (tw_240 hw)) (ty := .int) (by decide)
  have F55_line : Fld Z h55 b55 "com/example/carovita/carovita/index/CsvFormatException" "line" "I" (.int 0) := D55 (Or.inr (tw_244 hw)) (ty := .int) (by decide)
  show oG p e below P m T55 277 #[(vI p0), (vI p1), (vI p2), (vI p3), (vI (p1 &&& (255 : Int32))), (vI (p2 &&& (255 : Int32))), (vI ee), (vI dg), (vR b11), (vR b16), (vR b18), (vR b53), .unset, .unset] [(.ref b55)]
  refine w_dup X55 hx hby at_277 rfl ?_
  refine w_iloadN X55 hx hby at_278 rfl ?_
  refine w_aload X55 hx hby at_279 rfl rfl ?_
  obtain ⟨_, _, ⟨T56, L56, k56, n56⟩, -, X56', hS56', hg56, ⟨Lc56, hQ56, l56, y56, z56, C56⟩, st56⟩ := X55.specialBackS hx (y := oY27) rfl hown (mvT hZ (tw_34 hw)) (mvT hZ (tw_35 hw)) (mvT hZ (tw_36 hw)) (by decide) (own_backCK (W := 1) (rm_cexA l Z a0 hw hEL [] b55 p0 b53 d54 kd54 ([(.int ((p1 &&& (255 : Int32)).toInt8.toInt32)), (.int ((p2 &&& (255 : Int32)).toInt8.toInt32)), (.int 32), (.int 105), (.int 115), (.int 32), (.int 103), (.int 105), (.int 118), (.int 101), (.int 110), (.int 32), (.int 116), (.int 119), (.int 105), (.int 99), (.int 101), (.int 44), (.int 32), (.int 102), (.int 105), (.int 114), (.int 115), (.int 116), (.int 32), (.int 111), (.int 110), (.int 32), (.int 108), (.int 105), (.int 110), (.int 101), (.int 32), (.int ((own_d1 (-(-ee))).toInt8.toInt32))] : List Value) D1 kD1 D2 kD2 u sn cs h55 n0 f55_0 f55_4 Scs hcs Su hu Ssn hsn hl S1 S2 VD1 VD2 A55 g_b55 U55 F55_cause F55_stackTrace F55_suppressedExceptions F55_detailMessage F55_backtrace F55_depth F55_line f55_16 f55_18 f55_19 f55_20 rfl) hZ (tw_36 hw) (tw_33 hw) (by decide) (by decide) hEL f55_1.1 (own_ssS f55_21 (A55.lt) own_ss0) (Vm.MethodsKnown.alikeC (hZs.alike.symm.trans hZ.alike) hK.1) (Vm.FramesKnown.alikeC (hZs.alike.symm.trans hZ.alike) hK.2)) (g := (mkF m 281 #[(vI p0), (vI p1), (vI p2), (vI p3), (vI (p1 &&& (255 : Int32))), (vI (p2 &&& (255 : Int32))), (vI ee), (vI dg), (vR b11), (vR b16), (vR b18), (vR b53), .unset, .unset] [(.ref b53), (.int p0), (.ref b55), (.ref b55)])) rfl (by rw [hml]; rfl) (Steps.refl _) (a := b55) (argsL := [(.int p0), (.ref b53)]) (rest := [(.ref b55)]) (lenOf pd__ILjava_lang_String__V rfl) rfl (by show 2 * 0 + _ ≤ _; exact Nat.le_of_eq rfl) (hb hby at_281) (fun _ _ => ⟨rfl, e55, (by decide : 7 + 12 ≤ _), (by decide : 87 + 3300 ≤ _)⟩)
  dsimp only [Pt.U, Pt.locs, Pt.cells, Pt.slots] at X56' hS56' hg56 l56 y56 z56 st56 hQ56 C56
  subst l56 y56 z56
  obtain ⟨X56, hS56, hZ56, hown56⟩ := rebS hS0 (f55_2) X56' hS56' (by have q := hg56; rw [e55] at q; exact q) hZ hown
  have hk56 : T56.heap.size ≤ T56.heap.size := Nat.le_refl _
  obtain ⟨rfl, N56q, K56, Gl56, m56s, m56d, m56k, Gm56, zs56, zd56, Es56, Gc56, Gv56, V56⟩ := hQ56
  have N56 := Fr.app N54 N56q
  refine Go.by (fun t k => st56.trans k) ?_
  have f56_0 := (Nat.le_trans f55_0 K56.1)
  have f56_1 := (CHr.trans f55_1 C56)
  have f56_2 := hk56
  have f56_3 := (Keep.trans f55_3 K56 (allS (Or.inr sz_b55) all0))
  have f56_4 := (Old.keep f55_4 K56 (allS g_b55 all0))
  have f56_5 := (CHr.safe C56 (f55_6.lt) f55_5)
  have f56_6 := (Arv.keep f55_6 K56 (ninS ne_b11_b55 nin0))
  have f56_7 := (CHr.safe C56 (f55_8.lt) f55_7)
  have f56_8 := (Exa.keep f55_8 K56)
  have f56_9 := (CHr.safe C56 (f55_12.lt) f55_9)
  have f56_10 := (Fld.keep f55_10 K56 (ninS ne_b16_b55 nin0))
  have f56_11 := (Fld.keep f55_11 K56 (ninS ne_b16_b55 nin0))
  have f56_12 := (Arv.keep f55_12 K56 (ninS ne_d17_b55 nin0))
  have f56_13 := (CHr.safe C56 (f55_14.lt) f55_13)
  have f56_14 := (Arv.keep f55_14 K56 (ninS ne_b18_b55 nin0))
  have f56_15 := (CHr.safe C56 (f55_16.lt) f55_15)
  have f56_16 := (Exa.keep f55_16 K56)
  have f56_17 := (CHr.safe C56 (f55_20.lt) f55_17)
  have f56_18 := (Fld.keep f55_18 K56 (ninS ne_b53_b55 nin0))
  have f56_19 := (Fld.keep f55_19 K56 (ninS ne_b53_b55 nin0))
  have f56_20 := (Arv.keep f55_20 K56 (ninS ne_d54_b55 nin0))
  have f56_21 := (CHr.safe C56 (A55.lt) f55_21)
  have f56_22 := (Exa.keep A55 K56)
  show oG p e below P m T56 284 #[(vI p0), (vI p1), (vI p2), (vI p3), (vI (p1 &&& (255 : Int32))), (vI (p2 &&& (255 : Int32))), (vI ee), (vI dg), (vR b11), (vR b16), (vR b18), (vR b53), .unset, .unset] [(.ref b55)]
  refine w_astore X56 hx hby at_284 rfl (l' := #[(vI p0), (vI p1), (vI p2), (vI p3), (vI (p1 &&& (255 : Int32))), (vI (p2 &&& (255 : Int32))), (vI ee), (vI dg), (vR b11), (vR b16), (vR b18), (vR b53), (vR b55), .unset]) rfl ?_
  refine w_iloadN X56 hx hby at_286 rfl ?_
  refine w_aload X56 hx hby at_287 rfl rfl ?_
  refine w_iload X56 hx hby at_289 rfl ?_
  obtain ⟨_, _, ⟨T57, L57, k57, n57⟩, -, X57', hS57', hg57, ⟨Lc57, hQ57, l57, y57, z57, C57⟩, st57⟩ := Jvm.RoadKit.callSS X56 hx (y := oY41) hown56 (mvT hZ56 (tw_245 hw)) (mvT hZ56 (tw_246 hw)) (mvT hZ56 (tw_33 hw)) (mvT hZ56 (tw_247 hw)) (by decide) (own_backCK (W := 0) (rm_given l Z a0 hw hEL [] p0 b16 d17 kd17 ((p1 &&& (255 : Int32)).toInt8.toInt32) ((p2 &&& (255 : Int32)).toInt8.toInt32) ee D1 kD1 D2 kD2 u sn cs T56.heap n0 f56_0 f56_4 Scs hcs Su hu Ssn hsn hl S1 S2 VD1 VD2 f56_8 f56_10 f56_11 f56_12 (own_er ee her).1 (own_er ee her).2.1 (own_er ee her).2.2) hZ56 (tw_247 hw) (tw_33 hw) (by decide) (by decide) hEL f56_1.1 own_ss0 (Vm.MethodsKnown.alikeC (hZs.alike.symm.trans hZ56.alike) hK.1) (Vm.FramesKnown.alikeC (hZs.alike.symm.trans hZ56.alike) hK.2)) (g := (mkF m 291 #[(vI p0), (vI p1), (vI p2), (vI p3), (vI (p1 &&& (255 : Int32))), (vI (p2 &&& (255 : Int32))), (vI ee), (vI dg), (vR b11), (vR b16), (vR b18), (vR b53), (vR b55), .unset] [(.int ee), (.ref b16), (.int p0)])) rfl (by rw [hml]; rfl) (argsL := [(.int p0), (.ref b16), (.int ee)]) (rest := []) (lenOf pd__ILjava_lang_String_I_Lcom_example_carovita_carovita_index_CsvFormatException_ rfl) rfl (by show 2 * 0 + _ ≤ _; exact Nat.le_of_eq rfl) (hb hby at_291) (fun _ _ => ⟨rfl, rfl, (by decide : 19 + 22 ≤ _), (by decide : 3387 + 3900 ≤ _)⟩)
  dsimp only [Pt.U, Pt.locs, Pt.cells, Pt.slots] at X57' hS57' hg57 l57 y57 z57 st57 hQ57 C57
  subst l57 y57 z57
  obtain ⟨X57, hS57, hZ57, hown57⟩ := rebS hS56 (f56_2) X57' hS57' hg57 hZ56 hown56
  have hk57 : T57.heap.size ≤ T57.heap.size := Nat.le_refl _
  obtain ⟨r57, rfl, N57q, K57, Eb57, Gl57, m57s, m57d, m57k, Gm57, zs57, zd57, Es57, Gc57, Gv57, V57⟩ := hQ57
  have N57 := Fr.app N56 N57q
  refine Go.by (fun t k => st57.trans k) ?_
  have f57_0 := (Nat.le_trans f56_0 K57.1)
  have f57_1 := (CHr.trans f56_1 C57)
  have f57_2 := hk57
  have f57_3 := (Keep.trans f56_3 K57 all0)
  have f57_4 := (Old.keep f56_4 K57 all0)
  have f57_5 := (CHr.safe C57 (f56_6.lt) f56_5)
  have f57_6 := (Arv.keep f56_6 K57 nin0)
  have f57_7 := (CHr.safe C57 (f56_8.lt) f56_7)
  have f57_8 := (Exa.keep f56_8 K57)
  have f57_9 := (CHr.safe C57 (f56_12.lt) f56_9)
  have f57_10 := (Fld.keep f56_10 K57 nin0)
  have f57_11 := (Fld.keep f56_11 K57 nin0)
  have f57_12 := (Arv.keep f56_12 K57 nin0)
  have f57_13 := (CHr.safe C57 (f56_14.lt) f56_13)
  have f57_14 := (Arv.keep f56_14 K57 nin0)
  have f57_15 := (CHr.safe C57 (f56_16.lt) f56_15)
  have f57_16 := (Exa.keep f56_16 K57)
  have f57_17 := (CHr.safe C57 (f56_20.lt) f56_17)
  have f57_18 := (Fld.keep f56_18 K57 nin0)
  have f57_19 := (Fld.keep f56_19 K57 nin0)
  have f57_20 := (Arv.keep f56_20 K57 nin0)
  have f57_21 := (CHr.safe C57 (f56_22.lt) f56_21)
  have f57_22 := (Exa.keep f56_22 K57)
  have f57_23 := (Fld.keep Gl56 K57 nin0)
  have f57_24 := (Fld.keep Gm56 K57 nin0)
  have f57_25 := (Exa.keep Es56 K57)
  have f57_26 := (Fld.keep Gc56 K57 nin0)
  have f57_27 := (Fld.keep Gv56 K57 nin0)
  have f57_28 := (Arv.keep V56 K57 nin0)
  show oG p e below P m T57 294 #[(vI p0), (vI p1), (vI p2), (vI p3), (vI (p1 &&& (255 : Int32))), (vI (p2 &&& (255 : Int32))), (vI ee), (vI dg), (vR b11), (vR b16), (vR b18), (vR b53), (vR b55), .unset] [(.ref r57)]
  refine w_astore X57 hx hby at_294 rfl (l' := #[(vI p0), (vI p1), (vI p2), (vI p3), (vI (p1 &&& (255 : Int32))), (vI (p2 &&& (255 : Int32))), (vI ee), (vI dg), (vR b11), (vR b16), (vR b18), (vR b53), (vR b55), (vR r57)]) rfl ?_
  refine w_aload X57 hx hby at_296 rfl rfl ?_
  obtain ⟨cq58, kq58, q58a, q58b, q58c⟩ := isOf hZ57 rfl Eb57
  obtain ⟨_, _, ⟨T58, L58, k58, n58⟩, -, X58, ⟨Lc58, hQ58, l58, y58, z58⟩, st58⟩ := X57.virtualBack hx (y := oY28) (z := oY28) hown57 (mvT hZ57 (tw_251 hw)) (mvT hZ57 (tw_252 hw)) (notFace_of_selects (args := #[]) (mvT hZ57 (tw_254 hw))) (mvT hZ57 (tw_254 hw)) (mvT hZ57 (tw_253 hw)) (by decide) (backOf (W := 0) (rm_line l Z a0 hw [] r57 p0 T57.heap n0 f57_0 Gl57) hZ57 (tw_255 hw) (tw_33 hw) (by decide) (by decide)) q58a q58c (g := (mkF m 298 #[(vI p0), (vI p1), (vI p2), (vI p3), (vI (p1 &&& (255 : Int32))), (vI (p2 &&& (255 : Int32))), (vI ee), (vI dg), (vR b11), (vR b16), (vR b18), (vR b53), (vR b55), (vR r57)] [(.ref r57)])) rfl (by rw [hml]; rfl) (Steps.refl _) (argsL := []) (rest := []) (lenOf pd___I rfl) rfl (by show 2 * 0 + _ ≤ _; exact Nat.le_of_eq rfl) (hb hby at_298) (fun _ _ => ⟨rfl, rfl, (by decide : 41 + 0 ≤ _), (by decide : 7287 + 0 ≤ _)⟩)
  dsimp only [Pt.U, Pt.locs, Pt.cells, Pt.slots] at X58 l58 y58 z58 st58 hQ58
  subst l58 y58 z58
  obtain ⟨rfl, N58q, q58⟩ := hQ58
  have N58 := Fr.app N57 N58q
  refine Go.by (fun t k => st58.trans k) ?_
  show oG p e below P m T58 301 #[(vI p0), (vI p1), (vI p2), (vI p3), (vI (p1 &&& (255 : Int32))), (vI (p2 &&& (255 : Int32))), (vI ee), (vI dg), (vR b11), (vR b16), (vR b18), (vR b53), (vR b55), (vR r57)] [(.int p0)]
  refine w_iloadN X58 hx hby at_301 rfl ?_
  refine w_icmpNo X58 hx hby at_302 (XT.ii_ne_f rfl) ?_
  refine w_aload X58 hx hby at_305 rfl rfl ?_
  obtain ⟨cq59, kq59, q59a, q59b, q59c⟩ := isOf hZ57 q58 Eb57
  obtain ⟨_, _, ⟨T59, L59, k59, n59⟩, -, X59, ⟨Lc59, hQ59, l59, y59, z59⟩, st59⟩ := X58.virtualBackUp hx (owner := "java/lang/Throwable") (x := (⟨"com/example/carovita/carovita/index/CsvFormatException", "getMessage", "()Ljava/lang/String;"⟩ : MethodName)) (y := oY29) hown57 (mvT hZ57 (tw_256 hw)) (mvT hZ57 (tw_257 hw)) (mvT hZ57 (tw_258 hw)) (by decide) (mvT hZ57 (tw_260 hw)) (mvT hZ57 (tw_259 hw)) (backOf (W := 0) (rm_getMsg l Z a0 hw [] r57 m57s T57.heap n0 f57_0 Gm57) hZ57 (tw_261 hw) (tw_204 hw) (by decide) (by decide)) q59a q59c (g := (mkF m 307 #[(vI p0), (vI p1), (vI p2), (vI p3), (vI (p1 &&& (255 : Int32))), (vI (p2 &&& (255 : Int32))), (vI ee), (vI dg), (vR b11), (vR b16), (vR b18), (vR b53), (vR b55), (vR r57)] [(.ref r57)])) rfl (by rw [hml]; rfl) (Steps.refl _) (argsL := []) (rest := []) (lenOf pd___Ljava_lang_String_ rfl) rfl (by show 2 * 0 + _ ≤ _; exact Nat.le_of_eq rfl) (hb hby at_307) (fun _ _ => ⟨rfl, q58, (by decide : 41 + 0 ≤ _), (by decide : 7287 + 0 ≤ _)⟩)
  dsimp only [Pt.U, Pt.locs, Pt.cells, Pt.slots] at X59 l59 y59 z59 st59 hQ59
  subst l59 y59 z59
  obtain ⟨rfl, N59q, q59⟩ := hQ59
  have N59 := Fr.app N58 N59q
  refine Go.by (fun t k => st59.trans k) ?_
  show oG p e below P m T59 310 #[(vI p0), (vI p1), (vI p2), (vI p3), (vI (p1 &&& (255 : Int32))), (vI (p2 &&& (255 : Int32))), (vI ee), (vI dg), (vR b11), (vR b16), (vR b18), (vR b53), (vR b55), (vR r57)] [(.ref m57s)]
  refine w_aload X59 hx hby at_310 rfl rfl ?_
  obtain ⟨cq60, kq60, q60a, q60b, q60c⟩ := isOf hZ57 q59 f57_22
  obtain ⟨_, _, ⟨T60, L60, k60, n60⟩, -, X60, ⟨Lc60, hQ60, l60, y60, z60⟩, st60⟩ := X59.virtualBackUp hx (owner := "java/lang/Throwable") (x := (⟨"com/example/carovita/carovita/index/CsvFormatException", "getMessage", "()Ljava/lang/String;"⟩ : MethodName)) (y := oY29) hown57 (mvT hZ57 (tw_256 hw)) (mvT hZ57 (tw_257 hw)) (mvT hZ57 (tw_258 hw)) (by decide) (mvT hZ57 (tw_260 hw)) (mvT hZ57 (tw_259 hw)) (backOf (W := 1) (rm_getMsg l Z a0 hw [] b55 m56s T57.heap n0 f57_0 f57_24) hZ57 (tw_261 hw) (tw_204 hw) (by decide) (by decide)) q60a q60c (g := (mkF m 312 #[(vI p0), (vI p1), (vI p2), (vI p3), (vI (p1 &&& (255 : Int32))), (vI (p2 &&& (255 : Int32))), (vI ee), (vI dg), (vR b11), (vR b16), (vR b18), (vR b53), (vR b55), (vR r57)] [(.ref b55), (.ref m57s)])) rfl (by rw [hml]; rfl) (Steps.refl _) (argsL := []) (rest := [(.ref m57s)]) (lenOf pd___Ljava_lang_String_ rfl) rfl (by show 2 * 0 + _ ≤ _; exact Nat.le_of_eq rfl) (hb hby at_312) (fun _ _ => ⟨rfl, q59, (by decide : 41 + 0 ≤ _), (by decide : 7287 + 0 ≤ _)⟩)
  dsimp only [Pt.U, Pt.locs, Pt.cells, Pt.slots] at X60 l60 y60 z60 st60 hQ60
  subst l60 y60 z60
  obtain ⟨rfl, N60q, q60⟩ := hQ60
  have N60 := Fr.app N59 N60q
  refine Go.by (fun t k => st60.trans k) ?_
  obtain ⟨cq61, kq61, q61a, q61b, q61c⟩ := isOf hZ57 q60 Es57
  obtain ⟨_, _, ⟨T61, L61, k61, n61⟩, -, X61, ⟨Lc61, hQ61, l61, y61, z61⟩, st61⟩ := X60.virtualBack hx (y := oY30) (z := oY30) hown57 (mvT hZ57 (tw_262 hw)) (mvT hZ57 (tw_263 hw)) (notFace_of_selects (args := #[]) (mvT hZ57 (tw_265 hw))) (mvT hZ57 (tw_265 hw)) (mvT hZ57 (tw_264 hw)) (by decide) (backOf (W := 0) (rm_strEq l Z a0 hw [] m57s m57d m57k (own_tot p0) (own_pre p0 ++ ([(.int ((p1 &&& (255 : Int32)).toInt8.toInt32)), (.int ((p2 &&& (255 : Int32)).toInt8.toInt32)), (.int 32), (.int 105), (.int 115), (.int 32), (.int 103), (.int 105), (.int 118), (.int 101), (.int 110), (.int 32), (.int 116), (.int 119), (.int 105), (.int 99), (.int 101), (.int 44), (.int 32), (.int 102), (.int 105), (.int 114), (.int 115), (.int 116), (.int 32), (.int 111), (.int 110), (.int 32), (.int 108), (.int 105), (.int 110), (.int 101), (.int 32), (.int ((own_d1 (-(-ee))).toInt8.toInt32))] : List Value)) m56s m56d m56k cs T57.heap n0 f57_0 f57_4 Scs hcs Es57 Gc57 Gv57 V57 f57_25 f57_26 f57_27 f57_28) hZ57 (tw_266 hw) (tw_4 hw) (by decide) (by decide)) q61a q61c (g := (mkF m 315 #[(vI p0), (vI p1), (vI p2), (vI p3), (vI (p1 &&& (255 : Int32))), (vI (p2 &&& (255 : Int32))), (vI ee), (vI dg), (vR b11), (vR b16), (vR b18), (vR b53), (vR b55), (vR r57)] [(.ref m56s), (.ref m57s)])) rfl (by rw [hml]; rfl) (Steps.refl _) (argsL := [(.ref m56s)]) (rest := []) (lenOf pd__Ljava_lang_Object__Z rfl) rfl (by show 2 * 0 + _ ≤ _; exact Nat.le_of_eq rfl) (hb hby at_315) (fun _ _ => ⟨rfl, q60, (by decide : 41 + 0 ≤ _), (by decide : 7287 + 0 ≤ _)⟩)
  dsimp only [Pt.U, Pt.locs, Pt.cells, Pt.slots] at X61 l61 y61 z61 st61 hQ61
  subst l61 y61 z61
  obtain ⟨rfl, N61q, q61⟩ := hQ61
  have N61 := Fr.app N60 N61q
  refine Go.by (fun t k => st61.trans k) ?_
  show oG p e below P m T61 318 #[(vI p0), (vI p1), (vI p2), (vI p3), (vI (p1 &&& (255 : Int32))), (vI (p2 &&& (255 : Int32))), (vI ee), (vI dg), (vR b11), (vR b16), (vR b18), (vR b53), (vR b55), (vR r57)] [(.int 1)]
  refine w_ifNo X61 hx hby at_318 (XT.i0_eq_f (by decide : ¬ (1 : Int32) = (0 : Int32))) ?_
  refine w_iconst X61 hx hby at_321 (v := 1) rfl ?_
  refine w_goto X61 hx hby at_322 (pc' := 326) (by decide) ?_
  refine own_finW hP hlk hEL hh X61 (v := some (.int 1)) (fun h => by rw [Bd.returns] at h; cases h) (by decide) (by decide) q61 hS57 f57_2 hZ57 f57_1 ?_ (fun fs hr => retOut X61 hx Bd.returns rfl (Or.inl ⟨rfl, Or.inr (Or.inl rfl), _, rfl⟩) (hb hby at_326) hr)
  exact ⟨rfl, N61⟩
set_option maxRecDepth 65536 in
set_option maxHeartbeats 40000000 in
theorem comes_1 {Post : Tables → Env → Array Value → State → Outcome → State → Prop} (hpost : ∀ tb e args s v u, (limb_1_1.after args s (.returned v) u = true ∧ limb_1_2.after args s (.returned v) u = true ∧ True) → ReturnedEndW s (.returned v) u (Jvm.fieldLocs frame_1_writes args s ++ Jvm.arrayLocs frame_1_arrays args s ++ Jvm.staticLocs frame_1_statics s) 72 15296 → Post tb e args s (.returned v) u) :
    ArmFor flags0 classFile x code maxLocals ret World_1 tables_1 room_1 Calls_1 rest_1 Pre_1 Post := by
  intro l hfl _ _ p e ha hc hk s m args below hf hA hF happ hP
  obtain ⟨hcalls, hrest, hpre⟩ := hP
  obtain ⟨-, -, -, hnamed, -, -, -, hat⟩ := (Spec.applies_iff hf).mp happ
  obtain ⟨hg, hn⟩ := and_e (Cond.before_iff.mp (show (Jvm.Cond.and given_1 narrow_1).before args s = true from hpre))
  obtain ⟨hg_0, hg_1⟩ := and_e hg
  obtain ⟨hg_2, hg_3⟩ := and_e hg_1
  obtain ⟨hg_4, hg_5⟩ := and_e hg_3
  obtain ⟨hg_6, hg_7⟩ := and_e hg_5
  obtain ⟨w0, w1, w2, w3, rfl⟩ : ∃ w0 w1 w2 w3 : Value, args = #[w0, w1, w2, w3] := by
    have hs : args.size = 4 := by simpa [Cond.value, given_1] using hg_0
    obtain ⟨L⟩ := args
    match L, hs with
    | [w0, w1, w2, w3], _ => exact ⟨w0, w1, w2, w3, rfl⟩
  have hw := fun d (hd : d ∈ tables_1) => atoms_spec (ws := Jvm.Cond.code x code maxLocals ret :: tables_1) hat d (List.mem_cons_of_mem _ hd)
  have hfit : Fit s := fun {y c} hc i hi => by
    obtain ⟨ha, rfl⟩ := Array.getElem?_eq_some_iff.mp hc
    have q := List.all_eq_true.mp ((Array.all_eq_true_iff_forall_mem.mp hF) _ (Array.getElem_mem ha)) i (List.mem_range.mpr hi)
    simpa [Array.getElem?_eq_getElem hi] using q
  obtain ⟨i0, ei0⟩ := is_v hg_2
  obtain rfl : w0 = (.int i0) := Option.some.inj ei0
  obtain ⟨i1, ei1⟩ := is_v hg_4
  obtain rfl : w1 = (.int i1) := Option.some.inj ei1
  obtain ⟨i2, ei2⟩ := is_v hg_6
  obtain rfl : w2 = (.int i2) := Option.some.inj ei2
  obtain ⟨i3, ei3⟩ := is_v hg_7
  obtain rfl : w3 = (.int i3) := Option.some.inj ei3
  obtain ⟨hsets, hown0⟩ := atoms_of _ (rest_1_c_eq ▸ (show rest_1_c.before _ s = true from hrest))
  obtain ⟨cs, evc⟩ := is_v (Cond.before_iff.mp (hsets _ (List.mem_of_getElem? (i := 1) rfl)))
  have Scs := Sta.start evc (Or.inl (hsets _ (List.mem_of_getElem? (i := 0) rfl)))
  have hcw : Jvm.Lit.compactW.before _ s = true := (hsets _ (List.mem_of_getElem? (i := 2) rfl))
  have hcs : ¬ cs = (0 : Int32) := by
    intro q
    have z := Cond.before_iff.mp hcw
    rw [q] at evc
    simp [Jvm.Lit.compactW, Cond.value, evc, Term.int_eval] at z
  obtain ⟨D1, kD1, ev1, VD1⟩ := own_tab hfit (hsets _ (List.mem_of_getElem? (i := 12) rfl)) (hsets _ (List.mem_of_getElem? (i := 13) rfl)) (tw_20 hw) (hsets _ (List.mem_of_getElem? (i := 14) rfl)) (fun j hj => own_tf1 j hj)
  have S1 := Sta.start ev1 (Or.inl (hsets _ (List.mem_of_getElem? (i := 11) rfl)))
  obtain ⟨D2, kD2, ev2, VD2⟩ := own_tab hfit (hsets _ (List.mem_of_getElem? (i := 17) rfl)) (hsets _ (List.mem_of_getElem? (i := 18) rfl)) (tw_20 hw) (hsets _ (List.mem_of_getElem? (i := 19) rfl)) (fun j hj => own_tf2 j hj)
  have S2 := Sta.start ev2 (Or.inl (hsets _ (List.mem_of_getElem? (i := 16) rfl)))
  obtain ⟨u, evu, hu⟩ := isR_v (Cond.before_iff.mp (hsets _ (List.mem_of_getElem? (i := 27) rfl)))
  have Su := Sta.start evu (Or.inl (hsets _ (List.mem_of_getElem? (i := 26) rfl)))
  obtain ⟨sn, evsn, hsn⟩ := isR_v (Cond.before_iff.mp (hsets _ (List.mem_of_getElem? (i := 32) rfl)))
  have Ssn := Sta.start evsn (Or.inl (hsets _ (List.mem_of_getElem? (i := 31) rfl)))
  have hl : l.stackTraces = true := by unfold Launch.stackTraces; rw [hfl]; decide
  have hEL := own_hEL hw
  have hCH : CHv s own_EL s.vm s.heap := CHv.start hEL (fun q hq => hcalls.2.2.1 q hq) hcw (tw_20 hw) (tw_3 hw)
  obtain ⟨n, o, h1, h2, h3, _, L, rfl, ⟨rfl, N⟩, -, hq⟩ := rm_law l s _ hw hEL tables_1 i0 i1 i2 i3 D1 kD1 D2 kD2 u sn cs s.heap s.heap.size (Nat.le_refl _) (Old.start s) Scs hcs Su hu Ssn hsn hl S1 S2 VD1 VD2 p e ha hc hk s m _ below hf ((Spec.applies_iff_loose hf).mp happ).1 ⟨rfl, State.Warmed39.refl s, rfl, hCH, fun _ q => nomatch q⟩ ⟨MethodsKnown_of_tablesKnown hcalls.2.1, FramesKnown_of_framesKnown hcalls.1 hf⟩
  refine ⟨n, _, h1, h2, h3, hpost _ _ _ _ _ _ ⟨Cond.after_iff.mpr rfl, Cond.after_iff.mpr (eq_i res_at (Term.int_eval (1)) rfl), trivial⟩ ⟨hq.1, hq.2.1, hq.2.2.1, (hq.2.2.2.sift fun y hy => Or.inr (N y hy)).mono (by decide) (by decide)⟩⟩
theorem main_1_1 : Claimed_1_1 := comes_1 fun _ _ _ _ _ _ h hF => ⟨h.1, hF⟩
theorem main_1_2 : Claimed_1_2 := comes_1 fun _ _ _ _ _ _ h hF => ⟨h.2.1, hF⟩
end Jvm.Pilot.@@N@@
namespace Jvm.Pilot.@@N@@
open Jvm Jvm.ClassFile Sem Op Lib Jvm.Free Jvm.Stand Jvm.Pilot.@@N@@.Jvm.D
/-! MADE BY PROGRAM (witnessworld.py) out of the Statement's table words and the real class files: 44 classes; the members and pool entries that the words name. The judged class is class 1, her method 1. -/
namespace start1
open Jvm.ClassFile
def u (s : String) : CpInfo := .utf8 (stringToUtf16 s)
/-- a pool by its gaps: so many unusable entries, then the entry; so many at the end -/
def gap : Nat → List CpInfo → List CpInfo
  | 0, r => r
  | n + 1, r => .unusable :: gap n r
def poolList (es : List (Nat × CpInfo)) (last : Nat) : List CpInfo := es.foldr (fun e r => gap e.1 (e.2 :: r)) (gap last [])
def pool (es : List (Nat × CpInfo)) (last : Nat) : Array CpInfo := ⟨poolList es last⟩
def fileOf (pool : Array CpInfo) (this : Nat) (attrs : Array Attribute := #[]) (ms : Array MethodInfo := #[]) (fl : Nat := 33) (sup : Nat := 0) (ifs : Array Nat := #[]) (fds : Array FieldInfo := #[]) : ClassFile where
  minorVersion := 0
  majorVersion := 65
  constantPool := pool
  accessFlags := fl
  thisClass := this
  superClass := sup
  interfaces := ifs
  fields := fds
  methods := ms
  attributes := attrs
def plain (name : String) (sup : Option ClassId) : Class where
  name := name
  kind := .ordinary
  loader := none
  accessFlags := 33
  super := sup
  interfaces := #[]
  cf := none
  fields := #[]
  methods := #[]
  instanceTypes := #[]
  staticTypes := #[]
  resolved := #[]
  callSites := []
  init := .initialized
  statics := none
  mirror := none

def pool0 : Array CpInfo := pool [(5, u "<init>"), (0, u "()V"), (1, .class_ 10), (1, u "java/lang/Object"), (85, u "clone"), (0, u "()Ljava/lang/Object;")] 26

def k0c0 : Code := { maxStack := 0, maxLocals := 1, code := object_method_1_code, exceptionTable := #[], attributes := #[] }
def k0m0 : Method := { name := "<init>", desc := "()V", sig := { parameters := [], returnType := none }, accessFlags := 1, code := some k0c0 }
def k0m1 : Method := { name := "clone", desc := "()Ljava/lang/Object;", sig := { parameters := [], returnType := some (.object "java/lang/Object") }, accessFlags := 260, code := none }
/-- java/lang/Object -/
def k0 : Class := { plain "java/lang/Object" none with
  accessFlags := 33
  interfaces := #[]
  cf := some (fileOf pool0 8 #[] #[{ accessFlags := 1, nameIndex := 5, descriptorIndex := 6, attributes := #[] }, { accessFlags := 260, nameIndex := 96, descriptorIndex := 97, attributes := #[] }] 33 0 #[] #[])
  fields := #[]
  methods := #[k0m0, k0m1]
  instanceTypes := #[]
  staticTypes := #[]
  resolved := Array.replicate 124 none
  statics := none }

def pool1 : Array CpInfo := pool [(2, .class_ 4), (1, u "java/lang/Object"), (0, u "<init>"), (0, u "()V"), (0, .integer 2147483647), (0, .class_ 9), (0, u "java/lang/String"), (0, .methodref 8 11), (0, .nameAndType 5 12), (0, u "([C)V"), (0, .class_ 14), (0, u "com/example/carovita/carovita/index/CsvFormatException"), (0, .methodref 13 16), (0, .nameAndType 5 17), (0, u "(ILjava/lang/String;)V"), (0, .methodref 13 19), (0, .nameAndType 20 21), (0, u "givenTwice"), (0, u "(ILjava/lang/String;I)Lcom/example/carovita/carovita/index/CsvFormatException;"), (0, .methodref 13 23), (0, .nameAndType 24 25), (0, u "line"), (0, u "()I"), (0, .methodref 13 27), (0, .nameAndType 28 29), (0, u "getMessage"), (0, u "()Ljava/lang/String;"), (0, .methodref 8 31), (0, .nameAndType 32 33), (0, u "equals"), (0, u "(Ljava/lang/Object;)Z"), (0, .class_ 35), (0, u "com/example/carovita/carovita/index/CsvFormatExceptionGivenTwicePinLaw"), (2, u "law"), (0, u "(IIII)Z")] 5

def k1m0 : Method := { name := "<init>", desc := "()V", sig := { parameters := [], returnType := none }, accessFlags := 1, code := none }
def k1c1 : Code := { maxStack := 4, maxLocals := 14, code := code, exceptionTable := #[], attributes := #[] }
def k1m1 : Method := { name := "law", desc := "(IIII)Z", sig := { parameters := [.int, .int, .int, .int], returnType := some .boolean }, accessFlags := 9, code := some k1c1 }
/-- com/example/carovita/carovita/index/CsvFormatExceptionGivenTwicePinLaw -/
def k1 : Class := { plain "com/example/carovita/carovita/index/CsvFormatExceptionGivenTwicePinLaw" (some 0) with
  accessFlags := 49
  interfaces := #[]
  cf := some (fileOf pool1 34 #[] #[{ accessFlags := 1, nameIndex := 5, descriptorIndex := 6, attributes := #[] }, { accessFlags := 9, nameIndex := 38, descriptorIndex := 39, attributes := #[] }] 49 2 #[] #[])
  fields := #[]
  methods := #[k1m0, k1m1]
  instanceTypes := #[]
  staticTypes := #[]
  resolved := Array.replicate 45 none
  statics := none }

def pool2 : Array CpInfo := pool [(1, .class_ 2), (0, u "java/io/Serializable"), (0, .class_ 4), (0, u "java/lang/Object")] 2

/-- java/io/Serializable -/
def k2 : Class := { plain "java/io/Serializable" (some 0) with
  accessFlags := 1537
  interfaces := #[]
  cf := some (fileOf pool2 1 #[] #[] 1537 3 #[] #[])
  fields := #[]
  methods := #[]
  instanceTypes := #[]
  staticTypes := #[]
  resolved := Array.replicate 7 none
  statics := none }

def pool3 : Array CpInfo := pool [(1, .class_ 2), (0, u "java/lang/Comparable"), (0, .class_ 4), (0, u "java/lang/Object")] 7

/-- java/lang/Comparable -/
def k3 : Class := { plain "java/lang/Comparable" (some 0) with
  accessFlags := 1537
  interfaces := #[]
  cf := some (fileOf pool3 1 #[] #[] 1537 3 #[] #[])
  fields := #[]
  methods := #[]
  instanceTypes := #[]
  staticTypes := #[]
  resolved := Array.replicate 12 none
  statics := none }

def pool4 : Array CpInfo := pool [(2, .class_ 4), (1, u "java/lang/CharSequence"), (42, .class_ 48), (0, u "java/lang/CharSequence$1CodePointIterator"), (10, .class_ 60), (0, u "java/lang/CharSequence$1CharIterator"), (5, .class_ 67), (0, u "java/lang/Object")] 63

/-- java/lang/CharSequence -/
def k4 : Class := { plain "java/lang/CharSequence" (some 0) with
  accessFlags := 1537
  interfaces := #[]
  cf := some (fileOf pool4 2 #[.nestMembers #[47, 59]] #[] 1537 66 #[] #[])
  fields := #[]
  methods := #[]
  instanceTypes := #[]
  staticTypes := #[]
  resolved := Array.replicate 131 none
  statics := none }

def pool5 : Array CpInfo := pool [(1, .class_ 2), (0, u "java/lang/constant/Constable"), (0, .class_ 4), (0, u "java/lang/Object")] 6

/-- java/lang/constant/Constable -/
def k5 : Class := { plain "java/lang/constant/Constable" (some 0) with
  accessFlags := 1537
  interfaces := #[]
  cf := some (fileOf pool5 1 #[] #[] 1537 3 #[] #[])
  fields := #[]
  methods := #[]
  instanceTypes := #[]
  staticTypes := #[]
  resolved := Array.replicate 11 none
  statics := none }

def pool6 : Array CpInfo := pool [(1, .class_ 2), (0, u "java/lang/constant/ConstantDesc"), (0, .class_ 4), (0, u "java/lang/Object")] 32

/-- java/lang/constant/ConstantDesc -/
def k6 : Class := { plain "java/lang/constant/ConstantDesc" (some 0) with
  accessFlags := 1537
  interfaces := #[]
  cf := some (fileOf pool6 1 #[] #[] 1537 3 #[] #[])
  fields := #[]
  methods := #[]
  instanceTypes := #[]
  staticTypes := #[]
  resolved := Array.replicate 37 none
  statics := none }

def pool7 : Array CpInfo := pool [(1, .methodref 2 3), (0, .class_ 4), (0, .nameAndType 5 6), (0, u "java/lang/Object"), (0, u "<init>"), (0, u "()V"), (2, .fieldref 10 11), (0, .class_ 12), (0, .nameAndType 13 14), (0, u "java/lang/String"), (0, u "value"), (0, u "[B"), (0, .fieldref 10 16), (0, .nameAndType 17 18), (0, u "coder"), (0, u "B"), (2, u "hash"), (0, u "I"), (2, u "hashIsZero"), (0, u "Z"), (0, .methodref 10 28), (0, .nameAndType 5 29), (0, u "([CIILjava/lang/Void;)V"), (8, .fieldref 10 39), (0, .nameAndType 40 26), (0, u "COMPACT_STRINGS"), (1, .class_ 44), (1, u "java/lang/StringUTF16"), (0, u "compress"), (1, .methodref 42 48), (0, .nameAndType 49 50), (0, u "coderFromArrayLen"), (0, u "([BI)B"), (3, .methodref 55 56), (0, .class_ 57), (0, .nameAndType 58 59), (0, u "java/util/Arrays"), (0, u "copyOfRange"), (0, u "([BII)[B"), (47, .class_ 109), (1, u "java/lang/StringLatin1"), (32, u "()Z"), (34, .methodref 42 178), (0, .nameAndType 45 179), (0, u "([CII)[B"), (13, .class_ 195), (1, u "java/lang/System"), (16, .methodref 193 213), (0, .nameAndType 214 215), (0, u "arraycopy"), (0, u "(Ljava/lang/Object;ILjava/lang/Object;II)V"), (118, u "()I"), (0, .methodref 10 336), (0, .nameAndType 17 337), (0, u "()B"), (2, u "()[B"), (148, .methodref 10 490), (0, .nameAndType 5 491), (0, u "(Ljava/lang/AbstractStringBuilder;Ljava/lang/Void;)V"), (1, .nameAndType 494 142), (0, u "isLatin1"), (11, .nameAndType 507 334), (0, u "length"), (24, u "getBytes"), (8, .methodref 107 542), (0, .nameAndType 543 544), (0, u "equals"), (0, u "([B[B)Z"), (4, .methodref 550 506), (0, .class_ 551), (0, u "java/lang/AbstractStringBuilder"), (0, .methodref 550 553), (0, .nameAndType 554 340), (0, u "getValue"), (18, u "(Ljava/lang/Object;)Z"), (1, .class_ 576), (0, u "java/lang/CharSequence"), (22, u "CASE_INSENSITIVE_ORDER"), (0, u "Ljava/util/Comparator;"), (220, u "([BIB)V"), (188, u "([C)V"), (36, .methodref 550 493), (53, u "serialPersistentFields"), (0, u "[Ljava/io/ObjectStreamField;"), (0, .class_ 1104), (0, u "java/lang/String$CaseInsensitiveComparator"), (1, .class_ 1107), (0, u "java/io/Serializable"), (0, .class_ 1109), (0, u "java/lang/Comparable"), (0, .class_ 1111), (0, u "java/lang/constant/Constable"), (0, .class_ 1113), (0, u "java/lang/constant/ConstantDesc"), (2, u "serialVersionUID"), (0, u "J"), (3, u "REPL"), (0, u "C"), (2, u "LATIN1"), (1, u "UTF16"), (105, u "(Ljava/lang/StringBuilder;)V")] 217

def k7m0 : Method := { name := "<init>", desc := "()V", sig := { parameters := [], returnType := none }, accessFlags := 1, code := none }
def k7c1 : Code := { maxStack := 5, maxLocals := 2, code := jdk_42_method_3_code, exceptionTable := #[], attributes := #[] }
def k7m1 : Method := { name := "<init>", desc := "([C)V", sig := { parameters := [(.array .char)], returnType := none }, accessFlags := 1, code := some k7c1 }
def k7c2 : Code := { maxStack := 3, maxLocals := 2, code := jdk_42_method_53_code, exceptionTable := #[], attributes := #[] }
def k7m2 : Method := { name := "<init>", desc := "(Ljava/lang/StringBuilder;)V", sig := { parameters := [(.object "java/lang/StringBuilder")], returnType := none }, accessFlags := 1, code := some k7c2 }
def k7c3 : Code := { maxStack := 2, maxLocals := 1, code := jdk_42_method_54_code, exceptionTable := #[], attributes := #[] }
def k7m3 : Method := { name := "length", desc := "()I", sig := { parameters := [], returnType := some .int }, accessFlags := 1, code := some k7c3 }
def k7c4 : Code := { maxStack := 2, maxLocals := 3, code := jdk_42_method_66_code, exceptionTable := #[], attributes := #[] }
def k7m4 : Method := { name := "equals", desc := "(Ljava/lang/Object;)Z", sig := { parameters := [(.object "java/lang/Object")], returnType := some .boolean }, accessFlags := 1, code := some k7c4 }
def k7c5 : Code := { maxStack := 5, maxLocals := 4, code := jdk_42_method_147_code, exceptionTable := #[], attributes := #[] }
def k7m5 : Method := { name := "getBytes", desc := "([BIB)V", sig := { parameters := [(.array .byte), .int, .byte], returnType := none }, accessFlags := 0, code := some k7c5 }
def k7c6 : Code := { maxStack := 4, maxLocals := 6, code := jdk_42_method_149_code, exceptionTable := #[], attributes := #[] }
def k7m6 : Method := { name := "<init>", desc := "([CIILjava/lang/Void;)V", sig := { parameters := [(.array .char), .int, .int, (.object "java/lang/Void")], returnType := none }, accessFlags := 2, code := some k7c6 }
def k7c7 : Code := { maxStack := 5, maxLocals := 5, code := jdk_42_method_150_code, exceptionTable := #[], attributes := #[] }
def k7m7 : Method := { name := "<init>", desc := "(Ljava/lang/AbstractStringBuilder;Ljava/lang/Void;)V", sig := { parameters := [(.object "java/lang/AbstractStringBuilder"), (.object "java/lang/Void")], returnType := none }, accessFlags := 0, code := some k7c7 }
def k7c8 : Code := { maxStack := 1, maxLocals := 1, code := jdk_42_method_152_code, exceptionTable := #[], attributes := #[] }
def k7m8 : Method := { name := "coder", desc := "()B", sig := { parameters := [], returnType := some .byte }, accessFlags := 0, code := some k7c8 }
/-- java/lang/String -/
def k7 : Class := { plain "java/lang/String" (some 0) with
  accessFlags := 49
  interfaces := #[2, 3, 4, 5, 6]
  cf := some (fileOf pool7 10 #[.nestMembers #[1103]] #[{ accessFlags := 1, nameIndex := 5, descriptorIndex := 6, attributes := #[] }, { accessFlags := 1, nameIndex := 5, descriptorIndex := 1010, attributes := #[] }, { accessFlags := 1, nameIndex := 5, descriptorIndex := 1233, attributes := #[] }, { accessFlags := 1, nameIndex := 507, descriptorIndex := 334, attributes := #[] }, { accessFlags := 1, nameIndex := 543, descriptorIndex := 573, attributes := #[] }, { accessFlags := 0, nameIndex := 532, descriptorIndex := 821, attributes := #[] }, { accessFlags := 2, nameIndex := 5, descriptorIndex := 29, attributes := #[] }, { accessFlags := 0, nameIndex := 5, descriptorIndex := 491, attributes := #[] }, { accessFlags := 0, nameIndex := 17, descriptorIndex := 337, attributes := #[] }] 49 2 #[1106, 1108, 575, 1110, 1112] #[{ accessFlags := 18, nameIndex := 13, descriptorIndex := 14, attributes := #[] }, { accessFlags := 18, nameIndex := 17, descriptorIndex := 18, attributes := #[] }, { accessFlags := 2, nameIndex := 21, descriptorIndex := 22, attributes := #[] }, { accessFlags := 2, nameIndex := 25, descriptorIndex := 26, attributes := #[] }, { accessFlags := 26, nameIndex := 1116, descriptorIndex := 1117, attributes := #[] }, { accessFlags := 24, nameIndex := 40, descriptorIndex := 26, attributes := #[] }, { accessFlags := 26, nameIndex := 1101, descriptorIndex := 1102, attributes := #[] }, { accessFlags := 26, nameIndex := 1121, descriptorIndex := 1122, attributes := #[] }, { accessFlags := 25, nameIndex := 599, descriptorIndex := 600, attributes := #[] }, { accessFlags := 24, nameIndex := 1125, descriptorIndex := 18, attributes := #[] }, { accessFlags := 24, nameIndex := 1127, descriptorIndex := 18, attributes := #[] }])
  fields := #[{ name := "value", type := (.array .byte), accessFlags := 18, slot := 0, constantValue := 0 }, { name := "coder", type := .byte, accessFlags := 18, slot := 1, constantValue := 0 }, { name := "hash", type := .int, accessFlags := 2, slot := 2, constantValue := 0 }, { name := "hashIsZero", type := .boolean, accessFlags := 2, slot := 3, constantValue := 0 }, { name := "serialVersionUID", type := .long, accessFlags := 26, slot := 0, constantValue := 0 }, { name := "COMPACT_STRINGS", type := .boolean, accessFlags := 24, slot := 1, constantValue := 0 }, { name := "serialPersistentFields", type := (.array (.object "java/io/ObjectStreamField")), accessFlags := 26, slot := 2, constantValue := 0 }, { name := "REPL", type := .char, accessFlags := 26, slot := 3, constantValue := 0 }, { name := "CASE_INSENSITIVE_ORDER", type := (.object "java/util/Comparator"), accessFlags := 25, slot := 4, constantValue := 0 }, { name := "LATIN1", type := .byte, accessFlags := 24, slot := 5, constantValue := 0 }, { name := "UTF16", type := .byte, accessFlags := 24, slot := 6, constantValue := 0 }]
  methods := #[k7m0, k7m1, k7m2, k7m3, k7m4, k7m5, k7m6, k7m7, k7m8]
  instanceTypes := #[(.array .byte), .byte, .int, .boolean]
  staticTypes := #[.long, .boolean, (.array (.object "java/io/ObjectStreamField")), .char, (.object "java/util/Comparator"), .byte, .byte]
  resolved := Array.replicate 1451 none
  statics := some 0 }

def pool8 : Array CpInfo := pool [(6, .class_ 8), (1, u "java/lang/Object"), (0, u "<init>"), (0, u "()V"), (1, .class_ 14), (1, u "java/lang/StringUTF16"), (31, u "$assertionsDisabled"), (0, u "Z"), (13, u "HI_BYTE_SHIFT"), (0, u "I"), (2, u "LO_BYTE_SHIFT"), (49, .methodref 12 116), (0, .nameAndType 117 118), (0, u "compress"), (0, u "([CI[BII)I"), (3, u "([CII)[B"), (138, u "coderFromArrayLen"), (0, u "([BI)B"), (106, .class_ 371), (1, u "java/lang/StringUTF16$LinesSpliterator"), (58, u "MAX_LENGTH"), (196, .class_ 628), (0, u "java/lang/StringUTF16$CodePointsSpliterator"), (0, .class_ 630), (0, u "java/lang/StringUTF16$CharsSpliterator")] 4

def k8m0 : Method := { name := "<init>", desc := "()V", sig := { parameters := [], returnType := none }, accessFlags := 0, code := none }
def k8c1 : Code := { maxStack := 2, maxLocals := 2, code := jdk_52_method_15_code, exceptionTable := #[], attributes := #[] }
def k8m1 : Method := { name := "coderFromArrayLen", desc := "([BI)B", sig := { parameters := [(.array .byte), .int], returnType := some .byte }, accessFlags := 8, code := some k8c1 }
def k8c2 : Code := { maxStack := 5, maxLocals := 6, code := jdk_52_method_16_code, exceptionTable := #[], attributes := #[] }
def k8m2 : Method := { name := "compress", desc := "([CII)[B", sig := { parameters := [(.array .char), .int, .int], returnType := some (.array .byte) }, accessFlags := 9, code := some k8c2 }
def k8c3 : Code := { maxStack := 3, maxLocals := 7, code := jdk_52_method_21_code, exceptionTable := #[], attributes := #[] }
def k8m3 : Method := { name := "compress", desc := "([CI[BII)I", sig := { parameters := [(.array .char), .int, (.array .byte), .int, .int], returnType := some .int }, accessFlags := 9, code := some k8c3 }
/-- java/lang/StringUTF16 -/
def k8 : Class := { plain "java/lang/StringUTF16" (some 0) with
  accessFlags := 48
  interfaces := #[]
  cf := some (fileOf pool8 12 #[.nestMembers #[627, 629, 369]] #[{ accessFlags := 0, nameIndex := 9, descriptorIndex := 10, attributes := #[] }, { accessFlags := 8, nameIndex := 261, descriptorIndex := 262, attributes := #[] }, { accessFlags := 9, nameIndex := 117, descriptorIndex := 122, attributes := #[] }, { accessFlags := 9, nameIndex := 117, descriptorIndex := 118, attributes := #[] }] 48 6 #[] #[{ accessFlags := 26, nameIndex := 61, descriptorIndex := 62, attributes := #[] }, { accessFlags := 26, nameIndex := 65, descriptorIndex := 62, attributes := #[] }, { accessFlags := 24, nameIndex := 430, descriptorIndex := 62, attributes := #[] }, { accessFlags := 4120, nameIndex := 46, descriptorIndex := 47, attributes := #[] }])
  fields := #[{ name := "HI_BYTE_SHIFT", type := .int, accessFlags := 26, slot := 0, constantValue := 0 }, { name := "LO_BYTE_SHIFT", type := .int, accessFlags := 26, slot := 1, constantValue := 0 }, { name := "MAX_LENGTH", type := .int, accessFlags := 24, slot := 2, constantValue := 0 }, { name := "$assertionsDisabled", type := .boolean, accessFlags := 4120, slot := 3, constantValue := 0 }]
  methods := #[k8m0, k8m1, k8m2, k8m3]
  instanceTypes := #[]
  staticTypes := #[.int, .int, .int, .boolean]
  resolved := Array.replicate 635 none
  statics := none }

def pool9 : Array CpInfo := pool [(1, .methodref 2 3), (0, .class_ 4), (0, .nameAndType 5 6), (0, u "java/lang/Object"), (0, u "<init>"), (0, u "()V"), (0, .fieldref 8 9), (0, .class_ 10), (0, .nameAndType 11 12), (0, u "java/lang/Throwable"), (0, u "cause"), (0, u "Ljava/lang/Throwable;"), (0, .fieldref 8 14), (0, .nameAndType 15 16), (0, u "UNASSIGNED_STACK"), (0, u "[Ljava/lang/StackTraceElement;"), (0, .fieldref 8 18), (0, .nameAndType 19 16), (0, u "stackTrace"), (0, .fieldref 8 21), (0, .nameAndType 22 23), (0, u "SUPPRESSED_SENTINEL"), (0, u "Ljava/util/List;"), (0, .fieldref 8 25), (0, .nameAndType 26 23), (0, u "suppressedExceptions"), (0, .methodref 8 28), (0, .nameAndType 29 30), (0, u "fillInStackTrace"), (0, u "()Ljava/lang/Throwable;"), (0, .fieldref 8 32), (0, .nameAndType 33 34), (0, u "detailMessage"), (0, u "Ljava/lang/String;"), (3, u "()Ljava/lang/String;"), (2, u "getMessage"), (51, .class_ 94), (0, u "java/lang/Throwable$WrappedPrintStream"), (6, .class_ 103), (1, u "java/lang/Throwable$PrintStreamOrWriter"), (61, u "$assertionsDisabled"), (0, u "Z"), (26, .class_ 194), (0, u "java/lang/Throwable$WrappedPrintWriter"), (3, .fieldref 8 199), (0, .nameAndType 200 201), (0, u "backtrace"), (0, u "Ljava/lang/Object;"), (0, .methodref 8 203), (0, .nameAndType 29 204), (0, u "(I)Ljava/lang/Throwable;"), (6, u "depth"), (0, u "I"), (10, u "(Ljava/lang/String;)V"), (45, .class_ 271), (1, u "java/lang/Throwable$SentinelHolder"), (32, u "EMPTY_THROWABLE_ARRAY"), (0, u "[Ljava/lang/Throwable;"), (12, .class_ 319), (0, u "java/io/Serializable"), (0, u "serialVersionUID"), (0, u "J"), (5, u "NULL_CAUSE_MESSAGE"), (0, u "SELF_SUPPRESSION_MESSAGE"), (0, u "CAUSE_CAPTION"), (0, u "SUPPRESSED_CAPTION")] 73

def k9c0 : Code := { maxStack := 2, maxLocals := 1, code := jdk_78_method_1_code, exceptionTable := #[], attributes := #[] }
def k9m0 : Method := { name := "<init>", desc := "()V", sig := { parameters := [], returnType := none }, accessFlags := 1, code := some k9c0 }
def k9c1 : Code := { maxStack := 2, maxLocals := 2, code := jdk_78_method_2_code, exceptionTable := #[], attributes := #[] }
def k9m1 : Method := { name := "<init>", desc := "(Ljava/lang/String;)V", sig := { parameters := [(.object "java/lang/String")], returnType := none }, accessFlags := 1, code := some k9c1 }
def k9c2 : Code := { maxStack := 1, maxLocals := 1, code := jdk_78_method_6_code, exceptionTable := #[], attributes := #[] }
def k9m2 : Method := { name := "getMessage", desc := "()Ljava/lang/String;", sig := { parameters := [], returnType := some (.object "java/lang/String") }, accessFlags := 1, code := some k9c2 }
def k9c3 : Code := { maxStack := 2, maxLocals := 1, code := ⟨#[0x2a, 0xb4, 0x00, 0x11, 0xc7, 0x00, 0x0a, 0x2a, 0xb4, 0x00, 0xc6, 0xc6, 0x00, 0x10, 0x2a, 0x03, 0xb6, 0x00, 0xca, 0x57, 0x2a, 0xb2, 0x00, 0x0d, 0xb5, 0x00, 0x11, 0x2a, 0xb0]⟩, exceptionTable := #[], attributes := #[] }
def k9m3 : Method := { name := "fillInStackTrace", desc := "()Ljava/lang/Throwable;", sig := { parameters := [], returnType := some (.object "java/lang/Throwable") }, accessFlags := 33, code := some k9c3 }
def k9m4 : Method := { name := "fillInStackTrace", desc := "(I)Ljava/lang/Throwable;", sig := { parameters := [.int], returnType := some (.object "java/lang/Throwable") }, accessFlags := 258, code := none }
/-- java/lang/Throwable -/
def k9 : Class := { plain "java/lang/Throwable" (some 0) with
  accessFlags := 33
  interfaces := #[2]
  cf := some (fileOf pool9 8 #[.nestMembers #[193, 93, 101, 269]] #[{ accessFlags := 1, nameIndex := 5, descriptorIndex := 6, attributes := #[] }, { accessFlags := 1, nameIndex := 5, descriptorIndex := 223, attributes := #[] }, { accessFlags := 1, nameIndex := 41, descriptorIndex := 38, attributes := #[] }, { accessFlags := 33, nameIndex := 29, descriptorIndex := 30, attributes := #[] }, { accessFlags := 258, nameIndex := 29, descriptorIndex := 204, attributes := #[] }] 33 2 #[318] #[{ accessFlags := 26, nameIndex := 320, descriptorIndex := 321, attributes := #[] }, { accessFlags := 130, nameIndex := 200, descriptorIndex := 201, attributes := #[] }, { accessFlags := 2, nameIndex := 33, descriptorIndex := 34, attributes := #[] }, { accessFlags := 26, nameIndex := 15, descriptorIndex := 16, attributes := #[] }, { accessFlags := 2, nameIndex := 11, descriptorIndex := 12, attributes := #[] }, { accessFlags := 2, nameIndex := 19, descriptorIndex := 16, attributes := #[] }, { accessFlags := 130, nameIndex := 211, descriptorIndex := 212, attributes := #[] }, { accessFlags := 26, nameIndex := 22, descriptorIndex := 23, attributes := #[] }, { accessFlags := 2, nameIndex := 26, descriptorIndex := 23, attributes := #[] }, { accessFlags := 26, nameIndex := 327, descriptorIndex := 34, attributes := #[] }, { accessFlags := 26, nameIndex := 328, descriptorIndex := 34, attributes := #[] }, { accessFlags := 26, nameIndex := 329, descriptorIndex := 34, attributes := #[] }, { accessFlags := 26, nameIndex := 330, descriptorIndex := 34, attributes := #[] }, { accessFlags := 26, nameIndex := 304, descriptorIndex := 305, attributes := #[] }, { accessFlags := 4120, nameIndex := 165, descriptorIndex := 166, attributes := #[] }])
  fields := #[{ name := "serialVersionUID", type := .long, accessFlags := 26, slot := 0, constantValue := 0 }, { name := "backtrace", type := (.object "java/lang/Object"), accessFlags := 130, slot := 0, constantValue := 0 }, { name := "detailMessage", type := (.object "java/lang/String"), accessFlags := 2, slot := 1, constantValue := 0 }, { name := "UNASSIGNED_STACK", type := (.array (.object "java/lang/StackTraceElement")), accessFlags := 26, slot := 1, constantValue := 0 }, { name := "cause", type := (.object "java/lang/Throwable"), accessFlags := 2, slot := 2, constantValue := 0 }, { name := "stackTrace", type := (.array (.object "java/lang/StackTraceElement")), accessFlags := 2, slot := 3, constantValue := 0 }, { name := "depth", type := .int, accessFlags := 130, slot := 4, constantValue := 0 }, { name := "SUPPRESSED_SENTINEL", type := (.object "java/util/List"), accessFlags := 26, slot := 2, constantValue := 0 }, { name := "suppressedExceptions", type := (.object "java/util/List"), accessFlags := 2, slot := 5, constantValue := 0 }, { name := "NULL_CAUSE_MESSAGE", type := (.object "java/lang/String"), accessFlags := 26, slot := 3, constantValue := 0 }, { name := "SELF_SUPPRESSION_MESSAGE", type := (.object "java/lang/String"), accessFlags := 26, slot := 4, constantValue := 0 }, { name := "CAUSE_CAPTION", type := (.object "java/lang/String"), accessFlags := 26, slot := 5, constantValue := 0 }, { name := "SUPPRESSED_CAPTION", type := (.object "java/lang/String"), accessFlags := 26, slot := 6, constantValue := 0 }, { name := "EMPTY_THROWABLE_ARRAY", type := (.array (.object "java/lang/Throwable")), accessFlags := 26, slot := 7, constantValue := 0 }, { name := "$assertionsDisabled", type := .boolean, accessFlags := 4120, slot := 8, constantValue := 0 }]
  methods := #[k9m0, k9m1, k9m2, k9m3, k9m4]
  instanceTypes := #[(.object "java/lang/Object"), (.object "java/lang/String"), (.object "java/lang/Throwable"), (.array (.object "java/lang/StackTraceElement")), .int, (.object "java/util/List")]
  staticTypes := #[.long, (.array (.object "java/lang/StackTraceElement")), (.object "java/util/List"), (.object "java/lang/String"), (.object "java/lang/String"), (.object "java/lang/String"), (.object "java/lang/String"), (.array (.object "java/lang/Throwable")), .boolean]
  resolved := Array.replicate 404 none
  statics := some 1 }

def pool10 : Array CpInfo := pool [(2, .class_ 4), (1, u "java/lang/Throwable"), (0, u "<init>"), (0, u "()V"), (0, .methodref 2 8), (0, .nameAndType 5 9), (0, u "(Ljava/lang/String;)V"), (9, .class_ 20), (0, u "java/lang/Exception"), (0, u "serialVersionUID"), (0, u "J")] 17

def k10m0 : Method := { name := "<init>", desc := "()V", sig := { parameters := [], returnType := none }, accessFlags := 1, code := none }
def k10c1 : Code := { maxStack := 2, maxLocals := 2, code := jdk_59_method_2_code, exceptionTable := #[], attributes := #[] }
def k10m1 : Method := { name := "<init>", desc := "(Ljava/lang/String;)V", sig := { parameters := [(.object "java/lang/String")], returnType := none }, accessFlags := 1, code := some k10c1 }
/-- java/lang/Exception -/
def k10 : Class := { plain "java/lang/Exception" (some 9) with
  accessFlags := 33
  interfaces := #[]
  cf := some (fileOf pool10 19 #[] #[{ accessFlags := 1, nameIndex := 5, descriptorIndex := 6, attributes := #[] }, { accessFlags := 1, nameIndex := 5, descriptorIndex := 9, attributes := #[] }] 33 2 #[] #[{ accessFlags := 24, nameIndex := 21, descriptorIndex := 22, attributes := #[] }])
  fields := #[{ name := "serialVersionUID", type := .long, accessFlags := 24, slot := 0, constantValue := 0 }]
  methods := #[k10m0, k10m1]
  instanceTypes := #[(.object "java/lang/Object"), (.object "java/lang/String"), (.object "java/lang/Throwable"), (.array (.object "java/lang/StackTraceElement")), .int, (.object "java/util/List")]
  staticTypes := #[.long]
  resolved := Array.replicate 40 none
  statics := none }

def pool11 : Array CpInfo := pool [(2, .class_ 4), (1, u "java/lang/Exception"), (0, u "<init>"), (0, u "()V"), (0, .methodref 2 8), (0, .nameAndType 5 9), (0, u "(Ljava/lang/String;)V"), (6, .class_ 17), (0, u "java/io/IOException"), (0, u "serialVersionUID"), (0, u "J")] 14

def k11m0 : Method := { name := "<init>", desc := "()V", sig := { parameters := [], returnType := none }, accessFlags := 1, code := none }
def k11c1 : Code := { maxStack := 2, maxLocals := 2, code := jdk_131_method_2_code, exceptionTable := #[], attributes := #[] }
def k11m1 : Method := { name := "<init>", desc := "(Ljava/lang/String;)V", sig := { parameters := [(.object "java/lang/String")], returnType := none }, accessFlags := 1, code := some k11c1 }
/-- java/io/IOException -/
def k11 : Class := { plain "java/io/IOException" (some 10) with
  accessFlags := 33
  interfaces := #[]
  cf := some (fileOf pool11 16 #[] #[{ accessFlags := 1, nameIndex := 5, descriptorIndex := 6, attributes := #[] }, { accessFlags := 1, nameIndex := 5, descriptorIndex := 9, attributes := #[] }] 33 2 #[] #[{ accessFlags := 24, nameIndex := 18, descriptorIndex := 19, attributes := #[] }])
  fields := #[{ name := "serialVersionUID", type := .long, accessFlags := 24, slot := 0, constantValue := 0 }]
  methods := #[k11m0, k11m1]
  instanceTypes := #[(.object "java/lang/Object"), (.object "java/lang/String"), (.object "java/lang/Throwable"), (.array (.object "java/lang/StackTraceElement")), .int, (.object "java/util/List")]
  staticTypes := #[.long]
  resolved := Array.replicate 34 none
  statics := none }

def pool12 : Array CpInfo := pool [(1, .class_ 2), (0, u "java/lang/StringBuilder"), (0, .methodref 1 4), (0, .nameAndType 5 6), (0, u "<init>"), (0, u "()V"), (0, .string 8), (0, u "line "), (0, .methodref 1 10), (0, .nameAndType 11 12), (0, u "append"), (0, u "(Ljava/lang/String;)Ljava/lang/StringBuilder;"), (0, .methodref 1 14), (0, .nameAndType 11 15), (0, u "(I)Ljava/lang/StringBuilder;"), (0, .string 17), (0, u ": "), (0, .methodref 1 19), (0, .nameAndType 20 21), (0, u "toString"), (0, u "()Ljava/lang/String;"), (0, .methodref 23 24), (0, .class_ 25), (0, .nameAndType 5 26), (0, u "java/io/IOException"), (0, u "(Ljava/lang/String;)V"), (0, .fieldref 28 29), (0, .class_ 30), (0, .nameAndType 31 32), (0, u "com/example/carovita/carovita/index/CsvFormatException"), (0, u "line"), (0, u "I"), (0, .string 34), (0, u " is given twice, first on line "), (0, .methodref 28 36), (0, .nameAndType 5 37), (0, u "(ILjava/lang/String;)V"), (0, u "serialVersionUID"), (0, u "J"), (5, u "givenTwice"), (0, u "(ILjava/lang/String;I)Lcom/example/carovita/carovita/index/CsvFormatException;"), (0, u "()I")] 2

def k12c0 : Code := { maxStack := 3, maxLocals := 3, code := prog_36_method_1_code, exceptionTable := #[], attributes := #[] }
def k12m0 : Method := { name := "<init>", desc := "(ILjava/lang/String;)V", sig := { parameters := [.int, (.object "java/lang/String")], returnType := none }, accessFlags := 1, code := some k12c0 }
def k12c1 : Code := { maxStack := 5, maxLocals := 3, code := prog_36_method_2_code, exceptionTable := #[], attributes := #[] }
def k12m1 : Method := { name := "givenTwice", desc := "(ILjava/lang/String;I)Lcom/example/carovita/carovita/index/CsvFormatException;", sig := { parameters := [.int, (.object "java/lang/String"), .int], returnType := some (.object "com/example/carovita/carovita/index/CsvFormatException") }, accessFlags := 9, code := some k12c1 }
def k12c2 : Code := { maxStack := 1, maxLocals := 1, code := prog_36_method_3_code, exceptionTable := #[], attributes := #[] }
def k12m2 : Method := { name := "line", desc := "()I", sig := { parameters := [], returnType := some .int }, accessFlags := 1, code := some k12c2 }
/-- com/example/carovita/carovita/index/CsvFormatException -/
def k12 : Class := { plain "com/example/carovita/carovita/index/CsvFormatException" (some 11) with
  accessFlags := 49
  interfaces := #[]
  cf := some (fileOf pool12 28 #[] #[{ accessFlags := 1, nameIndex := 5, descriptorIndex := 37, attributes := #[] }, { accessFlags := 9, nameIndex := 45, descriptorIndex := 46, attributes := #[] }, { accessFlags := 1, nameIndex := 31, descriptorIndex := 47, attributes := #[] }] 49 23 #[] #[{ accessFlags := 26, nameIndex := 38, descriptorIndex := 39, attributes := #[] }, { accessFlags := 18, nameIndex := 31, descriptorIndex := 32, attributes := #[] }])
  fields := #[{ name := "serialVersionUID", type := .long, accessFlags := 26, slot := 0, constantValue := 0 }, { name := "line", type := .int, accessFlags := 18, slot := 6, constantValue := 0 }]
  methods := #[k12m0, k12m1, k12m2]
  instanceTypes := #[(.object "java/lang/Object"), (.object "java/lang/String"), (.object "java/lang/Throwable"), (.array (.object "java/lang/StackTraceElement")), .int, (.object "java/util/List"), .int]
  staticTypes := #[.long]
  resolved := Array.replicate 50 none
  statics := none }

def pool13 : Array CpInfo := pool [(1, .class_ 2), (0, u "java/lang/Appendable"), (0, .class_ 4), (0, u "java/lang/Object")] 9

/-- java/lang/Appendable -/
def k13 : Class := { plain "java/lang/Appendable" (some 0) with
  accessFlags := 1537
  interfaces := #[]
  cf := some (fileOf pool13 1 #[] #[] 1537 3 #[] #[])
  fields := #[]
  methods := #[]
  instanceTypes := #[]
  staticTypes := #[]
  resolved := Array.replicate 14 none
  statics := none }

def pool14 : Array CpInfo := pool [(1, .class_ 2), (0, u "java/lang/String"), (0, .methodref 4 5), (0, .class_ 6), (0, .nameAndType 7 8), (0, u "java/lang/Object"), (0, u "<init>"), (0, u "()V"), (1, .class_ 12), (1, u "java/lang/AbstractStringBuilder"), (0, u "EMPTYVALUE"), (0, u "[B"), (0, .fieldref 10 16), (0, .nameAndType 17 14), (0, u "value"), (0, .fieldref 1 19), (0, .nameAndType 20 21), (0, u "COMPACT_STRINGS"), (0, u "Z"), (0, .fieldref 10 23), (0, .nameAndType 24 25), (0, u "coder"), (0, u "B"), (6, .methodref 1 33), (0, .nameAndType 34 35), (0, u "length"), (0, u "()I"), (0, .class_ 37), (0, u "java/lang/Integer"), (1, .integer 2147483647), (0, .methodref 1 41), (0, .nameAndType 24 42), (0, u "()B"), (2, u "append"), (0, u "(Ljava/lang/String;)Ljava/lang/AbstractStringBuilder;"), (1, .class_ 49), (0, u "java/lang/CharSequence"), (19, u "(Ljava/lang/String;)V"), (5, u "maybeLatin1"), (3, .fieldref 10 80), (0, .nameAndType 81 82), (0, u "count"), (0, u "I"), (0, .methodref 10 84), (0, .nameAndType 85 86), (0, u "isLatin1"), (0, u "()Z"), (13, .methodref 10 101), (0, .nameAndType 102 103), (0, u "ensureCapacityInternal"), (0, u "(I)V"), (0, .methodref 10 105), (0, .nameAndType 106 107), (0, u "newCapacity"), (0, u "(I)I"), (0, .methodref 109 110), (0, .class_ 111), (0, .nameAndType 112 113), (0, u "java/util/Arrays"), (0, u "copyOf"), (0, u "([BI)[B"), (0, .methodref 115 116), (0, .class_ 117), (0, .nameAndType 118 119), (0, u "jdk/internal/util/ArraysSupport"), (0, u "newLength"), (0, u "(III)I"), (68, u "getChars"), (19, .methodref 10 209), (0, .nameAndType 210 211), (0, u "putStringAt"), (0, u "(ILjava/lang/String;)V"), (5, u "inflateIfNeededFor"), (2, .nameAndType 221 222), (0, u "getBytes"), (0, u "([BIB)V"), (22, .methodref 36 246), (0, .nameAndType 247 107), (0, u "stringSize"), (0, .methodref 36 249), (0, .nameAndType 188 250), (0, u "(II[B)I"), (146, .methodref 10 398), (0, .nameAndType 217 69), (0, .methodref 1 220), (3, u "()[B"), (40, .class_ 445), (0, u "java/lang/Appendable"), (65, u "(I)Ljava/lang/AbstractStringBuilder;"), (40, u "getValue")] 56

def k14m0 : Method := { name := "<init>", desc := "()V", sig := { parameters := [], returnType := none }, accessFlags := 0, code := none }
def k14c1 : Code := { maxStack := 2, maxLocals := 2, code := jdk_68_method_2_code, exceptionTable := #[], attributes := #[] }
def k14m1 : Method := { name := "<init>", desc := "(I)V", sig := { parameters := [.int], returnType := none }, accessFlags := 0, code := some k14c1 }
def k14c2 : Code := { maxStack := 1, maxLocals := 1, code := jdk_68_method_6_code, exceptionTable := #[], attributes := #[] }
def k14m2 : Method := { name := "length", desc := "()I", sig := { parameters := [], returnType := some .int }, accessFlags := 1, code := some k14c2 }
def k14c3 : Code := { maxStack := 4, maxLocals := 3, code := jdk_68_method_9_code, exceptionTable := #[], attributes := #[] }
def k14m3 : Method := { name := "ensureCapacityInternal", desc := "(I)V", sig := { parameters := [.int], returnType := none }, accessFlags := 2, code := some k14c3 }
def k14c4 : Code := { maxStack := 5, maxLocals := 6, code := jdk_68_method_10_code, exceptionTable := #[], attributes := #[] }
def k14m4 : Method := { name := "newCapacity", desc := "(I)I", sig := { parameters := [.int], returnType := some .int }, accessFlags := 2, code := some k14c4 }
def k14c5 : Code := { maxStack := 3, maxLocals := 3, code := jdk_68_method_22_code, exceptionTable := #[], attributes := #[] }
def k14m5 : Method := { name := "append", desc := "(Ljava/lang/String;)Ljava/lang/AbstractStringBuilder;", sig := { parameters := [(.object "java/lang/String")], returnType := some (.object "java/lang/AbstractStringBuilder") }, accessFlags := 1, code := some k14c5 }
def k14c6 : Code := { maxStack := 4, maxLocals := 4, code := jdk_68_method_32_code, exceptionTable := #[], attributes := #[] }
def k14m6 : Method := { name := "append", desc := "(I)Ljava/lang/AbstractStringBuilder;", sig := { parameters := [.int], returnType := some (.object "java/lang/AbstractStringBuilder") }, accessFlags := 1, code := some k14c6 }
def k14c7 : Code := { maxStack := 1, maxLocals := 1, code := jdk_68_method_64_code, exceptionTable := #[], attributes := #[] }
def k14m7 : Method := { name := "getValue", desc := "()[B", sig := { parameters := [], returnType := some (.array .byte) }, accessFlags := 16, code := some k14c7 }
def k14c8 : Code := { maxStack := 1, maxLocals := 1, code := jdk_68_method_68_code, exceptionTable := #[], attributes := #[] }
def k14m8 : Method := { name := "isLatin1", desc := "()Z", sig := { parameters := [], returnType := some .boolean }, accessFlags := 16, code := some k14c8 }
def k14c9 : Code := { maxStack := 2, maxLocals := 2, code := jdk_68_method_71_code, exceptionTable := #[], attributes := #[] }
def k14m9 : Method := { name := "inflateIfNeededFor", desc := "(Ljava/lang/String;)V", sig := { parameters := [(.object "java/lang/String")], returnType := none }, accessFlags := 2, code := some k14c9 }
def k14c10 : Code := { maxStack := 4, maxLocals := 3, code := jdk_68_method_73_code, exceptionTable := #[], attributes := #[] }
def k14m10 : Method := { name := "putStringAt", desc := "(ILjava/lang/String;)V", sig := { parameters := [.int, (.object "java/lang/String")], returnType := none }, accessFlags := 2, code := some k14c10 }
/-- java/lang/AbstractStringBuilder -/
def k14 : Class := { plain "java/lang/AbstractStringBuilder" (some 0) with
  accessFlags := 1056
  interfaces := #[13, 4]
  cf := some (fileOf pool14 10 #[] #[{ accessFlags := 0, nameIndex := 7, descriptorIndex := 8, attributes := #[] }, { accessFlags := 0, nameIndex := 7, descriptorIndex := 103, attributes := #[] }, { accessFlags := 1, nameIndex := 34, descriptorIndex := 35, attributes := #[] }, { accessFlags := 2, nameIndex := 102, descriptorIndex := 103, attributes := #[] }, { accessFlags := 2, nameIndex := 106, descriptorIndex := 107, attributes := #[] }, { accessFlags := 1, nameIndex := 45, descriptorIndex := 46, attributes := #[] }, { accessFlags := 1, nameIndex := 45, descriptorIndex := 511, attributes := #[] }, { accessFlags := 16, nameIndex := 552, descriptorIndex := 403, attributes := #[] }, { accessFlags := 16, nameIndex := 85, descriptorIndex := 86, attributes := #[] }, { accessFlags := 2, nameIndex := 217, descriptorIndex := 69, attributes := #[] }, { accessFlags := 2, nameIndex := 210, descriptorIndex := 211, attributes := #[] }] 1056 4 #[444, 48] #[{ accessFlags := 0, nameIndex := 17, descriptorIndex := 14, attributes := #[] }, { accessFlags := 0, nameIndex := 24, descriptorIndex := 25, attributes := #[] }, { accessFlags := 0, nameIndex := 75, descriptorIndex := 21, attributes := #[] }, { accessFlags := 0, nameIndex := 81, descriptorIndex := 82, attributes := #[] }, { accessFlags := 26, nameIndex := 13, descriptorIndex := 14, attributes := #[] }])
  fields := #[{ name := "value", type := (.array .byte), accessFlags := 0, slot := 0, constantValue := 0 }, { name := "coder", type := .byte, accessFlags := 0, slot := 1, constantValue := 0 }, { name := "maybeLatin1", type := .boolean, accessFlags := 0, slot := 2, constantValue := 0 }, { name := "count", type := .int, accessFlags := 0, slot := 3, constantValue := 0 }, { name := "EMPTYVALUE", type := (.array .byte), accessFlags := 26, slot := 0, constantValue := 0 }]
  methods := #[k14m0, k14m1, k14m2, k14m3, k14m4, k14m5, k14m6, k14m7, k14m8, k14m9, k14m10]
  instanceTypes := #[(.array .byte), .byte, .boolean, .int]
  staticTypes := #[(.array .byte)]
  resolved := Array.replicate 609 none
  statics := none }

def pool15 : Array CpInfo := pool [(1, .methodref 2 3), (0, .class_ 4), (0, .nameAndType 5 6), (0, u "java/lang/AbstractStringBuilder"), (0, u "<init>"), (0, u "(I)V"), (11, .class_ 20), (1, u "java/lang/String"), (3, .class_ 26), (1, u "java/lang/StringBuilder"), (0, u "append"), (0, u "(Ljava/lang/String;)Ljava/lang/StringBuilder;"), (0, .methodref 2 30), (0, .nameAndType 27 31), (0, u "(Ljava/lang/String;)Ljava/lang/AbstractStringBuilder;"), (21, .methodref 2 54), (0, .nameAndType 27 55), (0, u "(I)Ljava/lang/AbstractStringBuilder;"), (81, .methodref 18 138), (0, .nameAndType 5 139), (0, u "(Ljava/lang/StringBuilder;)V"), (5, u "()V"), (10, u "()I"), (111, u "(I)Ljava/lang/StringBuilder;"), (74, .methodref 2 344), (0, .nameAndType 345 156), (0, u "length"), (3, .class_ 350), (0, u "java/lang/Appendable"), (0, .class_ 352), (0, u "java/io/Serializable"), (0, .class_ 354), (0, u "java/lang/Comparable"), (0, .class_ 356), (0, u "java/lang/CharSequence"), (0, u "serialVersionUID"), (0, u "J"), (40, u "toString"), (0, u "()Ljava/lang/String;")] 21

def k15c0 : Code := { maxStack := 2, maxLocals := 1, code := jdk_67_method_1_code, exceptionTable := #[], attributes := #[] }
def k15m0 : Method := { name := "<init>", desc := "()V", sig := { parameters := [], returnType := none }, accessFlags := 1, code := some k15c0 }
def k15c1 : Code := { maxStack := 2, maxLocals := 2, code := jdk_67_method_7_code, exceptionTable := #[], attributes := #[] }
def k15m1 : Method := { name := "append", desc := "(Ljava/lang/String;)Ljava/lang/StringBuilder;", sig := { parameters := [(.object "java/lang/String")], returnType := some (.object "java/lang/StringBuilder") }, accessFlags := 1, code := some k15c1 }
def k15c2 : Code := { maxStack := 2, maxLocals := 2, code := jdk_67_method_15_code, exceptionTable := #[], attributes := #[] }
def k15m2 : Method := { name := "append", desc := "(I)Ljava/lang/StringBuilder;", sig := { parameters := [.int], returnType := some (.object "java/lang/StringBuilder") }, accessFlags := 1, code := some k15c2 }
def k15c3 : Code := { maxStack := 3, maxLocals := 1, code := jdk_67_method_42_code, exceptionTable := #[], attributes := #[] }
def k15m3 : Method := { name := "toString", desc := "()Ljava/lang/String;", sig := { parameters := [], returnType := some (.object "java/lang/String") }, accessFlags := 1, code := some k15c3 }
def k15c4 : Code := { maxStack := 1, maxLocals := 1, code := jdk_67_method_93_code, exceptionTable := #[], attributes := #[] }
def k15m4 : Method := { name := "length", desc := "()I", sig := { parameters := [], returnType := some .int }, accessFlags := 4161, code := some k15c4 }
/-- java/lang/StringBuilder -/
def k15 : Class := { plain "java/lang/StringBuilder" (some 14) with
  accessFlags := 49
  interfaces := #[13, 2, 3, 4]
  cf := some (fileOf pool15 24 #[] #[{ accessFlags := 1, nameIndex := 5, descriptorIndex := 145, attributes := #[] }, { accessFlags := 1, nameIndex := 27, descriptorIndex := 28, attributes := #[] }, { accessFlags := 1, nameIndex := 27, descriptorIndex := 268, attributes := #[] }, { accessFlags := 1, nameIndex := 399, descriptorIndex := 400, attributes := #[] }, { accessFlags := 4161, nameIndex := 345, descriptorIndex := 156, attributes := #[] }] 49 2 #[349, 351, 353, 355] #[{ accessFlags := 24, nameIndex := 357, descriptorIndex := 358, attributes := #[] }])
  fields := #[{ name := "serialVersionUID", type := .long, accessFlags := 24, slot := 0, constantValue := 0 }]
  methods := #[k15m0, k15m1, k15m2, k15m3, k15m4]
  instanceTypes := #[(.array .byte), .byte, .boolean, .int]
  staticTypes := #[.long]
  resolved := Array.replicate 422 none
  statics := none }

def pool16 : Array CpInfo := pool [(2, .class_ 4), (1, u "java/lang/Object"), (0, u "<init>"), (0, u "()V"), (1, .class_ 10), (1, u "java/lang/System"), (0, u "allowSecurityManager"), (0, u "I"), (16, u "cons"), (0, u "Ljava/io/Console;"), (77, .class_ 110), (1, u "java/lang/System$CallersHolder"), (43, u "initialErrStream"), (0, u "Ljava/io/PrintStream;"), (19, u "security"), (0, u "Ljava/lang/SecurityManager;"), (31, .class_ 209), (0, u "java/lang/System$1"), (7, u "props"), (0, u "Ljava/util/Properties;"), (2, u "lineSeparator"), (0, u "Ljava/lang/String;"), (96, .class_ 321), (1, u "java/lang/System$LoggerFinder"), (5, .class_ 328), (0, u "java/lang/System$Logger"), (67, u "err"), (2, u "out"), (91, u "notSupportedJnuEncoding"), (15, u "in"), (17, u "initialIn"), (0, u "Ljava/io/InputStream;"), (35, u "bootLayer"), (0, u "Ljava/lang/ModuleLayer;"), (99, .class_ 664), (0, u "java/lang/System$2"), (9, u "NEVER"), (2, u "MAYBE"), (49, u "arraycopy"), (0, u "(Ljava/lang/Object;ILjava/lang/Object;II)V"), (72, .class_ 802), (0, u "java/lang/System$Logger$Level")] 31

def k16m0 : Method := { name := "<init>", desc := "()V", sig := { parameters := [], returnType := none }, accessFlags := 2, code := none }
def k16m1 : Method := { name := "arraycopy", desc := "(Ljava/lang/Object;ILjava/lang/Object;II)V", sig := { parameters := [(.object "java/lang/Object"), .int, (.object "java/lang/Object"), .int, .int], returnType := none }, accessFlags := 265, code := none }
/-- java/lang/System -/
def k16 : Class := { plain "java/lang/System" (some 0) with
  accessFlags := 49
  interfaces := #[]
  cf := some (fileOf pool16 8 #[.nestMembers #[319, 327, 801, 108, 663, 208]] #[{ accessFlags := 2, nameIndex := 5, descriptorIndex := 6, attributes := #[] }, { accessFlags := 265, nameIndex := 727, descriptorIndex := 728, attributes := #[] }] 49 2 #[] #[{ accessFlags := 25, nameIndex := 507, descriptorIndex := 526, attributes := #[] }, { accessFlags := 25, nameIndex := 399, descriptorIndex := 155, attributes := #[] }, { accessFlags := 25, nameIndex := 396, descriptorIndex := 155, attributes := #[] }, { accessFlags := 10, nameIndex := 525, descriptorIndex := 526, attributes := #[] }, { accessFlags := 26, nameIndex := 674, descriptorIndex := 12, attributes := #[] }, { accessFlags := 26, nameIndex := 677, descriptorIndex := 12, attributes := #[] }, { accessFlags := 10, nameIndex := 11, descriptorIndex := 12, attributes := #[] }, { accessFlags := 74, nameIndex := 175, descriptorIndex := 176, attributes := #[] }, { accessFlags := 10, nameIndex := 491, descriptorIndex := 222, attributes := #[] }, { accessFlags := 74, nameIndex := 29, descriptorIndex := 30, attributes := #[] }, { accessFlags := 74, nameIndex := 154, descriptorIndex := 155, attributes := #[] }, { accessFlags := 10, nameIndex := 217, descriptorIndex := 218, attributes := #[] }, { accessFlags := 10, nameIndex := 221, descriptorIndex := 222, attributes := #[] }, { accessFlags := 8, nameIndex := 562, descriptorIndex := 563, attributes := #[] }])
  fields := #[{ name := "in", type := (.object "java/io/InputStream"), accessFlags := 25, slot := 0, constantValue := 0 }, { name := "out", type := (.object "java/io/PrintStream"), accessFlags := 25, slot := 1, constantValue := 0 }, { name := "err", type := (.object "java/io/PrintStream"), accessFlags := 25, slot := 2, constantValue := 0 }, { name := "initialIn", type := (.object "java/io/InputStream"), accessFlags := 10, slot := 3, constantValue := 0 }, { name := "NEVER", type := .int, accessFlags := 26, slot := 4, constantValue := 0 }, { name := "MAYBE", type := .int, accessFlags := 26, slot := 5, constantValue := 0 }, { name := "allowSecurityManager", type := .int, accessFlags := 10, slot := 6, constantValue := 0 }, { name := "security", type := (.object "java/lang/SecurityManager"), accessFlags := 74, slot := 7, constantValue := 0 }, { name := "notSupportedJnuEncoding", type := (.object "java/lang/String"), accessFlags := 10, slot := 8, constantValue := 0 }, { name := "cons", type := (.object "java/io/Console"), accessFlags := 74, slot := 9, constantValue := 0 }, { name := "initialErrStream", type := (.object "java/io/PrintStream"), accessFlags := 74, slot := 10, constantValue := 0 }, { name := "props", type := (.object "java/util/Properties"), accessFlags := 10, slot := 11, constantValue := 0 }, { name := "lineSeparator", type := (.object "java/lang/String"), accessFlags := 10, slot := 12, constantValue := 0 }, { name := "bootLayer", type := (.object "java/lang/ModuleLayer"), accessFlags := 8, slot := 13, constantValue := 0 }]
  methods := #[k16m0, k16m1]
  instanceTypes := #[]
  staticTypes := #[(.object "java/io/InputStream"), (.object "java/io/PrintStream"), (.object "java/io/PrintStream"), (.object "java/io/InputStream"), .int, .int, .int, (.object "java/lang/SecurityManager"), (.object "java/lang/String"), (.object "java/io/Console"), (.object "java/io/PrintStream"), (.object "java/util/Properties"), (.object "java/lang/String"), (.object "java/lang/ModuleLayer")]
  resolved := Array.replicate 834 none
  statics := none }

def pool17 : Array CpInfo := pool [(2, .class_ 4), (1, u "java/lang/Object"), (0, u "<init>"), (0, u "()V"), (1, .class_ 10), (1, u "java/lang/Number"), (2, .class_ 14), (0, u "java/io/Serializable"), (0, u "serialVersionUID"), (0, u "J")] 20

def k17m0 : Method := { name := "<init>", desc := "()V", sig := { parameters := [], returnType := none }, accessFlags := 1, code := none }
/-- java/lang/Number -/
def k17 : Class := { plain "java/lang/Number" (some 0) with
  accessFlags := 1057
  interfaces := #[2]
  cf := some (fileOf pool17 8 #[] #[{ accessFlags := 1, nameIndex := 5, descriptorIndex := 6, attributes := #[] }] 1057 2 #[13] #[{ accessFlags := 26, nameIndex := 15, descriptorIndex := 16, attributes := #[] }])
  fields := #[{ name := "serialVersionUID", type := .long, accessFlags := 26, slot := 0, constantValue := 0 }]
  methods := #[k17m0]
  instanceTypes := #[]
  staticTypes := #[.long]
  resolved := Array.replicate 37 none
  statics := none }

def pool18 : Array CpInfo := pool [(1, .class_ 2), (0, u "java/lang/Integer"), (16, u "digits"), (0, u "[C"), (33, u "(I)I"), (19, u "stringSize"), (2, u "getChars"), (0, u "(II[B)I"), (4, .fieldref 1 84), (0, .nameAndType 85 86), (0, u "DigitOnes"), (0, u "[B"), (0, .fieldref 1 88), (0, .nameAndType 89 86), (0, u "DigitTens"), (99, .class_ 190), (0, u "java/lang/Integer$IntegerCache"), (3, u "I"), (8, .class_ 204), (0, u "java/lang/Number"), (2, u "value"), (94, u "TYPE"), (0, u "Ljava/lang/Class;"), (0, .class_ 305), (0, u "java/lang/Comparable"), (0, .class_ 307), (0, u "java/lang/constant/Constable"), (0, .class_ 309), (0, u "java/lang/constant/ConstantDesc"), (0, u "MIN_VALUE"), (1, u "MAX_VALUE"), (3, u "SIZE"), (1, u "BYTES"), (1, u "serialVersionUID"), (0, u "J")] 131

def k18c0 : Code := { maxStack := 4, maxLocals := 7, code := jdk_33_method_12_code, exceptionTable := #[], attributes := #[] }
def k18m0 : Method := { name := "getChars", desc := "(II[B)I", sig := { parameters := [.int, .int, (.array .byte)], returnType := some .int }, accessFlags := 8, code := some k18c0 }
def k18c1 : Code := { maxStack := 2, maxLocals := 4, code := jdk_33_method_13_code, exceptionTable := #[], attributes := #[] }
def k18m1 : Method := { name := "stringSize", desc := "(I)I", sig := { parameters := [.int], returnType := some .int }, accessFlags := 8, code := some k18c1 }
/-- java/lang/Integer -/
def k18 : Class := { plain "java/lang/Integer" (some 17) with
  accessFlags := 49
  interfaces := #[3, 5, 6]
  cf := some (fileOf pool18 1 #[.nestMembers #[189]] #[{ accessFlags := 8, nameIndex := 77, descriptorIndex := 78, attributes := #[] }, { accessFlags := 8, nameIndex := 74, descriptorIndex := 54, attributes := #[] }] 49 203 #[304, 306, 308] #[{ accessFlags := 25, nameIndex := 310, descriptorIndex := 194, attributes := #[] }, { accessFlags := 25, nameIndex := 312, descriptorIndex := 194, attributes := #[] }, { accessFlags := 25, nameIndex := 302, descriptorIndex := 303, attributes := #[] }, { accessFlags := 24, nameIndex := 19, descriptorIndex := 20, attributes := #[] }, { accessFlags := 24, nameIndex := 89, descriptorIndex := 86, attributes := #[] }, { accessFlags := 24, nameIndex := 85, descriptorIndex := 86, attributes := #[] }, { accessFlags := 18, nameIndex := 207, descriptorIndex := 194, attributes := #[] }, { accessFlags := 25, nameIndex := 316, descriptorIndex := 194, attributes := #[] }, { accessFlags := 25, nameIndex := 318, descriptorIndex := 194, attributes := #[] }, { accessFlags := 26, nameIndex := 320, descriptorIndex := 321, attributes := #[] }])
  fields := #[{ name := "MIN_VALUE", type := .int, accessFlags := 25, slot := 0, constantValue := 0 }, { name := "MAX_VALUE", type := .int, accessFlags := 25, slot := 1, constantValue := 0 }, { name := "TYPE", type := (.object "java/lang/Class"), accessFlags := 25, slot := 2, constantValue := 0 }, { name := "digits", type := (.array .char), accessFlags := 24, slot := 3, constantValue := 0 }, { name := "DigitTens", type := (.array .byte), accessFlags := 24, slot := 4, constantValue := 0 }, { name := "DigitOnes", type := (.array .byte), accessFlags := 24, slot := 5, constantValue := 0 }, { name := "value", type := .int, accessFlags := 18, slot := 0, constantValue := 0 }, { name := "SIZE", type := .int, accessFlags := 25, slot := 6, constantValue := 0 }, { name := "BYTES", type := .int, accessFlags := 25, slot := 7, constantValue := 0 }, { name := "serialVersionUID", type := .long, accessFlags := 26, slot := 8, constantValue := 0 }]
  methods := #[k18m0, k18m1]
  instanceTypes := #[.int]
  staticTypes := #[.int, .int, (.object "java/lang/Class"), (.array .char), (.array .byte), (.array .byte), .int, .int, .long]
  resolved := Array.replicate 453 none
  statics := some 2 }

def pool19 : Array CpInfo := pool [(9, u "<init>"), (6, .class_ 18), (1, u "java/lang/Object"), (0, u "()V"), (1, .class_ 23), (1, u "jdk/internal/util/ArraysSupport"), (0, u "LOG2_ARRAY_LONG_INDEX_SCALE"), (0, u "I"), (2, u "U"), (0, u "Ljdk/internal/misc/Unsafe;"), (8, u "BIG_ENDIAN"), (0, u "Z"), (8, u "LOG2_BYTE_BIT_SIZE"), (4, u "LOG2_ARRAY_INT_INDEX_SCALE"), (54, u "JLA"), (0, u "Ljdk/internal/access/JavaLangAccess;"), (11, u "LOG2_ARRAY_BOOLEAN_INDEX_SCALE"), (9, u "LOG2_ARRAY_BYTE_INDEX_SCALE"), (5, u "LOG2_ARRAY_CHAR_INDEX_SCALE"), (5, u "LOG2_ARRAY_SHORT_INDEX_SCALE"), (18, u "LOG2_ARRAY_FLOAT_INDEX_SCALE"), (24, u "LOG2_ARRAY_DOUBLE_INDEX_SCALE"), (6, .methodref 195 196), (0, .class_ 197), (0, .nameAndType 198 199), (0, u "java/lang/Math"), (0, u "max"), (0, u "(II)I"), (0, .integer 2147483639), (76, u "T_BOOLEAN"), (2, u "T_CHAR"), (1, u "T_FLOAT"), (1, u "T_DOUBLE"), (1, u "T_BYTE"), (1, u "T_SHORT"), (1, u "T_INT"), (1, u "T_LONG"), (1, u "SOFT_MAX_ARRAY_LENGTH"), (56, u "newLength"), (0, u "(III)I")] 25

def k19m0 : Method := { name := "<init>", desc := "()V", sig := { parameters := [], returnType := none }, accessFlags := 2, code := none }
def k19c1 : Code := { maxStack := 3, maxLocals := 4, code := jdk_48_method_27_code, exceptionTable := #[], attributes := #[] }
def k19m1 : Method := { name := "newLength", desc := "(III)I", sig := { parameters := [.int, .int, .int], returnType := some .int }, accessFlags := 9, code := some k19c1 }
/-- jdk/internal/util/ArraysSupport -/
def k19 : Class := { plain "jdk/internal/util/ArraysSupport" (some 0) with
  accessFlags := 33
  interfaces := #[]
  cf := some (fileOf pool19 21 #[] #[{ accessFlags := 2, nameIndex := 9, descriptorIndex := 19, attributes := #[] }, { accessFlags := 9, nameIndex := 351, descriptorIndex := 352, attributes := #[] }] 33 16 #[] #[{ accessFlags := 24, nameIndex := 28, descriptorIndex := 29, attributes := #[] }, { accessFlags := 26, nameIndex := 38, descriptorIndex := 39, attributes := #[] }, { accessFlags := 25, nameIndex := 121, descriptorIndex := 25, attributes := #[] }, { accessFlags := 25, nameIndex := 131, descriptorIndex := 25, attributes := #[] }, { accessFlags := 25, nameIndex := 137, descriptorIndex := 25, attributes := #[] }, { accessFlags := 25, nameIndex := 143, descriptorIndex := 25, attributes := #[] }, { accessFlags := 25, nameIndex := 53, descriptorIndex := 25, attributes := #[] }, { accessFlags := 25, nameIndex := 24, descriptorIndex := 25, attributes := #[] }, { accessFlags := 25, nameIndex := 162, descriptorIndex := 25, attributes := #[] }, { accessFlags := 25, nameIndex := 187, descriptorIndex := 25, attributes := #[] }, { accessFlags := 26, nameIndex := 48, descriptorIndex := 25, attributes := #[] }, { accessFlags := 25, nameIndex := 277, descriptorIndex := 25, attributes := #[] }, { accessFlags := 25, nameIndex := 280, descriptorIndex := 25, attributes := #[] }, { accessFlags := 25, nameIndex := 282, descriptorIndex := 25, attributes := #[] }, { accessFlags := 25, nameIndex := 284, descriptorIndex := 25, attributes := #[] }, { accessFlags := 25, nameIndex := 286, descriptorIndex := 25, attributes := #[] }, { accessFlags := 25, nameIndex := 288, descriptorIndex := 25, attributes := #[] }, { accessFlags := 25, nameIndex := 290, descriptorIndex := 25, attributes := #[] }, { accessFlags := 25, nameIndex := 292, descriptorIndex := 25, attributes := #[] }, { accessFlags := 26, nameIndex := 108, descriptorIndex := 109, attributes := #[] }, { accessFlags := 25, nameIndex := 294, descriptorIndex := 25, attributes := #[] }])
  fields := #[{ name := "U", type := (.object "jdk/internal/misc/Unsafe"), accessFlags := 24, slot := 0, constantValue := 0 }, { name := "BIG_ENDIAN", type := .boolean, accessFlags := 26, slot := 1, constantValue := 0 }, { name := "LOG2_ARRAY_BOOLEAN_INDEX_SCALE", type := .int, accessFlags := 25, slot := 2, constantValue := 0 }, { name := "LOG2_ARRAY_BYTE_INDEX_SCALE", type := .int, accessFlags := 25, slot := 3, constantValue := 0 }, { name := "LOG2_ARRAY_CHAR_INDEX_SCALE", type := .int, accessFlags := 25, slot := 4, constantValue := 0 }, { name := "LOG2_ARRAY_SHORT_INDEX_SCALE", type := .int, accessFlags := 25, slot := 5, constantValue := 0 }, { name := "LOG2_ARRAY_INT_INDEX_SCALE", type := .int, accessFlags := 25, slot := 6, constantValue := 0 }, { name := "LOG2_ARRAY_LONG_INDEX_SCALE", type := .int, accessFlags := 25, slot := 7, constantValue := 0 }, { name := "LOG2_ARRAY_FLOAT_INDEX_SCALE", type := .int, accessFlags := 25, slot := 8, constantValue := 0 }, { name := "LOG2_ARRAY_DOUBLE_INDEX_SCALE", type := .int, accessFlags := 25, slot := 9, constantValue := 0 }, { name := "LOG2_BYTE_BIT_SIZE", type := .int, accessFlags := 26, slot := 10, constantValue := 0 }, { name := "T_BOOLEAN", type := .int, accessFlags := 25, slot := 11, constantValue := 0 }, { name := "T_CHAR", type := .int, accessFlags := 25, slot := 12, constantValue := 0 }, { name := "T_FLOAT", type := .int, accessFlags := 25, slot := 13, constantValue := 0 }, { name := "T_DOUBLE", type := .int, accessFlags := 25, slot := 14, constantValue := 0 }, { name := "T_BYTE", type := .int, accessFlags := 25, slot := 15, constantValue := 0 }, { name := "T_SHORT", type := .int, accessFlags := 25, slot := 16, constantValue := 0 }, { name := "T_INT", type := .int, accessFlags := 25, slot := 17, constantValue := 0 }, { name := "T_LONG", type := .int, accessFlags := 25, slot := 18, constantValue := 0 }, { name := "JLA", type := (.object "jdk/internal/access/JavaLangAccess"), accessFlags := 26, slot := 19, constantValue := 0 }, { name := "SOFT_MAX_ARRAY_LENGTH", type := .int, accessFlags := 25, slot := 20, constantValue := 0 }]
  methods := #[k19m0, k19m1]
  instanceTypes := #[]
  staticTypes := #[(.object "jdk/internal/misc/Unsafe"), .boolean, .int, .int, .int, .int, .int, .int, .int, .int, .int, .int, .int, .int, .int, .int, .int, .int, .int, (.object "jdk/internal/access/JavaLangAccess"), .int]
  resolved := Array.replicate 378 none
  statics := none }

def pool20 : Array CpInfo := pool [(1, .class_ 2), (0, u "java/lang/Math"), (1, .class_ 6), (1, u "java/lang/Object"), (0, u "<init>"), (0, u "()V"), (89, .class_ 100), (1, u "java/lang/Math$RandomNumberGeneratorHolder"), (71, u "negativeZeroFloatBits"), (0, u "J"), (2, u "negativeZeroDoubleBits"), (21, u "max"), (2, u "min"), (43, u "$assertionsDisabled"), (0, u "Z"), (88, u "(II)I"), (2, u "twoToTheDoubleScaleDown"), (0, u "D"), (4, u "twoToTheDoubleScaleUp"), (9, u "E"), (3, u "PI"), (2, u "TAU"), (2, u "DEGREES_TO_RADIANS"), (0, u "RADIANS_TO_DEGREES")] 94

def k20m0 : Method := { name := "<init>", desc := "()V", sig := { parameters := [], returnType := none }, accessFlags := 2, code := none }
def k20c1 : Code := { maxStack := 2, maxLocals := 2, code := jdk_29_method_65_code, exceptionTable := #[], attributes := #[] }
def k20m1 : Method := { name := "max", desc := "(II)I", sig := { parameters := [.int, .int], returnType := some .int }, accessFlags := 9, code := some k20c1 }
def k20c2 : Code := { maxStack := 2, maxLocals := 2, code := jdk_29_method_69_code, exceptionTable := #[], attributes := #[] }
def k20m2 : Method := { name := "min", desc := "(II)I", sig := { parameters := [.int, .int], returnType := some .int }, accessFlags := 9, code := some k20c2 }
/-- java/lang/Math -/
def k20 : Class := { plain "java/lang/Math" (some 0) with
  accessFlags := 49
  interfaces := #[]
  cf := some (fileOf pool20 1 #[.nestMembers #[98]] #[{ accessFlags := 2, nameIndex := 7, descriptorIndex := 8, attributes := #[] }, { accessFlags := 9, nameIndex := 198, descriptorIndex := 335, attributes := #[] }, { accessFlags := 9, nameIndex := 201, descriptorIndex := 335, attributes := #[] }] 49 4 #[] #[{ accessFlags := 25, nameIndex := 354, descriptorIndex := 339, attributes := #[] }, { accessFlags := 25, nameIndex := 358, descriptorIndex := 339, attributes := #[] }, { accessFlags := 25, nameIndex := 361, descriptorIndex := 339, attributes := #[] }, { accessFlags := 26, nameIndex := 364, descriptorIndex := 339, attributes := #[] }, { accessFlags := 26, nameIndex := 365, descriptorIndex := 339, attributes := #[] }, { accessFlags := 26, nameIndex := 172, descriptorIndex := 173, attributes := #[] }, { accessFlags := 26, nameIndex := 176, descriptorIndex := 173, attributes := #[] }, { accessFlags := 8, nameIndex := 344, descriptorIndex := 339, attributes := #[] }, { accessFlags := 8, nameIndex := 338, descriptorIndex := 339, attributes := #[] }, { accessFlags := 4120, nameIndex := 245, descriptorIndex := 246, attributes := #[] }])
  fields := #[{ name := "E", type := .double, accessFlags := 25, slot := 0, constantValue := 0 }, { name := "PI", type := .double, accessFlags := 25, slot := 1, constantValue := 0 }, { name := "TAU", type := .double, accessFlags := 25, slot := 2, constantValue := 0 }, { name := "DEGREES_TO_RADIANS", type := .double, accessFlags := 26, slot := 3, constantValue := 0 }, { name := "RADIANS_TO_DEGREES", type := .double, accessFlags := 26, slot := 4, constantValue := 0 }, { name := "negativeZeroFloatBits", type := .long, accessFlags := 26, slot := 5, constantValue := 0 }, { name := "negativeZeroDoubleBits", type := .long, accessFlags := 26, slot := 6, constantValue := 0 }, { name := "twoToTheDoubleScaleUp", type := .double, accessFlags := 8, slot := 7, constantValue := 0 }, { name := "twoToTheDoubleScaleDown", type := .double, accessFlags := 8, slot := 8, constantValue := 0 }, { name := "$assertionsDisabled", type := .boolean, accessFlags := 4120, slot := 9, constantValue := 0 }]
  methods := #[k20m0, k20m1, k20m2]
  instanceTypes := #[]
  staticTypes := #[.double, .double, .double, .double, .double, .long, .long, .double, .double, .boolean]
  resolved := Array.replicate 460 none
  statics := none }

def pool21 : Array CpInfo := pool [(2, .class_ 4), (1, u "java/lang/Object"), (0, u "<init>"), (0, u "()V"), (7, .class_ 16), (1, u "java/util/Arrays"), (57, .class_ 76), (1, u "java/util/Arrays$NaturalOrder"), (32, u "()Ljava/lang/Object;"), (3, .class_ 115), (1, u "java/util/Arrays$LegacyMergeSort"), (1, u "Z"), (10, .nameAndType 129 109), (0, u "clone"), (9, u "copyOfRange"), (10, .methodref 151 152), (0, .class_ 153), (0, .nameAndType 154 155), (0, u "java/lang/System"), (0, u "arraycopy"), (0, u "(Ljava/lang/Object;ILjava/lang/Object;II)V"), (146, u "copyOf"), (1, .methodref 305 306), (0, .class_ 307), (0, .nameAndType 308 309), (0, u "java/lang/Math"), (0, u "min"), (0, u "(II)I"), (0, .methodref 311 128), (0, .class_ 312), (0, u "[B"), (26, .methodref 14 340), (0, .nameAndType 341 342), (0, u "copyOfRangeByte"), (0, u "([BII)[B"), (0, .methodref 14 344), (0, .nameAndType 345 346), (0, u "checkLength"), (0, u "(II)V"), (28, .class_ 376), (0, u "java/util/Arrays$ArrayList"), (68, u "$assertionsDisabled"), (269, u "MIN_ARRAY_SORT_GRAN"), (0, u "I"), (2, u "INSERTIONSORT_THRESHOLD"), (149, u "([BI)[B"), (105, .class_ 976), (0, u "java/util/Arrays$ArrayItr")] 52

def k21m0 : Method := { name := "<init>", desc := "()V", sig := { parameters := [], returnType := none }, accessFlags := 2, code := none }
def k21c1 : Code := { maxStack := 6, maxLocals := 3, code := jdk_65_method_121_code, exceptionTable := #[], attributes := #[] }
def k21m1 : Method := { name := "copyOf", desc := "([BI)[B", sig := { parameters := [(.array .byte), .int], returnType := some (.array .byte) }, accessFlags := 9, code := some k21c1 }
def k21c2 : Code := { maxStack := 4, maxLocals := 2, code := jdk_65_method_131_code, exceptionTable := #[], attributes := #[] }
def k21m2 : Method := { name := "checkLength", desc := "(II)V", sig := { parameters := [.int, .int], returnType := none }, accessFlags := 10, code := some k21c2 }
def k21c3 : Code := { maxStack := 3, maxLocals := 3, code := jdk_65_method_132_code, exceptionTable := #[], attributes := #[] }
def k21m3 : Method := { name := "copyOfRange", desc := "([BII)[B", sig := { parameters := [(.array .byte), .int, .int], returnType := some (.array .byte) }, accessFlags := 9, code := some k21c3 }
def k21c4 : Code := { maxStack := 6, maxLocals := 5, code := jdk_65_method_133_code, exceptionTable := #[], attributes := #[] }
def k21m4 : Method := { name := "copyOfRangeByte", desc := "([BII)[B", sig := { parameters := [(.array .byte), .int, .int], returnType := some (.array .byte) }, accessFlags := 10, code := some k21c4 }
/-- java/util/Arrays -/
def k21 : Class := { plain "java/util/Arrays" (some 0) with
  accessFlags := 49
  interfaces := #[]
  cf := some (fileOf pool21 14 #[.nestMembers #[975, 375, 113, 74]] #[{ accessFlags := 2, nameIndex := 5, descriptorIndex := 6, attributes := #[] }, { accessFlags := 9, nameIndex := 302, descriptorIndex := 869, attributes := #[] }, { accessFlags := 10, nameIndex := 345, descriptorIndex := 346, attributes := #[] }, { accessFlags := 9, nameIndex := 139, descriptorIndex := 342, attributes := #[] }, { accessFlags := 10, nameIndex := 341, descriptorIndex := 342, attributes := #[] }] 49 2 #[] #[{ accessFlags := 26, nameIndex := 715, descriptorIndex := 716, attributes := #[] }, { accessFlags := 26, nameIndex := 719, descriptorIndex := 716, attributes := #[] }, { accessFlags := 4120, nameIndex := 445, descriptorIndex := 117, attributes := #[] }])
  fields := #[{ name := "MIN_ARRAY_SORT_GRAN", type := .int, accessFlags := 26, slot := 0, constantValue := 0 }, { name := "INSERTIONSORT_THRESHOLD", type := .int, accessFlags := 26, slot := 1, constantValue := 0 }, { name := "$assertionsDisabled", type := .boolean, accessFlags := 4120, slot := 2, constantValue := 0 }]
  methods := #[k21m0, k21m1, k21m2, k21m3, k21m4]
  instanceTypes := #[]
  staticTypes := #[.int, .int, .boolean]
  resolved := Array.replicate 1029 none
  statics := none }

def pool22 : Array CpInfo := pool [(1, .class_ 2), (0, u "java/lang/Cloneable"), (0, .class_ 4), (0, u "java/lang/Object")] 2

/-- java/lang/Cloneable -/
def k22 : Class := { plain "java/lang/Cloneable" (some 0) with
  accessFlags := 1537
  interfaces := #[]
  cf := some (fileOf pool22 1 #[] #[] 1537 3 #[] #[])
  fields := #[]
  methods := #[]
  instanceTypes := #[]
  staticTypes := #[]
  resolved := Array.replicate 7 none
  statics := none }

def pool23 : Array CpInfo := pool [(4, .class_ 6), (1, u "java/lang/Object"), (0, u "<init>"), (0, u "()V"), (5, .class_ 16), (1, u "java/lang/StringLatin1"), (104, u "$assertionsDisabled"), (0, u "Z"), (98, .class_ 223), (1, u "java/lang/StringLatin1$LinesSpliterator"), (57, u "equals"), (0, u "([B[B)Z"), (107, .class_ 391), (0, u "java/lang/StringLatin1$CharsSpliterator")] 3

def k23m0 : Method := { name := "<init>", desc := "()V", sig := { parameters := [], returnType := none }, accessFlags := 0, code := none }
def k23c1 : Code := { maxStack := 3, maxLocals := 3, code := jdk_43_method_13_code, exceptionTable := #[], attributes := #[] }
def k23m1 : Method := { name := "equals", desc := "([B[B)Z", sig := { parameters := [(.array .byte), (.array .byte)], returnType := some .boolean }, accessFlags := 9, code := some k23c1 }
/-- java/lang/StringLatin1 -/
def k23 : Class := { plain "java/lang/StringLatin1" (some 0) with
  accessFlags := 48
  interfaces := #[]
  cf := some (fileOf pool23 14 #[.nestMembers #[390, 221]] #[{ accessFlags := 0, nameIndex := 7, descriptorIndex := 8, attributes := #[] }, { accessFlags := 9, nameIndex := 281, descriptorIndex := 282, attributes := #[] }] 48 4 #[] #[{ accessFlags := 4120, nameIndex := 121, descriptorIndex := 122, attributes := #[] }])
  fields := #[{ name := "$assertionsDisabled", type := .boolean, accessFlags := 4120, slot := 0, constantValue := 0 }]
  methods := #[k23m0, k23m1]
  instanceTypes := #[]
  staticTypes := #[.boolean]
  resolved := Array.replicate 395 none
  statics := none }

def pool24 : Array CpInfo := pool [(2, .class_ 4), (1, u "java/lang/Object"), (0, u "<init>"), (0, u "()V"), (17, .class_ 26), (1, u "jdk/internal/util/Preconditions"), (28, .class_ 56), (0, u "jdk/internal/util/Preconditions$4"), (57, .class_ 115), (0, u "jdk/internal/util/Preconditions$1"), (7, u "SIOOBE_FORMATTER"), (0, u "Ljava/util/function/BiFunction;"), (0, .class_ 126), (0, u "jdk/internal/util/Preconditions$2"), (3, u "AIOOBE_FORMATTER"), (0, .class_ 132), (0, u "jdk/internal/util/Preconditions$3"), (3, u "IOOBE_FORMATTER")] 57

def k24m0 : Method := { name := "<init>", desc := "()V", sig := { parameters := [], returnType := none }, accessFlags := 1, code := none }
/-- jdk/internal/util/Preconditions -/
def k24 : Class := { plain "jdk/internal/util/Preconditions" (some 0) with
  accessFlags := 33
  interfaces := #[]
  cf := some (fileOf pool24 24 #[.nestMembers #[55, 131, 125, 114]] #[{ accessFlags := 1, nameIndex := 5, descriptorIndex := 6, attributes := #[] }] 33 2 #[] #[{ accessFlags := 25, nameIndex := 123, descriptorIndex := 124, attributes := #[] }, { accessFlags := 25, nameIndex := 130, descriptorIndex := 124, attributes := #[] }, { accessFlags := 25, nameIndex := 136, descriptorIndex := 124, attributes := #[] }])
  fields := #[{ name := "SIOOBE_FORMATTER", type := (.object "java/util/function/BiFunction"), accessFlags := 25, slot := 0, constantValue := 0 }, { name := "AIOOBE_FORMATTER", type := (.object "java/util/function/BiFunction"), accessFlags := 25, slot := 1, constantValue := 0 }, { name := "IOOBE_FORMATTER", type := (.object "java/util/function/BiFunction"), accessFlags := 25, slot := 2, constantValue := 0 }]
  methods := #[k24m0]
  instanceTypes := #[]
  staticTypes := #[(.object "java/util/function/BiFunction"), (.object "java/util/function/BiFunction"), (.object "java/util/function/BiFunction")]
  resolved := Array.replicate 194 none
  statics := some 3 }

def pool25 : Array CpInfo := pool [(2, .class_ 4), (1, u "java/lang/Object"), (0, u "<init>"), (0, u "()V"), (12, .class_ 20), (0, u "java/util/Collections"), (63, u "r"), (0, u "Ljava/util/Random;"), (80, .class_ 167), (0, u "java/util/Collections$UnmodifiableCollection"), (6, .class_ 175), (0, u "java/util/Collections$UnmodifiableSequencedCollection"), (6, .class_ 183), (0, u "java/util/Collections$UnmodifiableSet"), (6, .class_ 191), (0, u "java/util/Collections$UnmodifiableSequencedSet"), (6, .class_ 199), (0, u "java/util/Collections$UnmodifiableSortedSet"), (6, .class_ 207), (0, u "java/util/Collections$UnmodifiableNavigableSet"), (4, .class_ 213), (0, u "java/util/Collections$UnmodifiableList"), (1, .class_ 216), (0, u "java/util/Collections$UnmodifiableRandomAccessList"), (6, .class_ 224), (0, u "java/util/Collections$UnmodifiableMap"), (6, .class_ 232), (0, u "java/util/Collections$UnmodifiableSequencedMap"), (4, .class_ 238), (0, u "java/util/Collections$UnmodifiableSortedMap"), (6, .class_ 246), (0, u "java/util/Collections$UnmodifiableNavigableMap"), (3, .class_ 251), (0, u "java/util/Collections$SynchronizedCollection"), (4, .class_ 257), (0, u "java/util/Collections$SynchronizedSet"), (4, .class_ 263), (0, u "java/util/Collections$SynchronizedSortedSet"), (1, .class_ 266), (0, u "java/util/Collections$SynchronizedNavigableSet"), (1, .class_ 269), (0, u "java/util/Collections$SynchronizedRandomAccessList"), (1, .class_ 272), (0, u "java/util/Collections$SynchronizedList"), (5, .class_ 279), (0, u "java/util/Collections$SynchronizedMap"), (1, .class_ 282), (0, u "java/util/Collections$SynchronizedSortedMap"), (1, .class_ 285), (0, u "java/util/Collections$SynchronizedNavigableMap"), (1, .class_ 288), (0, u "java/util/Collections$CheckedCollection"), (11, .class_ 301), (0, u "java/util/Collections$CheckedQueue"), (3, .class_ 306), (0, u "java/util/Collections$CheckedSet"), (3, .class_ 311), (0, u "java/util/Collections$CheckedSortedSet"), (3, .class_ 316), (0, u "java/util/Collections$CheckedNavigableSet"), (3, .class_ 321), (0, u "java/util/Collections$CheckedRandomAccessList"), (3, .class_ 326), (0, u "java/util/Collections$CheckedList"), (1, .class_ 329), (0, u "java/util/Collections$CheckedMap"), (3, .class_ 334), (0, u "java/util/Collections$CheckedSortedMap"), (3, .class_ 339), (0, u "java/util/Collections$CheckedNavigableMap"), (4, .class_ 346), (1, u "java/util/Collections$EmptyIterator"), (3, .class_ 352), (1, u "java/util/Collections$EmptyListIterator"), (2, .class_ 357), (1, u "java/util/Collections$EmptyEnumeration"), (4, u "EMPTY_SET"), (0, u "Ljava/util/Set;"), (6, u "EMPTY_LIST"), (0, u "Ljava/util/List;"), (2, u "EMPTY_MAP"), (0, u "Ljava/util/Map;"), (4, .class_ 381), (0, u "java/util/Collections$SingletonSet"), (2, .class_ 385), (0, u "java/util/Collections$1"), (1, .class_ 388), (0, u "java/util/Collections$2"), (1, .class_ 391), (0, u "java/util/Collections$SingletonList"), (1, .class_ 394), (0, u "java/util/Collections$SingletonMap"), (22, .class_ 418), (0, u "java/util/Collections$CopiesList"), (4, .class_ 425), (1, u "java/util/Collections$ReverseComparator"), (8, .class_ 435), (0, u "java/util/Collections$ReverseComparator2"), (6, .class_ 443), (0, u "java/util/Collections$3"), (25, .class_ 470), (0, u "java/util/Collections$SetFromMap"), (2, .class_ 474), (0, u "java/util/Collections$SequencedSetFromMap"), (3, .class_ 479), (0, u "java/util/Collections$AsLIFOQueue"), (11, .class_ 492), (0, u "java/util/Collections$EmptySet"), (1, .class_ 495), (0, u "java/util/Collections$EmptyList"), (1, .class_ 498), (0, u "java/util/Collections$EmptyMap"), (1, u "BINARYSEARCH_THRESHOLD"), (0, u "I"), (2, u "REVERSE_THRESHOLD"), (1, u "SHUFFLE_THRESHOLD"), (1, u "FILL_THRESHOLD"), (1, u "ROTATE_THRESHOLD"), (1, u "COPY_THRESHOLD"), (1, u "REPLACEALL_THRESHOLD"), (1, u "INDEXOFSUBLIST_THRESHOLD"), (333, .class_ 851), (0, u "java/util/Collections$CheckedMap$CheckedEntrySet"), (0, .class_ 853), (0, u "java/util/Collections$CheckedMap$CheckedEntrySet$CheckedEntry"), (0, .class_ 855), (0, u "java/util/Collections$CheckedMap$CheckedEntrySet$1"), (0, .class_ 857), (0, u "java/util/Collections$CheckedList$1"), (0, .class_ 859), (0, u "java/util/Collections$CheckedCollection$1"), (0, .class_ 861), (0, u "java/util/Collections$UnmodifiableNavigableMap$EmptyNavigableMap"), (0, .class_ 863), (0, u "java/util/Collections$UnmodifiableMap$UnmodifiableEntrySet"), (0, .class_ 865), (0, u "java/util/Collections$UnmodifiableMap$UnmodifiableEntrySet$UnmodifiableEntry"), (0, .class_ 867), (0, u "java/util/Collections$UnmodifiableMap$UnmodifiableEntrySet$UnmodifiableEntrySetSpliterator"), (0, .class_ 869), (0, u "java/util/Collections$UnmodifiableMap$UnmodifiableEntrySet$1"), (0, .class_ 871), (0, u "java/util/Collections$UnmodifiableList$1"), (0, .class_ 873), (0, u "java/util/Collections$UnmodifiableNavigableSet$EmptyNavigableSet"), (0, .class_ 875), (0, u "java/util/Collections$UnmodifiableCollection$1")] 57

def k25m0 : Method := { name := "<init>", desc := "()V", sig := { parameters := [], returnType := none }, accessFlags := 2, code := none }
/-- java/util/Collections -/
def k25 : Class := { plain "java/util/Collections" (some 0) with
  accessFlags := 33
  interfaces := #[]
  cf := some (fileOf pool25 19 #[.nestMembers #[478, 473, 469, 434, 423, 417, 393, 390, 380, 497, 494, 491, 355, 350, 344, 338, 333, 328, 850, 852, 854, 320, 325, 856, 315, 310, 305, 300, 287, 858, 284, 281, 278, 268, 271, 265, 262, 256, 250, 245, 860, 237, 231, 223, 862, 864, 866, 868, 215, 212, 870, 206, 872, 198, 190, 182, 174, 166, 874, 442, 387, 384]] #[{ accessFlags := 2, nameIndex := 5, descriptorIndex := 6, attributes := #[] }] 33 2 #[] #[{ accessFlags := 26, nameIndex := 500, descriptorIndex := 501, attributes := #[] }, { accessFlags := 26, nameIndex := 504, descriptorIndex := 501, attributes := #[] }, { accessFlags := 26, nameIndex := 506, descriptorIndex := 501, attributes := #[] }, { accessFlags := 26, nameIndex := 508, descriptorIndex := 501, attributes := #[] }, { accessFlags := 26, nameIndex := 510, descriptorIndex := 501, attributes := #[] }, { accessFlags := 26, nameIndex := 512, descriptorIndex := 501, attributes := #[] }, { accessFlags := 26, nameIndex := 514, descriptorIndex := 501, attributes := #[] }, { accessFlags := 26, nameIndex := 516, descriptorIndex := 501, attributes := #[] }, { accessFlags := 10, nameIndex := 84, descriptorIndex := 85, attributes := #[] }, { accessFlags := 25, nameIndex := 362, descriptorIndex := 363, attributes := #[] }, { accessFlags := 25, nameIndex := 370, descriptorIndex := 371, attributes := #[] }, { accessFlags := 25, nameIndex := 374, descriptorIndex := 375, attributes := #[] }])
  fields := #[{ name := "BINARYSEARCH_THRESHOLD", type := .int, accessFlags := 26, slot := 0, constantValue := 0 }, { name := "REVERSE_THRESHOLD", type := .int, accessFlags := 26, slot := 1, constantValue := 0 }, { name := "SHUFFLE_THRESHOLD", type := .int, accessFlags := 26, slot := 2, constantValue := 0 }, { name := "FILL_THRESHOLD", type := .int, accessFlags := 26, slot := 3, constantValue := 0 }, { name := "ROTATE_THRESHOLD", type := .int, accessFlags := 26, slot := 4, constantValue := 0 }, { name := "COPY_THRESHOLD", type := .int, accessFlags := 26, slot := 5, constantValue := 0 }, { name := "REPLACEALL_THRESHOLD", type := .int, accessFlags := 26, slot := 6, constantValue := 0 }, { name := "INDEXOFSUBLIST_THRESHOLD", type := .int, accessFlags := 26, slot := 7, constantValue := 0 }, { name := "r", type := (.object "java/util/Random"), accessFlags := 10, slot := 8, constantValue := 0 }, { name := "EMPTY_SET", type := (.object "java/util/Set"), accessFlags := 25, slot := 9, constantValue := 0 }, { name := "EMPTY_LIST", type := (.object "java/util/List"), accessFlags := 25, slot := 10, constantValue := 0 }, { name := "EMPTY_MAP", type := (.object "java/util/Map"), accessFlags := 25, slot := 11, constantValue := 0 }]
  methods := #[k25m0]
  instanceTypes := #[]
  staticTypes := #[.int, .int, .int, .int, .int, .int, .int, .int, (.object "java/util/Random"), (.object "java/util/Set"), (.object "java/util/List"), (.object "java/util/Map")]
  resolved := Array.replicate 933 none
  statics := some 4 }

def pool26 : Array CpInfo := pool [(8, .class_ 10), (1, u "java/lang/Iterable"), (24, .class_ 36), (0, u "java/lang/Object")] 25

/-- java/lang/Iterable -/
def k26 : Class := { plain "java/lang/Iterable" (some 0) with
  accessFlags := 1537
  interfaces := #[]
  cf := some (fileOf pool26 8 #[] #[] 1537 35 #[] #[])
  fields := #[]
  methods := #[]
  instanceTypes := #[]
  staticTypes := #[]
  resolved := Array.replicate 62 none
  statics := none }

def pool27 : Array CpInfo := pool [(10, .class_ 12), (1, u "java/util/Collection"), (47, .class_ 61), (0, u "java/lang/Object"), (0, .class_ 63), (0, u "java/lang/Iterable")] 51

/-- java/util/Collection -/
def k27 : Class := { plain "java/util/Collection" (some 0) with
  accessFlags := 1537
  interfaces := #[26]
  cf := some (fileOf pool27 10 #[] #[] 1537 60 #[62] #[])
  fields := #[]
  methods := #[]
  instanceTypes := #[]
  staticTypes := #[]
  resolved := Array.replicate 115 none
  statics := none }

def pool28 : Array CpInfo := pool [(2, .class_ 4), (1, u "java/lang/Object"), (0, u "<init>"), (0, u "()V"), (1, .class_ 10), (1, u "java/util/AbstractCollection"), (66, .class_ 78), (0, u "java/util/Collection")] 81

def k28m0 : Method := { name := "<init>", desc := "()V", sig := { parameters := [], returnType := none }, accessFlags := 4, code := none }
/-- java/util/AbstractCollection -/
def k28 : Class := { plain "java/util/AbstractCollection" (some 0) with
  accessFlags := 1057
  interfaces := #[27]
  cf := some (fileOf pool28 8 #[] #[{ accessFlags := 4, nameIndex := 5, descriptorIndex := 6, attributes := #[] }] 1057 2 #[77] #[])
  fields := #[]
  methods := #[k28m0]
  instanceTypes := #[]
  staticTypes := #[]
  resolved := Array.replicate 160 none
  statics := none }

def pool29 : Array CpInfo := pool [(8, .class_ 10), (1, u "java/util/SequencedCollection"), (15, .class_ 27), (0, u "java/lang/Object"), (0, .class_ 29), (0, u "java/util/Collection")] 27

/-- java/util/SequencedCollection -/
def k29 : Class := { plain "java/util/SequencedCollection" (some 0) with
  accessFlags := 1537
  interfaces := #[27]
  cf := some (fileOf pool29 8 #[] #[] 1537 26 #[28] #[])
  fields := #[]
  methods := #[]
  instanceTypes := #[]
  staticTypes := #[]
  resolved := Array.replicate 57 none
  statics := none }

def pool30 : Array CpInfo := pool [(8, .class_ 10), (1, u "java/util/List"), (92, .class_ 104), (0, u "java/lang/Object"), (15, .class_ 121), (0, u "java/util/SequencedCollection")] 129

/-- java/util/List -/
def k30 : Class := { plain "java/util/List" (some 0) with
  accessFlags := 1537
  interfaces := #[29]
  cf := some (fileOf pool30 8 #[] #[] 1537 103 #[120] #[])
  fields := #[]
  methods := #[]
  instanceTypes := #[]
  staticTypes := #[]
  resolved := Array.replicate 251 none
  statics := none }

def pool31 : Array CpInfo := pool [(2, .class_ 4), (1, u "java/util/AbstractCollection"), (0, u "<init>"), (0, u "()V"), (1, .class_ 10), (1, u "java/util/AbstractList"), (0, u "modCount"), (0, u "I"), (64, .class_ 78), (0, u "java/util/AbstractList$Itr"), (3, .class_ 83), (0, u "java/util/AbstractList$ListItr"), (9, .class_ 94), (0, u "java/util/AbstractList$RandomAccessSubList"), (3, .class_ 99), (0, u "java/util/AbstractList$SubList"), (33, .class_ 134), (0, u "java/util/List"), (73, .class_ 209), (0, u "java/util/AbstractList$SubList$1"), (0, .class_ 211), (0, u "java/util/AbstractList$RandomAccessSpliterator")] 6

def k31m0 : Method := { name := "<init>", desc := "()V", sig := { parameters := [], returnType := none }, accessFlags := 4, code := none }
/-- java/util/AbstractList -/
def k31 : Class := { plain "java/util/AbstractList" (some 28) with
  accessFlags := 1057
  interfaces := #[30]
  cf := some (fileOf pool31 8 #[.nestMembers #[93, 98, 208, 210, 82, 77]] #[{ accessFlags := 4, nameIndex := 5, descriptorIndex := 6, attributes := #[] }] 1057 2 #[133] #[{ accessFlags := 132, nameIndex := 11, descriptorIndex := 12, attributes := #[] }])
  fields := #[{ name := "modCount", type := .int, accessFlags := 132, slot := 0, constantValue := 0 }]
  methods := #[k31m0]
  instanceTypes := #[.int]
  staticTypes := #[]
  resolved := Array.replicate 218 none
  statics := none }

def pool32 : Array CpInfo := pool [(1, .class_ 2), (0, u "java/util/RandomAccess"), (0, .class_ 4), (0, u "java/lang/Object")] 2

/-- java/util/RandomAccess -/
def k32 : Class := { plain "java/util/RandomAccess" (some 0) with
  accessFlags := 1537
  interfaces := #[]
  cf := some (fileOf pool32 1 #[] #[] 1537 3 #[] #[])
  fields := #[]
  methods := #[]
  instanceTypes := #[]
  staticTypes := #[]
  resolved := Array.replicate 7 none
  statics := none }

def pool33 : Array CpInfo := pool [(2, .class_ 4), (1, u "java/util/AbstractList"), (0, u "<init>"), (0, u "()V"), (1, .class_ 10), (1, u "java/util/Collections"), (54, .class_ 66), (0, u "java/util/Collections$EmptyList"), (0, .class_ 68), (0, u "java/util/RandomAccess"), (0, .class_ 70), (0, u "java/io/Serializable"), (0, u "serialVersionUID"), (0, u "J")] 77

def k33m0 : Method := { name := "<init>", desc := "()V", sig := { parameters := [], returnType := none }, accessFlags := 2, code := none }
/-- java/util/Collections$EmptyList -/
def k33 : Class := { plain "java/util/Collections$EmptyList" (some 31) with
  accessFlags := 32
  interfaces := #[32, 2]
  cf := some (fileOf pool33 65 #[.nestHost 8] #[{ accessFlags := 2, nameIndex := 5, descriptorIndex := 6, attributes := #[] }] 32 2 #[67, 69] #[{ accessFlags := 26, nameIndex := 71, descriptorIndex := 72, attributes := #[] }])
  fields := #[{ name := "serialVersionUID", type := .long, accessFlags := 26, slot := 0, constantValue := 0 }]
  methods := #[k33m0]
  instanceTypes := #[.int]
  staticTypes := #[.long]
  resolved := Array.replicate 150 none
  statics := none }

def pool34 : Array CpInfo := pool [(2, .class_ 4), (1, u "java/lang/StackTraceElement"), (0, u "<init>"), (2, .class_ 10), (1, u "java/lang/Object"), (0, u "()V"), (2, u "format"), (0, u "B"), (2, u "classLoaderName"), (0, u "Ljava/lang/String;"), (2, u "moduleName"), (2, u "moduleVersion"), (12, u "declaringClass"), (4, u "methodName"), (2, u "fileName"), (2, u "lineNumber"), (0, u "I"), (65, u "declaringClassObject"), (0, u "Ljava/lang/Class;"), (33, .class_ 153), (1, u "java/lang/StackTraceElement$HashedModules"), (17, .class_ 172), (0, u "java/io/Serializable"), (0, u "NATIVE_METHOD"), (1, u "UNKNOWN_SOURCE"), (2, u "BUILTIN_CLASS_LOADER"), (1, u "JDK_NON_UPGRADEABLE_MODULE"), (1, u "serialVersionUID"), (0, u "J")] 51

def k34m0 : Method := { name := "<init>", desc := "()V", sig := { parameters := [], returnType := none }, accessFlags := 2, code := none }
/-- java/lang/StackTraceElement -/
def k34 : Class := { plain "java/lang/StackTraceElement" (some 0) with
  accessFlags := 49
  interfaces := #[2]
  cf := some (fileOf pool34 2 #[.nestMembers #[151]] #[{ accessFlags := 2, nameIndex := 5, descriptorIndex := 11, attributes := #[] }] 49 8 #[171] #[{ accessFlags := 26, nameIndex := 173, descriptorIndex := 19, attributes := #[] }, { accessFlags := 26, nameIndex := 175, descriptorIndex := 19, attributes := #[] }, { accessFlags := 130, nameIndex := 116, descriptorIndex := 117, attributes := #[] }, { accessFlags := 2, nameIndex := 18, descriptorIndex := 19, attributes := #[] }, { accessFlags := 2, nameIndex := 22, descriptorIndex := 19, attributes := #[] }, { accessFlags := 2, nameIndex := 25, descriptorIndex := 19, attributes := #[] }, { accessFlags := 2, nameIndex := 38, descriptorIndex := 19, attributes := #[] }, { accessFlags := 2, nameIndex := 43, descriptorIndex := 19, attributes := #[] }, { accessFlags := 2, nameIndex := 46, descriptorIndex := 19, attributes := #[] }, { accessFlags := 2, nameIndex := 49, descriptorIndex := 50, attributes := #[] }, { accessFlags := 2, nameIndex := 14, descriptorIndex := 15, attributes := #[] }, { accessFlags := 26, nameIndex := 178, descriptorIndex := 15, attributes := #[] }, { accessFlags := 26, nameIndex := 180, descriptorIndex := 15, attributes := #[] }, { accessFlags := 26, nameIndex := 182, descriptorIndex := 183, attributes := #[] }])
  fields := #[{ name := "NATIVE_METHOD", type := (.object "java/lang/String"), accessFlags := 26, slot := 0, constantValue := 0 }, { name := "UNKNOWN_SOURCE", type := (.object "java/lang/String"), accessFlags := 26, slot := 1, constantValue := 0 }, { name := "declaringClassObject", type := (.object "java/lang/Class"), accessFlags := 130, slot := 0, constantValue := 0 }, { name := "classLoaderName", type := (.object "java/lang/String"), accessFlags := 2, slot := 1, constantValue := 0 }, { name := "moduleName", type := (.object "java/lang/String"), accessFlags := 2, slot := 2, constantValue := 0 }, { name := "moduleVersion", type := (.object "java/lang/String"), accessFlags := 2, slot := 3, constantValue := 0 }, { name := "declaringClass", type := (.object "java/lang/String"), accessFlags := 2, slot := 4, constantValue := 0 }, { name := "methodName", type := (.object "java/lang/String"), accessFlags := 2, slot := 5, constantValue := 0 }, { name := "fileName", type := (.object "java/lang/String"), accessFlags := 2, slot := 6, constantValue := 0 }, { name := "lineNumber", type := .int, accessFlags := 2, slot := 7, constantValue := 0 }, { name := "format", type := .byte, accessFlags := 2, slot := 8, constantValue := 0 }, { name := "BUILTIN_CLASS_LOADER", type := .byte, accessFlags := 26, slot := 2, constantValue := 0 }, { name := "JDK_NON_UPGRADEABLE_MODULE", type := .byte, accessFlags := 26, slot := 3, constantValue := 0 }, { name := "serialVersionUID", type := .long, accessFlags := 26, slot := 4, constantValue := 0 }]
  methods := #[k34m0]
  instanceTypes := #[(.object "java/lang/Class"), (.object "java/lang/String"), (.object "java/lang/String"), (.object "java/lang/String"), (.object "java/lang/String"), (.object "java/lang/String"), (.object "java/lang/String"), .int, .byte]
  staticTypes := #[(.object "java/lang/String"), (.object "java/lang/String"), .byte, .byte, .long]
  resolved := Array.replicate 235 none
  statics := none }

/-- the primitive byte -/
def k35 : Class := { plain "byte" none with kind := .primitive 'B', accessFlags := 0x411 }
/-- [B -/
def k36 : Class := { plain "[B" (some 0) with kind := .array 35 .byte, interfaces := #[22, 2], accessFlags := 1041 }

/-- the primitive char -/
def k37 : Class := { plain "char" none with kind := .primitive 'C', accessFlags := 0x411 }
/-- [C -/
def k38 : Class := { plain "[C" (some 0) with kind := .array 37 .char, interfaces := #[22, 2], accessFlags := 1041 }

/-- the primitive int -/
def k39 : Class := { plain "int" none with kind := .primitive 'I', accessFlags := 0x411 }
/-- [I -/
def k40 : Class := { plain "[I" (some 0) with kind := .array 39 .int, interfaces := #[22, 2], accessFlags := 1041 }

/-- [Ljava/lang/Object; -/
def k41 : Class := { plain "[Ljava/lang/Object;" (some 0) with kind := .array 0 (.object "java/lang/Object"), interfaces := #[22, 2], accessFlags := 1041 }

/-- [Ljava/lang/StackTraceElement; -/
def k42 : Class := { plain "[Ljava/lang/StackTraceElement;" (some 0) with kind := .array 34 (.object "java/lang/StackTraceElement"), interfaces := #[22, 2], accessFlags := 1041 }

/-- [Ljava/lang/Throwable; -/
def k43 : Class := { plain "[Ljava/lang/Throwable;" (some 0) with kind := .array 9 (.object "java/lang/Throwable"), interfaces := #[22, 2], accessFlags := 1041 }

def heap : Heap := #[{ cls := 7, slots := #[.long 0, .int 1, .null, .int 0, .null, .int 0, .int 0], vm := .statics 7 },
  { cls := 9, slots := #[.long 0, .ref 7, .ref 8, .null, .null, .null, .null, .ref 9, .int 1], vm := .statics 9 },
  { cls := 18, slots := #[.int 0, .int 0, .null, .null, .ref 6, .ref 5, .int 0, .int 0, .long 0], vm := .statics 18 },
  { cls := 24, slots := #[.null, .null, .null], vm := .statics 24 },
  { cls := 25, slots := #[.int 0, .int 0, .int 0, .int 0, .int 0, .int 0, .int 0, .int 0, .null, .null, .ref 8, .null], vm := .statics 25 },
  { cls := 36, slots := #[.int 48, .int 49, .int 50, .int 51, .int 52, .int 53, .int 54, .int 55, .int 56, .int 57, .int 48, .int 49, .int 50, .int 51, .int 52, .int 53, .int 54, .int 55, .int 56, .int 57, .int 48, .int 49, .int 50, .int 51, .int 52, .int 53, .int 54, .int 55, .int 56, .int 57, .int 48, .int 49, .int 50, .int 51, .int 52, .int 53, .int 54, .int 55, .int 56, .int 57, .int 48, .int 49, .int 50, .int 51, .int 52, .int 53, .int 54, .int 55, .int 56, .int 57, .int 48, .int 49, .int 50, .int 51, .int 52, .int 53, .int 54, .int 55, .int 56, .int 57, .int 48, .int 49, .int 50, .int 51, .int 52, .int 53, .int 54, .int 55, .int 56, .int 57, .int 48, .int 49, .int 50, .int 51, .int 52, .int 53, .int 54, .int 55, .int 56, .int 57, .int 48, .int 49, .int 50, .int 51, .int 52, .int 53, .int 54, .int 55, .int 56, .int 57, .int 48, .int 49, .int 50, .int 51, .int 52, .int 53, .int 54, .int 55, .int 56, .int 57], vm := .none },
  { cls := 36, slots := #[.int 48, .int 48, .int 48, .int 48, .int 48, .int 48, .int 48, .int 48, .int 48, .int 48, .int 49, .int 49, .int 49, .int 49, .int 49, .int 49, .int 49, .int 49, .int 49, .int 49, .int 50, .int 50, .int 50, .int 50, .int 50, .int 50, .int 50, .int 50, .int 50, .int 50, .int 51, .int 51, .int 51, .int 51, .int 51, .int 51, .int 51, .int 51, .int 51, .int 51, .int 52, .int 52, .int 52, .int 52, .int 52, .int 52, .int 52, .int 52, .int 52, .int 52, .int 53, .int 53, .int 53, .int 53, .int 53, .int 53, .int 53, .int 53, .int 53, .int 53, .int 54, .int 54, .int 54, .int 54, .int 54, .int 54, .int 54, .int 54, .int 54, .int 54, .int 55, .int 55, .int 55, .int 55, .int 55, .int 55, .int 55, .int 55, .int 55, .int 55, .int 56, .int 56, .int 56, .int 56, .int 56, .int 56, .int 56, .int 56, .int 56, .int 56, .int 57, .int 57, .int 57, .int 57, .int 57, .int 57, .int 57, .int 57, .int 57, .int 57], vm := .none },
  { cls := 42, slots := #[], vm := .none },
  { cls := 33, slots := #[.int 0], vm := .none },
  { cls := 43, slots := #[], vm := .none }]
def classes : Array Class := #[k0, k1, k2, k3, k4, k5, k6, k7, k8, k9, k10, k11, k12, k13, k14, k15, k16, k17, k18, k19, k20, k21, k22, k23, k24, k25, k26, k27, k28, k29, k30, k31, k32, k33, k34, k35, k36, k37, k38, k39, k40, k41, k42, k43]
def interned : List (Array UInt16 × Addr) := []
def slotsUsed : Nat := 241
def theMethod : MethodId := ⟨1, 1⟩
def args0 : Array Value := #[.int 7, .int 65, .int 66, .int 3]
def aboutOver (below : List Frame) : State where
  vm := { classes := classes, interned := interned.toArray }
  heap := heap
  slotsUsed := slotsUsed
  threads := #[{ frames := .invoking theMethod args0 :: below }]
def below0 : List Frame := [.native { method := ⟨0, 0⟩, args := #[] }]
def about1 : State := aboutOver below0
def p0 : Program := .bare "" "" ""
def e0 : Env := launch0.env 0 0 0
theorem w_frames : about1.frames = Frame.invoking theMethod args0 :: below0 := rfl
set_option maxRecDepth 65536 in
theorem w_args : argsFit about1.vm theMethod args0 = true := by decide +kernel
set_option maxRecDepth 65536 in
theorem w_heap : heapFits about1 = true := by decide +kernel
set_option maxRecDepth 65536 in
theorem w_runnable : about1.curStatus? = some .runnable := by decide +kernel
set_option maxRecDepth 65536 in
theorem w_alone : about1.alone = true := by decide +kernel
set_option maxRecDepth 65536 in
theorem w_named : about1.methodNamed? x = some theMethod := by decide +kernel
set_option maxRecDepth 65536 in
theorem w_hears : about1.hears theMethod below0 = true := by decide +kernel
set_option maxRecDepth 65536 in
theorem w_ripe : about1.ripe theMethod args0 below0 = true := by decide +kernel
theorem w_running : about1.status = .running := rfl
set_option maxRecDepth 65536 in
theorem w_room : about1.hasRoom e0.platform room_1 = true :=
  launch0.hasRoom_least _ room_1 (by decide +kernel) (by decide +kernel) (by decide +kernel) (by decide +kernel) (by decide +kernel) (by decide +kernel)
theorem allAtoms_all (ts : List Jvm.Cond) (a : Array Jvm.Value) (st : Jvm.State) : (allAtoms ts).before a st = ts.all (fun c => c.before a st) := by
  induction ts with
  | nil => rfl
  | cons c t ih =>
    show (Jvm.Cond.and c (allAtoms t)).before a st = _
    rw [Jvm.Cond.before_and, ih, List.all_cons]
def words1 : List Jvm.Cond := Jvm.Cond.code x code maxLocals ret :: tables_1
/-- a 'code' word, met by the world's own term for the bytes: nothing is compared byte by byte -/
theorem code_word {y : MethodName} {bytes : ByteArray} {mx : Nat} {rt : Option FieldType} {a : Array Value} {s : State} {m : MethodId} {meth : Method} {c : Code} (h1 : s.methodNamed? y = some m) (h2 : s.vm.method? m = some meth) (h3 : meth.code = some c) (h4 : c.code = bytes)
    (h5 : (c.maxLocals == mx && c.exceptionTable.isEmpty && decide (c.maxStack ≤ mostOperands) && decide (meth.sig.returnType = rt) && !meth.locks && decide (parseMethodDescriptor y.desc = some meth.sig)) = true) : (Jvm.Cond.code y bytes mx rt).before a s = true := by
  simp only [Bool.and_eq_true, beq_iff_eq, Bool.not_eq_true', decide_eq_true_eq] at h5
  obtain ⟨⟨⟨⟨⟨g1, g2⟩, g3⟩, g4⟩, g5⟩, g6⟩ := h5
  simp [Cond.before, Cond.holds, Cond.value, h1, h2, h3, h4, g1, g2, g3, g4, g5, g6]
def isCode : Jvm.Cond → Bool
  | .code _ _ _ _ => true
  | _ => false
theorem all_split {L : List Jvm.Cond} {P : Jvm.Cond → Bool} (h1 : L.all (fun c => isCode c || P c) = true) (h2 : ∀ c ∈ L.filter isCode, P c = true) : L.all P = true := by
  refine List.all_eq_true.mpr fun c hc => ?_
  have h := List.all_eq_true.mp h1 c hc
  rcases Bool.eq_false_or_eq_true (isCode c) with hi | hi
  · exact h2 c (List.mem_filter.mpr ⟨hc, hi⟩)
  · simpa [hi] using h
set_option maxRecDepth 65536 in
theorem w_c0 : (Jvm.Cond.code x code maxLocals ret).before args0 about1 = true := code_word (m := ⟨1, 1⟩) (meth := k1m1) (c := k1c1) (by decide +kernel) rfl rfl rfl (by decide +kernel)
set_option maxRecDepth 65536 in
theorem w_c1 : (Jvm.Cond.code ({ cls := "java/lang/String", name := "<init>", desc := "([C)V" } : Jvm.MethodName) jdk_42_method_3_code (2 : Nat) (Option.none : Option Jvm.ClassFile.FieldType)).before args0 about1 = true := code_word (m := ⟨7, 1⟩) (meth := k7m1) (c := k7c1) (by decide +kernel) rfl rfl rfl (by decide +kernel)
set_option maxRecDepth 65536 in
theorem w_c2 : (Jvm.Cond.code ({ cls := "java/lang/String", name := "<init>", desc := "([CIILjava/lang/Void;)V" } : Jvm.MethodName) jdk_42_method_149_code (6 : Nat) (Option.none : Option Jvm.ClassFile.FieldType)).before args0 about1 = true := code_word (m := ⟨7, 6⟩) (meth := k7m6) (c := k7c6) (by decide +kernel) rfl rfl rfl (by decide +kernel)
set_option maxRecDepth 65536 in
theorem w_c3 : (Jvm.Cond.code ({ cls := "java/lang/Object", name := "<init>", desc := "()V" } : Jvm.MethodName) object_method_1_code (1 : Nat) (Option.none : Option Jvm.ClassFile.FieldType)).before args0 about1 = true := code_word (m := ⟨0, 0⟩) (meth := k0m0) (c := k0c0) (by decide +kernel) rfl rfl rfl (by decide +kernel)
set_option maxRecDepth 65536 in
theorem w_c4 : (Jvm.Cond.code ({ cls := "java/lang/StringUTF16", name := "compress", desc := "([CII)[B" } : Jvm.MethodName) jdk_52_method_16_code (6 : Nat) (Option.some (Jvm.ClassFile.FieldType.array Jvm.ClassFile.FieldType.byte))).before args0 about1 = true := code_word (m := ⟨8, 2⟩) (meth := k8m2) (c := k8c2) (by decide +kernel) rfl rfl rfl (by decide +kernel)
set_option maxRecDepth 65536 in
theorem w_c5 : (Jvm.Cond.code ({ cls := "java/lang/StringUTF16", name := "compress", desc := "([CI[BII)I" } : Jvm.MethodName) jdk_52_method_21_code (7 : Nat) (Option.some Jvm.ClassFile.FieldType.int)).before args0 about1 = true := code_word (m := ⟨8, 3⟩) (meth := k8m3) (c := k8c3) (by decide +kernel) rfl rfl rfl (by decide +kernel)
set_option maxRecDepth 65536 in
theorem w_c6 : (Jvm.Cond.code ({ cls := "java/lang/StringUTF16", name := "coderFromArrayLen", desc := "([BI)B" } : Jvm.MethodName) jdk_52_method_15_code (2 : Nat) (Option.some Jvm.ClassFile.FieldType.byte)).before args0 about1 = true := code_word (m := ⟨8, 1⟩) (meth := k8m1) (c := k8c1) (by decide +kernel) rfl rfl rfl (by decide +kernel)
set_option maxRecDepth 65536 in
theorem w_c7 : (Jvm.Cond.code ({ cls := "com/example/carovita/carovita/index/CsvFormatException", name := "<init>", desc := "(ILjava/lang/String;)V" } : Jvm.MethodName) prog_36_method_1_code (3 : Nat) (Option.none : Option Jvm.ClassFile.FieldType)).before args0 about1 = true := code_word (m := ⟨12, 0⟩) (meth := k12m0) (c := k12c0) (by decide +kernel) rfl rfl rfl (by decide +kernel)
set_option maxRecDepth 65536 in
theorem w_c8 : (Jvm.Cond.code ({ cls := "java/lang/StringBuilder", name := "<init>", desc := "()V" } : Jvm.MethodName) jdk_67_method_1_code (1 : Nat) (Option.none : Option Jvm.ClassFile.FieldType)).before args0 about1 = true := code_word (m := ⟨15, 0⟩) (meth := k15m0) (c := k15c0) (by decide +kernel) rfl rfl rfl (by decide +kernel)
set_option maxRecDepth 65536 in
theorem w_c9 : (Jvm.Cond.code ({ cls := "java/lang/AbstractStringBuilder", name := "<init>", desc := "(I)V" } : Jvm.MethodName) jdk_68_method_2_code (2 : Nat) (Option.none : Option Jvm.ClassFile.FieldType)).before args0 about1 = true := code_word (m := ⟨14, 1⟩) (meth := k14m1) (c := k14c1) (by decide +kernel) rfl rfl rfl (by decide +kernel)
set_option maxRecDepth 65536 in
theorem w_c10 : (Jvm.Cond.code ({ cls := "java/lang/StringBuilder", name := "append", desc := "(Ljava/lang/String;)Ljava/lang/StringBuilder;" } : Jvm.MethodName) jdk_67_method_7_code (2 : Nat) (Option.some (Jvm.ClassFile.FieldType.object "java/lang/StringBuilder"))).before args0 about1 = true := code_word (m := ⟨15, 1⟩) (meth := k15m1) (c := k15c1) (by decide +kernel) rfl rfl rfl (by decide +kernel)
set_option maxRecDepth 65536 in
theorem w_c11 : (Jvm.Cond.code ({ cls := "java/lang/AbstractStringBuilder", name := "append", desc := "(Ljava/lang/String;)Ljava/lang/AbstractStringBuilder;" } : Jvm.MethodName) jdk_68_method_22_code (3 : Nat) (Option.some (Jvm.ClassFile.FieldType.object "java/lang/AbstractStringBuilder"))).before args0 about1 = true := code_word (m := ⟨14, 5⟩) (meth := k14m5) (c := k14c5) (by decide +kernel) rfl rfl rfl (by decide +kernel)
set_option maxRecDepth 65536 in
theorem w_c12 : (Jvm.Cond.code ({ cls := "java/lang/String", name := "length", desc := "()I" } : Jvm.MethodName) jdk_42_method_54_code (1 : Nat) (Option.some Jvm.ClassFile.FieldType.int)).before args0 about1 = true := code_word (m := ⟨7, 3⟩) (meth := k7m3) (c := k7c3) (by decide +kernel) rfl rfl rfl (by decide +kernel)
set_option maxRecDepth 65536 in
theorem w_c13 : (Jvm.Cond.code ({ cls := "java/lang/String", name := "coder", desc := "()B" } : Jvm.MethodName) jdk_42_method_152_code (1 : Nat) (Option.some Jvm.ClassFile.FieldType.byte)).before args0 about1 = true := code_word (m := ⟨7, 8⟩) (meth := k7m8) (c := k7c8) (by decide +kernel) rfl rfl rfl (by decide +kernel)
set_option maxRecDepth 65536 in
theorem w_c14 : (Jvm.Cond.code ({ cls := "java/lang/AbstractStringBuilder", name := "ensureCapacityInternal", desc := "(I)V" } : Jvm.MethodName) jdk_68_method_9_code (3 : Nat) (Option.none : Option Jvm.ClassFile.FieldType)).before args0 about1 = true := code_word (m := ⟨14, 3⟩) (meth := k14m3) (c := k14c3) (by decide +kernel) rfl rfl rfl (by decide +kernel)
set_option maxRecDepth 65536 in
theorem w_c15 : (Jvm.Cond.code ({ cls := "java/lang/AbstractStringBuilder", name := "putStringAt", desc := "(ILjava/lang/String;)V" } : Jvm.MethodName) jdk_68_method_73_code (3 : Nat) (Option.none : Option Jvm.ClassFile.FieldType)).before args0 about1 = true := code_word (m := ⟨14, 10⟩) (meth := k14m10) (c := k14c10) (by decide +kernel) rfl rfl rfl (by decide +kernel)
set_option maxRecDepth 65536 in
theorem w_c16 : (Jvm.Cond.code ({ cls := "java/lang/AbstractStringBuilder", name := "inflateIfNeededFor", desc := "(Ljava/lang/String;)V" } : Jvm.MethodName) jdk_68_method_71_code (2 : Nat) (Option.none : Option Jvm.ClassFile.FieldType)).before args0 about1 = true := code_word (m := ⟨14, 9⟩) (meth := k14m9) (c := k14c9) (by decide +kernel) rfl rfl rfl (by decide +kernel)
set_option maxRecDepth 65536 in
theorem w_c17 : (Jvm.Cond.code ({ cls := "java/lang/String", name := "getBytes", desc := "([BIB)V" } : Jvm.MethodName) jdk_42_method_147_code (4 : Nat) (Option.none : Option Jvm.ClassFile.FieldType)).before args0 about1 = true := code_word (m := ⟨7, 5⟩) (meth := k7m5) (c := k7c5) (by decide +kernel) rfl rfl rfl (by decide +kernel)
set_option maxRecDepth 65536 in
theorem w_c18 : (Jvm.Cond.code ({ cls := "java/lang/StringBuilder", name := "append", desc := "(I)Ljava/lang/StringBuilder;" } : Jvm.MethodName) jdk_67_method_15_code (2 : Nat) (Option.some (Jvm.ClassFile.FieldType.object "java/lang/StringBuilder"))).before args0 about1 = true := code_word (m := ⟨15, 2⟩) (meth := k15m2) (c := k15c2) (by decide +kernel) rfl rfl rfl (by decide +kernel)
set_option maxRecDepth 65536 in
theorem w_c19 : (Jvm.Cond.code ({ cls := "java/lang/AbstractStringBuilder", name := "append", desc := "(I)Ljava/lang/AbstractStringBuilder;" } : Jvm.MethodName) jdk_68_method_32_code (4 : Nat) (Option.some (Jvm.ClassFile.FieldType.object "java/lang/AbstractStringBuilder"))).before args0 about1 = true := code_word (m := ⟨14, 6⟩) (meth := k14m6) (c := k14c6) (by decide +kernel) rfl rfl rfl (by decide +kernel)
set_option maxRecDepth 65536 in
theorem w_c20 : (Jvm.Cond.code ({ cls := "java/lang/Integer", name := "stringSize", desc := "(I)I" } : Jvm.MethodName) jdk_33_method_13_code (4 : Nat) (Option.some Jvm.ClassFile.FieldType.int)).before args0 about1 = true := code_word (m := ⟨18, 1⟩) (meth := k18m1) (c := k18c1) (by decide +kernel) rfl rfl rfl (by decide +kernel)
set_option maxRecDepth 65536 in
theorem w_c21 : (Jvm.Cond.code ({ cls := "java/lang/AbstractStringBuilder", name := "isLatin1", desc := "()Z" } : Jvm.MethodName) jdk_68_method_68_code (1 : Nat) (Option.some Jvm.ClassFile.FieldType.boolean)).before args0 about1 = true := code_word (m := ⟨14, 8⟩) (meth := k14m8) (c := k14c8) (by decide +kernel) rfl rfl rfl (by decide +kernel)
set_option maxRecDepth 65536 in
theorem w_c22 : (Jvm.Cond.code ({ cls := "java/lang/Integer", name := "getChars", desc := "(II[B)I" } : Jvm.MethodName) jdk_33_method_12_code (7 : Nat) (Option.some Jvm.ClassFile.FieldType.int)).before args0 about1 = true := code_word (m := ⟨18, 0⟩) (meth := k18m0) (c := k18c0) (by decide +kernel) rfl rfl rfl (by decide +kernel)
set_option maxRecDepth 65536 in
theorem w_c23 : (Jvm.Cond.code ({ cls := "java/lang/AbstractStringBuilder", name := "newCapacity", desc := "(I)I" } : Jvm.MethodName) jdk_68_method_10_code (6 : Nat) (Option.some Jvm.ClassFile.FieldType.int)).before args0 about1 = true := code_word (m := ⟨14, 4⟩) (meth := k14m4) (c := k14c4) (by decide +kernel) rfl rfl rfl (by decide +kernel)
set_option maxRecDepth 65536 in
theorem w_c24 : (Jvm.Cond.code ({ cls := "jdk/internal/util/ArraysSupport", name := "newLength", desc := "(III)I" } : Jvm.MethodName) jdk_48_method_27_code (4 : Nat) (Option.some Jvm.ClassFile.FieldType.int)).before args0 about1 = true := code_word (m := ⟨19, 1⟩) (meth := k19m1) (c := k19c1) (by decide +kernel) rfl rfl rfl (by decide +kernel)
set_option maxRecDepth 65536 in
theorem w_c25 : (Jvm.Cond.code ({ cls := "java/lang/Math", name := "max", desc := "(II)I" } : Jvm.MethodName) jdk_29_method_65_code (2 : Nat) (Option.some Jvm.ClassFile.FieldType.int)).before args0 about1 = true := code_word (m := ⟨20, 1⟩) (meth := k20m1) (c := k20c1) (by decide +kernel) rfl rfl rfl (by decide +kernel)
set_option maxRecDepth 65536 in
theorem w_c26 : (Jvm.Cond.code ({ cls := "java/util/Arrays", name := "copyOf", desc := "([BI)[B" } : Jvm.MethodName) jdk_65_method_121_code (3 : Nat) (Option.some (Jvm.ClassFile.FieldType.array Jvm.ClassFile.FieldType.byte))).before args0 about1 = true := code_word (m := ⟨21, 1⟩) (meth := k21m1) (c := k21c1) (by decide +kernel) rfl rfl rfl (by decide +kernel)
set_option maxRecDepth 65536 in
theorem w_c27 : (Jvm.Cond.code ({ cls := "java/lang/Math", name := "min", desc := "(II)I" } : Jvm.MethodName) jdk_29_method_69_code (2 : Nat) (Option.some Jvm.ClassFile.FieldType.int)).before args0 about1 = true := code_word (m := ⟨20, 2⟩) (meth := k20m2) (c := k20c2) (by decide +kernel) rfl rfl rfl (by decide +kernel)
set_option maxRecDepth 65536 in
theorem w_c28 : (Jvm.Cond.code ({ cls := "java/lang/StringBuilder", name := "toString", desc := "()Ljava/lang/String;" } : Jvm.MethodName) jdk_67_method_42_code (1 : Nat) (Option.some (Jvm.ClassFile.FieldType.object "java/lang/String"))).before args0 about1 = true := code_word (m := ⟨15, 3⟩) (meth := k15m3) (c := k15c3) (by decide +kernel) rfl rfl rfl (by decide +kernel)
set_option maxRecDepth 65536 in
theorem w_c29 : (Jvm.Cond.code ({ cls := "java/lang/String", name := "<init>", desc := "(Ljava/lang/StringBuilder;)V" } : Jvm.MethodName) jdk_42_method_53_code (2 : Nat) (Option.none : Option Jvm.ClassFile.FieldType)).before args0 about1 = true := code_word (m := ⟨7, 2⟩) (meth := k7m2) (c := k7c2) (by decide +kernel) rfl rfl rfl (by decide +kernel)
set_option maxRecDepth 65536 in
theorem w_c30 : (Jvm.Cond.code ({ cls := "java/lang/String", name := "<init>", desc := "(Ljava/lang/AbstractStringBuilder;Ljava/lang/Void;)V" } : Jvm.MethodName) jdk_42_method_150_code (5 : Nat) (Option.none : Option Jvm.ClassFile.FieldType)).before args0 about1 = true := code_word (m := ⟨7, 7⟩) (meth := k7m7) (c := k7c7) (by decide +kernel) rfl rfl rfl (by decide +kernel)
set_option maxRecDepth 65536 in
theorem w_c31 : (Jvm.Cond.code ({ cls := "java/lang/AbstractStringBuilder", name := "getValue", desc := "()[B" } : Jvm.MethodName) jdk_68_method_64_code (1 : Nat) (Option.some (Jvm.ClassFile.FieldType.array Jvm.ClassFile.FieldType.byte))).before args0 about1 = true := code_word (m := ⟨14, 7⟩) (meth := k14m7) (c := k14c7) (by decide +kernel) rfl rfl rfl (by decide +kernel)
set_option maxRecDepth 65536 in
theorem w_c32 : (Jvm.Cond.code ({ cls := "java/lang/StringBuilder", name := "length", desc := "()I" } : Jvm.MethodName) jdk_67_method_93_code (1 : Nat) (Option.some Jvm.ClassFile.FieldType.int)).before args0 about1 = true := code_word (m := ⟨15, 4⟩) (meth := k15m4) (c := k15c4) (by decide +kernel) rfl rfl rfl (by decide +kernel)
set_option maxRecDepth 65536 in
theorem w_c33 : (Jvm.Cond.code ({ cls := "java/lang/AbstractStringBuilder", name := "length", desc := "()I" } : Jvm.MethodName) jdk_68_method_6_code (1 : Nat) (Option.some Jvm.ClassFile.FieldType.int)).before args0 about1 = true := code_word (m := ⟨14, 2⟩) (meth := k14m2) (c := k14c2) (by decide +kernel) rfl rfl rfl (by decide +kernel)
set_option maxRecDepth 65536 in
theorem w_c34 : (Jvm.Cond.code ({ cls := "java/util/Arrays", name := "copyOfRange", desc := "([BII)[B" } : Jvm.MethodName) jdk_65_method_132_code (3 : Nat) (Option.some (Jvm.ClassFile.FieldType.array Jvm.ClassFile.FieldType.byte))).before args0 about1 = true := code_word (m := ⟨21, 3⟩) (meth := k21m3) (c := k21c3) (by decide +kernel) rfl rfl rfl (by decide +kernel)
set_option maxRecDepth 65536 in
theorem w_c35 : (Jvm.Cond.code ({ cls := "java/io/IOException", name := "<init>", desc := "(Ljava/lang/String;)V" } : Jvm.MethodName) jdk_131_method_2_code (2 : Nat) (Option.none : Option Jvm.ClassFile.FieldType)).before args0 about1 = true := code_word (m := ⟨11, 1⟩) (meth := k11m1) (c := k11c1) (by decide +kernel) rfl rfl rfl (by decide +kernel)
set_option maxRecDepth 65536 in
theorem w_c36 : (Jvm.Cond.code ({ cls := "java/lang/Exception", name := "<init>", desc := "(Ljava/lang/String;)V" } : Jvm.MethodName) jdk_59_method_2_code (2 : Nat) (Option.none : Option Jvm.ClassFile.FieldType)).before args0 about1 = true := code_word (m := ⟨10, 1⟩) (meth := k10m1) (c := k10c1) (by decide +kernel) rfl rfl rfl (by decide +kernel)
set_option maxRecDepth 65536 in
theorem w_c37 : (Jvm.Cond.code ({ cls := "java/lang/Throwable", name := "<init>", desc := "(Ljava/lang/String;)V" } : Jvm.MethodName) jdk_78_method_2_code (2 : Nat) (Option.none : Option Jvm.ClassFile.FieldType)).before args0 about1 = true := code_word (m := ⟨9, 1⟩) (meth := k9m1) (c := k9c1) (by decide +kernel) rfl rfl rfl (by decide +kernel)
set_option maxRecDepth 65536 in
theorem w_c38 : (Jvm.Cond.code ({ cls := "java/lang/Throwable", name := "<init>", desc := "()V" } : Jvm.MethodName) jdk_78_method_1_code (1 : Nat) (Option.none : Option Jvm.ClassFile.FieldType)).before args0 about1 = true := code_word (m := ⟨9, 0⟩) (meth := k9m0) (c := k9c0) (by decide +kernel) rfl rfl rfl (by decide +kernel)
set_option maxRecDepth 65536 in
theorem w_c39 : (Jvm.Cond.code ({ cls := "com/example/carovita/carovita/index/CsvFormatException", name := "givenTwice", desc := "(ILjava/lang/String;I)Lcom/example/carovita/carovita/index/CsvFormatException;" } : Jvm.MethodName) prog_36_method_2_code (3 : Nat) (Option.some (Jvm.ClassFile.FieldType.object "com/example/carovita/carovita/index/CsvFormatException"))).before args0 about1 = true := code_word (m := ⟨12, 1⟩) (meth := k12m1) (c := k12c1) (by decide +kernel) rfl rfl rfl (by decide +kernel)
set_option maxRecDepth 65536 in
theorem w_c40 : (Jvm.Cond.code ({ cls := "com/example/carovita/carovita/index/CsvFormatException", name := "line", desc := "()I" } : Jvm.MethodName) prog_36_method_3_code (1 : Nat) (Option.some Jvm.ClassFile.FieldType.int)).before args0 about1 = true := code_word (m := ⟨12, 2⟩) (meth := k12m2) (c := k12c2) (by decide +kernel) rfl rfl rfl (by decide +kernel)
set_option maxRecDepth 65536 in
theorem w_c41 : (Jvm.Cond.code ({ cls := "java/lang/Throwable", name := "getMessage", desc := "()Ljava/lang/String;" } : Jvm.MethodName) jdk_78_method_6_code (1 : Nat) (Option.some (Jvm.ClassFile.FieldType.object "java/lang/String"))).before args0 about1 = true := code_word (m := ⟨9, 2⟩) (meth := k9m2) (c := k9c2) (by decide +kernel) rfl rfl rfl (by decide +kernel)
set_option maxRecDepth 65536 in
theorem w_c42 : (Jvm.Cond.code ({ cls := "java/lang/String", name := "equals", desc := "(Ljava/lang/Object;)Z" } : Jvm.MethodName) jdk_42_method_66_code (3 : Nat) (Option.some Jvm.ClassFile.FieldType.boolean)).before args0 about1 = true := code_word (m := ⟨7, 4⟩) (meth := k7m4) (c := k7c4) (by decide +kernel) rfl rfl rfl (by decide +kernel)
set_option maxRecDepth 65536 in
theorem w_c43 : (Jvm.Cond.code ({ cls := "java/lang/StringLatin1", name := "equals", desc := "([B[B)Z" } : Jvm.MethodName) jdk_43_method_13_code (3 : Nat) (Option.some Jvm.ClassFile.FieldType.boolean)).before args0 about1 = true := code_word (m := ⟨23, 1⟩) (meth := k23m1) (c := k23c1) (by decide +kernel) rfl rfl rfl (by decide +kernel)
set_option maxRecDepth 65536 in
theorem w_c44 : (Jvm.Cond.code ({ cls := "java/util/Arrays", name := "copyOfRangeByte", desc := "([BII)[B" } : Jvm.MethodName) jdk_65_method_133_code (5 : Nat) (Option.some (Jvm.ClassFile.FieldType.array Jvm.ClassFile.FieldType.byte))).before args0 about1 = true := code_word (m := ⟨21, 4⟩) (meth := k21m4) (c := k21c4) (by decide +kernel) rfl rfl rfl (by decide +kernel)
set_option maxRecDepth 65536 in
theorem w_c45 : (Jvm.Cond.code ({ cls := "java/util/Arrays", name := "checkLength", desc := "(II)V" } : Jvm.MethodName) jdk_65_method_131_code (2 : Nat) (Option.none : Option Jvm.ClassFile.FieldType)).before args0 about1 = true := code_word (m := ⟨21, 2⟩) (meth := k21m2) (c := k21c2) (by decide +kernel) rfl rfl rfl (by decide +kernel)
def codes1 : List Jvm.Cond := [Jvm.Cond.code x code maxLocals ret, Jvm.Cond.code ({ cls := "java/lang/String", name := "<init>", desc := "([C)V" } : Jvm.MethodName) jdk_42_method_3_code (2 : Nat) (Option.none : Option Jvm.ClassFile.FieldType), Jvm.Cond.code ({ cls := "java/lang/String", name := "<init>", desc := "([CIILjava/lang/Void;)V" } : Jvm.MethodName) jdk_42_method_149_code (6 : Nat) (Option.none : Option Jvm.ClassFile.FieldType), Jvm.Cond.code ({ cls := "java/lang/Object", name := "<init>", desc := "()V" } : Jvm.MethodName) object_method_1_code (1 : Nat) (Option.none : Option Jvm.ClassFile.FieldType), Jvm.Cond.code ({ cls := "java/lang/StringUTF16", name := "compress", desc := "([CII)[B" } : Jvm.MethodName) jdk_52_method_16_code (6 : Nat) (Option.some (Jvm.ClassFile.FieldType.array Jvm.ClassFile.FieldType.byte)), Jvm.Cond.code ({ cls := "java/lang/StringUTF16", name := "compress", desc := "([CI[BII)I" } : Jvm.MethodName) jdk_52_method_21_code (7 : Nat) (Option.some Jvm.ClassFile.FieldType.int), Jvm.Cond.code ({ cls := "java/lang/StringUTF16", name := "coderFromArrayLen", desc := "([BI)B" } : Jvm.MethodName) jdk_52_method_15_code (2 : Nat) (Option.some Jvm.ClassFile.FieldType.byte), Jvm.Cond.code ({ cls := "com/example/carovita/carovita/index/CsvFormatException", name := "<init>", desc := "(ILjava/lang/String;)V" } : Jvm.MethodName) prog_36_method_1_code (3 : Nat) (Option.none : Option Jvm.ClassFile.FieldType), Jvm.Cond.code ({ cls := "java/lang/StringBuilder", name := "<init>", desc := "()V" } : Jvm.MethodName) jdk_67_method_1_code (1 : Nat) (Option.none : Option Jvm.ClassFile.FieldType), Jvm.Cond.code ({ cls := "java/lang/AbstractStringBuilder", name := "<init>", desc := "(I)V" } : Jvm.MethodName) jdk_68_method_2_code (2 : Nat) (Option.none : Option Jvm.ClassFile.FieldType), Jvm.Cond.code ({ cls := "java/lang/StringBuilder", name := "append", desc := "(Ljava/lang/String;)Ljava/lang/StringBuilder;" } : Jvm.MethodName) jdk_67_method_7_code (2 : Nat) (Option.some (Jvm.ClassFile.FieldType.object "java/lang/StringBuilder")), Jvm.Cond.code ({ cls := "java/lang/AbstractStringBuilder", name := "append", desc := "(Ljava/lang/String;)Ljava/lang/AbstractStringBuilder;" } : Jvm.MethodName) jdk_68_method_22_code (3 : Nat) (Option.some (Jvm.ClassFile.FieldType.object "java/lang/AbstractStringBuilder")), Jvm.Cond.code ({ cls := "java/lang/String", name := "length", desc := "()I" } : Jvm.MethodName) jdk_42_method_54_code (1 : Nat) (Option.some Jvm.ClassFile.FieldType.int), Jvm.Cond.code ({ cls := "java/lang/String", name := "coder", desc := "()B" } : Jvm.MethodName) jdk_42_method_152_code (1 : Nat) (Option.some Jvm.ClassFile.FieldType.byte), Jvm.Cond.code ({ cls := "java/lang/AbstractStringBuilder", name := "ensureCapacityInternal", desc := "(I)V" } : Jvm.MethodName) jdk_68_method_9_code (3 : Nat) (Option.none : Option Jvm.ClassFile.FieldType), Jvm.Cond.code ({ cls := "java/lang/AbstractStringBuilder", name := "putStringAt", desc := "(ILjava/lang/String;)V" } : Jvm.MethodName) jdk_68_method_73_code (3 : Nat) (Option.none : Option Jvm.ClassFile.FieldType), Jvm.Cond.code ({ cls := "java/lang/AbstractStringBuilder", name := "inflateIfNeededFor", desc := "(Ljava/lang/String;)V" } : Jvm.MethodName) jdk_68_method_71_code (2 : Nat) (Option.none : Option Jvm.ClassFile.FieldType), Jvm.Cond.code ({ cls := "java/lang/String", name := "getBytes", desc := "([BIB)V" } : Jvm.MethodName) jdk_42_method_147_code (4 : Nat) (Option.none : Option Jvm.ClassFile.FieldType), Jvm.Cond.code ({ cls := "java/lang/StringBuilder", name := "append", desc := "(I)Ljava/lang/StringBuilder;" } : Jvm.MethodName) jdk_67_method_15_code (2 : Nat) (Option.some (Jvm.ClassFile.FieldType.object "java/lang/StringBuilder")), Jvm.Cond.code ({ cls := "java/lang/AbstractStringBuilder", name := "append", desc := "(I)Ljava/lang/AbstractStringBuilder;" } : Jvm.MethodName) jdk_68_method_32_code (4 : Nat) (Option.some (Jvm.ClassFile.FieldType.object "java/lang/AbstractStringBuilder")), Jvm.Cond.code ({ cls := "java/lang/Integer", name := "stringSize", desc := "(I)I" } : Jvm.MethodName) jdk_33_method_13_code (4 : Nat) (Option.some Jvm.ClassFile.FieldType.int), Jvm.Cond.code ({ cls := "java/lang/AbstractStringBuilder", name := "isLatin1", desc := "()Z" } : Jvm.MethodName) jdk_68_method_68_code (1 : Nat) (Option.some Jvm.ClassFile.FieldType.boolean), Jvm.Cond.code ({ cls := "java/lang/Integer", name := "getChars", desc := "(II[B)I" } : Jvm.MethodName) jdk_33_method_12_code (7 : Nat) (Option.some Jvm.ClassFile.FieldType.int), Jvm.Cond.code ({ cls := "java/lang/AbstractStringBuilder", name := "newCapacity", desc := "(I)I" } : Jvm.MethodName) jdk_68_method_10_code (6 : Nat) (Option.some Jvm.ClassFile.FieldType.int), Jvm.Cond.code ({ cls := "jdk/internal/util/ArraysSupport", name := "newLength", desc := "(III)I" } : Jvm.MethodName) jdk_48_method_27_code (4 : Nat) (Option.some Jvm.ClassFile.FieldType.int), Jvm.Cond.code ({ cls := "java/lang/Math", name := "max", desc := "(II)I" } : Jvm.MethodName) jdk_29_method_65_code (2 : Nat) (Option.some Jvm.ClassFile.FieldType.int), Jvm.Cond.code ({ cls := "java/util/Arrays", name := "copyOf", desc := "([BI)[B" } : Jvm.MethodName) jdk_65_method_121_code (3 : Nat) (Option.some (Jvm.ClassFile.FieldType.array Jvm.ClassFile.FieldType.byte)), Jvm.Cond.code ({ cls := "java/lang/Math", name := "min", desc := "(II)I" } : Jvm.MethodName) jdk_29_method_69_code (2 : Nat) (Option.some Jvm.ClassFile.FieldType.int), Jvm.Cond.code ({ cls := "java/lang/StringBuilder", name := "toString", desc := "()Ljava/lang/String;" } : Jvm.MethodName) jdk_67_method_42_code (1 : Nat) (Option.some (Jvm.ClassFile.FieldType.object "java/lang/String")), Jvm.Cond.code ({ cls := "java/lang/String", name := "<init>", desc := "(Ljava/lang/StringBuilder;)V" } : Jvm.MethodName) jdk_42_method_53_code (2 : Nat) (Option.none : Option Jvm.ClassFile.FieldType), Jvm.Cond.code ({ cls := "java/lang/String", name := "<init>", desc := "(Ljava/lang/AbstractStringBuilder;Ljava/lang/Void;)V" } : Jvm.MethodName) jdk_42_method_150_code (5 : Nat) (Option.none : Option Jvm.ClassFile.FieldType), Jvm.Cond.code ({ cls := "java/lang/AbstractStringBuilder", name := "getValue", desc := "()[B" } : Jvm.MethodName) jdk_68_method_64_code (1 : Nat) (Option.some (Jvm.ClassFile.FieldType.array Jvm.ClassFile.FieldType.byte)), Jvm.Cond.code ({ cls := "java/lang/StringBuilder", name := "length", desc := "()I" } : Jvm.MethodName) jdk_67_method_93_code (1 : Nat) (Option.some Jvm.ClassFile.FieldType.int), Jvm.Cond.code ({ cls := "java/lang/AbstractStringBuilder", name := "length", desc := "()I" } : Jvm.MethodName) jdk_68_method_6_code (1 : Nat) (Option.some Jvm.ClassFile.FieldType.int), Jvm.Cond.code ({ cls := "java/util/Arrays", name := "copyOfRange", desc := "([BII)[B" } : Jvm.MethodName) jdk_65_method_132_code (3 : Nat) (Option.some (Jvm.ClassFile.FieldType.array Jvm.ClassFile.FieldType.byte)), Jvm.Cond.code ({ cls := "java/io/IOException", name := "<init>", desc := "(Ljava/lang/String;)V" } : Jvm.MethodName) jdk_131_method_2_code (2 : Nat) (Option.none : Option Jvm.ClassFile.FieldType), Jvm.Cond.code ({ cls := "java/lang/Exception", name := "<init>", desc := "(Ljava/lang/String;)V" } : Jvm.MethodName) jdk_59_method_2_code (2 : Nat) (Option.none : Option Jvm.ClassFile.FieldType), Jvm.Cond.code ({ cls := "java/lang/Throwable", name := "<init>", desc := "(Ljava/lang/String;)V" } : Jvm.MethodName) jdk_78_method_2_code (2 : Nat) (Option.none : Option Jvm.ClassFile.FieldType), Jvm.Cond.code ({ cls := "java/lang/Throwable", name := "<init>", desc := "()V" } : Jvm.MethodName) jdk_78_method_1_code (1 : Nat) (Option.none : Option Jvm.ClassFile.FieldType), Jvm.Cond.code ({ cls := "com/example/carovita/carovita/index/CsvFormatException", name := "givenTwice", desc := "(ILjava/lang/String;I)Lcom/example/carovita/carovita/index/CsvFormatException;" } : Jvm.MethodName) prog_36_method_2_code (3 : Nat) (Option.some (Jvm.ClassFile.FieldType.object "com/example/carovita/carovita/index/CsvFormatException")), Jvm.Cond.code ({ cls := "com/example/carovita/carovita/index/CsvFormatException", name := "line", desc := "()I" } : Jvm.MethodName) prog_36_method_3_code (1 : Nat) (Option.some Jvm.ClassFile.FieldType.int), Jvm.Cond.code ({ cls := "java/lang/Throwable", name := "getMessage", desc := "()Ljava/lang/String;" } : Jvm.MethodName) jdk_78_method_6_code (1 : Nat) (Option.some (Jvm.ClassFile.FieldType.object "java/lang/String")), Jvm.Cond.code ({ cls := "java/lang/String", name := "equals", desc := "(Ljava/lang/Object;)Z" } : Jvm.MethodName) jdk_42_method_66_code (3 : Nat) (Option.some Jvm.ClassFile.FieldType.boolean), Jvm.Cond.code ({ cls := "java/lang/StringLatin1", name := "equals", desc := "([B[B)Z" } : Jvm.MethodName) jdk_43_method_13_code (3 : Nat) (Option.some Jvm.ClassFile.FieldType.boolean), Jvm.Cond.code ({ cls := "java/util/Arrays", name := "copyOfRangeByte", desc := "([BII)[B" } : Jvm.MethodName) jdk_65_method_133_code (5 : Nat) (Option.some (Jvm.ClassFile.FieldType.array Jvm.ClassFile.FieldType.byte)), Jvm.Cond.code ({ cls := "java/util/Arrays", name := "checkLength", desc := "(II)V" } : Jvm.MethodName) jdk_65_method_131_code (2 : Nat) (Option.none : Option Jvm.ClassFile.FieldType)]
set_option maxRecDepth 65536 in
theorem codes_eq : words1.filter isCode = codes1 := rfl
theorem w_codes : ∀ c ∈ words1.filter isCode, c.before args0 about1 = true := by
  rw [codes_eq]
  intro c hc
  simp only [codes1, List.mem_cons, List.not_mem_nil, or_false] at hc
  rcases hc with rfl | rfl | rfl | rfl | rfl | rfl | rfl | rfl | rfl | rfl | rfl | rfl | rfl | rfl | rfl | rfl | rfl | rfl | rfl | rfl | rfl | rfl | rfl | rfl | rfl | rfl | rfl | rfl | rfl | rfl | rfl | rfl | rfl | rfl | rfl | rfl | rfl | rfl | rfl | rfl | rfl | rfl | rfl | rfl | rfl | rfl
  · exact w_c0
  · exact w_c1
  · exact w_c2
  · exact w_c3
  · exact w_c4
  · exact w_c5
  · exact w_c6
  · exact w_c7
  · exact w_c8
  · exact w_c9
  · exact w_c10
  · exact w_c11
  · exact w_c12
  · exact w_c13
  · exact w_c14
  · exact w_c15
  · exact w_c16
  · exact w_c17
  · exact w_c18
  · exact w_c19
  · exact w_c20
  · exact w_c21
  · exact w_c22
  · exact w_c23
  · exact w_c24
  · exact w_c25
  · exact w_c26
  · exact w_c27
  · exact w_c28
  · exact w_c29
  · exact w_c30
  · exact w_c31
  · exact w_c32
  · exact w_c33
  · exact w_c34
  · exact w_c35
  · exact w_c36
  · exact w_c37
  · exact w_c38
  · exact w_c39
  · exact w_c40
  · exact w_c41
  · exact w_c42
  · exact w_c43
  · exact w_c44
  · exact w_c45
set_option maxRecDepth 65536 in
theorem w_t1 : (words1.take 24).all (fun c => isCode c || c.before args0 about1) = true := by decide +kernel
set_option maxRecDepth 65536 in
theorem w_t2 : ((words1.drop 24).take 24).all (fun c => isCode c || c.before args0 about1) = true := by decide +kernel
set_option maxRecDepth 65536 in
theorem w_t3 : (((words1.drop 24).drop 24).take 24).all (fun c => isCode c || c.before args0 about1) = true := by decide +kernel
set_option maxRecDepth 65536 in
theorem w_t4 : ((((words1.drop 24).drop 24).drop 24).take 24).all (fun c => isCode c || c.before args0 about1) = true := by decide +kernel
set_option maxRecDepth 65536 in
theorem w_t5 : (((((words1.drop 24).drop 24).drop 24).drop 24).take 24).all (fun c => isCode c || c.before args0 about1) = true := by decide +kernel
set_option maxRecDepth 65536 in
theorem w_t6 : ((((((words1.drop 24).drop 24).drop 24).drop 24).drop 24).take 24).all (fun c => isCode c || c.before args0 about1) = true := by decide +kernel
set_option maxRecDepth 65536 in
theorem w_t7 : (((((((words1.drop 24).drop 24).drop 24).drop 24).drop 24).drop 24).take 24).all (fun c => isCode c || c.before args0 about1) = true := by decide +kernel
set_option maxRecDepth 65536 in
theorem w_t8 : ((((((((words1.drop 24).drop 24).drop 24).drop 24).drop 24).drop 24).drop 24).take 24).all (fun c => isCode c || c.before args0 about1) = true := by decide +kernel
set_option maxRecDepth 65536 in
theorem w_t9 : (((((((((words1.drop 24).drop 24).drop 24).drop 24).drop 24).drop 24).drop 24).drop 24).take 24).all (fun c => isCode c || c.before args0 about1) = true := by decide +kernel
set_option maxRecDepth 65536 in
theorem w_t10 : ((((((((((words1.drop 24).drop 24).drop 24).drop 24).drop 24).drop 24).drop 24).drop 24).drop 24).take 24).all (fun c => isCode c || c.before args0 about1) = true := by decide +kernel
set_option maxRecDepth 65536 in
theorem w_t11 : (((((((((((words1.drop 24).drop 24).drop 24).drop 24).drop 24).drop 24).drop 24).drop 24).drop 24).drop 24).take 24).all (fun c => isCode c || c.before args0 about1) = true := by decide +kernel
set_option maxRecDepth 65536 in
theorem w_t12 : (((((((((((words1.drop 24).drop 24).drop 24).drop 24).drop 24).drop 24).drop 24).drop 24).drop 24).drop 24).drop 24).all (fun c => isCode c || c.before args0 about1) = true := by decide +kernel
theorem w_tables : (allAtoms (Jvm.Cond.code x code maxLocals ret :: tables_1)).before args0 about1 = true := by
  rw [allAtoms_all]
  show words1.all (fun c => c.before args0 about1) = true
  refine all_split ?_ w_codes
  rw [← List.take_append_drop 24 words1, List.all_append, w_t1, ← List.take_append_drop 24 (words1.drop 24), List.all_append, w_t2, ← List.take_append_drop 24 ((words1.drop 24).drop 24), List.all_append, w_t3, ← List.take_append_drop 24 (((words1.drop 24).drop 24).drop 24), List.all_append, w_t4, ← List.take_append_drop 24 ((((words1.drop 24).drop 24).drop 24).drop 24), List.all_append, w_t5, ← List.take_append_drop 24 (((((words1.drop 24).drop 24).drop 24).drop 24).drop 24), List.all_append, w_t6, ← List.take_append_drop 24 ((((((words1.drop 24).drop 24).drop 24).drop 24).drop 24).drop 24), List.all_append, w_t7, ← List.take_append_drop 24 (((((((words1.drop 24).drop 24).drop 24).drop 24).drop 24).drop 24).drop 24), List.all_append, w_t8, ← List.take_append_drop 24 ((((((((words1.drop 24).drop 24).drop 24).drop 24).drop 24).drop 24).drop 24).drop 24), List.all_append, w_t9, ← List.take_append_drop 24 (((((((((words1.drop 24).drop 24).drop 24).drop 24).drop 24).drop 24).drop 24).drop 24).drop 24), List.all_append, w_t10, ← List.take_append_drop 24 ((((((((((words1.drop 24).drop 24).drop 24).drop 24).drop 24).drop 24).drop 24).drop 24).drop 24).drop 24), List.all_append, w_t11, w_t12]
  rfl
set_option maxRecDepth 65536 in
theorem w_rest : rest_1_c.before args0 about1 = true := by decide +kernel
set_option maxRecDepth 65536 in
theorem w_case : (Jvm.Cond.and given_1 narrow_1).before args0 about1 = true := by decide +kernel
set_option maxRecDepth 65536 in
theorem w_consts : constsHeld consts_1 about1 := Jvm.Lit.constsHeldB_iff.mp (by decide +kernel)
theorem w_applies : (headSpec (Jvm.Cond.code x code maxLocals ret :: tables_1) room_1).applies x e0.platform about1 = true :=
  (Spec.applies_iff w_frames).mpr ⟨w_running, w_runnable, w_alone, w_named, w_hears, w_ripe, w_room, w_tables⟩
theorem atStart : AtStart classFile x code maxLocals ret World_1 tables_1 room_1 Calls_1 rest_1 Pre_1 launch0 p0 e0 about1 theMethod args0 below0 :=
  ⟨lists_1, trivial, launch0.admits_env _ _ _, launch0.least_env, fairChoices_fair.cas, fairChoices_fair.clock, w_frames, w_args, w_heap, w_applies, ⟨(by decide +kernel : framesKnown about1 = true), ⟨(by decide +kernel : tablesKnown about1 = true), ⟨w_consts, trivial⟩⟩⟩, w_rest, w_case⟩
end start1
theorem witness_1 : WitnessClaimed_1 := ⟨start1.p0, start1.e0, start1.about1, start1.theMethod, start1.args0, start1.below0, start1.atStart⟩
end Jvm.Pilot.@@N@@
