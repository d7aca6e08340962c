import JvmDerived
import JvmDerived.Pilot.@@N@@Statement
import JvmDerived.Pilot.@@N@@Code
set_option linter.unusedVariables false
set_option maxRecDepth 65536
set_option maxHeartbeats 40000000
set_option linter.unusedSimpArgs false
namespace Jvm.Pilot.@@N@@
open Jvm Jvm.ClassFile Sem Op Lib Jvm.Free Jvm.Stand Jvm.LawKit Jvm.RoadKit Bundle Jvm.Pilot.@@N@@.Jvm.D
/-! ### the form of my walks: what is left to do from a state -/
def Go (p : Program) (e : Env) (below : List Frame) (P : Outcome → State → Prop) (S : State) : Prop :=
 ∃ s₂ o, Steps p.tables e below S s₂ ∧ s₂.status = .running ∧ Ended s₂ below o ∧ P o s₂
def PQ (s : State) (Q : Option Value → Heap → List Loc → Prop) (C S : Nat) : Outcome → State → Prop :=
 fun o U' => ∃ v L, o = .returned v ∧ Q v U'.heap L ∧ FrameEnd s o U' L C S
theorem Go.by {p : Program} {e : Env} {below : List Frame} {P : Outcome → State → Prop} {S S' : State} (k : ∀ t, Steps p.tables e below S' t → Steps p.tables e below S t) (h : Go p e below P S') : Go p e below P S := by
 obtain ⟨t, o, h1, h2⟩ := h
 exact ⟨t, o, k t h1, h2⟩
theorem Go.fin {p : Program} {l : Launch} {e : Env} {R : Room} {s : State} {m : MethodId} {args : Array Value} {below : List Frame} {meth : Method} {c : Code} {T : State} {locs : List Loc} {k n C S : Nat} {v : Option Value} {Q : Option Value → Heap → List Loc → Prop} {S0 : State}
   (X : Stand p l e R s m args below meth c T locs k n) (hlk : meth.locks = false) (hv : meth.sig.returnType = none → v = none) (hk : k ≤ C) (hn : n ≤ S) (hQ : Q v T.heap locs)
   (hst : ∀ fs, (∀ (f : JFrame) (acts : List Action), f.method = m → f.locked = none → f.entered = [] → (doReturn e (T.setTop f) acts v).1 = T.setFrames fs) → Steps p.tables e below S0 (T.setFrames fs)) : Go p e below (PQ s Q C S) S0 := by
 obtain ⟨fs, hr, hrun, hended, hW, hsame⟩ := X.leave (v := v) hv hlk
 exact ⟨_, _, hst fs hr, hrun, hended, v, locs, rfl, hQ, ⟨_, rfl⟩, hW, hsame.mono hk hn⟩
abbrev vI (x : Int32) : Slot := .val (.int x)
abbrev vR (x : Addr) : Slot := .val (.ref x)
abbrev vJ (x : Int64) : Slot := .val (.long x)
abbrev own_R (f c s l : Nat) : Room := { frames := f, cells := c, slots := s, locals := l }
abbrev oG (p : Program) (e : Env) (below : List Frame) (P : Outcome → State → Prop) (m : MethodId) (T : State) (pc : Nat) (L : Array Slot) (S : List Value) : Prop := Go p e below P (T.setTop (mkF m pc L S))
abbrev oW (a0 : Array Value) (Z : State) : Prop := ∀ d ∈ tables_1, d.before a0 Z = true
abbrev oY0 : MethodName := ⟨"java/lang/String", "length", "()I"⟩
abbrev oY1 : MethodName := ⟨"java/lang/String", "substring", "(II)Ljava/lang/String;"⟩
abbrev oY2 : MethodName := ⟨"java/lang/String", "lastIndexOf", "(II)I"⟩
abbrev oY3 : MethodName := ⟨"java/lang/String", "isLatin1", "()Z"⟩
abbrev oY4 : MethodName := ⟨"java/lang/StringLatin1", "lastIndexOf", "([BII)I"⟩
abbrev oY5 : MethodName := ⟨"java/lang/String", "coder", "()B"⟩
abbrev oY6 : MethodName := ⟨"jarkeep/source/SourceDirectoryOfPinLaw", "agree", "(Ljava/lang/String;[CII)Z"⟩
abbrev oY7 : MethodName := ⟨"java/lang/String", "startsWith", "(Ljava/lang/String;I)Z"⟩
abbrev oY8 : MethodName := ⟨"java/lang/String", "endsWith", "(Ljava/lang/String;)Z"⟩
abbrev oY9 : MethodName := ⟨"jarkeep/source/SourceDirectoryOfPinLaw", "lastSlash", "([CI)I"⟩
abbrev oY10 : MethodName := ⟨"java/lang/StringLatin1", "newString", "([BII)Ljava/lang/String;"⟩
abbrev oY11 : MethodName := ⟨"java/lang/Math", "min", "(II)I"⟩
abbrev oY12 : MethodName := ⟨"java/util/Arrays", "copyOfRangeByte", "([BII)[B"⟩
abbrev oY13 : MethodName := ⟨"java/util/Arrays", "copyOfRange", "([BII)[B"⟩
abbrev oY14 : MethodName := ⟨"jarkeep/source/Source", "directoryOf", "(Ljava/lang/String;)Ljava/lang/String;"⟩
abbrev oY15 : MethodName := ⟨"java/lang/String", "<init>", "([CIILjava/lang/Void;)V"⟩
abbrev oY16 : MethodName := ⟨"java/lang/String", "<init>", "([C)V"⟩
abbrev oY17 : MethodName := ⟨"jdk/internal/util/ArraysSupport", "mismatch", "([BI[BII)I"⟩
abbrev oY18 : MethodName := ⟨"java/lang/StringUTF16", "compress", "([CI[BII)I"⟩
abbrev oY19 : MethodName := ⟨"java/lang/StringUTF16", "compress", "([CII)[B"⟩
abbrev oY20 : MethodName := ⟨"java/lang/StringUTF16", "coderFromArrayLen", "([BI)B"⟩
abbrev oY21 : MethodName := ⟨"java/lang/StringLatin1", "canEncode", "(I)Z"⟩
abbrev oY22 : MethodName := ⟨"java/lang/String", "checkBoundsBeginEnd", "(III)V"⟩
abbrev oY23 : MethodName := ⟨"java/util/Arrays", "checkLength", "(II)V"⟩
abbrev oY24 : MethodName := ⟨"java/lang/String", "<init>", "([BB)V"⟩
abbrev oY25 : MethodName := ⟨"jarkeep/source/SourceDirectoryOfPinLaw", "pick", "(I)C"⟩
abbrev oY26 : MethodName := ⟨"java/lang/String", "charAt", "(I)C"⟩
abbrev oY27 : MethodName := ⟨"jdk/internal/util/Preconditions", "checkFromToIndex", "(IIILjava/util/function/BiFunction;)I"⟩
abbrev oY28 : MethodName := ⟨"jdk/internal/util/Preconditions", "checkIndex", "(IILjava/util/function/BiFunction;)I"⟩
abbrev oY29 : MethodName := ⟨"java/lang/String", "checkIndex", "(II)V"⟩
abbrev oY30 : MethodName := ⟨"java/lang/StringLatin1", "charAt", "([BI)C"⟩
abbrev j42_152 := jdk_42_method_152_code
abbrev j42_154 := jdk_42_method_154_code
abbrev j43_4 := jdk_43_method_4_code
abbrev j29_69 := jdk_29_method_69_code
abbrev j65_131 := jdk_65_method_131_code
abbrev j41_12 := jdk_41_method_12_code
abbrev j41_11 := jdk_41_method_11_code
abbrev j42_158 := jdk_42_method_158_code
abbrev j42_155 := jdk_42_method_155_code
abbrev j42_54 := jdk_42_method_54_code
abbrev j43_2 := jdk_43_method_2_code
abbrev j42_56 := jdk_42_method_56_code
abbrev j42_75 := jdk_42_method_75_code
abbrev j42_77 := jdk_42_method_77_code
abbrev j48_14 := jdk_48_method_14_code
abbrev j43_27 := jdk_43_method_27_code
abbrev j42_83 := jdk_42_method_83_code
abbrev j42_151 := jdk_42_method_151_code
abbrev j65_133 := jdk_65_method_133_code
abbrev j65_132 := jdk_65_method_132_code
abbrev j43_47 := jdk_43_method_47_code
abbrev j42_92 := jdk_42_method_92_code
abbrev p42_9 := prog_42_method_9_code
abbrev j42_149 := jdk_42_method_149_code
abbrev j42_3 := jdk_42_method_3_code
abbrev j52_21 := jdk_52_method_21_code
abbrev j52_16 := jdk_52_method_16_code
abbrev j52_15 := jdk_52_method_15_code
section OwnW
variable {p : Program} {l : Launch} {e : Env} {R : Room} {s : State} {m : MethodId} {args : Array Value} {below : List Frame} {meth : Method} {c : Code} {T : State} {locs : List Loc} {cells slots : Nat} {P : Outcome → State → Prop} {code : ByteArray} {pc : Nat} {L : Array Slot} {S : List Value}
theorem iA (X : Stand p l e R s m args below meth c T locs cells slots) (hx : p.tables.exec = Jvm.exec) (hby : c.code = code) {i : Fin 4} {v : Int32} (hd : decode code pc = .ok (.iload_n i, 1)) (hl : L[i.val]? = some (.val (.int v))) (h : Go p e below P (T.setTop (mkF m (pc + 1) L (.int v :: S)))) : Go p e below P (T.setTop (mkF m pc L S)) := Go.by (fun _ => XS.iloadN X.here hx rfl (hb hby hd) hl) h
theorem iB (X : Stand p l e R s m args below meth c T locs cells slots) (hx : p.tables.exec = Jvm.exec) (hby : c.code = code) {i : Nat} {v : Int32} (hd : decode code pc = .ok (.iload i, 2)) (hl : L[i]? = some (.val (.int v))) (h : Go p e below P (T.setTop (mkF m (pc + 2) L (.int v :: S)))) : Go p e below P (T.setTop (mkF m pc L S)) := Go.by (fun _ => XS.iload X.here hx rfl (hb hby hd) hl) h
theorem iS (X : Stand p l e R s m args below meth c T locs cells slots) (hx : p.tables.exec = Jvm.exec) (hby : c.code = code) {i : Fin 4} {x : Int32} {l' : Array Slot} (hd : decode code pc = .ok (.istore_n i, 1)) (hl : storeLocals L i.val (.int x) = some l') (h : Go p e below P (T.setTop (mkF m (pc + 1) l' S))) : Go p e below P (T.setTop (mkF m pc L (.int x :: S))) := Go.by (fun _ => XS.istoreN X.here hx rfl (hb hby hd) rfl hl) h
theorem iT (X : Stand p l e R s m args below meth c T locs cells slots) (hx : p.tables.exec = Jvm.exec) (hby : c.code = code) {i : Nat} {x : Int32} {l' : Array Slot} (hd : decode code pc = .ok (.istore i, 2)) (hl : storeLocals L i (.int x) = some l') (h : Go p e below P (T.setTop (mkF m (pc + 2) l' S))) : Go p e below P (T.setTop (mkF m pc L (.int x :: S))) := Go.by (fun _ => XS.istore X.here hx rfl (hb hby hd) rfl hl) h
theorem aA (X : Stand p l e R s m args below meth c T locs cells slots) (hx : p.tables.exec = Jvm.exec) (hby : c.code = code) {i : Fin 4} {v : Value} (hd : decode code pc = .ok (.aload_n i, 1)) (hl : L[i.val]? = some (.val v)) (hv : v.isRef = true) (h : Go p e below P (T.setTop (mkF m (pc + 1) L (v :: S)))) : Go p e below P (T.setTop (mkF m pc L S)) := Go.by (fun _ => XS.aloadN X.here hx rfl (hb hby hd) hl hv) h
theorem aB (X : Stand p l e R s m args below meth c T locs cells slots) (hx : p.tables.exec = Jvm.exec) (hby : c.code = code) {i : Nat} {v : Value} (hd : decode code pc = .ok (.aload i, 2)) (hl : L[i]? = some (.val v)) (hv : v.isRef = true) (h : Go p e below P (T.setTop (mkF m (pc + 2) L (v :: S)))) : Go p e below P (T.setTop (mkF m pc L S)) := Go.by (fun _ => XS.aload X.here hx rfl (hb hby hd) hl hv) h
theorem aS (X : Stand p l e R s m args below meth c T locs cells slots) (hx : p.tables.exec = Jvm.exec) (hby : c.code = code) {i : Fin 4} {x : Value} {l' : Array Slot} (hd : decode code pc = .ok (.astore_n i, 1)) (hv : x.isRef = true) (hl : storeLocals L i.val x = some l') (h : Go p e below P (T.setTop (mkF m (pc + 1) l' S))) : Go p e below P (T.setTop (mkF m pc L (x :: S))) := Go.by (fun _ => XS.astoreN X.here hx rfl (hb hby hd) rfl hv hl) h
theorem aT (X : Stand p l e R s m args below meth c T locs cells slots) (hx : p.tables.exec = Jvm.exec) (hby : c.code = code) {i : Nat} {x : Value} {l' : Array Slot} (hd : decode code pc = .ok (.astore i, 2)) (hv : x.isRef = true) (hl : storeLocals L i x = some l') (h : Go p e below P (T.setTop (mkF m (pc + 2) l' S))) : Go p e below P (T.setTop (mkF m pc L (x :: S))) := Go.by (fun _ => XS.astore X.here hx rfl (hb hby hd) rfl hv hl) h
theorem iC (X : Stand p l e R s m args below meth c T locs cells slots) (hx : p.tables.exec = Jvm.exec) (hby : c.code = code) {i : Int} {v : Int32} (hd : decode code pc = .ok (.iconst i, 1)) (hv : Int32.ofInt i = v) (h : Go p e below P (T.setTop (mkF m (pc + 1) L (.int v :: S)))) : Go p e below P (T.setTop (mkF m pc L S)) := by
  subst hv
  exact Go.by (fun _ => XS.iconst X.here hx rfl (hb hby hd)) h
theorem bC (X : Stand p l e R s m args below meth c T locs cells slots) (hx : p.tables.exec = Jvm.exec) (hby : c.code = code) {i : Int} {v : Int32} (hd : decode code pc = .ok (.bipush i, 2)) (hv : (Int8.ofInt i).toInt32 = v) (h : Go p e below P (T.setTop (mkF m (pc + 2) L (.int v :: S)))) : Go p e below P (T.setTop (mkF m pc L S)) := by
  subst hv
  exact Go.by (fun _ => XS.bipush X.here hx rfl (hb hby hd)) h
theorem sC (X : Stand p l e R s m args below meth c T locs cells slots) (hx : p.tables.exec = Jvm.exec) (hby : c.code = code) {i : Int} {v : Int32} (hd : decode code pc = .ok (.sipush i, 3)) (hv : (Int16.ofInt i).toInt32 = v) (h : Go p e below P (T.setTop (mkF m (pc + 3) L (.int v :: S)))) : Go p e below P (T.setTop (mkF m pc L S)) := by
  subst hv
  exact Go.by (fun _ => XS.sipush X.here hx rfl (hb hby hd)) h
theorem w_aconstNull (X : Stand p l e R s m args below meth c T locs cells slots) (hx : p.tables.exec = Jvm.exec) (hby : c.code = code)  (hd : decode code pc = .ok (.aconst_null, 1)) (h : Go p e below P (T.setTop (mkF m (pc + 1) L (.null :: S)))) : Go p e below P (T.setTop (mkF m pc L S)) := Go.by (fun _ => XS.aconstNull X.here hx rfl (hb hby hd)) h
theorem dU (X : Stand p l e R s m args below meth c T locs cells slots) (hx : p.tables.exec = Jvm.exec) (hby : c.code = code) {x : Value} (hd : decode code pc = .ok (.dup, 1)) (hc : x.category = 1) (h : Go p e below P (T.setTop (mkF m (pc + 1) L (x :: x :: S)))) : Go p e below P (T.setTop (mkF m pc L (x :: S))) := Go.by (fun _ => XS.dup X.here hx rfl (hb hby hd) rfl hc) h
theorem pO (X : Stand p l e R s m args below meth c T locs cells slots) (hx : p.tables.exec = Jvm.exec) (hby : c.code = code) {x : Value} (hd : decode code pc = .ok (.pop, 1)) (hc : x.category = 1) (h : Go p e below P (T.setTop (mkF m (pc + 1) L S))) : Go p e below P (T.setTop (mkF m pc L (x :: S))) := Go.by (fun _ => XS.pop X.here hx rfl (hb hby hd) rfl hc) h
theorem iI (X : Stand p l e R s m args below meth c T locs cells slots) (hx : p.tables.exec = Jvm.exec) (hby : c.code = code) {i : Nat} {k : Int} {x : Int32} {l' : Array Slot} (hd : decode code pc = .ok (.iinc i k, 3)) (hl : L[i]? = some (.val (.int x))) (hl' : storeLocals L i (.int (x + Int32.ofInt k)) = some l') (h : Go p e below P (T.setTop (mkF m (pc + 3) l' S))) : Go p e below P (T.setTop (mkF m pc L S)) := Go.by (fun _ => XS.iinc X.here hx rfl (hb hby hd) hl hl') h
theorem iP (X : Stand p l e R s m args below meth c T locs cells slots) (hx : p.tables.exec = Jvm.exec) (hby : c.code = code) {x y v : Int32} (hd : decode code pc = .ok (.iadd, 1)) (hv : x + y = v) (h : Go p e below P (T.setTop (mkF m (pc + 1) L (.int v :: S)))) : Go p e below P (T.setTop (mkF m pc L (.int y :: .int x :: S))) := by
  subst hv
  exact Go.by (fun _ => XS.iadd X.here hx rfl (hb hby hd) rfl) h
theorem iM (X : Stand p l e R s m args below meth c T locs cells slots) (hx : p.tables.exec = Jvm.exec) (hby : c.code = code) {x y v : Int32} (hd : decode code pc = .ok (.isub, 1)) (hv : x - y = v) (h : Go p e below P (T.setTop (mkF m (pc + 1) L (.int v :: S)))) : Go p e below P (T.setTop (mkF m pc L (.int y :: .int x :: S))) := by
  subst hv
  exact Go.by (fun _ => XS.isub X.here hx rfl (hb hby hd) rfl) h
theorem w_iand (X : Stand p l e R s m args below meth c T locs cells slots) (hx : p.tables.exec = Jvm.exec) (hby : c.code = code) {x y v : Int32} (hd : decode code pc = .ok (.iand, 1)) (hv : x &&& y = v) (h : Go p e below P (T.setTop (mkF m (pc + 1) L (.int v :: S)))) : Go p e below P (T.setTop (mkF m pc L (.int y :: .int x :: S))) := by
  subst hv
  exact Go.by (fun _ => XS.iand X.here hx rfl (hb hby hd) rfl) h
theorem gO (X : Stand p l e R s m args below meth c T locs cells slots) (hx : p.tables.exec = Jvm.exec) (hby : c.code = code) {o : Int} {pc' : Nat} (hd : decode code pc = .ok (.goto o, 3)) (hp : 0 ≤ (pc : Int) + o ∧ ((pc : Int) + o).toNat = pc') (h : Go p e below P (T.setTop (mkF m pc' L S))) : Go p e below P (T.setTop (mkF m pc L S)) := Go.by (fun _ => XS.goto X.here hx rfl rfl (hb hby hd) hp.1 hp.2) h
theorem fY (X : Stand p l e R s m args below meth c T locs cells slots) (hx : p.tables.exec = Jvm.exec) (hby : c.code = code) {cd : ClassFile.Cond} {o : Int} {x : Int32} {pc' : Nat} (hd : decode code pc = .ok (.ifCond cd o, 3)) (hc : ifCond.holds cd x = true) (hp : 0 ≤ (pc : Int) + o ∧ ((pc : Int) + o).toNat = pc') (h : Go p e below P (T.setTop (mkF m pc' L S))) : Go p e below P (T.setTop (mkF m pc L (.int x :: S))) := Go.by (fun _ => XS.ifYes X.here hx rfl rfl (hb hby hd) rfl hc hp.1 hp.2) h
theorem fN (X : Stand p l e R s m args below meth c T locs cells slots) (hx : p.tables.exec = Jvm.exec) (hby : c.code = code) {cd : ClassFile.Cond} {o : Int} {x : Int32} (hd : decode code pc = .ok (.ifCond cd o, 3)) (hc : ifCond.holds cd x = false) (h : Go p e below P (T.setTop (mkF m (pc + 3) L S))) : Go p e below P (T.setTop (mkF m pc L (.int x :: S))) := Go.by (fun _ => XS.ifNo X.here hx rfl (hb hby hd) rfl hc) h
theorem cY (X : Stand p l e R s m args below meth c T locs cells slots) (hx : p.tables.exec = Jvm.exec) (hby : c.code = code) {cd : ClassFile.Cond} {o : Int} {x y : Int32} {pc' : Nat} (hd : decode code pc = .ok (.if_icmp cd o, 3)) (hc : if_icmp.holds cd x y = true) (hp : 0 ≤ (pc : Int) + o ∧ ((pc : Int) + o).toNat = pc') (h : Go p e below P (T.setTop (mkF m pc' L S))) : Go p e below P (T.setTop (mkF m pc L (.int y :: .int x :: S))) := Go.by (fun _ => XS.icmpYes X.here hx rfl rfl (hb hby hd) rfl hc hp.1 hp.2) h
theorem cN (X : Stand p l e R s m args below meth c T locs cells slots) (hx : p.tables.exec = Jvm.exec) (hby : c.code = code) {cd : ClassFile.Cond} {o : Int} {x y : Int32} (hd : decode code pc = .ok (.if_icmp cd o, 3)) (hc : if_icmp.holds cd x y = false) (h : Go p e below P (T.setTop (mkF m (pc + 3) L S))) : Go p e below P (T.setTop (mkF m pc L (.int y :: .int x :: S))) := Go.by (fun _ => XS.icmpNo X.here hx rfl (hb hby hd) rfl hc) h
end OwnW
theorem own_fin {p : Program} {l : Launch} {e : Env} {R : Room} {s : State} {m : MethodId} {args : Array Value} {below : List Frame} {meth : Method} {c : Code} {T : State} {locs : List Loc} {k n C S : Nat} {v : Option Value} {Q : Option Value → Heap → List Loc → Prop} {S0 : State} {P : Outcome → State → Prop} (hP : P = PQ s Q C S) (hlk : meth.locks = false)
    (X : Stand p l e R s m args below meth c T locs k n) (hv : meth.sig.returnType = none → v = none) (hk : k ≤ C) (hn : n ≤ S) (hQ : Q v T.heap locs)
    (hst : ∀ fs, (∀ (f : JFrame) (acts : List Action), f.method = m → f.locked = none → f.entered = [] → (doReturn e (T.setTop f) acts v).1 = T.setFrames fs) → Steps p.tables e below S0 (T.setFrames fs)) : Go p e below P S0 := hP ▸ Go.fin X hlk hv hk hn hQ hst
abbrev oM (l : Launch) (x : MethodName) (code : ByteArray) (ml : Nat) (ret : Option FieldType) (ws : List Jvm.Cond) (R : Room) (A : Array Value) (Z : State) (h0 : Heap) (Q : Option Value → Heap → List Loc → Prop) : Prop := MetFree l x (head1 (Jvm.Cond.code x code ml ret :: ws) R) (fun a U => a = A ∧ Z.Warmed39 U.vm ∧ U.heap = h0) (fun _ _ _ _ _ => True) (fun _ U o U' => ∃ v L, o = .returned v ∧ Q v U'.heap L ∧ FrameEnd U o U' L R.cells R.slots)
theorem own_open {l : Launch} {x : MethodName} {code : ByteArray} {ml : Nat} {ret : Option FieldType} {ws : List Jvm.Cond} {R : Room} {A : Array Value} {Z : State} {h0 : Heap} {n0 : Nat} {Q : Option Value → Heap → List Loc → Prop} {L0 : Array Slot} {cn : String} (hcn : x.cls = cn) (hpl : plainFor x = true) (hef : ∀ m, entryFrame m A ml = mkF m 0 L0 [])
    (body : ∀ (p : Program) (e : Env) (s : State) (m : MethodId) (below : List Frame) (meth : Method) (c : Code) (s₁ : State) (P : Outcome → State → Prop), p.tables.exec = Jvm.exec → c.code = code → c.maxLocals = ml → s.vm.findClass cn = some m.cls → meth.name = x.name → Stand p l e R s m A below meth c s₁ [] 0 0 → s₁.heap = h0 → Fr n0 [] → meth.locks = false → meth.sig.returnType = ret → Z.Warmed39 s.vm → P = PQ s Q R.cells R.slots → Go p e below P (s₁.setTop (mkF m 0 L0 []))) : oM l x code ml ret ws R A Z h0 Q := by
  subst hcn
  refine MetFree.of_bodySF hpl hisR ?_
  intro p e s m args below meth c s₁ Bd hml0 hP hK
  obtain ⟨rfl, hZ, hh⟩ := hP
  have e0 : s₁.heap = h0 := by rw [← hh, Bd.state]; rfl
  have hgo := body p e s m below meth c s₁ _ Bd.exec Bd.bytes hml0 (findClass_of_methodNamed Bd.named) (name_of_methodNamed Bd.named Bd.method).1 (Stand.of_body Bd) e0 (Fr.nil n0) Bd.notSynchronized Bd.returns hZ rfl
  exact Go.by (fun t k => castTop (hef m) k) hgo
section OwnCall
variable {p : Program} {l : Launch} {e : Env} {R : Room} {s : State} {m : MethodId} {args : Array Value} {below : List Frame} {meth : Method} {c : Code} {T : State} {locs : List Loc} {cells slots : Nat} {P : Outcome → State → Prop} {code : ByteArray} {pc : Nat} {L : Array Slot} {Z : State} {a0 : Array Value} {h : Heap} {own C : String} {index zl : Nat} {y : MethodName} {zc : ByteArray} {zr : Option FieldType} {rm : Room} {as' : Array Value} {Q : Option Value → Heap → List Loc → Prop} {b : Addr}
theorem c_virt (W : Nat) (X : Stand p l e R s m args below meth c T locs cells slots) (hx : p.tables.exec = Jvm.exec) (hby : c.code = code) {N : Nat} (hml : c.maxLocals = N) (hZ : Z.Warmed39 s.vm) (hown : s.vm.findClass own = some m.cls) (w1 : (Cond.methodLink own index y).before a0 Z = true) (w2 : (Cond.declares y).before a0 Z = true) (w3 : (Cond.selects C y y).before a0 Z = true) (w4 : (Cond.instanceMethod y).before a0 Z = true) (wc : (Cond.code y zc zl zr).before a0 Z = true) (wz : (Cond.initialized y.cls).before a0 Z = true) (hM : oM l y zc zl zr [] rm as' Z h Q) (eT : T.heap = h) (E : Exa Z h b C) (hd : decode code pc = .ok (.invokevirtual index, 3)) (argsL rest : List Value) (hlen : ∀ sig, parseMethodDescriptor y.desc = some sig → argsL.length = sig.parameters.length) (ha : (.ref b :: argsL).toArray = as') (hW : (rest.map fun v => v.category).sum = W) (hsz : L.size = N) (hn : (y.cls ≠ "java/lang/invoke/MethodHandle" ∧ y.cls ≠ "java/lang/invoke/VarHandle") ∧ rm.frames + 1 ≤ R.frames ∧ W + (zl + 11) + rm.locals ≤ R.locals ∧ cells + rm.cells ≤ R.cells ∧ slots + rm.slots ≤ R.slots)
    (k : ∀ v (T' : State) Lc, Q v T'.heap Lc → Stand p l e R s m args below meth c T' (locs ++ Lc) (cells + rm.cells) (slots + rm.slots) → Go p e below P (T'.setTop (mkF m (pc + 3) L (v.toList ++ rest)))) : Go p e below P (T.setTop (mkF m pc L (argsL.reverse ++ .ref b :: rest))) := by
  obtain ⟨cB, kB, q1, q2, q3⟩ := isOf hZ eT E
  obtain ⟨v, vm1, ⟨U, ls, cs, ss⟩, -, X', ⟨Lc, hQ, l1, y1, z1⟩, st⟩ := X.virtualBack hx (y := y) (z := y) hown (mvT hZ w1) (mvT hZ w2) (notFace_of_selects (args := #[]) (mvT hZ w3)) (mvT hZ w3) (mvT hZ w4) hn.1 (backOf (W := W) hM hZ wc wz hn.2.1 hn.2.2.1) q1 q3 (g := (mkF m pc L (argsL.reverse ++ .ref b :: rest))) rfl (by rw [hml]; exact hsz) (Steps.refl _) (argsL := argsL) (rest := rest) hlen rfl (by show 2 * 0 + _ ≤ _; rw [Nat.mul_zero, Nat.zero_add]; exact Nat.le_of_eq hW) (hb hby hd) (fun _ _ => ⟨ha, eT, hn.2.2.2.1, hn.2.2.2.2⟩)
  dsimp only [Pt.U, Pt.locs, Pt.cells, Pt.slots] at X' l1 y1 z1 st hQ
  subst l1 y1 z1
  exact Go.by (fun t k => st.trans k) (k v U Lc hQ X')
theorem c_stat (W : Nat) (X : Stand p l e R s m args below meth c T locs cells slots) (hx : p.tables.exec = Jvm.exec) (hby : c.code = code) {N : Nat} (hml : c.maxLocals = N) (hZ : Z.Warmed39 s.vm) (hown : s.vm.findClass own = some m.cls) (w1 : (Cond.methodLink own index y).before a0 Z = true) (w2 : (Cond.static y).before a0 Z = true) (wz : (Cond.initialized y.cls).before a0 Z = true) (wc : (Cond.code y zc zl zr).before a0 Z = true) (hM : oM l y zc zl zr [] rm as' Z h Q) (eT : T.heap = h) (hd : decode code pc = .ok (.invokestatic index, 3)) (argsL rest : List Value) (hlen : ∀ sig, parseMethodDescriptor y.desc = some sig → argsL.length = sig.parameters.length) (ha : argsL.toArray = as') (hW : (rest.map fun v => v.category).sum = W) (hsz : L.size = N) (hn : (y.cls ≠ "java/lang/invoke/MethodHandle" ∧ y.cls ≠ "java/lang/invoke/VarHandle") ∧ rm.frames + 1 ≤ R.frames ∧ W + (zl + 11) + rm.locals ≤ R.locals ∧ cells + rm.cells ≤ R.cells ∧ slots + rm.slots ≤ R.slots)
    (k : ∀ v (T' : State) Lc, Q v T'.heap Lc → Stand p l e R s m args below meth c T' (locs ++ Lc) (cells + rm.cells) (slots + rm.slots) → Go p e below P (T'.setTop (mkF m (pc + 3) L (v.toList ++ rest)))) : Go p e below P (T.setTop (mkF m pc L (argsL.reverse ++ rest))) := by
  obtain ⟨v, vm1, ⟨U, ls, cs, ss⟩, -, X', ⟨Lc, hQ, l1, y1, z1⟩, st⟩ := Jvm.LawKit.callS X hx (y := y) hown (mvT hZ w1) (mvT hZ w2) (mvT hZ wz) (mvT hZ wc) hn.1 (backOf (W := W) hM hZ wc wz hn.2.1 hn.2.2.1) (g := (mkF m pc L (argsL.reverse ++ rest))) rfl (by rw [hml]; exact hsz) (argsL := argsL) (rest := rest) hlen rfl (by show 2 * 0 + _ ≤ _; rw [Nat.mul_zero, Nat.zero_add]; exact Nat.le_of_eq hW) (hb hby hd) (fun _ _ => ⟨ha, eT, hn.2.2.2.1, hn.2.2.2.2⟩)
  dsimp only [Pt.U, Pt.locs, Pt.cells, Pt.slots] at X' l1 y1 z1 st hQ
  subst l1 y1 z1
  exact Go.by (fun t k => st t k) (k v U Lc hQ X')
end OwnCall
theorem r_val {p : Program} {l : Launch} {e : Env} {R : Room} {s : State} {m : MethodId} {args : Array Value} {below : List Frame} {meth : Method} {c : Code} {T : State} {locs : List Loc} {k n C S : Nat} {Q : Option Value → Heap → List Loc → Prop} {P : Outcome → State → Prop} {code : ByteArray} {pc : Nat} {Ls : Array Slot} {w : Value} {t : FieldType} {i : Instr} {rest : List Value} (hP : P = PQ s Q C S) (hlk : meth.locks = false) (hret : meth.sig.returnType = some t) (X : Stand p l e R s m args below meth c T locs k n) (hx : p.tables.exec = Jvm.exec) (hby : c.code = code) (hd : decode code pc = .ok (i, 1)) (hn : narrow t w = w)
    (hi : (i = .ireturn ∧ (t = .int ∨ t = .boolean ∨ t = .byte ∨ t = .char ∨ t = .short) ∧ ∃ z, w = .int z) ∨ (i = .lreturn ∧ t = .long ∧ ∃ z, w = .long z) ∨ (i = .dreturn ∧ t = .double ∧ ∃ z, w = .double z) ∨ (i = .freturn ∧ t = .float ∧ ∃ z, w = .float z) ∨ (i = .areturn ∧ t.isReference = true ∧ w.isRef = true)) (hk : k ≤ C ∧ n ≤ S) (hQ : Q (some w) T.heap locs) : Go p e below P (T.setTop (mkF m pc Ls (w :: rest))) := own_fin hP hlk X (v := some w) (fun h => by rw [hret] at h; cases h) hk.1 hk.2 hQ (fun fs hr => retOut X hx hret hn hi (hb hby hd) hr)
/-! ### from a case's words to facts -/
section OwnWords
variable {args : Array Value} {s : State} {t : Term} {C n d : String} {a : Addr} {z : Int32}
theorem own_fint (hx : t.eval args s none [] s = some (.ref a)) (h : (Cond.eq (.field t C n d) (.int z)).value args s none s [] = some true) : Fld s s.heap a C n d (.int z) := by
 refine Fld.start ?_
 have e1 : (Term.field t C n d).eval args s none [] s = s.fieldOf? a C n d := fld_at hx
 cases hf : s.fieldOf? a C n d with
 | none => simp [Cond.value, e1, hf] at h
 | some v =>
   cases v <;> simp [Cond.value, e1, hf, Term.int_eval] at h
   subst h; rfl
theorem own_lenE {cl : Cell} {ty : FieldType} (ev : t.eval args s none [] s = some (.ref a)) (A : Arr s s.heap a cl ty) (h : (Cond.eq (.length t) (.int z)).value args s none s [] = some true) : cl.slots.size < 2 ^ 31 ∧ cl.slots.size.toInt32 = z := by
 have ha : s.arrayAt? a = some cl := Arr.fin (Vm.Alike.refl _) A
 by_cases hl : cl.slots.size < 2 ^ 31
 · have q := len_f (o := none) (idx := []) (first := s) ev ha hl
   simp [Cond.value, q, Term.int_eval] at h
   exact ⟨hl, h⟩
 · simp [Cond.value, Term.eval, ev, ha, hl] at h
theorem own_len {cl : Cell} {ty : FieldType} {N : Nat} (ev : t.eval args s none [] s = some (.ref a)) (A : Arr s s.heap a cl ty) (hz : z.toInt = N) (h : (Cond.eq (.length t) (.int z)).value args s none s [] = some true) : cl.slots.size = N := by
 obtain ⟨h1, h2⟩ := own_lenE ev A h
 have h3 := len_toInt h1
 rw [h2, hz] at h3
 omega
theorem own_elem {cl : Cell} {j : Int32} (ev : t.eval args s none [] s = some (.ref a)) (hc : s.heap[a]? = some cl) (h : (Cond.eq (.elem t (.int j)) (.int z)).value args s none s [] = some true) : cl.slots[j.toNatClampNeg]? = some (.int z) := by
 obtain ⟨x, y, e1, e2, -, -⟩ := cmp_v (Or.inl h)
 have q := (elem_in e1 ev rfl hc).2
 cases e2
 cases x <;> simp [Cond.value, e1, Term.int_eval] at h
 subst h; exact q
end OwnWords
/-! ### the end of a walk that may intern -/
def PQW (s Z : State) (EL : List (String × Nat)) (Q : Option Value → Heap → List Loc → Prop) (C S : Nat) : Outcome → State → Prop :=
 fun o U' => ∃ v L, o = .returned v ∧ Q v U'.heap L ∧ CHr Z EL s.vm s.heap U'.vm U'.heap ∧ ReturnedEndW s o U' L C S
theorem Go.finW {p : Program} {l : Launch} {e : Env} {R : Room} {s Z : State} {a0 : Array Value} {EL : List (String × Nat)} {vm0 : Vm} {k0 : Nat} {m : MethodId} {args : Array Value} {below : List Frame} {meth : Method} {c : Code} {T : State} {locs : List Loc} {k n C S : Nat} {v : Option Value} {Q : Option Value → Heap → List Loc → Prop} {S0 : State} {h0 H : Heap}
   (X : Stand p l e R (s.setVm vm0) m args below meth c T locs k n) (hlk : meth.locks = false) (hEL : EW Z a0 EL) (hv : meth.sig.returnType = none → v = none) (hk : k ≤ C) (hn : n ≤ S) (hh : s.heap = h0) (eT : T.heap = H) (hS : s.Since vm0 k0) (hk0 : k0 ≤ H.size) (hZ : Z.Warmed39 vm0) (hC : CHr Z EL s.vm h0 vm0 H) (hQ : Q v H locs)
   (hst : ∀ fs, (∀ (f : JFrame) (acts : List Action), f.method = m → f.locked = none → f.entered = [] → (doReturn e (T.setTop f) acts v).1 = T.setFrames fs) → Steps p.tables e below S0 (T.setFrames fs)) : Go p e below (PQW s Z EL Q C S) S0 := by
 subst eT hh
 obtain ⟨fs, hr, hrun, hended, hW1, hW2, hW3, hsame⟩ := X.leaveW hS hk0 (v := v) hv hlk
 have hc := CHr.trans hC (CHv.at X hZ hEL hC.1)
 exact ⟨_, _, hst fs hr, hrun, hended, v, locs, rfl, hQ, hc, hW1, hW2, hW3, hsame.mono hk hn⟩
theorem own_finW {p : Program} {l : Launch} {e : Env} {R : Room} {s Z : State} {a0 : Array Value} {EL : List (String × Nat)} {vm0 : Vm} {k0 : Nat} {m : MethodId} {args : Array Value} {below : List Frame} {meth : Method} {c : Code} {T : State} {locs : List Loc} {k n C S : Nat} {v : Option Value} {Q : Option Value → Heap → List Loc → Prop} {h0 H : Heap} {S0 : State} {P : Outcome → State → Prop} (hP : P = PQW s Z EL Q C S) (hlk : meth.locks = false) (hEL : EW Z a0 EL) (hh : s.heap = h0)
    (X : Stand p l e R (s.setVm vm0) m args below meth c T locs k n) (hv : meth.sig.returnType = none → v = none) (hk : k ≤ C) (hn : n ≤ S) (eT : T.heap = H) (hS : s.Since vm0 k0) (hk0 : k0 ≤ H.size) (hZ : Z.Warmed39 vm0) (hC : CHr Z EL s.vm h0 vm0 H) (hQ : Q v H locs)
    (hst : ∀ fs, (∀ (f : JFrame) (acts : List Action), f.method = m → f.locked = none → f.entered = [] → (doReturn e (T.setTop f) acts v).1 = T.setFrames fs) → Steps p.tables e below S0 (T.setFrames fs)) : Go p e below P S0 := hP ▸ Go.finW X hlk hEL hv hk hn hh eT hS hk0 hZ hC hQ hst
/-! ### a callee that may intern and that is handed addresses which no literal bears -/
theorem own_ss0 {Z : State} {EL : List (String × Nat)} {vm : Vm} {h : Heap} : ∀ x ∈ ([] : List Addr), x < h.size ∧ Safe Z EL vm h x := fun _ q => nomatch q
theorem own_ssS {Z : State} {EL : List (String × Nat)} {vm : Vm} {h : Heap} {y : Addr} {L : List Addr} (q : Safe Z EL vm h y) (lt : y < h.size) (r : ∀ x ∈ L, x < h.size ∧ Safe Z EL vm h x) : ∀ x ∈ y :: L, x < h.size ∧ Safe Z EL vm h x := fun x hx => by
 rcases List.mem_cons.mp hx with rfl | hx
 · exact ⟨lt, q⟩
 · exact r x hx
theorem own_backC {l : Launch} {R : Room} {p : Program} {e : Env} {below : List Frame} {s Z : State} {args a0 : Array Value} {EL : List (String × Nat)} {h : Heap} {vm0 : Vm} {y : MethodName} {bytes : ByteArray} {maxL : Nat} {ret : Option FieldType} {rm : Room} {len W : Nat} {as' : Array Value} {ss : List Addr} {Q : Option Value → Heap → List Loc → Prop}
   (hM : MetFree l y (head1 [Cond.code y bytes maxL ret] rm) (fun a U => a = as' ∧ Z.Warmed39 U.vm ∧ U.heap = h ∧ CHv Z EL U.vm h ∧ ∀ x ∈ ss, Safe Z EL U.vm h x) (fun _ _ _ _ _ => True) (fun _ U o U' => ∃ v L, o = .returned v ∧ Q v U'.heap L ∧ CHr Z EL U.vm U.heap U'.vm U'.heap ∧ ReturnedEndW U o U' L rm.cells rm.slots))
   (hZ : Z.Warmed39 vm0) (wc : (Cond.code y bytes maxL ret).before a0 Z = true) (wz : (Cond.initialized y.cls).before a0 Z = true) (hf : rm.frames + 1 ≤ R.frames) (hl : W + (maxL + 11) + rm.locals ≤ R.locals) (hEL : EW Z a0 EL) (H : CHv Z EL vm0 h) (hss : ∀ x ∈ ss, x < h.size ∧ Safe Z EL vm0 h x) :
   BackS l R p e below (s.setVm vm0) args y len W (fun A a => a = as' ∧ A.U.heap = h ∧ A.cells + rm.cells ≤ R.cells ∧ A.slots + rm.slots ≤ R.slots)
     (fun A _ v B => ∃ L, Q v B.U.heap L ∧ B.locs = A.locs ++ L ∧ B.cells = A.cells + rm.cells ∧ B.slots = A.slots + rm.slots ∧ CHr Z EL vm0 h B.U.vm B.U.heap) := by
 refine BackS.of_freeW (bytes := bytes) (maxL := maxL) (ret := ret) (E := fun _ U o t L k n => k = rm.cells ∧ n = rm.slots ∧ CHr Z EL U.vm U.heap t.vm t.heap ∧ ∃ v, o = .returned v ∧ Q v t.heap L) hM hf hl ?_ ?_ (fun _ _ _ _ _ _ _ _ _ => trivial) ?_ ?_
 · intro m meth c A a Y hp
   have hU : Z.Warmed39 A.U.vm := wtrans (s := s.setVm vm0) hZ Y.warmed
   refine ⟨?_, mv hU wc, mv hU wz, hp.2.2.1, hp.2.2.2⟩
   show (Cond.and _ .tt).before a A.U = true
   rw [Cond.before_and, mv hU wc]; rfl
 · intro m meth c A a g mk Y hp
   have C := CHv.at Y hZ hEL H
   exact ⟨hp.1, wtrans (s := s.setVm vm0) hZ Y.warmed, hp.2.1, C.1, fun x hx => C.safe (hss x hx).1 (hss x hx).2⟩
 · rintro a U o t ⟨v, L, h1, h2, h3, h4⟩
   exact ⟨L, _, _, h4, rfl, rfl, h3, v, h1, h2⟩
 · rintro m meth c A a g mk v t L k n Y hp - - ⟨e1, e2, e3, v', e4, e5⟩
   cases e4
   subst e1 e2
   refine ⟨L, e5, rfl, rfl, rfl, (CHv.at Y hZ hEL H).trans ?_⟩
   rw [← hp.2.1]; exact e3
theorem own_selfP {args : Array Value} {s : State} {C : String} {y : MethodName} (h1 : (Cond.selects C y y).before args s = true) (h2 : (Cond.instanceMethod y).before args s = true) (h3 : (Cond.privateMethod y).before args s = true) (hy : y.cls ≠ "java/lang/invoke/MethodHandle" ∧ y.cls ≠ "java/lang/invoke/VarHandle") : (Cond.selects y.cls y y).before args s = true := by
 obtain ⟨c, r, m, q1, q2, q3, q4, mk, q5, q6⟩ := Cond.selects_spec h1
 exact selects_self_of_private (findClass_of_methodNamed q3) q5 q6 (Cond.privateMethod_at h3) h2 hy
theorem own_sameP {a0 : Array Value} {Z : State} {C : String} {y y' : MethodName} (h : (Cond.declares y).before a0 Z = true) (hs : (Cond.selects C y' y').before a0 Z = true) (e : y'.cls = y.cls) (hy : y.cls ≠ "java/lang/invoke/MethodHandle" ∧ y.cls ≠ "java/lang/invoke/VarHandle") : (Cond.sameMethod y.cls y.cls y.name y.desc).before a0 Z = true := by
 obtain ⟨m, meth, n1, n2, n3, n4⟩ := Cond.declares_spec h
 obtain ⟨c, r, m2, q1, q2, q3, q4, mk, q5, q6⟩ := Cond.selects_spec hs
 have hc := findClass_of_methodNamed n1
 have hc2 := findClass_of_methodNamed q3
 rw [e] at hc2
 have em : m2.cls = m.cls := Option.some.inj (hc2.symm.trans hc)
 rw [em] at q5
 have hf : Z.methodFound? y.cls y.name y.desc = some m := State.methodFound?_of_named n1 hy
 have n1' : Z.methodNamed? ⟨y.cls, y.name, y.desc⟩ = some m := n1
 simp [Cond.before, Cond.holds, Cond.value, hc, hf, n1', q5, q6]
/-! ### getfield where the entry stands resolved (the word fieldRef) -/
section OwnRef
variable {p : Program} {l : Launch} {e : Env} {R : Room} {s : State} {m : MethodId} {args : Array Value} {below : List Frame} {meth : Method} {c : Code} {T : State} {locs : List Loc} {cells slots : Nat} {Z : State} {a0 : Array Value} {h : Heap}
theorem own_getR (X : Stand p l e R s m args below meth c T locs cells slots) (hx : p.tables.exec = Jvm.exec) (hZ : Z.Warmed39 s.vm) {own R0 O n d : String} {index : Nat} (hown : s.vm.findClass own = some m.cls) (w : (Cond.fieldRef own index R0 n d).before a0 Z = true) (via : Via Z R0 O n d)
   (eT : T.heap = h) {a : Addr} {v : Value} (F : Fld Z h a O n d v) {g : JFrame} (hg : g.method = m) {rest : List Value} (hs : g.stack = .ref a :: rest) (hd : decode c.code g.pc = .ok (.getfield index, 3)) : ∃ T', Stand p l e R s m args below meth c T' locs cells slots ∧ T'.heap = h ∧ ∀ target, Steps p.tables e below (T'.setTop { g with pc := g.pc + 3, stack := v :: rest }) target → Steps p.tables e below (T.setTop g) target := by
 obtain ⟨cell, cf, k, i, f, h1, h2, h3, h4, -, -, h7⟩ := F
 have hU : Z.Warmed39 T.vm := wtrans hZ X.warmed
 have w' : (Cond.fieldRef own index R0 n d).before a0 (Z.setVm T.vm) = true := Cond.fieldRef_warmed39 hU w
 have hown' : (Z.setVm T.vm).vm.findClass own = some m.cls := by
   rw [State.vm_setVm, X.warmed.alike.findClass]; exact hown
 obtain ⟨c2, k2, i2, f2, hi2, hready⟩ := Cond.fieldRef_spec (s := Z.setVm T.vm) hown' w'
 obtain ⟨k', hi', -⟩ := State.fieldFound?_setVm (s := Z) hU.alike (via _ h2)
 cases hi2.symm.trans hi'
 refine ⟨T, X, eT, fun target hrest => ?_⟩
 subst hg
 have hc : T.heap[a]? = some cell := by rw [eT]; exact h1
 jvm_step X.here [hx, hd, getfield.wp_ready (e := e) (s := T) (f := g) X.here.top hready h3 hs hc h4 h7]
 exact hrest
end OwnRef
theorem pn4 : plainName "jarkeep/source/SourceDirectoryOfPinLaw" = true := by first | (simp [plainName, overriddenIn]; done) | decide +kernel
theorem dm_3_0 : decode method_3_code 0 = .ok (.iload_n 0, 1) := by decide +kernel
theorem dm_3_1 : decode method_3_code 1 = .ok (.iconst 1, 1) := by decide +kernel
theorem dm_3_2 : decode method_3_code 2 = .ok (.iand, 1) := by decide +kernel
theorem dm_3_3 : decode method_3_code 3 = .ok (.ifCond .eq 8, 3) := by decide +kernel
theorem dm_3_11 : decode method_3_code 11 = .ok (.iload_n 0, 1) := by decide +kernel
theorem dm_3_12 : decode method_3_code 12 = .ok (.iconst 1, 1) := by decide +kernel
theorem dm_3_13 : decode method_3_code 13 = .ok (.iushr, 1) := by decide +kernel
theorem dm_3_14 : decode method_3_code 14 = .ok (.sipush 255, 3) := by decide +kernel
theorem dm_3_17 : decode method_3_code 17 = .ok (.iand, 1) := by decide +kernel
theorem dm_3_18 : decode method_3_code 18 = .ok (.i2c, 1) := by decide +kernel
theorem dm_3_19 : decode method_3_code 19 = .ok (.ireturn, 1) := by decide +kernel
theorem dm_3_6 : decode method_3_code 6 = .ok (.bipush 47, 2) := by decide +kernel
theorem dm_3_8 : decode method_3_code 8 = .ok (.goto 11, 3) := by decide +kernel
theorem pn0 : plainName "java/lang/String" = true := by first | (simp [plainName, overriddenIn]; done) | decide +kernel
theorem dj42_152_0 : decode j42_152 0 = .ok (.getstatic 38, 3) := by decide +kernel
theorem dj42_152_3 : decode j42_152 3 = .ok (.ifCond .eq 10, 3) := by decide +kernel
theorem dj42_152_6 : decode j42_152 6 = .ok (.aload_n 0, 1) := by decide +kernel
theorem dj42_152_7 : decode j42_152 7 = .ok (.getfield 15, 3) := by decide +kernel
theorem dj42_152_10 : decode j42_152 10 = .ok (.goto 4, 3) := by decide +kernel
theorem dj42_152_14 : decode j42_152 14 = .ok (.ireturn, 1) := by decide +kernel
theorem dj42_154_0 : decode j42_154 0 = .ok (.getstatic 38, 3) := by decide +kernel
theorem dj42_154_3 : decode j42_154 3 = .ok (.ifCond .eq 14, 3) := by decide +kernel
theorem dj42_154_6 : decode j42_154 6 = .ok (.aload_n 0, 1) := by decide +kernel
theorem dj42_154_7 : decode j42_154 7 = .ok (.getfield 15, 3) := by decide +kernel
theorem dj42_154_10 : decode j42_154 10 = .ok (.ifCond .ne 7, 3) := by decide +kernel
theorem dj42_154_13 : decode j42_154 13 = .ok (.iconst 1, 1) := by decide +kernel
theorem dj42_154_14 : decode j42_154 14 = .ok (.goto 4, 3) := by decide +kernel
theorem dj42_154_18 : decode j42_154 18 = .ok (.ireturn, 1) := by decide +kernel
theorem pn1 : plainName "java/lang/StringLatin1" = true := by first | (simp [plainName, overriddenIn]; done) | decide +kernel
theorem dj43_4_0 : decode j43_4 0 = .ok (.iload_n 0, 1) := by decide +kernel
theorem dj43_4_1 : decode j43_4 1 = .ok (.ifCond .lt 14, 3) := by decide +kernel
theorem dj43_4_4 : decode j43_4 4 = .ok (.iload_n 0, 1) := by decide +kernel
theorem dj43_4_5 : decode j43_4 5 = .ok (.sipush 255, 3) := by decide +kernel
theorem dj43_4_8 : decode j43_4 8 = .ok (.if_icmp .gt 7, 3) := by decide +kernel
theorem dj43_4_11 : decode j43_4 11 = .ok (.iconst 1, 1) := by decide +kernel
theorem dj43_4_12 : decode j43_4 12 = .ok (.goto 4, 3) := by decide +kernel
theorem dj43_4_16 : decode j43_4 16 = .ok (.ireturn, 1) := by decide +kernel
theorem dj29_69_0 : decode j29_69 0 = .ok (.iload_n 0, 1) := by decide +kernel
theorem dj29_69_1 : decode j29_69 1 = .ok (.iload_n 1, 1) := by decide +kernel
theorem dj29_69_2 : decode j29_69 2 = .ok (.if_icmp .gt 7, 3) := by decide +kernel
theorem dj29_69_9 : decode j29_69 9 = .ok (.iload_n 1, 1) := by decide +kernel
theorem dj29_69_10 : decode j29_69 10 = .ok (.ireturn, 1) := by decide +kernel
theorem dj29_69_5 : decode j29_69 5 = .ok (.iload_n 0, 1) := by decide +kernel
theorem dj29_69_6 : decode j29_69 6 = .ok (.goto 4, 3) := by decide +kernel
theorem pn3 : plainName "java/util/Arrays" = true := by first | (simp [plainName, overriddenIn]; done) | decide +kernel
theorem dj65_131_0 : decode j65_131 0 = .ok (.iload_n 1, 1) := by decide +kernel
theorem dj65_131_1 : decode j65_131 1 = .ok (.iload_n 0, 1) := by decide +kernel
theorem dj65_131_2 : decode j65_131 2 = .ok (.if_icmp .ge 35, 3) := by decide +kernel
theorem dj65_131_37 : decode j65_131 37 = .ok (.return_, 1) := by decide +kernel
theorem pn7 : plainName "jdk/internal/util/Preconditions" = true := by first | (simp [plainName, overriddenIn]; done) | decide +kernel
theorem dj41_12_0 : decode j41_12 0 = .ok (.iload_n 0, 1) := by decide +kernel
theorem dj41_12_1 : decode j41_12 1 = .ok (.ifCond .lt 13, 3) := by decide +kernel
theorem dj41_12_4 : decode j41_12 4 = .ok (.iload_n 0, 1) := by decide +kernel
theorem dj41_12_5 : decode j41_12 5 = .ok (.iload_n 1, 1) := by decide +kernel
theorem dj41_12_6 : decode j41_12 6 = .ok (.if_icmp .gt 8, 3) := by decide +kernel
theorem dj41_12_9 : decode j41_12 9 = .ok (.iload_n 1, 1) := by decide +kernel
theorem dj41_12_10 : decode j41_12 10 = .ok (.iload_n 2, 1) := by decide +kernel
theorem dj41_12_11 : decode j41_12 11 = .ok (.if_icmp .le 11, 3) := by decide +kernel
theorem dj41_12_22 : decode j41_12 22 = .ok (.iload_n 0, 1) := by decide +kernel
theorem dj41_12_23 : decode j41_12 23 = .ok (.ireturn, 1) := by decide +kernel
theorem dj41_11_0 : decode j41_11 0 = .ok (.iload_n 0, 1) := by decide +kernel
theorem dj41_11_1 : decode j41_11 1 = .ok (.ifCond .lt 8, 3) := by decide +kernel
theorem dj41_11_4 : decode j41_11 4 = .ok (.iload_n 0, 1) := by decide +kernel
theorem dj41_11_5 : decode j41_11 5 = .ok (.iload_n 1, 1) := by decide +kernel
theorem dj41_11_6 : decode j41_11 6 = .ok (.if_icmp .lt 10, 3) := by decide +kernel
theorem dj41_11_16 : decode j41_11 16 = .ok (.iload_n 0, 1) := by decide +kernel
theorem dj41_11_17 : decode j41_11 17 = .ok (.ireturn, 1) := by decide +kernel
theorem dj42_158_0 : decode j42_158 0 = .ok (.iload_n 0, 1) := by decide +kernel
theorem dj42_158_1 : decode j42_158 1 = .ok (.iload_n 1, 1) := by decide +kernel
theorem dj42_158_2 : decode j42_158 2 = .ok (.iload_n 2, 1) := by decide +kernel
theorem dj42_158_3 : decode j42_158 3 = .ok (.getstatic 1053, 3) := by decide +kernel
theorem pd24 : parseMethodDescriptor "(IIILjava/util/function/BiFunction;)I" = some ⟨[.int, .int, .int, (.object "java/util/function/BiFunction")], some .int⟩ := by decide +kernel
theorem dj42_158_6 : decode j42_158 6 = .ok (.invokestatic 1062, 3) := by decide +kernel
theorem dj42_158_9 : decode j42_158 9 = .ok (.pop, 1) := by decide +kernel
theorem dj42_158_10 : decode j42_158 10 = .ok (.return_, 1) := by decide +kernel
theorem dj42_155_0 : decode j42_155 0 = .ok (.iload_n 0, 1) := by decide +kernel
theorem dj42_155_1 : decode j42_155 1 = .ok (.iload_n 1, 1) := by decide +kernel
theorem dj42_155_2 : decode j42_155 2 = .ok (.getstatic 1053, 3) := by decide +kernel
theorem pd25 : parseMethodDescriptor "(IILjava/util/function/BiFunction;)I" = some ⟨[.int, .int, (.object "java/util/function/BiFunction")], some .int⟩ := by decide +kernel
theorem dj42_155_5 : decode j42_155 5 = .ok (.invokestatic 1059, 3) := by decide +kernel
theorem dj42_155_8 : decode j42_155 8 = .ok (.pop, 1) := by decide +kernel
theorem dj42_155_9 : decode j42_155 9 = .ok (.return_, 1) := by decide +kernel
theorem dj42_54_0 : decode j42_54 0 = .ok (.aload_n 0, 1) := by decide +kernel
theorem dj42_54_1 : decode j42_54 1 = .ok (.getfield 9, 3) := by decide +kernel
theorem dj42_54_4 : decode j42_54 4 = .ok (.arraylength, 1) := by decide +kernel
theorem dj42_54_5 : decode j42_54 5 = .ok (.aload_n 0, 1) := by decide +kernel
theorem pd6 : parseMethodDescriptor "()B" = some ⟨[], some .byte⟩ := by decide +kernel
theorem dj42_54_6 : decode j42_54 6 = .ok (.invokevirtual 335, 3) := by decide +kernel
theorem dj42_54_9 : decode j42_54 9 = .ok (.ishr, 1) := by decide +kernel
theorem dj42_54_10 : decode j42_54 10 = .ok (.ireturn, 1) := by decide +kernel
theorem dj43_2_0 : decode j43_2 0 = .ok (.iload_n 1, 1) := by decide +kernel
theorem dj43_2_1 : decode j43_2 1 = .ok (.aload_n 0, 1) := by decide +kernel
theorem dj43_2_2 : decode j43_2 2 = .ok (.arraylength, 1) := by decide +kernel
theorem pd10 : parseMethodDescriptor "(II)V" = some ⟨[.int, .int], none⟩ := by decide +kernel
theorem dj43_2_3 : decode j43_2 3 = .ok (.invokestatic 9, 3) := by decide +kernel
theorem dj43_2_6 : decode j43_2 6 = .ok (.aload_n 0, 1) := by decide +kernel
theorem dj43_2_7 : decode j43_2 7 = .ok (.iload_n 1, 1) := by decide +kernel
theorem dj43_2_8 : decode j43_2 8 = .ok (.baload, 1) := by decide +kernel
theorem dj43_2_9 : decode j43_2 9 = .ok (.sipush 255, 3) := by decide +kernel
theorem dj43_2_12 : decode j43_2 12 = .ok (.iand, 1) := by decide +kernel
theorem dj43_2_13 : decode j43_2 13 = .ok (.i2c, 1) := by decide +kernel
theorem dj43_2_14 : decode j43_2 14 = .ok (.ireturn, 1) := by decide +kernel
theorem dj42_56_0 : decode j42_56 0 = .ok (.aload_n 0, 1) := by decide +kernel
theorem pd4 : parseMethodDescriptor "()Z" = some ⟨[], some .boolean⟩ := by decide +kernel
theorem dj42_56_1 : decode j42_56 1 = .ok (.invokevirtual 492, 3) := by decide +kernel
theorem dj42_56_4 : decode j42_56 4 = .ok (.ifCond .eq 12, 3) := by decide +kernel
theorem dj42_56_7 : decode j42_56 7 = .ok (.aload_n 0, 1) := by decide +kernel
theorem dj42_56_8 : decode j42_56 8 = .ok (.getfield 9, 3) := by decide +kernel
theorem dj42_56_11 : decode j42_56 11 = .ok (.iload_n 1, 1) := by decide +kernel
theorem pd26 : parseMethodDescriptor "([BI)C" = some ⟨[(.array .byte), .int], some .char⟩ := by decide +kernel
theorem dj42_56_12 : decode j42_56 12 = .ok (.invokestatic 495, 3) := by decide +kernel
theorem dj42_56_15 : decode j42_56 15 = .ok (.ireturn, 1) := by decide +kernel
theorem dm_5_0 : decode method_5_code 0 = .ok (.iload_n 2, 1) := by decide +kernel
theorem dm_5_1 : decode method_5_code 1 = .ok (.iload_n 3, 1) := by decide +kernel
theorem dm_5_2 : decode method_5_code 2 = .ok (.if_icmp .ge 14, 3) := by decide +kernel
theorem dm_5_5 : decode method_5_code 5 = .ok (.aload_n 0, 1) := by decide +kernel
theorem dm_5_6 : decode method_5_code 6 = .ok (.iload_n 2, 1) := by decide +kernel
theorem pd13 : parseMethodDescriptor "(I)C" = some ⟨[.int], some .char⟩ := by decide +kernel
theorem dm_5_7 : decode method_5_code 7 = .ok (.invokevirtual 37, 3) := by decide +kernel
theorem dm_5_10 : decode method_5_code 10 = .ok (.aload_n 1, 1) := by decide +kernel
theorem dm_5_11 : decode method_5_code 11 = .ok (.iload_n 2, 1) := by decide +kernel
theorem dm_5_12 : decode method_5_code 12 = .ok (.caload, 1) := by decide +kernel
theorem dm_5_13 : decode method_5_code 13 = .ok (.if_icmp .ne 7, 3) := by decide +kernel
theorem dm_5_16 : decode method_5_code 16 = .ok (.iconst 1, 1) := by decide +kernel
theorem dm_5_17 : decode method_5_code 17 = .ok (.goto 4, 3) := by decide +kernel
theorem dm_5_21 : decode method_5_code 21 = .ok (.ireturn, 1) := by decide +kernel
theorem dm_4_0 : decode method_4_code 0 = .ok (.iload_n 1, 1) := by decide +kernel
theorem dm_4_1 : decode method_4_code 1 = .ok (.iconst 4, 1) := by decide +kernel
theorem dm_4_2 : decode method_4_code 2 = .ok (.if_icmp .le 13, 3) := by decide +kernel
theorem dm_4_15 : decode method_4_code 15 = .ok (.iload_n 1, 1) := by decide +kernel
theorem dm_4_16 : decode method_4_code 16 = .ok (.iconst 3, 1) := by decide +kernel
theorem dm_4_17 : decode method_4_code 17 = .ok (.if_icmp .le 13, 3) := by decide +kernel
theorem dm_4_30 : decode method_4_code 30 = .ok (.iload_n 1, 1) := by decide +kernel
theorem dm_4_31 : decode method_4_code 31 = .ok (.iconst 2, 1) := by decide +kernel
theorem dm_4_32 : decode method_4_code 32 = .ok (.if_icmp .le 13, 3) := by decide +kernel
theorem dm_4_45 : decode method_4_code 45 = .ok (.iload_n 1, 1) := by decide +kernel
theorem dm_4_46 : decode method_4_code 46 = .ok (.iconst 1, 1) := by decide +kernel
theorem dm_4_47 : decode method_4_code 47 = .ok (.if_icmp .le 13, 3) := by decide +kernel
theorem dm_4_60 : decode method_4_code 60 = .ok (.iload_n 1, 1) := by decide +kernel
theorem dm_4_61 : decode method_4_code 61 = .ok (.ifCond .le 13, 3) := by decide +kernel
theorem dm_4_74 : decode method_4_code 74 = .ok (.iconst (-1), 1) := by decide +kernel
theorem dm_4_75 : decode method_4_code 75 = .ok (.ireturn, 1) := by decide +kernel
theorem dm_4_64 : decode method_4_code 64 = .ok (.aload_n 0, 1) := by decide +kernel
theorem dm_4_65 : decode method_4_code 65 = .ok (.iconst 0, 1) := by decide +kernel
theorem dm_4_66 : decode method_4_code 66 = .ok (.caload, 1) := by decide +kernel
theorem dm_4_67 : decode method_4_code 67 = .ok (.bipush 47, 2) := by decide +kernel
theorem dm_4_69 : decode method_4_code 69 = .ok (.if_icmp .ne 5, 3) := by decide +kernel
theorem dm_4_72 : decode method_4_code 72 = .ok (.iconst 0, 1) := by decide +kernel
theorem dm_4_73 : decode method_4_code 73 = .ok (.ireturn, 1) := by decide +kernel
theorem dm_4_50 : decode method_4_code 50 = .ok (.aload_n 0, 1) := by decide +kernel
theorem dm_4_51 : decode method_4_code 51 = .ok (.iconst 1, 1) := by decide +kernel
theorem dm_4_52 : decode method_4_code 52 = .ok (.caload, 1) := by decide +kernel
theorem dm_4_53 : decode method_4_code 53 = .ok (.bipush 47, 2) := by decide +kernel
theorem dm_4_55 : decode method_4_code 55 = .ok (.if_icmp .ne 5, 3) := by decide +kernel
theorem dm_4_58 : decode method_4_code 58 = .ok (.iconst 1, 1) := by decide +kernel
theorem dm_4_59 : decode method_4_code 59 = .ok (.ireturn, 1) := by decide +kernel
theorem dm_4_35 : decode method_4_code 35 = .ok (.aload_n 0, 1) := by decide +kernel
theorem dm_4_36 : decode method_4_code 36 = .ok (.iconst 2, 1) := by decide +kernel
theorem dm_4_37 : decode method_4_code 37 = .ok (.caload, 1) := by decide +kernel
theorem dm_4_38 : decode method_4_code 38 = .ok (.bipush 47, 2) := by decide +kernel
theorem dm_4_40 : decode method_4_code 40 = .ok (.if_icmp .ne 5, 3) := by decide +kernel
theorem dm_4_43 : decode method_4_code 43 = .ok (.iconst 2, 1) := by decide +kernel
theorem dm_4_44 : decode method_4_code 44 = .ok (.ireturn, 1) := by decide +kernel
theorem dm_4_20 : decode method_4_code 20 = .ok (.aload_n 0, 1) := by decide +kernel
theorem dm_4_21 : decode method_4_code 21 = .ok (.iconst 3, 1) := by decide +kernel
theorem dm_4_22 : decode method_4_code 22 = .ok (.caload, 1) := by decide +kernel
theorem dm_4_23 : decode method_4_code 23 = .ok (.bipush 47, 2) := by decide +kernel
theorem dm_4_25 : decode method_4_code 25 = .ok (.if_icmp .ne 5, 3) := by decide +kernel
theorem dm_4_28 : decode method_4_code 28 = .ok (.iconst 3, 1) := by decide +kernel
theorem dm_4_29 : decode method_4_code 29 = .ok (.ireturn, 1) := by decide +kernel
theorem dm_4_5 : decode method_4_code 5 = .ok (.aload_n 0, 1) := by decide +kernel
theorem dm_4_6 : decode method_4_code 6 = .ok (.iconst 4, 1) := by decide +kernel
theorem dm_4_7 : decode method_4_code 7 = .ok (.caload, 1) := by decide +kernel
theorem dm_4_8 : decode method_4_code 8 = .ok (.bipush 47, 2) := by decide +kernel
theorem dm_4_10 : decode method_4_code 10 = .ok (.if_icmp .ne 5, 3) := by decide +kernel
theorem dm_4_13 : decode method_4_code 13 = .ok (.iconst 4, 1) := by decide +kernel
theorem dm_4_14 : decode method_4_code 14 = .ok (.ireturn, 1) := by decide +kernel
theorem dj42_75_0 : decode j42_75 0 = .ok (.iload_n 2, 1) := by decide +kernel
theorem dj42_75_1 : decode j42_75 1 = .ok (.ifCond .lt 16, 3) := by decide +kernel
theorem dj42_75_17 : decode j42_75 17 = .ok (.iconst 0, 1) := by decide +kernel
theorem dj42_75_18 : decode j42_75 18 = .ok (.ireturn, 1) := by decide +kernel
theorem dj42_77_0 : decode j42_77 0 = .ok (.aload_n 0, 1) := by decide +kernel
theorem dj42_77_1 : decode j42_77 1 = .ok (.aload_n 1, 1) := by decide +kernel
theorem dj42_77_2 : decode j42_77 2 = .ok (.aload_n 0, 1) := by decide +kernel
theorem pd0 : parseMethodDescriptor "()I" = some ⟨[], some .int⟩ := by decide +kernel
theorem dj42_77_3 : decode j42_77 3 = .ok (.invokevirtual 505, 3) := by decide +kernel
theorem dj42_77_6 : decode j42_77 6 = .ok (.aload_n 1, 1) := by decide +kernel
theorem dj42_77_7 : decode j42_77 7 = .ok (.invokevirtual 505, 3) := by decide +kernel
theorem dj42_77_10 : decode j42_77 10 = .ok (.isub, 1) := by decide +kernel
theorem pd14 : parseMethodDescriptor "(Ljava/lang/String;I)Z" = some ⟨[(.object "java/lang/String"), .int], some .boolean⟩ := by decide +kernel
theorem dj42_77_11 : decode j42_77 11 = .ok (.invokevirtual 624, 3) := by decide +kernel
theorem dj42_77_14 : decode j42_77 14 = .ok (.ireturn, 1) := by decide +kernel
theorem pn6 : plainName "jdk/internal/util/ArraysSupport" = true := by first | (simp [plainName, overriddenIn]; done) | decide +kernel
theorem dj48_14_0 : decode j48_14 0 = .ok (.iconst 0, 1) := by decide +kernel
theorem dj48_14_1 : decode j48_14 1 = .ok (.istore 5, 2) := by decide +kernel
theorem dj48_14_3 : decode j48_14 3 = .ok (.iload 4, 2) := by decide +kernel
theorem dj48_14_5 : decode j48_14 5 = .ok (.bipush 7, 2) := by decide +kernel
theorem dj48_14_7 : decode j48_14 7 = .ok (.if_icmp .le 63, 3) := by decide +kernel
theorem dj48_14_70 : decode j48_14 70 = .ok (.iload 5, 2) := by decide +kernel
theorem dj48_14_72 : decode j48_14 72 = .ok (.iload 4, 2) := by decide +kernel
theorem dj48_14_74 : decode j48_14 74 = .ok (.if_icmp .ge 27, 3) := by decide +kernel
theorem dj48_14_77 : decode j48_14 77 = .ok (.aload_n 0, 1) := by decide +kernel
theorem dj48_14_78 : decode j48_14 78 = .ok (.iload_n 1, 1) := by decide +kernel
theorem dj48_14_79 : decode j48_14 79 = .ok (.iload 5, 2) := by decide +kernel
theorem dj48_14_81 : decode j48_14 81 = .ok (.iadd, 1) := by decide +kernel
theorem dj48_14_82 : decode j48_14 82 = .ok (.baload, 1) := by decide +kernel
theorem dj48_14_83 : decode j48_14 83 = .ok (.aload_n 2, 1) := by decide +kernel
theorem dj48_14_84 : decode j48_14 84 = .ok (.iload_n 3, 1) := by decide +kernel
theorem dj48_14_85 : decode j48_14 85 = .ok (.iload 5, 2) := by decide +kernel
theorem dj48_14_87 : decode j48_14 87 = .ok (.iadd, 1) := by decide +kernel
theorem dj48_14_88 : decode j48_14 88 = .ok (.baload, 1) := by decide +kernel
theorem dj48_14_89 : decode j48_14 89 = .ok (.if_icmp .eq 6, 3) := by decide +kernel
theorem dj48_14_95 : decode j48_14 95 = .ok (.iinc 5 1, 3) := by decide +kernel
theorem dj48_14_98 : decode j48_14 98 = .ok (.goto (-28), 3) := by decide +kernel
theorem dj48_14_101 : decode j48_14 101 = .ok (.iconst (-1), 1) := by decide +kernel
theorem dj48_14_102 : decode j48_14 102 = .ok (.ireturn, 1) := by decide +kernel
theorem dj48_14_92 : decode j48_14 92 = .ok (.iload 5, 2) := by decide +kernel
theorem dj48_14_94 : decode j48_14 94 = .ok (.ireturn, 1) := by decide +kernel
theorem dj42_75_4 : decode j42_75 4 = .ok (.iload_n 2, 1) := by decide +kernel
theorem dj42_75_5 : decode j42_75 5 = .ok (.aload_n 0, 1) := by decide +kernel
theorem dj42_75_6 : decode j42_75 6 = .ok (.invokevirtual 505, 3) := by decide +kernel
theorem dj42_75_9 : decode j42_75 9 = .ok (.aload_n 1, 1) := by decide +kernel
theorem dj42_75_10 : decode j42_75 10 = .ok (.invokevirtual 505, 3) := by decide +kernel
theorem dj42_75_13 : decode j42_75 13 = .ok (.isub, 1) := by decide +kernel
theorem dj42_75_14 : decode j42_75 14 = .ok (.if_icmp .le 5, 3) := by decide +kernel
theorem dj42_75_19 : decode j42_75 19 = .ok (.aload_n 0, 1) := by decide +kernel
theorem dj42_75_20 : decode j42_75 20 = .ok (.getfield 9, 3) := by decide +kernel
theorem dj42_75_23 : decode j42_75 23 = .ok (.astore_n 3, 1) := by decide +kernel
theorem dj42_75_24 : decode j42_75 24 = .ok (.aload_n 1, 1) := by decide +kernel
theorem dj42_75_25 : decode j42_75 25 = .ok (.getfield 9, 3) := by decide +kernel
theorem dj42_75_28 : decode j42_75 28 = .ok (.astore 4, 2) := by decide +kernel
theorem dj42_75_30 : decode j42_75 30 = .ok (.iconst 0, 1) := by decide +kernel
theorem dj42_75_31 : decode j42_75 31 = .ok (.istore 5, 2) := by decide +kernel
theorem dj42_75_33 : decode j42_75 33 = .ok (.aload 4, 2) := by decide +kernel
theorem dj42_75_35 : decode j42_75 35 = .ok (.arraylength, 1) := by decide +kernel
theorem dj42_75_36 : decode j42_75 36 = .ok (.istore 6, 2) := by decide +kernel
theorem dj42_75_38 : decode j42_75 38 = .ok (.aload_n 0, 1) := by decide +kernel
theorem dj42_75_39 : decode j42_75 39 = .ok (.invokevirtual 335, 3) := by decide +kernel
theorem dj42_75_42 : decode j42_75 42 = .ok (.istore 7, 2) := by decide +kernel
theorem dj42_75_44 : decode j42_75 44 = .ok (.iload 7, 2) := by decide +kernel
theorem dj42_75_46 : decode j42_75 46 = .ok (.aload_n 1, 1) := by decide +kernel
theorem dj42_75_47 : decode j42_75 47 = .ok (.invokevirtual 335, 3) := by decide +kernel
theorem dj42_75_50 : decode j42_75 50 = .ok (.if_icmp .ne 32, 3) := by decide +kernel
theorem dj42_75_53 : decode j42_75 53 = .ok (.iload 7, 2) := by decide +kernel
theorem dj42_75_55 : decode j42_75 55 = .ok (.iconst 1, 1) := by decide +kernel
theorem dj42_75_56 : decode j42_75 56 = .ok (.if_icmp .ne 7, 3) := by decide +kernel
theorem dj42_75_63 : decode j42_75 63 = .ok (.aload_n 3, 1) := by decide +kernel
theorem dj42_75_64 : decode j42_75 64 = .ok (.iload_n 2, 1) := by decide +kernel
theorem dj42_75_65 : decode j42_75 65 = .ok (.aload 4, 2) := by decide +kernel
theorem dj42_75_67 : decode j42_75 67 = .ok (.iconst 0, 1) := by decide +kernel
theorem dj42_75_68 : decode j42_75 68 = .ok (.iload 6, 2) := by decide +kernel
theorem pd20 : parseMethodDescriptor "([BI[BII)I" = some ⟨[(.array .byte), .int, (.array .byte), .int, .int], some .int⟩ := by decide +kernel
theorem dj42_75_70 : decode j42_75 70 = .ok (.invokestatic 607, 3) := by decide +kernel
theorem dj42_75_73 : decode j42_75 73 = .ok (.ifCond .ge 7, 3) := by decide +kernel
theorem dj42_75_76 : decode j42_75 76 = .ok (.iconst 1, 1) := by decide +kernel
theorem dj42_75_77 : decode j42_75 77 = .ok (.goto 4, 3) := by decide +kernel
theorem dj42_75_81 : decode j42_75 81 = .ok (.ireturn, 1) := by decide +kernel
theorem dj42_75_80 : decode j42_75 80 = .ok (.iconst 0, 1) := by decide +kernel
theorem dj43_27_0 : decode j43_27 0 = .ok (.iload_n 1, 1) := by decide +kernel
theorem pd7 : parseMethodDescriptor "(I)Z" = some ⟨[.int], some .boolean⟩ := by decide +kernel
theorem dj43_27_1 : decode j43_27 1 = .ok (.invokestatic 88, 3) := by decide +kernel
theorem dj43_27_4 : decode j43_27 4 = .ok (.ifCond .ne 5, 3) := by decide +kernel
theorem dj43_27_9 : decode j43_27 9 = .ok (.iload_n 2, 1) := by decide +kernel
theorem dj43_27_10 : decode j43_27 10 = .ok (.aload_n 0, 1) := by decide +kernel
theorem dj43_27_11 : decode j43_27 11 = .ok (.arraylength, 1) := by decide +kernel
theorem dj43_27_12 : decode j43_27 12 = .ok (.iconst 1, 1) := by decide +kernel
theorem dj43_27_13 : decode j43_27 13 = .ok (.isub, 1) := by decide +kernel
theorem pd1 : parseMethodDescriptor "(II)I" = some ⟨[.int, .int], some .int⟩ := by decide +kernel
theorem dj43_27_14 : decode j43_27 14 = .ok (.invokestatic 38, 3) := by decide +kernel
theorem dj43_27_17 : decode j43_27 17 = .ok (.istore_n 3, 1) := by decide +kernel
theorem dj43_27_18 : decode j43_27 18 = .ok (.iload_n 3, 1) := by decide +kernel
theorem dj43_27_19 : decode j43_27 19 = .ok (.ifCond .lt 19, 3) := by decide +kernel
theorem dj43_27_38 : decode j43_27 38 = .ok (.iconst (-1), 1) := by decide +kernel
theorem dj43_27_39 : decode j43_27 39 = .ok (.ireturn, 1) := by decide +kernel
theorem dj42_83_0 : decode j42_83 0 = .ok (.aload_n 0, 1) := by decide +kernel
theorem dj42_83_1 : decode j42_83 1 = .ok (.invokevirtual 492, 3) := by decide +kernel
theorem dj42_83_4 : decode j42_83 4 = .ok (.ifCond .eq 15, 3) := by decide +kernel
theorem dj42_83_7 : decode j42_83 7 = .ok (.aload_n 0, 1) := by decide +kernel
theorem dj42_83_8 : decode j42_83 8 = .ok (.getfield 9, 3) := by decide +kernel
theorem dj42_83_11 : decode j42_83 11 = .ok (.iload_n 1, 1) := by decide +kernel
theorem dj42_83_12 : decode j42_83 12 = .ok (.iload_n 2, 1) := by decide +kernel
theorem pd8 : parseMethodDescriptor "([BII)I" = some ⟨[(.array .byte), .int, .int], some .int⟩ := by decide +kernel
theorem dj42_83_13 : decode j42_83 13 = .ok (.invokestatic 644, 3) := by decide +kernel
theorem dj42_83_16 : decode j42_83 16 = .ok (.goto 12, 3) := by decide +kernel
theorem dj42_83_28 : decode j42_83 28 = .ok (.ireturn, 1) := by decide +kernel
theorem dj43_27_22 : decode j43_27 22 = .ok (.aload_n 0, 1) := by decide +kernel
theorem dj43_27_23 : decode j43_27 23 = .ok (.iload_n 3, 1) := by decide +kernel
theorem dj43_27_24 : decode j43_27 24 = .ok (.baload, 1) := by decide +kernel
theorem dj43_27_25 : decode j43_27 25 = .ok (.iload_n 1, 1) := by decide +kernel
theorem dj43_27_26 : decode j43_27 26 = .ok (.i2b, 1) := by decide +kernel
theorem dj43_27_27 : decode j43_27 27 = .ok (.if_icmp .ne 5, 3) := by decide +kernel
theorem dj43_27_30 : decode j43_27 30 = .ok (.iload_n 3, 1) := by decide +kernel
theorem dj43_27_31 : decode j43_27 31 = .ok (.ireturn, 1) := by decide +kernel
theorem dj43_27_32 : decode j43_27 32 = .ok (.iinc 3 (-1), 3) := by decide +kernel
theorem dj43_27_35 : decode j43_27 35 = .ok (.goto (-17), 3) := by decide +kernel
theorem dj42_151_0 : decode j42_151 0 = .ok (.aload_n 0, 1) := by decide +kernel
theorem dj42_151_1 : decode j42_151 1 = .ok (.invokespecial 1, 3) := by decide +kernel
theorem dj42_151_4 : decode j42_151 4 = .ok (.aload_n 0, 1) := by decide +kernel
theorem dj42_151_5 : decode j42_151 5 = .ok (.aload_n 1, 1) := by decide +kernel
theorem dj42_151_6 : decode j42_151 6 = .ok (.putfield 9, 3) := by decide +kernel
theorem dj42_151_9 : decode j42_151 9 = .ok (.aload_n 0, 1) := by decide +kernel
theorem dj42_151_10 : decode j42_151 10 = .ok (.iload_n 2, 1) := by decide +kernel
theorem dj42_151_11 : decode j42_151 11 = .ok (.putfield 15, 3) := by decide +kernel
theorem dj42_151_14 : decode j42_151 14 = .ok (.return_, 1) := by decide +kernel
theorem dj65_133_0 : decode j65_133 0 = .ok (.iload_n 1, 1) := by decide +kernel
theorem dj65_133_1 : decode j65_133 1 = .ok (.iload_n 2, 1) := by decide +kernel
theorem dj65_133_2 : decode j65_133 2 = .ok (.invokestatic 343, 3) := by decide +kernel
theorem dj65_133_5 : decode j65_133 5 = .ok (.iload_n 2, 1) := by decide +kernel
theorem dj65_133_6 : decode j65_133 6 = .ok (.iload_n 1, 1) := by decide +kernel
theorem dj65_133_7 : decode j65_133 7 = .ok (.isub, 1) := by decide +kernel
theorem dj65_133_8 : decode j65_133 8 = .ok (.istore_n 3, 1) := by decide +kernel
theorem dj65_133_9 : decode j65_133 9 = .ok (.iload_n 3, 1) := by decide +kernel
theorem dj65_133_10 : decode j65_133 10 = .ok (.newarray .byte, 2) := by decide +kernel
theorem dj65_133_12 : decode j65_133 12 = .ok (.astore 4, 2) := by decide +kernel
theorem dj65_133_14 : decode j65_133 14 = .ok (.aload_n 0, 1) := by decide +kernel
theorem dj65_133_15 : decode j65_133 15 = .ok (.iload_n 1, 1) := by decide +kernel
theorem dj65_133_16 : decode j65_133 16 = .ok (.aload 4, 2) := by decide +kernel
theorem dj65_133_18 : decode j65_133 18 = .ok (.iconst 0, 1) := by decide +kernel
theorem dj65_133_19 : decode j65_133 19 = .ok (.aload_n 0, 1) := by decide +kernel
theorem dj65_133_20 : decode j65_133 20 = .ok (.arraylength, 1) := by decide +kernel
theorem dj65_133_21 : decode j65_133 21 = .ok (.iload_n 1, 1) := by decide +kernel
theorem dj65_133_22 : decode j65_133 22 = .ok (.isub, 1) := by decide +kernel
theorem dj65_133_23 : decode j65_133 23 = .ok (.iload_n 3, 1) := by decide +kernel
theorem dj65_133_24 : decode j65_133 24 = .ok (.invokestatic 304, 3) := by decide +kernel
theorem dj65_133_27 : decode j65_133 27 = .ok (.invokestatic 150, 3) := by decide +kernel
theorem dj65_133_30 : decode j65_133 30 = .ok (.aload 4, 2) := by decide +kernel
theorem dj65_133_32 : decode j65_133 32 = .ok (.areturn, 1) := by decide +kernel
theorem dj65_132_0 : decode j65_132 0 = .ok (.iload_n 1, 1) := by decide +kernel
theorem dj65_132_1 : decode j65_132 1 = .ok (.ifCond .ne 9, 3) := by decide +kernel
theorem dj65_132_4 : decode j65_132 4 = .ok (.iload_n 2, 1) := by decide +kernel
theorem dj65_132_5 : decode j65_132 5 = .ok (.aload_n 0, 1) := by decide +kernel
theorem dj65_132_6 : decode j65_132 6 = .ok (.arraylength, 1) := by decide +kernel
theorem dj65_132_7 : decode j65_132 7 = .ok (.if_icmp .eq 10, 3) := by decide +kernel
theorem dj65_132_10 : decode j65_132 10 = .ok (.aload_n 0, 1) := by decide +kernel
theorem dj65_132_11 : decode j65_132 11 = .ok (.iload_n 1, 1) := by decide +kernel
theorem dj65_132_12 : decode j65_132 12 = .ok (.iload_n 2, 1) := by decide +kernel
theorem pd5 : parseMethodDescriptor "([BII)[B" = some ⟨[(.array .byte), .int, .int], some (.array .byte)⟩ := by decide +kernel
theorem dj65_132_13 : decode j65_132 13 = .ok (.invokestatic 339, 3) := by decide +kernel
theorem dj65_132_16 : decode j65_132 16 = .ok (.areturn, 1) := by decide +kernel
theorem dj43_47_0 : decode j43_47 0 = .ok (.iload_n 2, 1) := by decide +kernel
theorem dj43_47_1 : decode j43_47 1 = .ok (.ifCond .ne 6, 3) := by decide +kernel
theorem dj43_47_7 : decode j43_47 7 = .ok (.new 1, 3) := by decide +kernel
theorem dj43_47_10 : decode j43_47 10 = .ok (.dup, 1) := by decide +kernel
theorem dj43_47_11 : decode j43_47 11 = .ok (.aload_n 0, 1) := by decide +kernel
theorem dj43_47_12 : decode j43_47 12 = .ok (.iload_n 1, 1) := by decide +kernel
theorem dj43_47_13 : decode j43_47 13 = .ok (.iload_n 1, 1) := by decide +kernel
theorem dj43_47_14 : decode j43_47 14 = .ok (.iload_n 2, 1) := by decide +kernel
theorem dj43_47_15 : decode j43_47 15 = .ok (.iadd, 1) := by decide +kernel
theorem dj43_47_16 : decode j43_47 16 = .ok (.invokestatic 232, 3) := by decide +kernel
theorem dj43_47_19 : decode j43_47 19 = .ok (.iconst 0, 1) := by decide +kernel
theorem pd15 : parseMethodDescriptor "([BB)V" = some ⟨[(.array .byte), .byte], none⟩ := by decide +kernel
theorem dj43_47_20 : decode j43_47 20 = .ok (.invokespecial 112, 3) := by decide +kernel
theorem dj43_47_23 : decode j43_47 23 = .ok (.areturn, 1) := by decide +kernel
theorem dj42_92_0 : decode j42_92 0 = .ok (.aload_n 0, 1) := by decide +kernel
theorem dj42_92_1 : decode j42_92 1 = .ok (.invokevirtual 505, 3) := by decide +kernel
theorem dj42_92_4 : decode j42_92 4 = .ok (.istore_n 3, 1) := by decide +kernel
theorem dj42_92_5 : decode j42_92 5 = .ok (.iload_n 1, 1) := by decide +kernel
theorem dj42_92_6 : decode j42_92 6 = .ok (.iload_n 2, 1) := by decide +kernel
theorem dj42_92_7 : decode j42_92 7 = .ok (.iload_n 3, 1) := by decide +kernel
theorem pd11 : parseMethodDescriptor "(III)V" = some ⟨[.int, .int, .int], none⟩ := by decide +kernel
theorem dj42_92_8 : decode j42_92 8 = .ok (.invokestatic 521, 3) := by decide +kernel
theorem dj42_92_11 : decode j42_92 11 = .ok (.iload_n 1, 1) := by decide +kernel
theorem dj42_92_12 : decode j42_92 12 = .ok (.ifCond .ne 10, 3) := by decide +kernel
theorem dj42_92_15 : decode j42_92 15 = .ok (.iload_n 2, 1) := by decide +kernel
theorem dj42_92_16 : decode j42_92 16 = .ok (.iload_n 3, 1) := by decide +kernel
theorem dj42_92_17 : decode j42_92 17 = .ok (.if_icmp .ne 5, 3) := by decide +kernel
theorem dj42_92_22 : decode j42_92 22 = .ok (.iload_n 2, 1) := by decide +kernel
theorem dj42_92_23 : decode j42_92 23 = .ok (.iload_n 1, 1) := by decide +kernel
theorem dj42_92_24 : decode j42_92 24 = .ok (.isub, 1) := by decide +kernel
theorem dj42_92_25 : decode j42_92 25 = .ok (.istore 4, 2) := by decide +kernel
theorem dj42_92_27 : decode j42_92 27 = .ok (.aload_n 0, 1) := by decide +kernel
theorem dj42_92_28 : decode j42_92 28 = .ok (.invokevirtual 492, 3) := by decide +kernel
theorem dj42_92_31 : decode j42_92 31 = .ok (.ifCond .eq 16, 3) := by decide +kernel
theorem dj42_92_34 : decode j42_92 34 = .ok (.aload_n 0, 1) := by decide +kernel
theorem dj42_92_35 : decode j42_92 35 = .ok (.getfield 9, 3) := by decide +kernel
theorem dj42_92_38 : decode j42_92 38 = .ok (.iload_n 1, 1) := by decide +kernel
theorem dj42_92_39 : decode j42_92 39 = .ok (.iload 4, 2) := by decide +kernel
theorem pd12 : parseMethodDescriptor "([BII)Ljava/lang/String;" = some ⟨[(.array .byte), .int, .int], some (.object "java/lang/String")⟩ := by decide +kernel
theorem dj42_92_41 : decode j42_92 41 = .ok (.invokestatic 685, 3) := by decide +kernel
theorem dj42_92_44 : decode j42_92 44 = .ok (.goto 13, 3) := by decide +kernel
theorem dj42_92_57 : decode j42_92 57 = .ok (.areturn, 1) := by decide +kernel
theorem dj43_47_4 : decode j43_47 4 = .ok (.ldc 151, 2) := by decide +kernel
theorem dj43_47_6 : decode j43_47 6 = .ok (.areturn, 1) := by decide +kernel
theorem pn5 : plainName "jarkeep/source/Source" = true := by first | (simp [plainName, overriddenIn]; done) | decide +kernel
theorem dp42_9_0 : decode p42_9 0 = .ok (.aload_n 0, 1) := by decide +kernel
theorem dp42_9_1 : decode p42_9 1 = .ok (.ldc 1, 2) := by decide +kernel
theorem pd16 : parseMethodDescriptor "(Ljava/lang/String;)Z" = some ⟨[(.object "java/lang/String")], some .boolean⟩ := by decide +kernel
theorem dp42_9_3 : decode p42_9 3 = .ok (.invokevirtual 3, 3) := by decide +kernel
theorem dp42_9_6 : decode p42_9 6 = .ok (.ifCond .eq 12, 3) := by decide +kernel
theorem dp42_9_18 : decode p42_9 18 = .ok (.aload_n 0, 1) := by decide +kernel
theorem dp42_9_19 : decode p42_9 19 = .ok (.invokevirtual 9, 3) := by decide +kernel
theorem dp42_9_22 : decode p42_9 22 = .ok (.istore_n 1, 1) := by decide +kernel
theorem dp42_9_23 : decode p42_9 23 = .ok (.aload_n 0, 1) := by decide +kernel
theorem dp42_9_24 : decode p42_9 24 = .ok (.bipush 47, 2) := by decide +kernel
theorem dp42_9_26 : decode p42_9 26 = .ok (.iload_n 1, 1) := by decide +kernel
theorem dp42_9_27 : decode p42_9 27 = .ok (.iconst 1, 1) := by decide +kernel
theorem dp42_9_28 : decode p42_9 28 = .ok (.isub, 1) := by decide +kernel
theorem dp42_9_29 : decode p42_9 29 = .ok (.invokevirtual 13, 3) := by decide +kernel
theorem dp42_9_32 : decode p42_9 32 = .ok (.istore_n 2, 1) := by decide +kernel
theorem dp42_9_33 : decode p42_9 33 = .ok (.iload_n 2, 1) := by decide +kernel
theorem dp42_9_34 : decode p42_9 34 = .ok (.ifCond .ge 8, 3) := by decide +kernel
theorem dp42_9_37 : decode p42_9 37 = .ok (.ldc 17, 2) := by decide +kernel
theorem dp42_9_39 : decode p42_9 39 = .ok (.goto 9, 3) := by decide +kernel
theorem dp42_9_48 : decode p42_9 48 = .ok (.areturn, 1) := by decide +kernel
theorem dp42_9_9 : decode p42_9 9 = .ok (.aload_n 0, 1) := by decide +kernel
theorem dp42_9_10 : decode p42_9 10 = .ok (.invokevirtual 9, 3) := by decide +kernel
theorem dp42_9_13 : decode p42_9 13 = .ok (.iconst 1, 1) := by decide +kernel
theorem dp42_9_14 : decode p42_9 14 = .ok (.isub, 1) := by decide +kernel
theorem dp42_9_15 : decode p42_9 15 = .ok (.goto 7, 3) := by decide +kernel
theorem dp42_9_42 : decode p42_9 42 = .ok (.aload_n 0, 1) := by decide +kernel
theorem dp42_9_43 : decode p42_9 43 = .ok (.iconst 0, 1) := by decide +kernel
theorem dp42_9_44 : decode p42_9 44 = .ok (.iload_n 2, 1) := by decide +kernel
theorem pd2 : parseMethodDescriptor "(II)Ljava/lang/String;" = some ⟨[.int, .int], some (.object "java/lang/String")⟩ := by decide +kernel
theorem dp42_9_45 : decode p42_9 45 = .ok (.invokevirtual 19, 3) := by decide +kernel
theorem dj42_149_0 : decode j42_149 0 = .ok (.aload_n 0, 1) := by decide +kernel
theorem dj42_149_1 : decode j42_149 1 = .ok (.invokespecial 1, 3) := by decide +kernel
theorem dj42_149_4 : decode j42_149 4 = .ok (.iload_n 3, 1) := by decide +kernel
theorem dj42_149_5 : decode j42_149 5 = .ok (.ifCond .ne 22, 3) := by decide +kernel
theorem dj42_149_8 : decode j42_149 8 = .ok (.aload_n 0, 1) := by decide +kernel
theorem dj42_149_9 : decode j42_149 9 = .ok (.ldc 7, 2) := by decide +kernel
theorem dj42_149_11 : decode j42_149 11 = .ok (.getfield 9, 3) := by decide +kernel
theorem dj42_149_14 : decode j42_149 14 = .ok (.putfield 9, 3) := by decide +kernel
theorem dj42_149_17 : decode j42_149 17 = .ok (.aload_n 0, 1) := by decide +kernel
theorem dj42_149_18 : decode j42_149 18 = .ok (.ldc 7, 2) := by decide +kernel
theorem dj42_149_20 : decode j42_149 20 = .ok (.getfield 15, 3) := by decide +kernel
theorem dj42_149_23 : decode j42_149 23 = .ok (.putfield 15, 3) := by decide +kernel
theorem dj42_149_26 : decode j42_149 26 = .ok (.return_, 1) := by decide +kernel
theorem dj42_3_0 : decode j42_3 0 = .ok (.aload_n 0, 1) := by decide +kernel
theorem dj42_3_1 : decode j42_3 1 = .ok (.aload_n 1, 1) := by decide +kernel
theorem dj42_3_2 : decode j42_3 2 = .ok (.iconst 0, 1) := by decide +kernel
theorem dj42_3_3 : decode j42_3 3 = .ok (.aload_n 1, 1) := by decide +kernel
theorem dj42_3_4 : decode j42_3 4 = .ok (.arraylength, 1) := by decide +kernel
theorem dj42_3_5 : decode j42_3 5 = .ok (.aconst_null, 1) := by decide +kernel
theorem pd17 : parseMethodDescriptor "([CIILjava/lang/Void;)V" = some ⟨[(.array .char), .int, .int, (.object "java/lang/Void")], none⟩ := by decide +kernel
theorem dj42_3_6 : decode j42_3 6 = .ok (.invokespecial 27, 3) := by decide +kernel
theorem dj42_3_9 : decode j42_3 9 = .ok (.return_, 1) := by decide +kernel
theorem pn2 : plainName "java/lang/StringUTF16" = true := by first | (simp [plainName, overriddenIn]; done) | decide +kernel
theorem dj52_21_0 : decode j52_21 0 = .ok (.iconst 0, 1) := by decide +kernel
theorem dj52_21_1 : decode j52_21 1 = .ok (.istore 5, 2) := by decide +kernel
theorem dj52_21_3 : decode j52_21 3 = .ok (.iload 5, 2) := by decide +kernel
theorem dj52_21_5 : decode j52_21 5 = .ok (.iload 4, 2) := by decide +kernel
theorem dj52_21_7 : decode j52_21 7 = .ok (.if_icmp .ge 37, 3) := by decide +kernel
theorem dj52_21_10 : decode j52_21 10 = .ok (.aload_n 0, 1) := by decide +kernel
theorem dj52_21_11 : decode j52_21 11 = .ok (.iload_n 1, 1) := by decide +kernel
theorem dj52_21_12 : decode j52_21 12 = .ok (.caload, 1) := by decide +kernel
theorem dj52_21_13 : decode j52_21 13 = .ok (.istore 6, 2) := by decide +kernel
theorem dj52_21_15 : decode j52_21 15 = .ok (.iload 6, 2) := by decide +kernel
theorem dj52_21_17 : decode j52_21 17 = .ok (.sipush 255, 3) := by decide +kernel
theorem dj52_21_20 : decode j52_21 20 = .ok (.if_icmp .le 6, 3) := by decide +kernel
theorem dj52_21_26 : decode j52_21 26 = .ok (.aload_n 2, 1) := by decide +kernel
theorem dj52_21_27 : decode j52_21 27 = .ok (.iload_n 3, 1) := by decide +kernel
theorem dj52_21_28 : decode j52_21 28 = .ok (.iload 6, 2) := by decide +kernel
theorem dj52_21_30 : decode j52_21 30 = .ok (.i2b, 1) := by decide +kernel
theorem dj52_21_31 : decode j52_21 31 = .ok (.bastore, 1) := by decide +kernel
theorem dj52_21_32 : decode j52_21 32 = .ok (.iinc 1 1, 3) := by decide +kernel
theorem dj52_21_35 : decode j52_21 35 = .ok (.iinc 3 1, 3) := by decide +kernel
theorem dj52_21_38 : decode j52_21 38 = .ok (.iinc 5 1, 3) := by decide +kernel
theorem dj52_21_41 : decode j52_21 41 = .ok (.goto (-38), 3) := by decide +kernel
theorem dj52_21_44 : decode j52_21 44 = .ok (.iload 4, 2) := by decide +kernel
theorem dj52_21_46 : decode j52_21 46 = .ok (.ireturn, 1) := by decide +kernel
theorem dj52_16_0 : decode j52_16 0 = .ok (.iload_n 2, 1) := by decide +kernel
theorem dj52_16_1 : decode j52_16 1 = .ok (.newarray .byte, 2) := by decide +kernel
theorem dj52_16_3 : decode j52_16 3 = .ok (.astore_n 3, 1) := by decide +kernel
theorem dj52_16_4 : decode j52_16 4 = .ok (.aload_n 0, 1) := by decide +kernel
theorem dj52_16_5 : decode j52_16 5 = .ok (.iload_n 1, 1) := by decide +kernel
theorem dj52_16_6 : decode j52_16 6 = .ok (.aload_n 3, 1) := by decide +kernel
theorem dj52_16_7 : decode j52_16 7 = .ok (.iconst 0, 1) := by decide +kernel
theorem dj52_16_8 : decode j52_16 8 = .ok (.iload_n 2, 1) := by decide +kernel
theorem pd21 : parseMethodDescriptor "([CI[BII)I" = some ⟨[(.array .char), .int, (.array .byte), .int, .int], some .int⟩ := by decide +kernel
theorem dj52_16_9 : decode j52_16 9 = .ok (.invokestatic 115, 3) := by decide +kernel
theorem dj52_16_12 : decode j52_16 12 = .ok (.istore 4, 2) := by decide +kernel
theorem dj52_16_14 : decode j52_16 14 = .ok (.iload 4, 2) := by decide +kernel
theorem dj52_16_16 : decode j52_16 16 = .ok (.iload_n 2, 1) := by decide +kernel
theorem dj52_16_17 : decode j52_16 17 = .ok (.if_icmp .eq 40, 3) := by decide +kernel
theorem dj52_16_57 : decode j52_16 57 = .ok (.aload_n 3, 1) := by decide +kernel
theorem dj52_16_58 : decode j52_16 58 = .ok (.areturn, 1) := by decide +kernel
theorem dj52_15_0 : decode j52_15 0 = .ok (.iload_n 1, 1) := by decide +kernel
theorem dj52_15_1 : decode j52_15 1 = .ok (.aload_n 0, 1) := by decide +kernel
theorem dj52_15_2 : decode j52_15 2 = .ok (.arraylength, 1) := by decide +kernel
theorem dj52_15_3 : decode j52_15 3 = .ok (.isub, 1) := by decide +kernel
theorem dj52_15_4 : decode j52_15 4 = .ok (.bipush 31, 2) := by decide +kernel
theorem dj52_15_6 : decode j52_15 6 = .ok (.iushr, 1) := by decide +kernel
theorem dj52_15_7 : decode j52_15 7 = .ok (.i2b, 1) := by decide +kernel
theorem dj52_15_8 : decode j52_15 8 = .ok (.ireturn, 1) := by decide +kernel
theorem dj42_149_27 : decode j42_149 27 = .ok (.getstatic 38, 3) := by decide +kernel
theorem dj42_149_30 : decode j42_149 30 = .ok (.ifCond .eq 28, 3) := by decide +kernel
theorem dj42_149_33 : decode j42_149 33 = .ok (.aload_n 1, 1) := by decide +kernel
theorem dj42_149_34 : decode j42_149 34 = .ok (.iload_n 2, 1) := by decide +kernel
theorem dj42_149_35 : decode j42_149 35 = .ok (.iload_n 3, 1) := by decide +kernel
theorem pd22 : parseMethodDescriptor "([CII)[B" = some ⟨[(.array .char), .int, .int], some (.array .byte)⟩ := by decide +kernel
theorem dj42_149_36 : decode j42_149 36 = .ok (.invokestatic 177, 3) := by decide +kernel
theorem dj42_149_39 : decode j42_149 39 = .ok (.astore 5, 2) := by decide +kernel
theorem dj42_149_41 : decode j42_149 41 = .ok (.aload_n 0, 1) := by decide +kernel
theorem dj42_149_42 : decode j42_149 42 = .ok (.aload 5, 2) := by decide +kernel
theorem dj42_149_44 : decode j42_149 44 = .ok (.iload_n 3, 1) := by decide +kernel
theorem pd23 : parseMethodDescriptor "([BI)B" = some ⟨[(.array .byte), .int], some .byte⟩ := by decide +kernel
theorem dj42_149_45 : decode j42_149 45 = .ok (.invokestatic 47, 3) := by decide +kernel
theorem dj42_149_48 : decode j42_149 48 = .ok (.putfield 15, 3) := by decide +kernel
theorem dj42_149_51 : decode j42_149 51 = .ok (.aload_n 0, 1) := by decide +kernel
theorem dj42_149_52 : decode j42_149 52 = .ok (.aload 5, 2) := by decide +kernel
theorem dj42_149_54 : decode j42_149 54 = .ok (.putfield 9, 3) := by decide +kernel
theorem dj42_149_57 : decode j42_149 57 = .ok (.return_, 1) := by decide +kernel
theorem pd3 : parseMethodDescriptor "(Ljava/lang/String;[CII)Z" = some ⟨[(.object "java/lang/String"), (.array .char), .int, .int], some .boolean⟩ := by decide +kernel
theorem pd18 : parseMethodDescriptor "([C)V" = some ⟨[(.array .char)], none⟩ := by decide +kernel
theorem pd19 : parseMethodDescriptor "(Ljava/lang/String;)Ljava/lang/String;" = some ⟨[(.object "java/lang/String")], some (.object "java/lang/String")⟩ := by decide +kernel
theorem pd9 : parseMethodDescriptor "([CI)I" = some ⟨[(.array .char), .int], some .int⟩ := by decide +kernel
abbrev tw_0 {Z : State} {a0 : Array Value} (hw : oW a0 Z) := hw _ (List.mem_of_getElem? (i := 0) rfl)
abbrev tw_1 {Z : State} {a0 : Array Value} (hw : oW a0 Z) := hw _ (List.mem_of_getElem? (i := 1) rfl)
abbrev tw_2 {Z : State} {a0 : Array Value} (hw : oW a0 Z) := hw _ (List.mem_of_getElem? (i := 2) rfl)
abbrev tw_3 {Z : State} {a0 : Array Value} (hw : oW a0 Z) := hw _ (List.mem_of_getElem? (i := 3) rfl)
abbrev tw_4 {Z : State} {a0 : Array Value} (hw : oW a0 Z) := hw _ (List.mem_of_getElem? (i := 4) rfl)
abbrev tw_5 {Z : State} {a0 : Array Value} (hw : oW a0 Z) := hw _ (List.mem_of_getElem? (i := 5) rfl)
abbrev tw_6 {Z : State} {a0 : Array Value} (hw : oW a0 Z) := hw _ (List.mem_of_getElem? (i := 6) rfl)
abbrev tw_7 {Z : State} {a0 : Array Value} (hw : oW a0 Z) := hw _ (List.mem_of_getElem? (i := 7) rfl)
abbrev tw_8 {Z : State} {a0 : Array Value} (hw : oW a0 Z) := hw _ (List.mem_of_getElem? (i := 8) rfl)
abbrev tw_9 {Z : State} {a0 : Array Value} (hw : oW a0 Z) := hw _ (List.mem_of_getElem? (i := 9) rfl)
abbrev tw_10 {Z : State} {a0 : Array Value} (hw : oW a0 Z) := hw _ (List.mem_of_getElem? (i := 10) rfl)
abbrev tw_11 {Z : State} {a0 : Array Value} (hw : oW a0 Z) := hw _ (List.mem_of_getElem? (i := 11) rfl)
abbrev tw_12 {Z : State} {a0 : Array Value} (hw : oW a0 Z) := hw _ (List.mem_of_getElem? (i := 12) rfl)
abbrev tw_13 {Z : State} {a0 : Array Value} (hw : oW a0 Z) := hw _ (List.mem_of_getElem? (i := 13) rfl)
abbrev tw_15 {Z : State} {a0 : Array Value} (hw : oW a0 Z) := hw _ (List.mem_of_getElem? (i := 15) rfl)
abbrev tw_16 {Z : State} {a0 : Array Value} (hw : oW a0 Z) := hw _ (List.mem_of_getElem? (i := 16) rfl)
abbrev tw_17 {Z : State} {a0 : Array Value} (hw : oW a0 Z) := hw _ (List.mem_of_getElem? (i := 17) rfl)
abbrev tw_18 {Z : State} {a0 : Array Value} (hw : oW a0 Z) := hw _ (List.mem_of_getElem? (i := 18) rfl)
abbrev tw_19 {Z : State} {a0 : Array Value} (hw : oW a0 Z) := hw _ (List.mem_of_getElem? (i := 19) rfl)
abbrev tw_20 {Z : State} {a0 : Array Value} (hw : oW a0 Z) := hw _ (List.mem_of_getElem? (i := 20) rfl)
abbrev tw_21 {Z : State} {a0 : Array Value} (hw : oW a0 Z) := hw _ (List.mem_of_getElem? (i := 21) rfl)
abbrev tw_22 {Z : State} {a0 : Array Value} (hw : oW a0 Z) := hw _ (List.mem_of_getElem? (i := 22) rfl)
abbrev tw_23 {Z : State} {a0 : Array Value} (hw : oW a0 Z) := hw _ (List.mem_of_getElem? (i := 23) rfl)
abbrev tw_24 {Z : State} {a0 : Array Value} (hw : oW a0 Z) := hw _ (List.mem_of_getElem? (i := 24) rfl)
abbrev tw_25 {Z : State} {a0 : Array Value} (hw : oW a0 Z) := hw _ (List.mem_of_getElem? (i := 25) rfl)
abbrev tw_26 {Z : State} {a0 : Array Value} (hw : oW a0 Z) := hw _ (List.mem_of_getElem? (i := 26) rfl)
abbrev tw_27 {Z : State} {a0 : Array Value} (hw : oW a0 Z) := hw _ (List.mem_of_getElem? (i := 27) rfl)
abbrev tw_28 {Z : State} {a0 : Array Value} (hw : oW a0 Z) := hw _ (List.mem_of_getElem? (i := 28) rfl)
abbrev tw_29 {Z : State} {a0 : Array Value} (hw : oW a0 Z) := hw _ (List.mem_of_getElem? (i := 29) rfl)
abbrev tw_30 {Z : State} {a0 : Array Value} (hw : oW a0 Z) := hw _ (List.mem_of_getElem? (i := 30) rfl)
abbrev tw_31 {Z : State} {a0 : Array Value} (hw : oW a0 Z) := hw _ (List.mem_of_getElem? (i := 31) rfl)
abbrev tw_32 {Z : State} {a0 : Array Value} (hw : oW a0 Z) := hw _ (List.mem_of_getElem? (i := 32) rfl)
abbrev tw_33 {Z : State} {a0 : Array Value} (hw : oW a0 Z) := hw _ (List.mem_of_getElem? (i := 33) rfl)
abbrev tw_34 {Z : State} {a0 : Array Value} (hw : oW a0 Z) := hw _ (List.mem_of_getElem? (i := 34) rfl)
abbrev tw_35 {Z : State} {a0 : Array Value} (hw : oW a0 Z) := hw _ (List.mem_of_getElem? (i := 35) rfl)
abbrev tw_36 {Z : State} {a0 : Array Value} (hw : oW a0 Z) := hw _ (List.mem_of_getElem? (i := 36) rfl)
abbrev tw_37 {Z : State} {a0 : Array Value} (hw : oW a0 Z) := hw _ (List.mem_of_getElem? (i := 37) rfl)
abbrev tw_38 {Z : State} {a0 : Array Value} (hw : oW a0 Z) := hw _ (List.mem_of_getElem? (i := 38) rfl)
abbrev tw_39 {Z : State} {a0 : Array Value} (hw : oW a0 Z) := hw _ (List.mem_of_getElem? (i := 39) rfl)
abbrev tw_40 {Z : State} {a0 : Array Value} (hw : oW a0 Z) := hw _ (List.mem_of_getElem? (i := 40) rfl)
abbrev tw_41 {Z : State} {a0 : Array Value} (hw : oW a0 Z) := hw _ (List.mem_of_getElem? (i := 41) rfl)
abbrev tw_42 {Z : State} {a0 : Array Value} (hw : oW a0 Z) := hw _ (List.mem_of_getElem? (i := 42) rfl)
abbrev tw_43 {Z : State} {a0 : Array Value} (hw : oW a0 Z) := hw _ (List.mem_of_getElem? (i := 43) rfl)
abbrev tw_44 {Z : State} {a0 : Array Value} (hw : oW a0 Z) := hw _ (List.mem_of_getElem? (i := 44) rfl)
abbrev tw_45 {Z : State} {a0 : Array Value} (hw : oW a0 Z) := hw _ (List.mem_of_getElem? (i := 45) rfl)
abbrev tw_46 {Z : State} {a0 : Array Value} (hw : oW a0 Z) := hw _ (List.mem_of_getElem? (i := 46) rfl)
abbrev tw_47 {Z : State} {a0 : Array Value} (hw : oW a0 Z) := hw _ (List.mem_of_getElem? (i := 47) rfl)
abbrev tw_48 {Z : State} {a0 : Array Value} (hw : oW a0 Z) := hw _ (List.mem_of_getElem? (i := 48) rfl)
abbrev tw_49 {Z : State} {a0 : Array Value} (hw : oW a0 Z) := hw _ (List.mem_of_getElem? (i := 49) rfl)
abbrev tw_50 {Z : State} {a0 : Array Value} (hw : oW a0 Z) := hw _ (List.mem_of_getElem? (i := 50) rfl)
abbrev tw_51 {Z : State} {a0 : Array Value} (hw : oW a0 Z) := hw _ (List.mem_of_getElem? (i := 51) rfl)
abbrev tw_52 {Z : State} {a0 : Array Value} (hw : oW a0 Z) := hw _ (List.mem_of_getElem? (i := 52) rfl)
abbrev tw_53 {Z : State} {a0 : Array Value} (hw : oW a0 Z) := hw _ (List.mem_of_getElem? (i := 53) rfl)
abbrev tw_54 {Z : State} {a0 : Array Value} (hw : oW a0 Z) := hw _ (List.mem_of_getElem? (i := 54) rfl)
abbrev tw_55 {Z : State} {a0 : Array Value} (hw : oW a0 Z) := hw _ (List.mem_of_getElem? (i := 55) rfl)
abbrev tw_56 {Z : State} {a0 : Array Value} (hw : oW a0 Z) := hw _ (List.mem_of_getElem? (i := 56) rfl)
abbrev tw_57 {Z : State} {a0 : Array Value} (hw : oW a0 Z) := hw _ (List.mem_of_getElem? (i := 57) rfl)
abbrev tw_58 {Z : State} {a0 : Array Value} (hw : oW a0 Z) := hw _ (List.mem_of_getElem? (i := 58) rfl)
abbrev tw_59 {Z : State} {a0 : Array Value} (hw : oW a0 Z) := hw _ (List.mem_of_getElem? (i := 59) rfl)
abbrev tw_60 {Z : State} {a0 : Array Value} (hw : oW a0 Z) := hw _ (List.mem_of_getElem? (i := 60) rfl)
abbrev tw_61 {Z : State} {a0 : Array Value} (hw : oW a0 Z) := hw _ (List.mem_of_getElem? (i := 61) rfl)
abbrev tw_62 {Z : State} {a0 : Array Value} (hw : oW a0 Z) := hw _ (List.mem_of_getElem? (i := 62) rfl)
abbrev tw_63 {Z : State} {a0 : Array Value} (hw : oW a0 Z) := hw _ (List.mem_of_getElem? (i := 63) rfl)
abbrev tw_64 {Z : State} {a0 : Array Value} (hw : oW a0 Z) := hw _ (List.mem_of_getElem? (i := 64) rfl)
abbrev tw_65 {Z : State} {a0 : Array Value} (hw : oW a0 Z) := hw _ (List.mem_of_getElem? (i := 65) rfl)
abbrev tw_66 {Z : State} {a0 : Array Value} (hw : oW a0 Z) := hw _ (List.mem_of_getElem? (i := 66) rfl)
abbrev tw_67 {Z : State} {a0 : Array Value} (hw : oW a0 Z) := hw _ (List.mem_of_getElem? (i := 67) rfl)
abbrev tw_68 {Z : State} {a0 : Array Value} (hw : oW a0 Z) := hw _ (List.mem_of_getElem? (i := 68) rfl)
abbrev tw_69 {Z : State} {a0 : Array Value} (hw : oW a0 Z) := hw _ (List.mem_of_getElem? (i := 69) rfl)
abbrev tw_70 {Z : State} {a0 : Array Value} (hw : oW a0 Z) := hw _ (List.mem_of_getElem? (i := 70) rfl)
abbrev tw_71 {Z : State} {a0 : Array Value} (hw : oW a0 Z) := hw _ (List.mem_of_getElem? (i := 71) rfl)
abbrev tw_72 {Z : State} {a0 : Array Value} (hw : oW a0 Z) := hw _ (List.mem_of_getElem? (i := 72) rfl)
abbrev tw_73 {Z : State} {a0 : Array Value} (hw : oW a0 Z) := hw _ (List.mem_of_getElem? (i := 73) rfl)
abbrev tw_74 {Z : State} {a0 : Array Value} (hw : oW a0 Z) := hw _ (List.mem_of_getElem? (i := 74) rfl)
abbrev tw_75 {Z : State} {a0 : Array Value} (hw : oW a0 Z) := hw _ (List.mem_of_getElem? (i := 75) rfl)
abbrev tw_76 {Z : State} {a0 : Array Value} (hw : oW a0 Z) := hw _ (List.mem_of_getElem? (i := 76) rfl)
abbrev tw_77 {Z : State} {a0 : Array Value} (hw : oW a0 Z) := hw _ (List.mem_of_getElem? (i := 77) rfl)
abbrev tw_78 {Z : State} {a0 : Array Value} (hw : oW a0 Z) := hw _ (List.mem_of_getElem? (i := 78) rfl)
abbrev tw_79 {Z : State} {a0 : Array Value} (hw : oW a0 Z) := hw _ (List.mem_of_getElem? (i := 79) rfl)
abbrev tw_80 {Z : State} {a0 : Array Value} (hw : oW a0 Z) := hw _ (List.mem_of_getElem? (i := 80) rfl)
abbrev tw_81 {Z : State} {a0 : Array Value} (hw : oW a0 Z) := hw _ (List.mem_of_getElem? (i := 81) rfl)
abbrev tw_82 {Z : State} {a0 : Array Value} (hw : oW a0 Z) := hw _ (List.mem_of_getElem? (i := 82) rfl)
abbrev tw_83 {Z : State} {a0 : Array Value} (hw : oW a0 Z) := hw _ (List.mem_of_getElem? (i := 83) rfl)
abbrev tw_84 {Z : State} {a0 : Array Value} (hw : oW a0 Z) := hw _ (List.mem_of_getElem? (i := 84) rfl)
abbrev tw_85 {Z : State} {a0 : Array Value} (hw : oW a0 Z) := hw _ (List.mem_of_getElem? (i := 85) rfl)
abbrev tw_86 {Z : State} {a0 : Array Value} (hw : oW a0 Z) := hw _ (List.mem_of_getElem? (i := 86) rfl)
abbrev tw_87 {Z : State} {a0 : Array Value} (hw : oW a0 Z) := hw _ (List.mem_of_getElem? (i := 87) rfl)
abbrev tw_88 {Z : State} {a0 : Array Value} (hw : oW a0 Z) := hw _ (List.mem_of_getElem? (i := 88) rfl)
abbrev tw_89 {Z : State} {a0 : Array Value} (hw : oW a0 Z) := hw _ (List.mem_of_getElem? (i := 89) rfl)
abbrev tw_90 {Z : State} {a0 : Array Value} (hw : oW a0 Z) := hw _ (List.mem_of_getElem? (i := 90) rfl)
abbrev tw_91 {Z : State} {a0 : Array Value} (hw : oW a0 Z) := hw _ (List.mem_of_getElem? (i := 91) rfl)
abbrev tw_92 {Z : State} {a0 : Array Value} (hw : oW a0 Z) := hw _ (List.mem_of_getElem? (i := 92) rfl)
abbrev tw_93 {Z : State} {a0 : Array Value} (hw : oW a0 Z) := hw _ (List.mem_of_getElem? (i := 93) rfl)
abbrev tw_94 {Z : State} {a0 : Array Value} (hw : oW a0 Z) := hw _ (List.mem_of_getElem? (i := 94) rfl)
abbrev tw_95 {Z : State} {a0 : Array Value} (hw : oW a0 Z) := hw _ (List.mem_of_getElem? (i := 95) rfl)
abbrev tw_96 {Z : State} {a0 : Array Value} (hw : oW a0 Z) := hw _ (List.mem_of_getElem? (i := 96) rfl)
abbrev tw_97 {Z : State} {a0 : Array Value} (hw : oW a0 Z) := hw _ (List.mem_of_getElem? (i := 97) rfl)
abbrev tw_98 {Z : State} {a0 : Array Value} (hw : oW a0 Z) := hw _ (List.mem_of_getElem? (i := 98) rfl)
abbrev tw_99 {Z : State} {a0 : Array Value} (hw : oW a0 Z) := hw _ (List.mem_of_getElem? (i := 99) rfl)
abbrev tw_100 {Z : State} {a0 : Array Value} (hw : oW a0 Z) := hw _ (List.mem_of_getElem? (i := 100) rfl)
abbrev tw_101 {Z : State} {a0 : Array Value} (hw : oW a0 Z) := hw _ (List.mem_of_getElem? (i := 101) rfl)
abbrev tw_102 {Z : State} {a0 : Array Value} (hw : oW a0 Z) := hw _ (List.mem_of_getElem? (i := 102) rfl)
abbrev tw_103 {Z : State} {a0 : Array Value} (hw : oW a0 Z) := hw _ (List.mem_of_getElem? (i := 103) rfl)
abbrev tw_104 {Z : State} {a0 : Array Value} (hw : oW a0 Z) := hw _ (List.mem_of_getElem? (i := 104) rfl)
abbrev tw_105 {Z : State} {a0 : Array Value} (hw : oW a0 Z) := hw _ (List.mem_of_getElem? (i := 105) rfl)
abbrev tw_106 {Z : State} {a0 : Array Value} (hw : oW a0 Z) := hw _ (List.mem_of_getElem? (i := 106) rfl)
abbrev tw_107 {Z : State} {a0 : Array Value} (hw : oW a0 Z) := hw _ (List.mem_of_getElem? (i := 107) rfl)
abbrev tw_108 {Z : State} {a0 : Array Value} (hw : oW a0 Z) := hw _ (List.mem_of_getElem? (i := 108) rfl)
abbrev tw_109 {Z : State} {a0 : Array Value} (hw : oW a0 Z) := hw _ (List.mem_of_getElem? (i := 109) rfl)
abbrev tw_110 {Z : State} {a0 : Array Value} (hw : oW a0 Z) := hw _ (List.mem_of_getElem? (i := 110) rfl)
abbrev tw_111 {Z : State} {a0 : Array Value} (hw : oW a0 Z) := hw _ (List.mem_of_getElem? (i := 111) rfl)
abbrev tw_112 {Z : State} {a0 : Array Value} (hw : oW a0 Z) := hw _ (List.mem_of_getElem? (i := 112) rfl)
abbrev tw_113 {Z : State} {a0 : Array Value} (hw : oW a0 Z) := hw _ (List.mem_of_getElem? (i := 113) rfl)
abbrev tw_114 {Z : State} {a0 : Array Value} (hw : oW a0 Z) := hw _ (List.mem_of_getElem? (i := 114) rfl)
abbrev tw_115 {Z : State} {a0 : Array Value} (hw : oW a0 Z) := hw _ (List.mem_of_getElem? (i := 115) rfl)
abbrev tw_116 {Z : State} {a0 : Array Value} (hw : oW a0 Z) := hw _ (List.mem_of_getElem? (i := 116) rfl)
abbrev tw_117 {Z : State} {a0 : Array Value} (hw : oW a0 Z) := hw _ (List.mem_of_getElem? (i := 117) rfl)
abbrev tw_118 {Z : State} {a0 : Array Value} (hw : oW a0 Z) := hw _ (List.mem_of_getElem? (i := 118) rfl)
abbrev tw_119 {Z : State} {a0 : Array Value} (hw : oW a0 Z) := hw _ (List.mem_of_getElem? (i := 119) rfl)
abbrev tw_120 {Z : State} {a0 : Array Value} (hw : oW a0 Z) := hw _ (List.mem_of_getElem? (i := 120) rfl)
abbrev tw_121 {Z : State} {a0 : Array Value} (hw : oW a0 Z) := hw _ (List.mem_of_getElem? (i := 121) rfl)
abbrev tw_122 {Z : State} {a0 : Array Value} (hw : oW a0 Z) := hw _ (List.mem_of_getElem? (i := 122) rfl)
abbrev tw_123 {Z : State} {a0 : Array Value} (hw : oW a0 Z) := hw _ (List.mem_of_getElem? (i := 123) rfl)
abbrev tw_124 {Z : State} {a0 : Array Value} (hw : oW a0 Z) := hw _ (List.mem_of_getElem? (i := 124) rfl)
abbrev tw_125 {Z : State} {a0 : Array Value} (hw : oW a0 Z) := hw _ (List.mem_of_getElem? (i := 125) rfl)
abbrev tw_126 {Z : State} {a0 : Array Value} (hw : oW a0 Z) := hw _ (List.mem_of_getElem? (i := 126) rfl)
abbrev tw_127 {Z : State} {a0 : Array Value} (hw : oW a0 Z) := hw _ (List.mem_of_getElem? (i := 127) rfl)
abbrev tw_128 {Z : State} {a0 : Array Value} (hw : oW a0 Z) := hw _ (List.mem_of_getElem? (i := 128) rfl)
abbrev tw_129 {Z : State} {a0 : Array Value} (hw : oW a0 Z) := hw _ (List.mem_of_getElem? (i := 129) rfl)
abbrev tw_130 {Z : State} {a0 : Array Value} (hw : oW a0 Z) := hw _ (List.mem_of_getElem? (i := 130) rfl)
abbrev tw_131 {Z : State} {a0 : Array Value} (hw : oW a0 Z) := hw _ (List.mem_of_getElem? (i := 131) rfl)
abbrev tw_132 {Z : State} {a0 : Array Value} (hw : oW a0 Z) := hw _ (List.mem_of_getElem? (i := 132) rfl)
abbrev tw_133 {Z : State} {a0 : Array Value} (hw : oW a0 Z) := hw _ (List.mem_of_getElem? (i := 133) rfl)
abbrev tw_134 {Z : State} {a0 : Array Value} (hw : oW a0 Z) := hw _ (List.mem_of_getElem? (i := 134) rfl)
abbrev tw_135 {Z : State} {a0 : Array Value} (hw : oW a0 Z) := hw _ (List.mem_of_getElem? (i := 135) rfl)
abbrev tw_136 {Z : State} {a0 : Array Value} (hw : oW a0 Z) := hw _ (List.mem_of_getElem? (i := 136) rfl)
abbrev tw_137 {Z : State} {a0 : Array Value} (hw : oW a0 Z) := hw _ (List.mem_of_getElem? (i := 137) rfl)
abbrev tw_138 {Z : State} {a0 : Array Value} (hw : oW a0 Z) := hw _ (List.mem_of_getElem? (i := 138) rfl)
abbrev tw_139 {Z : State} {a0 : Array Value} (hw : oW a0 Z) := hw _ (List.mem_of_getElem? (i := 139) rfl)
abbrev tw_140 {Z : State} {a0 : Array Value} (hw : oW a0 Z) := hw _ (List.mem_of_getElem? (i := 140) rfl)
abbrev tw_141 {Z : State} {a0 : Array Value} (hw : oW a0 Z) := hw _ (List.mem_of_getElem? (i := 141) rfl)
abbrev tw_142 {Z : State} {a0 : Array Value} (hw : oW a0 Z) := hw _ (List.mem_of_getElem? (i := 142) rfl)
abbrev tw_143 {Z : State} {a0 : Array Value} (hw : oW a0 Z) := hw _ (List.mem_of_getElem? (i := 143) rfl)
abbrev tw_144 {Z : State} {a0 : Array Value} (hw : oW a0 Z) := hw _ (List.mem_of_getElem? (i := 144) rfl)
abbrev tw_145 {Z : State} {a0 : Array Value} (hw : oW a0 Z) := hw _ (List.mem_of_getElem? (i := 145) rfl)
abbrev tw_146 {Z : State} {a0 : Array Value} (hw : oW a0 Z) := hw _ (List.mem_of_getElem? (i := 146) rfl)
def own_EL : List (String × Nat) := [("jarkeep/source/Source", 1), ("jarkeep/source/Source", 17), ("java/lang/String", 7), ("java/lang/StringLatin1", 151)]
def own_pick (p : Int32) : Int32 := if (p &&& (1 : Int32)) = (0 : Int32) then (((p.toUInt32 >>> ((1 : Int32) &&& 31).toUInt32).toInt32) &&& (255 : Int32)) else 47
theorem own_shr0 (z : Int32) : (z >>> ((0 : Int32) &&& 31)) = z := by
 have e : ((0 : Int32) &&& 31) = 0 := by decide
 rw [e]; exact Int32.shiftRight_zero
def own_l1 (x0 : Int32) : Int32 := if x0 = (47 : Int32) then (0 : Int32) else (-1 : Int32)
def own_l2 (x0 x1 : Int32) : Int32 := if x1 = (47 : Int32) then (1 : Int32) else (own_l1 x0)
def own_l3 (x0 x1 x2 : Int32) : Int32 := if x2 = (47 : Int32) then (2 : Int32) else (own_l2 x0 x1)
def own_l4 (x0 x1 x2 x3 : Int32) : Int32 := if x3 = (47 : Int32) then (3 : Int32) else (own_l3 x0 x1 x2)
def own_l5 (x0 x1 x2 x3 x4 : Int32) : Int32 := if x4 = (47 : Int32) then (4 : Int32) else (own_l4 x0 x1 x2 x3)
theorem own_c1 (x0 : Int32) : (own_l1 x0) = (-1 : Int32) ∨ (own_l1 x0) = (0 : Int32) := by
 unfold own_l1
 by_cases h : x0 = (47 : Int32)
 · simp [h]
 · rw [if_neg h]
   exact Or.inl rfl
theorem own_c2 (x0 x1 : Int32) : (own_l2 x0 x1) = (-1 : Int32) ∨ (own_l2 x0 x1) = (0 : Int32) ∨ (own_l2 x0 x1) = (1 : Int32) := by
 unfold own_l2
 by_cases h : x1 = (47 : Int32)
 · simp [h]
 · rw [if_neg h]
   rcases own_c1 x0 with q | q
   · exact Or.inl q
   · exact Or.inr (Or.inl q)
theorem own_c3 (x0 x1 x2 : Int32) : (own_l3 x0 x1 x2) = (-1 : Int32) ∨ (own_l3 x0 x1 x2) = (0 : Int32) ∨ (own_l3 x0 x1 x2) = (1 : Int32) ∨ (own_l3 x0 x1 x2) = (2 : Int32) := by
 unfold own_l3
 by_cases h : x2 = (47 : Int32)
 · simp [h]
 · rw [if_neg h]
   rcases own_c2 x0 x1 with q | q | q
   · exact Or.inl q
   · exact Or.inr (Or.inl q)
   · exact Or.inr (Or.inr (Or.inl q))
theorem own_c4 (x0 x1 x2 x3 : Int32) : (own_l4 x0 x1 x2 x3) = (-1 : Int32) ∨ (own_l4 x0 x1 x2 x3) = (0 : Int32) ∨ (own_l4 x0 x1 x2 x3) = (1 : Int32) ∨ (own_l4 x0 x1 x2 x3) = (2 : Int32) ∨ (own_l4 x0 x1 x2 x3) = (3 : Int32) := by
 unfold own_l4
 by_cases h : x3 = (47 : Int32)
 · simp [h]
 · rw [if_neg h]
   rcases own_c3 x0 x1 x2 with q | q | q | q
   · exact Or.inl q
   · exact Or.inr (Or.inl q)
   · exact Or.inr (Or.inr (Or.inl q))
   · exact Or.inr (Or.inr (Or.inr (Or.inl q)))
theorem own_bb {x : Int32} : (x.toInt8.toInt32).toInt8.toInt32 = x.toInt8.toInt32 := by simp
/-! ### Strings with known bytes -/
theorem own_narR {v : Value} {C : String} (h : v.isRef = true) : narrow (.object C) v = v := by cases v <;> first | rfl | (cases h)
theorem own_fitR {v : Value} {C : String} (h : v.isRef = true) : fits (.object C) v = true := by cases v <;> first | rfl | (cases h)
theorem own_chr (x : Int32) (h : ¬ x < 0) (h2 : ¬ (255 : Int32) < x) : nar .char x = x := by
 have e := c_i2c x
 show x.toUInt32.toUInt16.toUInt32.toInt32 = x
 rw [Int32.lt_iff_toInt_lt] at h h2
 have z0 : (0 : Int32).toInt = 0 := rfl
 have z1 : (255 : Int32).toInt = 255 := rfl
 apply Int32.toInt_inj.mp
 omega
theorem own_chf (x : Int32) (h : ¬ x < 0) (h2 : ¬ (255 : Int32) < x) : fits .char (.int x) = true := by
 have e := fits_nar_char x
 rw [own_chr x h h2] at e; exact e
theorem own_m255 (c : Int32) : ¬ (c &&& (255 : Int32)) < 0 ∧ ¬ (255 : Int32) < (c &&& (255 : Int32)) := by
 have h := c_mask c 255 8 (by decide) (by decide)
 rw [Int32.lt_iff_toInt_lt, Int32.lt_iff_toInt_lt]
 have z0 : (0 : Int32).toInt = 0 := rfl
 have z1 : (255 : Int32).toInt = 255 := rfl
 omega
theorem own_cod {z : Int32} : ((((z - z) : Int32).toUInt32 >>> ((31 : Int32) &&& 31).toUInt32).toInt32).toInt8.toInt32 = 0 := by
 rw [Int32.sub_self]; decide
def StrV (Z : State) (h : Heap) (a : Addr) (bs : List Int32) : Prop := ∃ (d : Addr) (k : ClassId), Exa Z h a "java/lang/String" ∧ Fld Z h a "java/lang/String" "coder" "B" (.int 0) ∧ Fld Z h a "java/lang/String" "value" "[B" (.ref d) ∧ Arv Z h d k .byte (Int32.ofNat bs.length) (bs.map Value.int) (.int 0)
theorem StrV.lt {Z : State} {h : Heap} {a : Addr} {bs : List Int32} (S : StrV Z h a bs) : a < h.size := by obtain ⟨_, _, E, _⟩ := S; exact E.lt
theorem StrV.ext {Z : State} {h h' : Heap} {a : Addr} {bs : List Int32} (S : StrV Z h a bs) (X : Ext h h') : StrV Z h' a bs := by
 obtain ⟨d, k, E, C, V, A⟩ := S; exact ⟨d, k, Exa.ext X E, Fld.ext X C, Fld.ext X V, Arv.ext A X⟩
theorem StrV.keep {Z : State} {h h' : Heap} {a : Addr} {bs : List Int32} {ws : List Addr} (S : StrV Z h a bs) (K : Keep h h' ws) (hd : ∀ (d : Addr) (k : ClassId) (z : Int32) (vs : List Value) (dv : Value), Arv Z h d k .byte z vs dv → d ∉ ws) (ha : ∀ b, Exa Z h b "java/lang/String" → b ∉ ws) : StrV Z h' a bs := by
 obtain ⟨d, k, E, C, V, A⟩ := S
 exact ⟨d, k, Exa.keep E K, Fld.keep C K (ha a E), Fld.keep V K (ha a E), Arv.keep A K (hd _ _ _ _ _ A)⟩
theorem StrV.keep0 {Z : State} {h h' : Heap} {a : Addr} {bs : List Int32} (S : StrV Z h a bs) (K : Keep h h' []) : StrV Z h' a bs := S.keep K (fun _ _ _ _ _ _ => nin0) (fun _ _ => nin0)
theorem StrV.keep1 {Z : State} {h h' : Heap} {a x : Addr} {bs : List Int32} {a0 : Array Value} {C : String} {kI : Nat} (S : StrV Z h a bs) (K : Keep h h' [x]) (E : Exa Z h x C) (wi : (Cond.instantiable C kI).before a0 Z = true) (hC : C ≠ "java/lang/String") : StrV Z h' a bs :=
 S.keep K (fun d _ _ _ _ A => ninS (fun q => by obtain ⟨c, Ar, -⟩ := A; exact ne_arr E wi Ar q.symm) nin0) (fun b F => ninS (fun q => ne_exa E F hC q.symm) nin0)
/-- null, or a String -/
def StrO (Z : State) (h : Heap) (r : Value) (o : Option (List Int32)) : Prop := (r = .null ∧ o = none) ∨ ∃ a bs, r = .ref a ∧ o = some bs ∧ StrV Z h a bs
theorem StrO.isRef {Z : State} {h : Heap} {r : Value} {o : Option (List Int32)} (S : StrO Z h r o) : r.isRef = true := by rcases S with ⟨rfl, -⟩ | ⟨a, bs, rfl, -⟩ <;> rfl
theorem StrO.ext {Z : State} {h h' : Heap} {r : Value} {o : Option (List Int32)} (S : StrO Z h r o) (X : Ext h h') : StrO Z h' r o := S.imp id fun ⟨a, bs, e1, e2, T⟩ => ⟨a, bs, e1, e2, T.ext X⟩
theorem StrO.keep0 {Z : State} {h h' : Heap} {r : Value} {o : Option (List Int32)} (S : StrO Z h r o) (K : Keep h h' []) : StrO Z h' r o := S.imp id fun ⟨a, bs, e1, e2, T⟩ => ⟨a, bs, e1, e2, T.keep0 K⟩
theorem StrO.keep1 {Z : State} {h h' : Heap} {r : Value} {o : Option (List Int32)} {x : Addr} {a0 : Array Value} {C : String} {kI : Nat} (S : StrO Z h r o) (K : Keep h h' [x]) (E : Exa Z h x C) (wi : (Cond.instantiable C kI).before a0 Z = true) (hC : C ≠ "java/lang/String") : StrO Z h' r o := S.imp id fun ⟨a, bs, e1, e2, T⟩ => ⟨a, bs, e1, e2, T.keep1 K E wi hC⟩
theorem own_if1 {p : Prop} [Decidable p] (h : ¬ (if p then (1 : Int32) else 0) = 0) : (if p then (1 : Int32) else 0) = 1 := by
 by_cases q : p
 · rw [if_pos q]
 · rw [if_neg q] at h; exact absurd rfl h
theorem own_len2 {bs : List Int32} (h : bs.length ≤ 2) : bs = [] ∨ (∃ x, bs = [x]) ∨ ∃ x y, bs = [x, y] := by
 match bs, h with
 | [], _ => exact Or.inl rfl
 | [x], _ => exact Or.inr (Or.inl ⟨x, rfl⟩)
 | [x, y], _ => exact Or.inr (Or.inr ⟨x, y, rfl⟩)
 | _ :: _ :: _ :: _, h => exact absurd h (by simp)
theorem own_wS {Z : State} {a0 : Array Value} (hw : oW a0 Z) : ∀ a ∈ Bundle.stringAtoms, a.before a0 Z = true := by
 intro d hd
 simp only [Bundle.stringAtoms, List.mem_cons, List.not_mem_nil, or_false] at hd
 rcases hd with rfl | rfl | rfl | rfl | rfl | rfl | rfl
 · exact (tw_8 hw)
 · exact (tw_7 hw)
 · exact (tw_20 hw)
 · exact (tw_21 hw)
 · exact (tw_22 hw)
 · exact (tw_23 hw)
 · exact (tw_24 hw)
theorem own_hEL {Z : State} {a0 : Array Value} (hw : oW a0 Z) : EW Z a0 own_EL := (EW.cons (tw_31 hw) (by decide) (EW.cons (tw_75 hw) (by decide) (EW.cons (tw_19 hw) (by decide) (EW.cons (tw_146 hw) (by decide) EW.nil))))
theorem own_narC (x : Int32) : narrow .char (.int (x &&& (255 : Int32))) = .int (x &&& (255 : Int32)) := congrArg Value.int (own_chr _ (own_m255 x).1 (own_m255 x).2)
theorem own_lit {i : Int32} {k : Int} (z : Int32) (hz : z.toInt = k) : i = z ↔ i.toInt = k := by rw [← hz]; exact Int32.toInt_inj.symm
theorem own_n6 (p : Int32) : ((p &&& (2147483647 : Int32)) % (6 : Int32)) = (0 : Int32) ∨ ((p &&& (2147483647 : Int32)) % (6 : Int32)) = (1 : Int32) ∨ ((p &&& (2147483647 : Int32)) % (6 : Int32)) = (2 : Int32) ∨ ((p &&& (2147483647 : Int32)) % (6 : Int32)) = (3 : Int32) ∨ ((p &&& (2147483647 : Int32)) % (6 : Int32)) = (4 : Int32) ∨ ((p &&& (2147483647 : Int32)) % (6 : Int32)) = (5 : Int32) := by
 have h := c_mask p 2147483647 31 (by decide) (by decide)
 have h2 := (c_irem (p &&& (2147483647 : Int32)) 6 6 (by decide)).1 (by omega)
 rw [own_lit (k := 0) 0 (by decide), own_lit (k := 1) 1 (by decide), own_lit (k := 2) 2 (by decide), own_lit (k := 3) 3 (by decide), own_lit (k := 4) 4 (by decide), own_lit (k := 5) 5 (by decide)]
 omega
theorem own_pickr (p : Int32) : ¬ own_pick p < 0 ∧ ¬ (255 : Int32) < own_pick p := by
 unfold own_pick
 by_cases h : (p &&& (1 : Int32)) = (0 : Int32)
 · rw [if_pos h]; exact own_m255 _
 · rw [if_neg h]; decide
theorem own_binj {x y : Int32} (h0 : ¬ x < 0) (h1 : ¬ (255 : Int32) < x) (g0 : ¬ y < 0) (g1 : ¬ (255 : Int32) < y) (e : x.toInt8.toInt32 = y.toInt8.toInt32) : x = y := by
 have a := c_i2b x
 have b := c_i2b y
 rw [e] at a
 rw [Int32.lt_iff_toInt_lt] at h0 h1 g0 g1
 have z0 : (0 : Int32).toInt = 0 := rfl
 have z1 : (255 : Int32).toInt = 255 := rfl
 apply Int32.toInt_inj.mp
 omega
theorem own_b47 (p : Int32) : (own_pick p).toInt8.toInt32 = (47 : Int32) ↔ own_pick p = (47 : Int32) :=
 ⟨fun e => own_binj (own_pickr p).1 (own_pickr p).2 (by decide) (by decide) (e.trans (by decide)), fun e => by rw [e]; decide⟩
theorem own_pick255 (p : Int32) : ((own_pick p).toInt8.toInt32 &&& (255 : Int32)) = own_pick p := by
 obtain ⟨h0, h1⟩ := own_pickr p
 generalize own_pick p = x at h0 h1 ⊢
 have a := c_i2b x
 have b := c_mask x.toInt8.toInt32 255 8 (by decide) (by decide)
 rw [Int32.lt_iff_toInt_lt] at h0 h1
 have z0 : (0 : Int32).toInt = 0 := rfl
 have z1 : (255 : Int32).toInt = 255 := rfl
 apply Int32.toInt_inj.mp
 omega
theorem own_lb1 (p1 : Int32) : (own_l1 ((own_pick p1).toInt8.toInt32)) = (own_l1 (own_pick p1)) := by
 simp only [own_l1, own_b47]
theorem own_lb2 (p1 p2 : Int32) : (own_l2 ((own_pick p1).toInt8.toInt32) ((own_pick p2).toInt8.toInt32)) = (own_l2 (own_pick p1) (own_pick p2)) := by
 simp only [own_l1, own_l2, own_b47]
theorem own_lb3 (p1 p2 p3 : Int32) : (own_l3 ((own_pick p1).toInt8.toInt32) ((own_pick p2).toInt8.toInt32) ((own_pick p3).toInt8.toInt32)) = (own_l3 (own_pick p1) (own_pick p2) (own_pick p3)) := by
 simp only [own_l1, own_l2, own_l3, own_b47]
theorem own_lb4 (p1 p2 p3 p4 : Int32) : (own_l4 ((own_pick p1).toInt8.toInt32) ((own_pick p2).toInt8.toInt32) ((own_pick p3).toInt8.toInt32) ((own_pick p4).toInt8.toInt32)) = (own_l4 (own_pick p1) (own_pick p2) (own_pick p3) (own_pick p4)) := by
 simp only [own_l1, own_l2, own_l3, own_l4, own_b47]
def Q_pick (Z : State) (p0 : Int32) (h0 : Heap) (n0 : Nat) (v : Option Value) (h : Heap) (L : List Loc) : Prop := v = some (.int (own_pick p0)) ∧ Fr n0 L ∧ h = h0
theorem rm_pick (l : Launch) (Z : State) (a0 : Array Value) (hw : oW a0 Z) (ws : List Jvm.Cond) (p0 : Int32) (h0 : Heap) (n0 : Nat) (Z0 : n0 ≤ h0.size) :
   oM l oY25 method_3_code 1 (some .char) ws (own_R 0 0 0 0) #[(.int p0)] Z h0 (Q_pick Z p0 h0 n0) := by
 refine own_open (n0 := n0) (cn := "jarkeep/source/SourceDirectoryOfPinLaw") rfl (plainFor_of_name pn4) (L0 := #[(vI p0)]) (fun _ => by first | (simp [entryFrame, mkF, argsToLocals, Value.category]; done) | rfl) ?_
 intro p e s m below meth c s₁ P hx hby hml hown hnm X0 e0 N0 hlk hret hZ hP
 refine iA X0 hx hby dm_3_0 rfl ?_
 refine iC X0 hx hby dm_3_1 (v := 1) rfl ?_
 refine w_iand X0 hx hby dm_3_2 (v := (p0 &&& (1 : Int32))) rfl ?_
 by_cases hc3_11 : (p0 &&& (1 : Int32)) = (0 : Int32)
 · refine fY X0 hx hby dm_3_3 (pc' := 11) (XT.i0_eq_t hc3_11) (by decide) ?_
   refine iA X0 hx hby dm_3_11 rfl ?_
   refine iC X0 hx hby dm_3_12 (v := 1) rfl ?_
   refine Go.by (fun _ => XS.iushr X0.here hx rfl (hb hby dm_3_13) rfl) ?_
   show oG p e below P m s₁ 14 #[(vI p0)] [(.int ((p0.toUInt32 >>> ((1 : Int32) &&& 31).toUInt32).toInt32))]
   refine sC X0 hx hby dm_3_14 (v := 255) rfl ?_
   refine w_iand X0 hx hby dm_3_17 (v := (((p0.toUInt32 >>> ((1 : Int32) &&& 31).toUInt32).toInt32) &&& (255 : Int32))) rfl ?_
   refine Go.by (fun _ => XS.i2c X0.here hx rfl (hb hby dm_3_18) rfl) ?_
   rw [i2c_mask]
   show oG p e below P m s₁ 19 #[(vI p0)] [(.int (((p0.toUInt32 >>> ((1 : Int32) &&& 31).toUInt32).toInt32) &&& (255 : Int32)))]
   refine r_val hP hlk hret X0 hx hby dm_3_19 (own_narC _) (Or.inl ⟨rfl, Or.inr (Or.inr (Or.inr (Or.inl rfl))), _, rfl⟩) (by decide) ?_
   rw [e0]
   exact ⟨by unfold own_pick; rw [if_pos hc3_11], N0, rfl⟩
 · refine fN X0 hx hby dm_3_3 (XT.i0_eq_f hc3_11) ?_
   refine bC X0 hx hby dm_3_6 (v := 47) rfl ?_
   refine gO X0 hx hby dm_3_8 (pc' := 19) (by decide) ?_
   refine r_val hP hlk hret X0 hx hby dm_3_19 rfl (Or.inl ⟨rfl, Or.inr (Or.inr (Or.inr (Or.inl rfl))), _, rfl⟩) (by decide) ?_
   rw [e0]
   exact ⟨by unfold own_pick; rw [if_neg hc3_11], N0, rfl⟩
def Q_coder (Z : State) (a0_ : Addr) (cs : Int32) (h0 : Heap) (n0 : Nat) (v : Option Value) (h : Heap) (L : List Loc) : Prop := v = some (.int 0) ∧ Fr n0 L ∧ h = h0
theorem rm_coder (l : Launch) (Z : State) (a0 : Array Value) (hw : oW a0 Z) (ws : List Jvm.Cond) (a0_ : Addr) (cs : Int32) (h0 : Heap) (n0 : Nat) (Z0 : n0 ≤ h0.size) (O0 : Old Z n0 h0) (Scs : Sta Z Z.heap "java/lang/String" "COMPACT_STRINGS" "Z" (.int cs)) (hcs : ¬ cs = (0 : Int32)) (FC : Fld Z h0 a0_ "java/lang/String" "coder" "B" (.int 0)) :
   oM l oY5 j42_152 1 (some .byte) ws (own_R 0 0 0 0) #[(.ref a0_)] Z h0 (Q_coder Z a0_ cs h0 n0) := by
 refine own_open (n0 := n0) (cn := "java/lang/String") rfl (plainFor_of_name pn0) (L0 := #[(vR a0_)]) (fun _ => by first | (simp [entryFrame, mkF, argsToLocals, Value.category]; done) | rfl) ?_
 intro p e s m below meth c s₁ P hx hby hml hown hnm X0 e0 N0 hlk hret hZ hP
 obtain ⟨T11, X11, e11, st11⟩ := getS2 X0 hx hZ hown (host := "") (Or.inl (tw_47 hw)) Via.refl e0 (Scs.ext O0.2) (g := (mkF m 0 #[(vR a0_)] [])) rfl (hb hby dj42_152_0)
 refine Go.by st11 ?_
 show oG p e below P m T11 3 #[(vR a0_)] [(.int cs)]
 refine fN X11 hx hby dj42_152_3 (XT.i0_eq_f hcs) ?_
 refine aA X11 hx hby dj42_152_6 rfl rfl ?_
 obtain ⟨T12, X12, e12, st12⟩ := getF X11 hx hZ hown (host := "") (Or.inl (tw_26 hw)) Via.refl e11 FC (g := (mkF m 7 #[(vR a0_)] [(.ref a0_)])) rfl rfl (hb hby dj42_152_7)
 refine Go.by st12 ?_
 show oG p e below P m T12 10 #[(vR a0_)] [(.int 0)]
 refine gO X12 hx hby dj42_152_10 (pc' := 14) (by decide) ?_
 refine r_val hP hlk hret X12 hx hby dj42_152_14 rfl (Or.inl ⟨rfl, Or.inr (Or.inr (Or.inl rfl)), _, rfl⟩) (by decide) ?_
 rw [e12]
 exact ⟨rfl, N0, rfl⟩
def Q_isLat (Z : State) (a0_ : Addr) (cs : Int32) (h0 : Heap) (n0 : Nat) (v : Option Value) (h : Heap) (L : List Loc) : Prop := v = some (.int 1) ∧ Fr n0 L ∧ h = h0
theorem rm_isLat (l : Launch) (Z : State) (a0 : Array Value) (hw : oW a0 Z) (ws : List Jvm.Cond) (a0_ : Addr) (cs : Int32) (h0 : Heap) (n0 : Nat) (Z0 : n0 ≤ h0.size) (O0 : Old Z n0 h0) (Scs : Sta Z Z.heap "java/lang/String" "COMPACT_STRINGS" "Z" (.int cs)) (hcs : ¬ cs = (0 : Int32)) (FC : Fld Z h0 a0_ "java/lang/String" "coder" "B" (.int 0)) :
   oM l oY3 j42_154 1 (some .boolean) ws (own_R 0 0 0 0) #[(.ref a0_)] Z h0 (Q_isLat Z a0_ cs h0 n0) := by
 refine own_open (n0 := n0) (cn := "java/lang/String") rfl (plainFor_of_name pn0) (L0 := #[(vR a0_)]) (fun _ => by first | (simp [entryFrame, mkF, argsToLocals, Value.category]; done) | rfl) ?_
 intro p e s m below meth c s₁ P hx hby hml hown hnm X0 e0 N0 hlk hret hZ hP
 obtain ⟨T11, X11, e11, st11⟩ := getS2 X0 hx hZ hown (host := "") (Or.inl (tw_47 hw)) Via.refl e0 (Scs.ext O0.2) (g := (mkF m 0 #[(vR a0_)] [])) rfl (hb hby dj42_154_0)
 refine Go.by st11 ?_
 show oG p e below P m T11 3 #[(vR a0_)] [(.int cs)]
 refine fN X11 hx hby dj42_154_3 (XT.i0_eq_f hcs) ?_
 refine aA X11 hx hby dj42_154_6 rfl rfl ?_
 obtain ⟨T12, X12, e12, st12⟩ := getF X11 hx hZ hown (host := "") (Or.inl (tw_26 hw)) Via.refl e11 FC (g := (mkF m 7 #[(vR a0_)] [(.ref a0_)])) rfl rfl (hb hby dj42_154_7)
 refine Go.by st12 ?_
 show oG p e below P m T12 10 #[(vR a0_)] [(.int 0)]
 refine fN X12 hx hby dj42_154_10 (XT.i0_ne_f (by decide : (0 : Int32) = (0 : Int32))) ?_
 refine iC X12 hx hby dj42_154_13 (v := 1) rfl ?_
 refine gO X12 hx hby dj42_154_14 (pc' := 18) (by decide) ?_
 refine r_val hP hlk hret X12 hx hby dj42_154_18 rfl (Or.inl ⟨rfl, Or.inr (Or.inl rfl), _, rfl⟩) (by decide) ?_
 rw [e12]
 exact ⟨rfl, N0, rfl⟩
def Q_canEncI (Z : State)  (h0 : Heap) (n0 : Nat) (v : Option Value) (h : Heap) (L : List Loc) : Prop := v = some (.int 1) ∧ Fr n0 L ∧ h = h0
theorem rm_canEncI (l : Launch) (Z : State) (a0 : Array Value) (hw : oW a0 Z) (ws : List Jvm.Cond)  (h0 : Heap) (n0 : Nat) (Z0 : n0 ≤ h0.size) :
   oM l oY21 j43_4 1 (some .boolean) ws (own_R 0 0 0 0) #[(.int 47)] Z h0 (Q_canEncI Z  h0 n0) := by
 refine own_open (n0 := n0) (cn := "java/lang/StringLatin1") rfl (plainFor_of_name pn1) (L0 := #[(vI 47)]) (fun _ => by first | (simp [entryFrame, mkF, argsToLocals, Value.category]; done) | rfl) ?_
 intro p e s m below meth c s₁ P hx hby hml hown hnm X0 e0 N0 hlk hret hZ hP
 refine iA X0 hx hby dj43_4_0 rfl ?_
 refine fN X0 hx hby dj43_4_1 (XT.i0_lt_f (by decide : ¬ (47 : Int32) < (0 : Int32))) ?_
 refine iA X0 hx hby dj43_4_4 rfl ?_
 refine sC X0 hx hby dj43_4_5 (v := 255) rfl ?_
 refine cN X0 hx hby dj43_4_8 (XT.ii_gt_f (by decide : ¬ (255 : Int32) < (47 : Int32))) ?_
 refine iC X0 hx hby dj43_4_11 (v := 1) rfl ?_
 refine gO X0 hx hby dj43_4_12 (pc' := 16) (by decide) ?_
 refine r_val hP hlk hret X0 hx hby dj43_4_16 rfl (Or.inl ⟨rfl, Or.inr (Or.inl rfl), _, rfl⟩) (by decide) ?_
 rw [e0]
 exact ⟨rfl, N0, rfl⟩
def Q_min (Z : State) (p0 p1 r : Int32) (h0 : Heap) (n0 : Nat) (v : Option Value) (h : Heap) (L : List Loc) : Prop := v = some (.int r) ∧ Fr n0 L ∧ h = h0
theorem rm_min (l : Launch) (Z : State) (a0 : Array Value) (hw : oW a0 Z) (ws : List Jvm.Cond) (p0 p1 r : Int32) (h0 : Heap) (n0 : Nat) (Z0 : n0 ≤ h0.size) (hr0 : r = if p1 < p0 then p1 else p0) :
   oM l oY11 j29_69 2 (some .int) ws (own_R 0 0 0 0) #[(.int p0), (.int p1)] Z h0 (Q_min Z p0 p1 r h0 n0) := by
 refine own_open (n0 := n0) (cn := "java/lang/Math") rfl (Jvm.Free.JP.mathPlain rfl (by decide +kernel)) (L0 := #[(vI p0), (vI p1)]) (fun _ => by first | (simp [entryFrame, mkF, argsToLocals, Value.category]; done) | rfl) ?_
 intro p e s m below meth c s₁ P hx hby hml hown hnm X0 e0 N0 hlk hret hZ hP
 refine iA X0 hx hby dj29_69_0 rfl ?_
 refine iA X0 hx hby dj29_69_1 rfl ?_
 by_cases hc2_11 : p1 < p0
 · refine cY X0 hx hby dj29_69_2 (pc' := 9) (XT.ii_gt_t hc2_11) (by decide) ?_
   refine iA X0 hx hby dj29_69_9 rfl ?_
   refine r_val hP hlk hret X0 hx hby dj29_69_10 rfl (Or.inl ⟨rfl, Or.inl rfl, _, rfl⟩) (by decide) ?_
   rw [e0]
   exact ⟨by rw [hr0, if_pos hc2_11], N0, rfl⟩
 · refine cN X0 hx hby dj29_69_2 (XT.ii_gt_f hc2_11) ?_
   refine iA X0 hx hby dj29_69_5 rfl ?_
   refine gO X0 hx hby dj29_69_6 (pc' := 10) (by decide) ?_
   refine r_val hP hlk hret X0 hx hby dj29_69_10 rfl (Or.inl ⟨rfl, Or.inl rfl, _, rfl⟩) (by decide) ?_
   rw [e0]
   exact ⟨by rw [hr0, if_neg hc2_11], N0, rfl⟩
def Q_chkLen (Z : State) (p1 : Int32) (h0 : Heap) (n0 : Nat) (v : Option Value) (h : Heap) (L : List Loc) : Prop := v = none ∧ Fr n0 L ∧ h = h0
theorem rm_chkLen (l : Launch) (Z : State) (a0 : Array Value) (hw : oW a0 Z) (ws : List Jvm.Cond) (p1 : Int32) (h0 : Heap) (n0 : Nat) (Z0 : n0 ≤ h0.size) (h1 : ¬ p1 < (0 : Int32)) :
   oM l oY23 j65_131 2 none ws (own_R 0 0 0 0) #[(.int 0), (.int p1)] Z h0 (Q_chkLen Z p1 h0 n0) := by
 refine own_open (n0 := n0) (cn := "java/util/Arrays") rfl (plainFor_of_name pn3) (L0 := #[(vI 0), (vI p1)]) (fun _ => by first | (simp [entryFrame, mkF, argsToLocals, Value.category]; done) | rfl) ?_
 intro p e s m below meth c s₁ P hx hby hml hown hnm X0 e0 N0 hlk hret hZ hP
 refine iA X0 hx hby dj65_131_0 rfl ?_
 refine iA X0 hx hby dj65_131_1 rfl ?_
 refine cY X0 hx hby dj65_131_2 (pc' := 37) (XT.ii_ge_t h1) (by decide) ?_
 refine own_fin hP hlk X0 (v := none) (fun _ => rfl) (by decide) (by decide) ?_ (fun fs hr => X0.returnOut hx hret (hb hby dj65_131_37) hr)
 rw [e0]
 exact ⟨rfl, N0, rfl⟩
def Q_chkFT (Z : State) (p1 p2 : Int32) (fm : Value) (h0 : Heap) (n0 : Nat) (v : Option Value) (h : Heap) (L : List Loc) : Prop := v = some (.int 0) ∧ Fr n0 L ∧ h = h0
theorem ef_chkFT (m : MethodId) (p1 p2 : Int32) (fm : Value) (hfm : fm.isRef = true) : entryFrame m #[(.int 0), (.int p1), (.int p2), fm] 4 = mkF m 0 #[(vI 0), (vI p1), (vI p2), .val fm] [] := by rcases XT.refc hfm with rfl | ⟨_, rfl⟩ <;> first | (simp [entryFrame, mkF, argsToLocals, Value.category]; done) | rfl
theorem rm_chkFT (l : Launch) (Z : State) (a0 : Array Value) (hw : oW a0 Z) (ws : List Jvm.Cond) (p1 p2 : Int32) (fm : Value) (h0 : Heap) (n0 : Nat) (Z0 : n0 ≤ h0.size) (hfm : fm.isRef = true) (h1 : ¬ p1 < (0 : Int32)) (h2 : ¬ p2 < p1) :
   oM l oY27 j41_12 4 (some .int) ws (own_R 0 0 0 0) #[(.int 0), (.int p1), (.int p2), fm] Z h0 (Q_chkFT Z p1 p2 fm h0 n0) := by
 refine own_open (n0 := n0) (cn := "jdk/internal/util/Preconditions") rfl (plainFor_of_name pn7) (fun m => ef_chkFT m p1 p2 fm hfm) ?_
 intro p e s m below meth c s₁ P hx hby hml hown hnm X0 e0 N0 hlk hret hZ hP
 refine iA X0 hx hby dj41_12_0 rfl ?_
 refine fN X0 hx hby dj41_12_1 (XT.i0_lt_f (by decide : ¬ (0 : Int32) < (0 : Int32))) ?_
 refine iA X0 hx hby dj41_12_4 rfl ?_
 refine iA X0 hx hby dj41_12_5 rfl ?_
 refine cN X0 hx hby dj41_12_6 (XT.ii_gt_f h1) ?_
 refine iA X0 hx hby dj41_12_9 rfl ?_
 refine iA X0 hx hby dj41_12_10 rfl ?_
 refine cY X0 hx hby dj41_12_11 (pc' := 22) (XT.ii_le_t h2) (by decide) ?_
 refine iA X0 hx hby dj41_12_22 rfl ?_
 refine r_val hP hlk hret X0 hx hby dj41_12_23 rfl (Or.inl ⟨rfl, Or.inl rfl, _, rfl⟩) (by decide) ?_
 rw [e0]
 exact ⟨rfl, N0, rfl⟩
def Q_chkI (Z : State) (p1 p2 : Int32) (fm : Value) (h0 : Heap) (n0 : Nat) (v : Option Value) (h : Heap) (L : List Loc) : Prop := v = some (.int p1) ∧ Fr n0 L ∧ h = h0
theorem ef_chkI (m : MethodId) (p1 p2 : Int32) (fm : Value) (hfm : fm.isRef = true) : entryFrame m #[(.int p1), (.int p2), fm] 3 = mkF m 0 #[(vI p1), (vI p2), .val fm] [] := by rcases XT.refc hfm with rfl | ⟨_, rfl⟩ <;> first | (simp [entryFrame, mkF, argsToLocals, Value.category]; done) | rfl
theorem rm_chkI (l : Launch) (Z : State) (a0 : Array Value) (hw : oW a0 Z) (ws : List Jvm.Cond) (p1 p2 : Int32) (fm : Value) (h0 : Heap) (n0 : Nat) (Z0 : n0 ≤ h0.size) (hfm : fm.isRef = true) (h1 : ¬ p1 < (0 : Int32)) (h2 : p1 < p2) :
   oM l oY28 j41_11 3 (some .int) ws (own_R 0 0 0 0) #[(.int p1), (.int p2), fm] Z h0 (Q_chkI Z p1 p2 fm h0 n0) := by
 refine own_open (n0 := n0) (cn := "jdk/internal/util/Preconditions") rfl (plainFor_of_name pn7) (fun m => ef_chkI m p1 p2 fm hfm) ?_
 intro p e s m below meth c s₁ P hx hby hml hown hnm X0 e0 N0 hlk hret hZ hP
 refine iA X0 hx hby dj41_11_0 rfl ?_
 refine fN X0 hx hby dj41_11_1 (XT.i0_lt_f h1) ?_
 refine iA X0 hx hby dj41_11_4 rfl ?_
 refine iA X0 hx hby dj41_11_5 rfl ?_
 refine cY X0 hx hby dj41_11_6 (pc' := 16) (XT.ii_lt_t h2) (by decide) ?_
 refine iA X0 hx hby dj41_11_16 rfl ?_
 refine r_val hP hlk hret X0 hx hby dj41_11_17 rfl (Or.inl ⟨rfl, Or.inl rfl, _, rfl⟩) (by decide) ?_
 rw [e0]
 exact ⟨rfl, N0, rfl⟩
def Q_chkB (Z : State) (p1 p2 : Int32) (fm : Value) (h0 : Heap) (n0 : Nat) (v : Option Value) (h : Heap) (L : List Loc) : Prop := v = none ∧ Fr n0 L ∧ h = h0
theorem rm_chkB (l : Launch) (Z : State) (a0 : Array Value) (hw : oW a0 Z) (ws : List Jvm.Cond) (p1 p2 : Int32) (fm : Value) (h0 : Heap) (n0 : Nat) (Z0 : n0 ≤ h0.size) (O0 : Old Z n0 h0) (Sfm : Sta Z Z.heap "jdk/internal/util/Preconditions" "SIOOBE_FORMATTER" "Ljava/util/function/BiFunction;" fm) (hfm : fm.isRef = true) (h1 : ¬ p1 < (0 : Int32)) (h2 : ¬ p2 < p1) :
   oM l oY22 j42_158 3 none ws (own_R 1 0 0 16) #[(.int 0), (.int p1), (.int p2)] Z h0 (Q_chkB Z p1 p2 fm h0 n0) := by
 refine own_open (n0 := n0) (cn := "java/lang/String") rfl (plainFor_of_name pn0) (L0 := #[(vI 0), (vI p1), (vI p2)]) (fun _ => by first | (simp [entryFrame, mkF, argsToLocals, Value.category]; done) | rfl) ?_
 intro p e s m below meth c s₁ P hx hby hml hown hnm X0 e0 N0 hlk hret hZ hP
 refine iA X0 hx hby dj42_158_0 rfl ?_
 refine iA X0 hx hby dj42_158_1 rfl ?_
 refine iA X0 hx hby dj42_158_2 rfl ?_
 obtain ⟨T11, X11, e11, st11⟩ := getS2 X0 hx hZ hown (host := "") (Or.inl (tw_105 hw)) Via.refl e0 (Sfm.ext O0.2) (g := (mkF m 3 #[(vI 0), (vI p1), (vI p2)] [(.int p2), (.int p1), (.int 0)])) rfl (hb hby dj42_158_3)
 refine Go.by st11 ?_
 refine c_stat 0 X11 hx hby hml hZ hown (tw_107 hw) (tw_108 hw) (tw_106 hw) (tw_109 hw) (rm_chkFT l Z a0 hw [] p1 p2 fm h0 n0 Z0 hfm h1 h2) e11 dj42_158_6 [(.int 0), (.int p1), (.int p2), fm] [] (lenOf pd24 rfl) rfl rfl (by rfl) (by decide) ?_
 rintro _ T12 Lc12 ⟨rfl, N12q, q12⟩ X12
 have N12 := Fr.app N0 N12q
 refine pO X12 hx hby dj42_158_9 rfl ?_
 refine own_fin hP hlk X12 (v := none) (fun _ => rfl) (by decide) (by decide) ?_ (fun fs hr => X12.returnOut hx hret (hb hby dj42_158_10) hr)
 rw [q12]
 exact ⟨rfl, N12, rfl⟩
def Q_chkX (Z : State) (p1 p2 : Int32) (fm : Value) (h0 : Heap) (n0 : Nat) (v : Option Value) (h : Heap) (L : List Loc) : Prop := v = none ∧ Fr n0 L ∧ h = h0
theorem rm_chkX (l : Launch) (Z : State) (a0 : Array Value) (hw : oW a0 Z) (ws : List Jvm.Cond) (p1 p2 : Int32) (fm : Value) (h0 : Heap) (n0 : Nat) (Z0 : n0 ≤ h0.size) (O0 : Old Z n0 h0) (Sfm : Sta Z Z.heap "jdk/internal/util/Preconditions" "SIOOBE_FORMATTER" "Ljava/util/function/BiFunction;" fm) (hfm : fm.isRef = true) (h1 : ¬ p1 < (0 : Int32)) (h2 : p1 < p2) :
   oM l oY29 j42_155 2 none ws (own_R 1 0 0 16) #[(.int p1), (.int p2)] Z h0 (Q_chkX Z p1 p2 fm h0 n0) := by
 refine own_open (n0 := n0) (cn := "java/lang/String") rfl (plainFor_of_name pn0) (L0 := #[(vI p1), (vI p2)]) (fun _ => by first | (simp [entryFrame, mkF, argsToLocals, Value.category]; done) | rfl) ?_
 intro p e s m below meth c s₁ P hx hby hml hown hnm X0 e0 N0 hlk hret hZ hP
 refine iA X0 hx hby dj42_155_0 rfl ?_
 refine iA X0 hx hby dj42_155_1 rfl ?_
 obtain ⟨T11, X11, e11, st11⟩ := getS2 X0 hx hZ hown (host := "") (Or.inl (tw_105 hw)) Via.refl e0 (Sfm.ext O0.2) (g := (mkF m 2 #[(vI p1), (vI p2)] [(.int p2), (.int p1)])) rfl (hb hby dj42_155_2)
 refine Go.by st11 ?_
 refine c_stat 0 X11 hx hby hml hZ hown (tw_143 hw) (tw_144 hw) (tw_106 hw) (tw_145 hw) (rm_chkI l Z a0 hw [] p1 p2 fm h0 n0 Z0 hfm h1 h2) e11 dj42_155_5 [(.int p1), (.int p2), fm] [] (lenOf pd25 rfl) rfl rfl (by rfl) (by decide) ?_
 rintro _ T12 Lc12 ⟨rfl, N12q, q12⟩ X12
 have N12 := Fr.app N0 N12q
 refine pO X12 hx hby dj42_155_8 rfl ?_
 refine own_fin hP hlk X12 (v := none) (fun _ => rfl) (by decide) (by decide) ?_ (fun fs hr => X12.returnOut hx hret (hb hby dj42_155_9) hr)
 rw [q12]
 exact ⟨rfl, N12, rfl⟩
def Q_slen (Z : State) (a0_ d : Addr) (kd : ClassId) (z : Int32) (vs : List Value) (cs : Int32) (h0 : Heap) (n0 : Nat) (v : Option Value) (h : Heap) (L : List Loc) : Prop := v = some (.int z) ∧ Fr n0 L ∧ h = h0
theorem rm_slen (l : Launch) (Z : State) (a0 : Array Value) (hw : oW a0 Z) (ws : List Jvm.Cond) (a0_ d : Addr) (kd : ClassId) (z : Int32) (vs : List Value) (cs : Int32) (h0 : Heap) (n0 : Nat) (Z0 : n0 ≤ h0.size) (O0 : Old Z n0 h0) (Scs : Sta Z Z.heap "java/lang/String" "COMPACT_STRINGS" "Z" (.int cs)) (hcs : ¬ cs = (0 : Int32)) (E0 : Exa Z h0 a0_ "java/lang/String") (FC : Fld Z h0 a0_ "java/lang/String" "coder" "B" (.int 0)) (FV : Fld Z h0 a0_ "java/lang/String" "value" "[B" (.ref d)) (V0 : Arv Z h0 d kd .byte z vs (.int 0)) :
   oM l oY0 j42_54 1 (some .int) ws (own_R 1 0 0 14) #[(.ref a0_)] Z h0 (Q_slen Z a0_ d kd z vs cs h0 n0) := by
 refine own_open (n0 := n0) (cn := "java/lang/String") rfl (plainFor_of_name pn0) (L0 := #[(vR a0_)]) (fun _ => by first | (simp [entryFrame, mkF, argsToLocals, Value.category]; done) | rfl) ?_
 intro p e s m below meth c s₁ P hx hby hml hown hnm X0 e0 N0 hlk hret hZ hP
 refine aA X0 hx hby dj42_54_0 rfl rfl ?_
 obtain ⟨T11, X11, e11, st11⟩ := getF X0 hx hZ hown (host := "") (Or.inl (tw_25 hw)) Via.refl e0 FV (g := (mkF m 1 #[(vR a0_)] [(.ref a0_)])) rfl rfl (hb hby dj42_54_1)
 refine Go.by st11 ?_
 have av12 := V0
 obtain ⟨cl12, Ar12, -, Sz12, Nn12, -, -⟩ := av12
 refine Go.by (X11.arraylength hx (by rw [e11]; exact Ar12.1) (State.isArrayOf_alike hZ.alike Ar12.2.1) (g := (mkF m 4 #[(vR a0_)] [(.ref d)])) rfl rfl (hb hby dj42_54_4)) ?_
 rw [len_of Sz12 Nn12]
 show oG p e below P m T11 5 #[(vR a0_)] [(.int z)]
 refine aA X11 hx hby dj42_54_5 rfl rfl ?_
 refine c_virt 1 X11 hx hby hml hZ hown (tw_42 hw) (tw_43 hw) (tw_45 hw) (tw_44 hw) (tw_46 hw) (tw_8 hw) (rm_coder l Z a0 hw [] a0_ cs h0 n0 Z0 O0 Scs hcs FC) e11 E0 dj42_54_6 [] [(.int z)] (lenOf pd6 rfl) rfl rfl (by rfl) (by decide) ?_
 rintro _ T13 Lc13 ⟨rfl, N13q, q13⟩ X13
 have N13 := Fr.app N0 N13q
 show oG p e below P m T13 9 #[(vR a0_)] [(.int 0), (.int z)]
 refine Go.by (fun _ => XS.ishr X13.here hx rfl (hb hby dj42_54_9) rfl) ?_
 show oG p e below P m T13 10 #[(vR a0_)] [(.int (z >>> ((0 : Int32) &&& 31)))]
 refine r_val hP hlk hret X13 hx hby dj42_54_10 rfl (Or.inl ⟨rfl, Or.inl rfl, _, rfl⟩) (by decide) ?_
 rw [q13]
 exact ⟨by rw [own_shr0], N13, rfl⟩
def Q_l1char (Z : State) (d : Addr) (kd : ClassId) (z : Int32) (vs : List Value) (j x : Int32) (fm : Value) (h0 : Heap) (n0 : Nat) (v : Option Value) (h : Heap) (L : List Loc) : Prop := v = some (.int (x &&& (255 : Int32))) ∧ Fr n0 L ∧ h = h0
theorem rm_l1char (l : Launch) (Z : State) (a0 : Array Value) (hw : oW a0 Z) (ws : List Jvm.Cond) (d : Addr) (kd : ClassId) (z : Int32) (vs : List Value) (j x : Int32) (fm : Value) (h0 : Heap) (n0 : Nat) (Z0 : n0 ≤ h0.size) (O0 : Old Z n0 h0) (Sfm : Sta Z Z.heap "jdk/internal/util/Preconditions" "SIOOBE_FORMATTER" "Ljava/util/function/BiFunction;" fm) (hfm : fm.isRef = true) (V0 : Arv Z h0 d kd .byte z vs (.int 0)) (hj : ¬ j < (0 : Int32)) (hz : j < z) (hx_ : vs.getD j.toNatClampNeg (.int 0) = (.int x)) :
   oM l oY30 j43_2 2 (some .char) ws (own_R 2 0 0 30) #[(.ref d), (.int j)] Z h0 (Q_l1char Z d kd z vs j x fm h0 n0) := by
 refine own_open (n0 := n0) (cn := "java/lang/StringLatin1") rfl (plainFor_of_name pn1) (L0 := #[(vR d), (vI j)]) (fun _ => by first | (simp [entryFrame, mkF, argsToLocals, Value.category]; done) | rfl) ?_
 intro p e s m below meth c s₁ P hx hby hml hown hnm X0 e0 N0 hlk hret hZ hP
 refine iA X0 hx hby dj43_2_0 rfl ?_
 refine aA X0 hx hby dj43_2_1 rfl rfl ?_
 have av11 := V0
 obtain ⟨cl11, Ar11, -, Sz11, Nn11, -, -⟩ := av11
 refine Go.by (X0.arraylength hx (by rw [e0]; exact Ar11.1) (State.isArrayOf_alike hZ.alike Ar11.2.1) (g := (mkF m 2 #[(vR d), (vI j)] [(.ref d), (.int j)])) rfl rfl (hb hby dj43_2_2)) ?_
 rw [len_of Sz11 Nn11]
 show oG p e below P m s₁ 3 #[(vR d), (vI j)] [(.int z), (.int j)]
 refine c_stat 0 X0 hx hby hml hZ hown (tw_140 hw) (tw_141 hw) (tw_8 hw) (tw_142 hw) (rm_chkX l Z a0 hw [] j z fm h0 n0 Z0 O0 Sfm hfm hj hz) e0 dj43_2_3 [(.int j), (.int z)] [] (lenOf pd10 rfl) rfl rfl (by rfl) (by decide) ?_
 rintro _ T12 Lc12 ⟨rfl, N12q, q12⟩ X12
 have N12 := Fr.app N0 N12q
 refine aA X12 hx hby dj43_2_6 rfl rfl ?_
 refine iA X12 hx hby dj43_2_7 rfl ?_
 have av13 := V0
 obtain ⟨cl13, Ar13, -, Sz13, Nn13, Ha13, Gf13⟩ := av13
 have hin13 : ¬ (j < 0 ∨ cl13.slots.size ≤ (j).toNatClampNeg) := inb_of Sz13 ⟨hj, hz⟩
 have hat13 : cl13.slots[(j).toNatClampNeg]? = some (.int x) := Ha13.at hin13 hx_
 refine Go.by (X12.baloadBytes hx (j := j) (v := (.int x)) (by rw [q12]; exact Ar13.1) (State.isArrayOf_alike hZ.alike Ar13.2.1) Ar13.2.2 hin13 hat13 (g := (mkF m 8 #[(vR d), (vI j)] [(.int j), (.ref d)])) rfl rfl (hb hby dj43_2_8)) ?_
 show oG p e below P m T12 9 #[(vR d), (vI j)] [(.int x)]
 refine sC X12 hx hby dj43_2_9 (v := 255) rfl ?_
 refine w_iand X12 hx hby dj43_2_12 (v := (x &&& (255 : Int32))) rfl ?_
 refine Go.by (fun _ => XS.i2c X12.here hx rfl (hb hby dj43_2_13) rfl) ?_
 rw [i2c_mask]
 show oG p e below P m T12 14 #[(vR d), (vI j)] [(.int (x &&& (255 : Int32)))]
 refine r_val hP hlk hret X12 hx hby dj43_2_14 (own_narC _) (Or.inl ⟨rfl, Or.inr (Or.inr (Or.inr (Or.inl rfl))), _, rfl⟩) (by decide) ?_
 rw [q12]
 exact ⟨rfl, N12, rfl⟩
def Q_scharAt (Z : State) (a0_ d : Addr) (kd : ClassId) (z : Int32) (vs : List Value) (j x cs : Int32) (fm : Value) (h0 : Heap) (n0 : Nat) (v : Option Value) (h : Heap) (L : List Loc) : Prop := v = some (.int (x &&& (255 : Int32))) ∧ Fr n0 L ∧ h = h0
theorem rm_scharAt (l : Launch) (Z : State) (a0 : Array Value) (hw : oW a0 Z) (ws : List Jvm.Cond) (a0_ d : Addr) (kd : ClassId) (z : Int32) (vs : List Value) (j x cs : Int32) (fm : Value) (h0 : Heap) (n0 : Nat) (Z0 : n0 ≤ h0.size) (O0 : Old Z n0 h0) (Scs : Sta Z Z.heap "java/lang/String" "COMPACT_STRINGS" "Z" (.int cs)) (hcs : ¬ cs = (0 : Int32)) (Sfm : Sta Z Z.heap "jdk/internal/util/Preconditions" "SIOOBE_FORMATTER" "Ljava/util/function/BiFunction;" fm) (hfm : fm.isRef = true) (E0 : Exa Z h0 a0_ "java/lang/String") (FC : Fld Z h0 a0_ "java/lang/String" "coder" "B" (.int 0)) (FV : Fld Z h0 a0_ "java/lang/String" "value" "[B" (.ref d)) (V0 : Arv Z h0 d kd .byte z vs (.int 0)) (hj : ¬ j < (0 : Int32)) (hz : j < z) (hx_ : vs.getD j.toNatClampNeg (.int 0) = (.int x)) :
   oM l oY26 j42_56 2 (some .char) ws (own_R 3 0 0 45) #[(.ref a0_), (.int j)] Z h0 (Q_scharAt Z a0_ d kd z vs j x cs fm h0 n0) := by
 refine own_open (n0 := n0) (cn := "java/lang/String") rfl (plainFor_of_name pn0) (L0 := #[(vR a0_), (vI j)]) (fun _ => by first | (simp [entryFrame, mkF, argsToLocals, Value.category]; done) | rfl) ?_
 intro p e s m below meth c s₁ P hx hby hml hown hnm X0 e0 N0 hlk hret hZ hP
 refine aA X0 hx hby dj42_56_0 rfl rfl ?_
 refine c_virt 0 X0 hx hby hml hZ hown (tw_59 hw) (tw_60 hw) (tw_62 hw) (tw_61 hw) (tw_63 hw) (tw_8 hw) (rm_isLat l Z a0 hw [] a0_ cs h0 n0 Z0 O0 Scs hcs FC) e0 E0 dj42_56_1 [] [] (lenOf pd4 rfl) rfl rfl (by rfl) (by decide) ?_
 rintro _ T11 Lc11 ⟨rfl, N11q, q11⟩ X11
 have N11 := Fr.app N0 N11q
 refine fN X11 hx hby dj42_56_4 (XT.i0_eq_f (by decide : ¬ (1 : Int32) = (0 : Int32))) ?_
 refine aA X11 hx hby dj42_56_7 rfl rfl ?_
 obtain ⟨T12, X12, e12, st12⟩ := getF X11 hx hZ hown (host := "") (Or.inl (tw_25 hw)) Via.refl q11 FV (g := (mkF m 8 #[(vR a0_), (vI j)] [(.ref a0_)])) rfl rfl (hb hby dj42_56_8)
 refine Go.by st12 ?_
 show oG p e below P m T12 11 #[(vR a0_), (vI j)] [(.ref d)]
 refine iA X12 hx hby dj42_56_11 rfl ?_
 refine c_stat 0 X12 hx hby hml hZ hown (tw_137 hw) (tw_138 hw) (tw_66 hw) (tw_139 hw) (rm_l1char l Z a0 hw [] d kd z vs j x fm h0 n0 Z0 O0 Sfm hfm V0 hj hz hx_) e12 dj42_56_12 [(.ref d), (.int j)] [] (lenOf pd26 rfl) rfl rfl (by rfl) (by decide) ?_
 rintro _ T13 Lc13 ⟨rfl, N13q, q13⟩ X13
 have N13 := Fr.app N11 N13q
 refine r_val hP hlk hret X13 hx hby dj42_56_15 (own_narC _) (Or.inl ⟨rfl, Or.inr (Or.inr (Or.inr (Or.inl rfl))), _, rfl⟩) (by decide) ?_
 rw [q13]
 exact ⟨rfl, N13, rfl⟩
def Q_agree (Z : State) (a0_ d : Addr) (kd : ClassId) (z : Int32) (vs : List Value) (a1 : Addr) (k1 : ClassId) (zc : Int32) (vc : List Value) (j x e_ ch cs : Int32) (fm : Value) (h0 : Heap) (n0 : Nat) (v : Option Value) (h : Heap) (L : List Loc) : Prop := v = some (.int 1) ∧ Fr n0 L ∧ h = h0
theorem rm_agree (l : Launch) (Z : State) (a0 : Array Value) (hw : oW a0 Z) (ws : List Jvm.Cond) (a0_ d : Addr) (kd : ClassId) (z : Int32) (vs : List Value) (a1 : Addr) (k1 : ClassId) (zc : Int32) (vc : List Value) (j x e_ ch cs : Int32) (fm : Value) (h0 : Heap) (n0 : Nat) (Z0 : n0 ≤ h0.size) (O0 : Old Z n0 h0) (Scs : Sta Z Z.heap "java/lang/String" "COMPACT_STRINGS" "Z" (.int cs)) (hcs : ¬ cs = (0 : Int32)) (Sfm : Sta Z Z.heap "jdk/internal/util/Preconditions" "SIOOBE_FORMATTER" "Ljava/util/function/BiFunction;" fm) (hfm : fm.isRef = true) (E0 : Exa Z h0 a0_ "java/lang/String") (FC : Fld Z h0 a0_ "java/lang/String" "coder" "B" (.int 0)) (FV : Fld Z h0 a0_ "java/lang/String" "value" "[B" (.ref d)) (V0 : Arv Z h0 d kd .byte z vs (.int 0)) (hj : ¬ j < (0 : Int32)) (hz : j < z) (hx_ : vs.getD j.toNatClampNeg (.int 0) = (.int x)) (V1 : Arv Z h0 a1 k1 .char zc vc (.int 0)) (hlt : j < e_) (hzc : j < zc) (hc_ : vc.getD j.toNatClampNeg (.int 0) = (.int ch)) (heq : (x &&& (255 : Int32)) = ch) :
   oM l oY6 method_5_code 4 (some .boolean) ws (own_R 4 0 0 60) #[(.ref a0_), (.ref a1), (.int j), (.int e_)] Z h0 (Q_agree Z a0_ d kd z vs a1 k1 zc vc j x e_ ch cs fm h0 n0) := by
 refine own_open (n0 := n0) (cn := "jarkeep/source/SourceDirectoryOfPinLaw") rfl (plainFor_of_name pn4) (L0 := #[(vR a0_), (vR a1), (vI j), (vI e_)]) (fun _ => by first | (simp [entryFrame, mkF, argsToLocals, Value.category]; done) | rfl) ?_
 intro p e s m below meth c s₁ P hx hby hml hown hnm X0 e0 N0 hlk hret hZ hP
 refine iA X0 hx hby dm_5_0 rfl ?_
 refine iA X0 hx hby dm_5_1 rfl ?_
 refine cN X0 hx hby dm_5_2 (XT.ii_ge_f hlt) ?_
 refine aA X0 hx hby dm_5_5 rfl rfl ?_
 refine iA X0 hx hby dm_5_6 rfl ?_
 refine c_virt 0 X0 hx hby hml hZ hown (tw_132 hw) (tw_133 hw) (tw_135 hw) (tw_134 hw) (tw_136 hw) (tw_8 hw) (rm_scharAt l Z a0 hw [] a0_ d kd z vs j x cs fm h0 n0 Z0 O0 Scs hcs Sfm hfm E0 FC FV V0 hj hz hx_) e0 E0 dm_5_7 [(.int j)] [] (lenOf pd13 rfl) rfl rfl (by rfl) (by decide) ?_
 rintro _ T11 Lc11 ⟨rfl, N11q, q11⟩ X11
 have N11 := Fr.app N0 N11q
 refine aA X11 hx hby dm_5_10 rfl rfl ?_
 refine iA X11 hx hby dm_5_11 rfl ?_
 have av12 := V1
 obtain ⟨cl12, Ar12, -, Sz12, Nn12, Ha12, Gf12⟩ := av12
 have hin12 : ¬ (j < 0 ∨ cl12.slots.size ≤ (j).toNatClampNeg) := inb_of Sz12 ⟨hj, hzc⟩
 have hat12 : cl12.slots[(j).toNatClampNeg]? = some (.int ch) := Ha12.at hin12 hc_
 refine Go.by (X11.caload hx (j := j) (v := (.int ch)) (by rw [q11]; exact Ar12.1) (State.isArrayOf_alike hZ.alike Ar12.2.1) Ar12.2.2 hin12 hat12 (g := (mkF m 12 #[(vR a0_), (vR a1), (vI j), (vI e_)] [(.int j), (.ref a1), (.int (x &&& (255 : Int32)))])) rfl rfl (hb hby dm_5_12)) ?_
 show oG p e below P m T11 13 #[(vR a0_), (vR a1), (vI j), (vI e_)] [(.int ch), (.int (x &&& (255 : Int32)))]
 refine cN X11 hx hby dm_5_13 (XT.ii_ne_f heq) ?_
 refine iC X11 hx hby dm_5_16 (v := 1) rfl ?_
 refine gO X11 hx hby dm_5_17 (pc' := 21) (by decide) ?_
 refine r_val hP hlk hret X11 hx hby dm_5_21 rfl (Or.inl ⟨rfl, Or.inr (Or.inl rfl), _, rfl⟩) (by decide) ?_
 rw [q11]
 exact ⟨rfl, N11, rfl⟩
def Q_agree0 (Z : State) (a0_ a1 : Addr) (j e_ : Int32) (h0 : Heap) (n0 : Nat) (v : Option Value) (h : Heap) (L : List Loc) : Prop := v = some (.int 1) ∧ Fr n0 L ∧ h = h0
theorem rm_agree0 (l : Launch) (Z : State) (a0 : Array Value) (hw : oW a0 Z) (ws : List Jvm.Cond) (a0_ a1 : Addr) (j e_ : Int32) (h0 : Heap) (n0 : Nat) (Z0 : n0 ≤ h0.size) (hge : ¬ j < e_) :
   oM l oY6 method_5_code 4 (some .boolean) ws (own_R 0 0 0 0) #[(.ref a0_), (.ref a1), (.int j), (.int e_)] Z h0 (Q_agree0 Z a0_ a1 j e_ h0 n0) := by
 refine own_open (n0 := n0) (cn := "jarkeep/source/SourceDirectoryOfPinLaw") rfl (plainFor_of_name pn4) (L0 := #[(vR a0_), (vR a1), (vI j), (vI e_)]) (fun _ => by first | (simp [entryFrame, mkF, argsToLocals, Value.category]; done) | rfl) ?_
 intro p e s m below meth c s₁ P hx hby hml hown hnm X0 e0 N0 hlk hret hZ hP
 refine iA X0 hx hby dm_5_0 rfl ?_
 refine iA X0 hx hby dm_5_1 rfl ?_
 refine cY X0 hx hby dm_5_2 (pc' := 16) (XT.ii_ge_t hge) (by decide) ?_
 refine iC X0 hx hby dm_5_16 (v := 1) rfl ?_
 refine gO X0 hx hby dm_5_17 (pc' := 21) (by decide) ?_
 refine r_val hP hlk hret X0 hx hby dm_5_21 rfl (Or.inl ⟨rfl, Or.inr (Or.inl rfl), _, rfl⟩) (by decide) ?_
 rw [e0]
 exact ⟨rfl, N0, rfl⟩
def Q_lastSlash0 (Z : State) (a1 : Addr) (k1 : ClassId) (c0 c1 c2 c3 c4 : Int32) (h0 : Heap) (n0 : Nat) (v : Option Value) (h : Heap) (L : List Loc) : Prop := v = some (.int (-1)) ∧ Fr n0 L ∧ h = h0
theorem rm_lastSlash0 (l : Launch) (Z : State) (a0 : Array Value) (hw : oW a0 Z) (ws : List Jvm.Cond) (a1 : Addr) (k1 : ClassId) (c0 c1 c2 c3 c4 : Int32) (h0 : Heap) (n0 : Nat) (Z0 : n0 ≤ h0.size) (V1 : Arv Z h0 a1 k1 .char (5 : Int32) [(.int c0), (.int c1), (.int c2), (.int c3), (.int c4)] (.int 0)) :
   oM l oY9 method_4_code 2 (some .int) ws (own_R 0 0 0 0) #[(.ref a1), (.int 0)] Z h0 (Q_lastSlash0 Z a1 k1 c0 c1 c2 c3 c4 h0 n0) := by
 refine own_open (n0 := n0) (cn := "jarkeep/source/SourceDirectoryOfPinLaw") rfl (plainFor_of_name pn4) (L0 := #[(vR a1), (vI 0)]) (fun _ => by first | (simp [entryFrame, mkF, argsToLocals, Value.category]; done) | rfl) ?_
 intro p e s m below meth c s₁ P hx hby hml hown hnm X0 e0 N0 hlk hret hZ hP
 refine iA X0 hx hby dm_4_0 rfl ?_
 refine iC X0 hx hby dm_4_1 (v := 4) rfl ?_
 refine cY X0 hx hby dm_4_2 (pc' := 15) (XT.ii_le_t (by decide : ¬ (4 : Int32) < (0 : Int32))) (by decide) ?_
 refine iA X0 hx hby dm_4_15 rfl ?_
 refine iC X0 hx hby dm_4_16 (v := 3) rfl ?_
 refine cY X0 hx hby dm_4_17 (pc' := 30) (XT.ii_le_t (by decide : ¬ (3 : Int32) < (0 : Int32))) (by decide) ?_
 refine iA X0 hx hby dm_4_30 rfl ?_
 refine iC X0 hx hby dm_4_31 (v := 2) rfl ?_
 refine cY X0 hx hby dm_4_32 (pc' := 45) (XT.ii_le_t (by decide : ¬ (2 : Int32) < (0 : Int32))) (by decide) ?_
 refine iA X0 hx hby dm_4_45 rfl ?_
 refine iC X0 hx hby dm_4_46 (v := 1) rfl ?_
 refine cY X0 hx hby dm_4_47 (pc' := 60) (XT.ii_le_t (by decide : ¬ (1 : Int32) < (0 : Int32))) (by decide) ?_
 refine iA X0 hx hby dm_4_60 rfl ?_
 refine fY X0 hx hby dm_4_61 (pc' := 74) (XT.i0_le_t (by decide : ¬ (0 : Int32) < (0 : Int32))) (by decide) ?_
 refine iC X0 hx hby dm_4_74 (v := (-1)) rfl ?_
 refine r_val hP hlk hret X0 hx hby dm_4_75 rfl (Or.inl ⟨rfl, Or.inl rfl, _, rfl⟩) (by decide) ?_
 rw [e0]
 exact ⟨rfl, N0, rfl⟩
def Q_lastSlash1 (Z : State) (a1 : Addr) (k1 : ClassId) (c0 c1 c2 c3 c4 : Int32) (h0 : Heap) (n0 : Nat) (v : Option Value) (h : Heap) (L : List Loc) : Prop := v = some (.int (own_l1 c0)) ∧ Fr n0 L ∧ h = h0
theorem rm_lastSlash1 (l : Launch) (Z : State) (a0 : Array Value) (hw : oW a0 Z) (ws : List Jvm.Cond) (a1 : Addr) (k1 : ClassId) (c0 c1 c2 c3 c4 : Int32) (h0 : Heap) (n0 : Nat) (Z0 : n0 ≤ h0.size) (V1 : Arv Z h0 a1 k1 .char (5 : Int32) [(.int c0), (.int c1), (.int c2), (.int c3), (.int c4)] (.int 0)) :
   oM l oY9 method_4_code 2 (some .int) ws (own_R 0 0 0 0) #[(.ref a1), (.int 1)] Z h0 (Q_lastSlash1 Z a1 k1 c0 c1 c2 c3 c4 h0 n0) := by
 refine own_open (n0 := n0) (cn := "jarkeep/source/SourceDirectoryOfPinLaw") rfl (plainFor_of_name pn4) (L0 := #[(vR a1), (vI 1)]) (fun _ => by first | (simp [entryFrame, mkF, argsToLocals, Value.category]; done) | rfl) ?_
 intro p e s m below meth c s₁ P hx hby hml hown hnm X0 e0 N0 hlk hret hZ hP
 refine iA X0 hx hby dm_4_0 rfl ?_
 refine iC X0 hx hby dm_4_1 (v := 4) rfl ?_
 refine cY X0 hx hby dm_4_2 (pc' := 15) (XT.ii_le_t (by decide : ¬ (4 : Int32) < (1 : Int32))) (by decide) ?_
 refine iA X0 hx hby dm_4_15 rfl ?_
 refine iC X0 hx hby dm_4_16 (v := 3) rfl ?_
 refine cY X0 hx hby dm_4_17 (pc' := 30) (XT.ii_le_t (by decide : ¬ (3 : Int32) < (1 : Int32))) (by decide) ?_
 refine iA X0 hx hby dm_4_30 rfl ?_
 refine iC X0 hx hby dm_4_31 (v := 2) rfl ?_
 refine cY X0 hx hby dm_4_32 (pc' := 45) (XT.ii_le_t (by decide : ¬ (2 : Int32) < (1 : Int32))) (by decide) ?_
 refine iA X0 hx hby dm_4_45 rfl ?_
 refine iC X0 hx hby dm_4_46 (v := 1) rfl ?_
 refine cY X0 hx hby dm_4_47 (pc' := 60) (XT.ii_le_t (by decide : ¬ (1 : Int32) < (1 : Int32))) (by decide) ?_
 refine iA X0 hx hby dm_4_60 rfl ?_
 refine fN X0 hx hby dm_4_61 (XT.i0_le_f (by decide : (0 : Int32) < (1 : Int32))) ?_
 refine aA X0 hx hby dm_4_64 rfl rfl ?_
 refine iC X0 hx hby dm_4_65 (v := 0) rfl ?_
 have av11 := V1
 obtain ⟨cl11, Ar11, -, Sz11, Nn11, Ha11, Gf11⟩ := av11
 have hin11 : ¬ ((0 : Int32) < 0 ∨ cl11.slots.size ≤ ((0 : Int32)).toNatClampNeg) := inb_of Sz11 ⟨by decide, by decide⟩
 have hat11 : cl11.slots[((0 : Int32)).toNatClampNeg]? = some (.int c0) := Ha11.at hin11 rfl
 refine Go.by (X0.caload hx (j := (0 : Int32)) (v := (.int c0)) (by rw [e0]; exact Ar11.1) (State.isArrayOf_alike hZ.alike Ar11.2.1) Ar11.2.2 hin11 hat11 (g := (mkF m 66 #[(vR a1), (vI 1)] [(.int 0), (.ref a1)])) rfl rfl (hb hby dm_4_66)) ?_
 show oG p e below P m s₁ 67 #[(vR a1), (vI 1)] [(.int c0)]
 refine bC X0 hx hby dm_4_67 (v := 47) rfl ?_
 by_cases hc69_12 : c0 = (47 : Int32)
 · refine cN X0 hx hby dm_4_69 (XT.ii_ne_f hc69_12) ?_
   refine iC X0 hx hby dm_4_72 (v := 0) rfl ?_
   refine r_val hP hlk hret X0 hx hby dm_4_73 rfl (Or.inl ⟨rfl, Or.inl rfl, _, rfl⟩) (by decide) ?_
   rw [e0]
   exact ⟨by simp [own_l1, hc69_12], N0, rfl⟩
 · refine cY X0 hx hby dm_4_69 (pc' := 74) (XT.ii_ne_t hc69_12) (by decide) ?_
   refine iC X0 hx hby dm_4_74 (v := (-1)) rfl ?_
   refine r_val hP hlk hret X0 hx hby dm_4_75 rfl (Or.inl ⟨rfl, Or.inl rfl, _, rfl⟩) (by decide) ?_
   rw [e0]
   exact ⟨by simp [own_l1, hc69_12], N0, rfl⟩
def Q_lastSlash2 (Z : State) (a1 : Addr) (k1 : ClassId) (c0 c1 c2 c3 c4 : Int32) (h0 : Heap) (n0 : Nat) (v : Option Value) (h : Heap) (L : List Loc) : Prop := v = some (.int (own_l2 c0 c1)) ∧ Fr n0 L ∧ h = h0
theorem rm_lastSlash2 (l : Launch) (Z : State) (a0 : Array Value) (hw : oW a0 Z) (ws : List Jvm.Cond) (a1 : Addr) (k1 : ClassId) (c0 c1 c2 c3 c4 : Int32) (h0 : Heap) (n0 : Nat) (Z0 : n0 ≤ h0.size) (V1 : Arv Z h0 a1 k1 .char (5 : Int32) [(.int c0), (.int c1), (.int c2), (.int c3), (.int c4)] (.int 0)) :
   oM l oY9 method_4_code 2 (some .int) ws (own_R 0 0 0 0) #[(.ref a1), (.int 2)] Z h0 (Q_lastSlash2 Z a1 k1 c0 c1 c2 c3 c4 h0 n0) := by
 refine own_open (n0 := n0) (cn := "jarkeep/source/SourceDirectoryOfPinLaw") rfl (plainFor_of_name pn4) (L0 := #[(vR a1), (vI 2)]) (fun _ => by first | (simp [entryFrame, mkF, argsToLocals, Value.category]; done) | rfl) ?_
 intro p e s m below meth c s₁ P hx hby hml hown hnm X0 e0 N0 hlk hret hZ hP
 refine iA X0 hx hby dm_4_0 rfl ?_
 refine iC X0 hx hby dm_4_1 (v := 4) rfl ?_
 refine cY X0 hx hby dm_4_2 (pc' := 15) (XT.ii_le_t (by decide : ¬ (4 : Int32) < (2 : Int32))) (by decide) ?_
 refine iA X0 hx hby dm_4_15 rfl ?_
 refine iC X0 hx hby dm_4_16 (v := 3) rfl ?_
 refine cY X0 hx hby dm_4_17 (pc' := 30) (XT.ii_le_t (by decide : ¬ (3 : Int32) < (2 : Int32))) (by decide) ?_
 refine iA X0 hx hby dm_4_30 rfl ?_
 refine iC X0 hx hby dm_4_31 (v := 2) rfl ?_
 refine cY X0 hx hby dm_4_32 (pc' := 45) (XT.ii_le_t (by decide : ¬ (2 : Int32) < (2 : Int32))) (by decide) ?_
 refine iA X0 hx hby dm_4_45 rfl ?_
 refine iC X0 hx hby dm_4_46 (v := 1) rfl ?_
 refine cN X0 hx hby dm_4_47 (XT.ii_le_f (by decide : (1 : Int32) < (2 : Int32))) ?_
 refine aA X0 hx hby dm_4_50 rfl rfl ?_
 refine iC X0 hx hby dm_4_51 (v := 1) rfl ?_
 have av11 := V1
 obtain ⟨cl11, Ar11, -, Sz11, Nn11, Ha11, Gf11⟩ := av11
 have hin11 : ¬ ((1 : Int32) < 0 ∨ cl11.slots.size ≤ ((1 : Int32)).toNatClampNeg) := inb_of Sz11 ⟨by decide, by decide⟩
 have hat11 : cl11.slots[((1 : Int32)).toNatClampNeg]? = some (.int c1) := Ha11.at hin11 rfl
 refine Go.by (X0.caload hx (j := (1 : Int32)) (v := (.int c1)) (by rw [e0]; exact Ar11.1) (State.isArrayOf_alike hZ.alike Ar11.2.1) Ar11.2.2 hin11 hat11 (g := (mkF m 52 #[(vR a1), (vI 2)] [(.int 1), (.ref a1)])) rfl rfl (hb hby dm_4_52)) ?_
 show oG p e below P m s₁ 53 #[(vR a1), (vI 2)] [(.int c1)]
 refine bC X0 hx hby dm_4_53 (v := 47) rfl ?_
 by_cases hc55_12 : c1 = (47 : Int32)
 · refine cN X0 hx hby dm_4_55 (XT.ii_ne_f hc55_12) ?_
   refine iC X0 hx hby dm_4_58 (v := 1) rfl ?_
   refine r_val hP hlk hret X0 hx hby dm_4_59 rfl (Or.inl ⟨rfl, Or.inl rfl, _, rfl⟩) (by decide) ?_
   rw [e0]
   exact ⟨by simp [own_l2, own_l1, hc55_12], N0, rfl⟩
 · refine cY X0 hx hby dm_4_55 (pc' := 60) (XT.ii_ne_t hc55_12) (by decide) ?_
   refine iA X0 hx hby dm_4_60 rfl ?_
   refine fN X0 hx hby dm_4_61 (XT.i0_le_f (by decide : (0 : Int32) < (2 : Int32))) ?_
   refine aA X0 hx hby dm_4_64 rfl rfl ?_
   refine iC X0 hx hby dm_4_65 (v := 0) rfl ?_
   have av13 := V1
   obtain ⟨cl13, Ar13, -, Sz13, Nn13, Ha13, Gf13⟩ := av13
   have hin13 : ¬ ((0 : Int32) < 0 ∨ cl13.slots.size ≤ ((0 : Int32)).toNatClampNeg) := inb_of Sz13 ⟨by decide, by decide⟩
   have hat13 : cl13.slots[((0 : Int32)).toNatClampNeg]? = some (.int c0) := Ha13.at hin13 rfl
   refine Go.by (X0.caload hx (j := (0 : Int32)) (v := (.int c0)) (by rw [e0]; exact Ar13.1) (State.isArrayOf_alike hZ.alike Ar13.2.1) Ar13.2.2 hin13 hat13 (g := (mkF m 66 #[(vR a1), (vI 2)] [(.int 0), (.ref a1)])) rfl rfl (hb hby dm_4_66)) ?_
   show oG p e below P m s₁ 67 #[(vR a1), (vI 2)] [(.int c0)]
   refine bC X0 hx hby dm_4_67 (v := 47) rfl ?_
   by_cases hc69_14 : c0 = (47 : Int32)
   · refine cN X0 hx hby dm_4_69 (XT.ii_ne_f hc69_14) ?_
     refine iC X0 hx hby dm_4_72 (v := 0) rfl ?_
     refine r_val hP hlk hret X0 hx hby dm_4_73 rfl (Or.inl ⟨rfl, Or.inl rfl, _, rfl⟩) (by decide) ?_
     rw [e0]
     exact ⟨by simp [own_l2, own_l1, hc55_12, hc69_14], N0, rfl⟩
   · refine cY X0 hx hby dm_4_69 (pc' := 74) (XT.ii_ne_t hc69_14) (by decide) ?_
     refine iC X0 hx hby dm_4_74 (v := (-1)) rfl ?_
     refine r_val hP hlk hret X0 hx hby dm_4_75 rfl (Or.inl ⟨rfl, Or.inl rfl, _, rfl⟩) (by decide) ?_
     rw [e0]
     exact ⟨by simp [own_l2, own_l1, hc55_12, hc69_14], N0, rfl⟩
def Q_lastSlash3 (Z : State) (a1 : Addr) (k1 : ClassId) (c0 c1 c2 c3 c4 : Int32) (h0 : Heap) (n0 : Nat) (v : Option Value) (h : Heap) (L : List Loc) : Prop := v = some (.int (own_l3 c0 c1 c2)) ∧ Fr n0 L ∧ h = h0
theorem rm_lastSlash3 (l : Launch) (Z : State) (a0 : Array Value) (hw : oW a0 Z) (ws : List Jvm.Cond) (a1 : Addr) (k1 : ClassId) (c0 c1 c2 c3 c4 : Int32) (h0 : Heap) (n0 : Nat) (Z0 : n0 ≤ h0.size) (V1 : Arv Z h0 a1 k1 .char (5 : Int32) [(.int c0), (.int c1), (.int c2), (.int c3), (.int c4)] (.int 0)) :
   oM l oY9 method_4_code 2 (some .int) ws (own_R 0 0 0 0) #[(.ref a1), (.int 3)] Z h0 (Q_lastSlash3 Z a1 k1 c0 c1 c2 c3 c4 h0 n0) := by
 refine own_open (n0 := n0) (cn := "jarkeep/source/SourceDirectoryOfPinLaw") rfl (plainFor_of_name pn4) (L0 := #[(vR a1), (vI 3)]) (fun _ => by first | (simp [entryFrame, mkF, argsToLocals, Value.category]; done) | rfl) ?_
 intro p e s m below meth c s₁ P hx hby hml hown hnm X0 e0 N0 hlk hret hZ hP
 refine iA X0 hx hby dm_4_0 rfl ?_
 refine iC X0 hx hby dm_4_1 (v := 4) rfl ?_
 refine cY X0 hx hby dm_4_2 (pc' := 15) (XT.ii_le_t (by decide : ¬ (4 : Int32) < (3 : Int32))) (by decide) ?_
 refine iA X0 hx hby dm_4_15 rfl ?_
 refine iC X0 hx hby dm_4_16 (v := 3) rfl ?_
 refine cY X0 hx hby dm_4_17 (pc' := 30) (XT.ii_le_t (by decide : ¬ (3 : Int32) < (3 : Int32))) (by decide) ?_
 refine iA X0 hx hby dm_4_30 rfl ?_
 refine iC X0 hx hby dm_4_31 (v := 2) rfl ?_
 refine cN X0 hx hby dm_4_32 (XT.ii_le_f (by decide : (2 : Int32) < (3 : Int32))) ?_
 refine aA X0 hx hby dm_4_35 rfl rfl ?_
 refine iC X0 hx hby dm_4_36 (v := 2) rfl ?_
 have av11 := V1
 obtain ⟨cl11, Ar11, -, Sz11, Nn11, Ha11, Gf11⟩ := av11
 have hin11 : ¬ ((2 : Int32) < 0 ∨ cl11.slots.size ≤ ((2 : Int32)).toNatClampNeg) := inb_of Sz11 ⟨by decide, by decide⟩
 have hat11 : cl11.slots[((2 : Int32)).toNatClampNeg]? = some (.int c2) := Ha11.at hin11 rfl
 refine Go.by (X0.caload hx (j := (2 : Int32)) (v := (.int c2)) (by rw [e0]; exact Ar11.1) (State.isArrayOf_alike hZ.alike Ar11.2.1) Ar11.2.2 hin11 hat11 (g := (mkF m 37 #[(vR a1), (vI 3)] [(.int 2), (.ref a1)])) rfl rfl (hb hby dm_4_37)) ?_
 show oG p e below P m s₁ 38 #[(vR a1), (vI 3)] [(.int c2)]
 refine bC X0 hx hby dm_4_38 (v := 47) rfl ?_
 by_cases hc40_12 : c2 = (47 : Int32)
 · refine cN X0 hx hby dm_4_40 (XT.ii_ne_f hc40_12) ?_
   refine iC X0 hx hby dm_4_43 (v := 2) rfl ?_
   refine r_val hP hlk hret X0 hx hby dm_4_44 rfl (Or.inl ⟨rfl, Or.inl rfl, _, rfl⟩) (by decide) ?_
   rw [e0]
   exact ⟨by simp [own_l3, own_l2, own_l1, hc40_12], N0, rfl⟩
 · refine cY X0 hx hby dm_4_40 (pc' := 45) (XT.ii_ne_t hc40_12) (by decide) ?_
   refine iA X0 hx hby dm_4_45 rfl ?_
   refine iC X0 hx hby dm_4_46 (v := 1) rfl ?_
   refine cN X0 hx hby dm_4_47 (XT.ii_le_f (by decide : (1 : Int32) < (3 : Int32))) ?_
   refine aA X0 hx hby dm_4_50 rfl rfl ?_
   refine iC X0 hx hby dm_4_51 (v := 1) rfl ?_
   have av13 := V1
   obtain ⟨cl13, Ar13, -, Sz13, Nn13, Ha13, Gf13⟩ := av13
   have hin13 : ¬ ((1 : Int32) < 0 ∨ cl13.slots.size ≤ ((1 : Int32)).toNatClampNeg) := inb_of Sz13 ⟨by decide, by decide⟩
   have hat13 : cl13.slots[((1 : Int32)).toNatClampNeg]? = some (.int c1) := Ha13.at hin13 rfl
   refine Go.by (X0.caload hx (j := (1 : Int32)) (v := (.int c1)) (by rw [e0]; exact Ar13.1) (State.isArrayOf_alike hZ.alike Ar13.2.1) Ar13.2.2 hin13 hat13 (g := (mkF m 52 #[(vR a1), (vI 3)] [(.int 1), (.ref a1)])) rfl rfl (hb hby dm_4_52)) ?_
   show oG p e below P m s₁ 53 #[(vR a1), (vI 3)] [(.int c1)]
   refine bC X0 hx hby dm_4_53 (v := 47) rfl ?_
   by_cases hc55_14 : c1 = (47 : Int32)
   · refine cN X0 hx hby dm_4_55 (XT.ii_ne_f hc55_14) ?_
     refine iC X0 hx hby dm_4_58 (v := 1) rfl ?_
     refine r_val hP hlk hret X0 hx hby dm_4_59 rfl (Or.inl ⟨rfl, Or.inl rfl, _, rfl⟩) (by decide) ?_
     rw [e0]
     exact ⟨by simp [own_l3, own_l2, own_l1, hc40_12, hc55_14], N0, rfl⟩
   · refine cY X0 hx hby dm_4_55 (pc' := 60) (XT.ii_ne_t hc55_14) (by decide) ?_
     refine iA X0 hx hby dm_4_60 rfl ?_
     refine fN X0 hx hby dm_4_61 (XT.i0_le_f (by decide : (0 : Int32) < (3 : Int32))) ?_
     refine aA X0 hx hby dm_4_64 rfl rfl ?_
     refine iC X0 hx hby dm_4_65 (v := 0) rfl ?_
     have av15 := V1
     obtain ⟨cl15, Ar15, -, Sz15, Nn15, Ha15, Gf15⟩ := av15
     have hin15 : ¬ ((0 : Int32) < 0 ∨ cl15.slots.size ≤ ((0 : Int32)).toNatClampNeg) := inb_of Sz15 ⟨by decide, by decide⟩
     have hat15 : cl15.slots[((0 : Int32)).toNatClampNeg]? = some (.int c0) := Ha15.at hin15 rfl
     refine Go.by (X0.caload hx (j := (0 : Int32)) (v := (.int c0)) (by rw [e0]; exact Ar15.1) (State.isArrayOf_alike hZ.alike Ar15.2.1) Ar15.2.2 hin15 hat15 (g := (mkF m 66 #[(vR a1), (vI 3)] [(.int 0), (.ref a1)])) rfl rfl (hb hby dm_4_66)) ?_
     show oG p e below P m s₁ 67 #[(vR a1), (vI 3)] [(.int c0)]
     refine bC X0 hx hby dm_4_67 (v := 47) rfl ?_
     by_cases hc69_16 : c0 = (47 : Int32)
     · refine cN X0 hx hby dm_4_69 (XT.ii_ne_f hc69_16) ?_
       refine iC X0 hx hby dm_4_72 (v := 0) rfl ?_
       refine r_val hP hlk hret X0 hx hby dm_4_73 rfl (Or.inl ⟨rfl, Or.inl rfl, _, rfl⟩) (by decide) ?_
       rw [e0]
       exact ⟨by simp [own_l3, own_l2, own_l1, hc40_12, hc55_14, hc69_16], N0, rfl⟩
     · refine cY X0 hx hby dm_4_69 (pc' := 74) (XT.ii_ne_t hc69_16) (by decide) ?_
       refine iC X0 hx hby dm_4_74 (v := (-1)) rfl ?_
       refine r_val hP hlk hret X0 hx hby dm_4_75 rfl (Or.inl ⟨rfl, Or.inl rfl, _, rfl⟩) (by decide) ?_
       rw [e0]
       exact ⟨by simp [own_l3, own_l2, own_l1, hc40_12, hc55_14, hc69_16], N0, rfl⟩
def Q_lastSlash4 (Z : State) (a1 : Addr) (k1 : ClassId) (c0 c1 c2 c3 c4 : Int32) (h0 : Heap) (n0 : Nat) (v : Option Value) (h : Heap) (L : List Loc) : Prop := v = some (.int (own_l4 c0 c1 c2 c3)) ∧ Fr n0 L ∧ h = h0
theorem rm_lastSlash4 (l : Launch) (Z : State) (a0 : Array Value) (hw : oW a0 Z) (ws : List Jvm.Cond) (a1 : Addr) (k1 : ClassId) (c0 c1 c2 c3 c4 : Int32) (h0 : Heap) (n0 : Nat) (Z0 : n0 ≤ h0.size) (V1 : Arv Z h0 a1 k1 .char (5 : Int32) [(.int c0), (.int c1), (.int c2), (.int c3), (.int c4)] (.int 0)) :
   oM l oY9 method_4_code 2 (some .int) ws (own_R 0 0 0 0) #[(.ref a1), (.int 4)] Z h0 (Q_lastSlash4 Z a1 k1 c0 c1 c2 c3 c4 h0 n0) := by
 refine own_open (n0 := n0) (cn := "jarkeep/source/SourceDirectoryOfPinLaw") rfl (plainFor_of_name pn4) (L0 := #[(vR a1), (vI 4)]) (fun _ => by first | (simp [entryFrame, mkF, argsToLocals, Value.category]; done) | rfl) ?_
 intro p e s m below meth c s₁ P hx hby hml hown hnm X0 e0 N0 hlk hret hZ hP
 refine iA X0 hx hby dm_4_0 rfl ?_
 refine iC X0 hx hby dm_4_1 (v := 4) rfl ?_
 refine cY X0 hx hby dm_4_2 (pc' := 15) (XT.ii_le_t (by decide : ¬ (4 : Int32) < (4 : Int32))) (by decide) ?_
 refine iA X0 hx hby dm_4_15 rfl ?_
 refine iC X0 hx hby dm_4_16 (v := 3) rfl ?_
 refine cN X0 hx hby dm_4_17 (XT.ii_le_f (by decide : (3 : Int32) < (4 : Int32))) ?_
 refine aA X0 hx hby dm_4_20 rfl rfl ?_
 refine iC X0 hx hby dm_4_21 (v := 3) rfl ?_
 have av11 := V1
 obtain ⟨cl11, Ar11, -, Sz11, Nn11, Ha11, Gf11⟩ := av11
 have hin11 : ¬ ((3 : Int32) < 0 ∨ cl11.slots.size ≤ ((3 : Int32)).toNatClampNeg) := inb_of Sz11 ⟨by decide, by decide⟩
 have hat11 : cl11.slots[((3 : Int32)).toNatClampNeg]? = some (.int c3) := Ha11.at hin11 rfl
 refine Go.by (X0.caload hx (j := (3 : Int32)) (v := (.int c3)) (by rw [e0]; exact Ar11.1) (State.isArrayOf_alike hZ.alike Ar11.2.1) Ar11.2.2 hin11 hat11 (g := (mkF m 22 #[(vR a1), (vI 4)] [(.int 3), (.ref a1)])) rfl rfl (hb hby dm_4_22)) ?_
 show oG p e below P m s₁ 23 #[(vR a1), (vI 4)] [(.int c3)]
 refine bC X0 hx hby dm_4_23 (v := 47) rfl ?_
 by_cases hc25_12 : c3 = (47 : Int32)
 · refine cN X0 hx hby dm_4_25 (XT.ii_ne_f hc25_12) ?_
   refine iC X0 hx hby dm_4_28 (v := 3) rfl ?_
   refine r_val hP hlk hret X0 hx hby dm_4_29 rfl (Or.inl ⟨rfl, Or.inl rfl, _, rfl⟩) (by decide) ?_
   rw [e0]
   exact ⟨by simp [own_l4, own_l3, own_l2, own_l1, hc25_12], N0, rfl⟩
 · refine cY X0 hx hby dm_4_25 (pc' := 30) (XT.ii_ne_t hc25_12) (by decide) ?_
   refine iA X0 hx hby dm_4_30 rfl ?_
   refine iC X0 hx hby dm_4_31 (v := 2) rfl ?_
   refine cN X0 hx hby dm_4_32 (XT.ii_le_f (by decide : (2 : Int32) < (4 : Int32))) ?_
   refine aA X0 hx hby dm_4_35 rfl rfl ?_
   refine iC X0 hx hby dm_4_36 (v := 2) rfl ?_
   have av13 := V1
   obtain ⟨cl13, Ar13, -, Sz13, Nn13, Ha13, Gf13⟩ := av13
   have hin13 : ¬ ((2 : Int32) < 0 ∨ cl13.slots.size ≤ ((2 : Int32)).toNatClampNeg) := inb_of Sz13 ⟨by decide, by decide⟩
   have hat13 : cl13.slots[((2 : Int32)).toNatClampNeg]? = some (.int c2) := Ha13.at hin13 rfl
   refine Go.by (X0.caload hx (j := (2 : Int32)) (v := (.int c2)) (by rw [e0]; exact Ar13.1) (State.isArrayOf_alike hZ.alike Ar13.2.1) Ar13.2.2 hin13 hat13 (g := (mkF m 37 #[(vR a1), (vI 4)] [(.int 2), (.ref a1)])) rfl rfl (hb hby dm_4_37)) ?_
   show oG p e below P m s₁ 38 #[(vR a1), (vI 4)] [(.int c2)]
   refine bC X0 hx hby dm_4_38 (v := 47) rfl ?_
   by_cases hc40_14 : c2 = (47 : Int32)
   · refine cN X0 hx hby dm_4_40 (XT.ii_ne_f hc40_14) ?_
     refine iC X0 hx hby dm_4_43 (v := 2) rfl ?_
     refine r_val hP hlk hret X0 hx hby dm_4_44 rfl (Or.inl ⟨rfl, Or.inl rfl, _, rfl⟩) (by decide) ?_
     rw [e0]
     exact ⟨by simp [own_l4, own_l3, own_l2, own_l1, hc25_12, hc40_14], N0, rfl⟩
   · refine cY X0 hx hby dm_4_40 (pc' := 45) (XT.ii_ne_t hc40_14) (by decide) ?_
     refine iA X0 hx hby dm_4_45 rfl ?_
     refine iC X0 hx hby dm_4_46 (v := 1) rfl ?_
     refine cN X0 hx hby dm_4_47 (XT.ii_le_f (by decide : (1 : Int32) < (4 : Int32))) ?_
     refine aA X0 hx hby dm_4_50 rfl rfl ?_
     refine iC X0 hx hby dm_4_51 (v := 1) rfl ?_
     have av15 := V1
     obtain ⟨cl15, Ar15, -, Sz15, Nn15, Ha15, Gf15⟩ := av15
     have hin15 : ¬ ((1 : Int32) < 0 ∨ cl15.slots.size ≤ ((1 : Int32)).toNatClampNeg) := inb_of Sz15 ⟨by decide, by decide⟩
     have hat15 : cl15.slots[((1 : Int32)).toNatClampNeg]? = some (.int c1) := Ha15.at hin15 rfl
     refine Go.by (X0.caload hx (j := (1 : Int32)) (v := (.int c1)) (by rw [e0]; exact Ar15.1) (State.isArrayOf_alike hZ.alike Ar15.2.1) Ar15.2.2 hin15 hat15 (g := (mkF m 52 #[(vR a1), (vI 4)] [(.int 1), (.ref a1)])) rfl rfl (hb hby dm_4_52)) ?_
     show oG p e below P m s₁ 53 #[(vR a1), (vI 4)] [(.int c1)]
     refine bC X0 hx hby dm_4_53 (v := 47) rfl ?_
     by_cases hc55_16 : c1 = (47 : Int32)
     · refine cN X0 hx hby dm_4_55 (XT.ii_ne_f hc55_16) ?_
       refine iC X0 hx hby dm_4_58 (v := 1) rfl ?_
       refine r_val hP hlk hret X0 hx hby dm_4_59 rfl (Or.inl ⟨rfl, Or.inl rfl, _, rfl⟩) (by decide) ?_
       rw [e0]
       exact ⟨by simp [own_l4, own_l3, own_l2, own_l1, hc25_12, hc40_14, hc55_16], N0, rfl⟩
     · refine cY X0 hx hby dm_4_55 (pc' := 60) (XT.ii_ne_t hc55_16) (by decide) ?_
       refine iA X0 hx hby dm_4_60 rfl ?_
       refine fN X0 hx hby dm_4_61 (XT.i0_le_f (by decide : (0 : Int32) < (4 : Int32))) ?_
       refine aA X0 hx hby dm_4_64 rfl rfl ?_
       refine iC X0 hx hby dm_4_65 (v := 0) rfl ?_
       have av17 := V1
       obtain ⟨cl17, Ar17, -, Sz17, Nn17, Ha17, Gf17⟩ := av17
       have hin17 : ¬ ((0 : Int32) < 0 ∨ cl17.slots.size ≤ ((0 : Int32)).toNatClampNeg) := inb_of Sz17 ⟨by decide, by decide⟩
       have hat17 : cl17.slots[((0 : Int32)).toNatClampNeg]? = some (.int c0) := Ha17.at hin17 rfl
       refine Go.by (X0.caload hx (j := (0 : Int32)) (v := (.int c0)) (by rw [e0]; exact Ar17.1) (State.isArrayOf_alike hZ.alike Ar17.2.1) Ar17.2.2 hin17 hat17 (g := (mkF m 66 #[(vR a1), (vI 4)] [(.int 0), (.ref a1)])) rfl rfl (hb hby dm_4_66)) ?_
       show oG p e below P m s₁ 67 #[(vR a1), (vI 4)] [(.int c0)]
       refine bC X0 hx hby dm_4_67 (v := 47) rfl ?_
       by_cases hc69_18 : c0 = (47 : Int32)
       · refine cN X0 hx hby dm_4_69 (XT.ii_ne_f hc69_18) ?_
         refine iC X0 hx hby dm_4_72 (v := 0) rfl ?_
         refine r_val hP hlk hret X0 hx hby dm_4_73 rfl (Or.inl ⟨rfl, Or.inl rfl, _, rfl⟩) (by decide) ?_
         rw [e0]
         exact ⟨by simp [own_l4, own_l3, own_l2, own_l1, hc25_12, hc40_14, hc55_16, hc69_18], N0, rfl⟩
       · refine cY X0 hx hby dm_4_69 (pc' := 74) (XT.ii_ne_t hc69_18) (by decide) ?_
         refine iC X0 hx hby dm_4_74 (v := (-1)) rfl ?_
         refine r_val hP hlk hret X0 hx hby dm_4_75 rfl (Or.inl ⟨rfl, Or.inl rfl, _, rfl⟩) (by decide) ?_
         rw [e0]
         exact ⟨by simp [own_l4, own_l3, own_l2, own_l1, hc25_12, hc40_14, hc55_16, hc69_18], N0, rfl⟩
def Q_lastSlash5 (Z : State) (a1 : Addr) (k1 : ClassId) (c0 c1 c2 c3 c4 : Int32) (h0 : Heap) (n0 : Nat) (v : Option Value) (h : Heap) (L : List Loc) : Prop := v = some (.int (own_l5 c0 c1 c2 c3 c4)) ∧ Fr n0 L ∧ h = h0
theorem rm_lastSlash5 (l : Launch) (Z : State) (a0 : Array Value) (hw : oW a0 Z) (ws : List Jvm.Cond) (a1 : Addr) (k1 : ClassId) (c0 c1 c2 c3 c4 : Int32) (h0 : Heap) (n0 : Nat) (Z0 : n0 ≤ h0.size) (V1 : Arv Z h0 a1 k1 .char (5 : Int32) [(.int c0), (.int c1), (.int c2), (.int c3), (.int c4)] (.int 0)) :
   oM l oY9 method_4_code 2 (some .int) ws (own_R 0 0 0 0) #[(.ref a1), (.int 5)] Z h0 (Q_lastSlash5 Z a1 k1 c0 c1 c2 c3 c4 h0 n0) := by
 refine own_open (n0 := n0) (cn := "jarkeep/source/SourceDirectoryOfPinLaw") rfl (plainFor_of_name pn4) (L0 := #[(vR a1), (vI 5)]) (fun _ => by first | (simp [entryFrame, mkF, argsToLocals, Value.category]; done) | rfl) ?_
 intro p e s m below meth c s₁ P hx hby hml hown hnm X0 e0 N0 hlk hret hZ hP
 refine iA X0 hx hby dm_4_0 rfl ?_
 refine iC X0 hx hby dm_4_1 (v := 4) rfl ?_
 refine cN X0 hx hby dm_4_2 (XT.ii_le_f (by decide : (4 : Int32) < (5 : Int32))) ?_
 refine aA X0 hx hby dm_4_5 rfl rfl ?_
 refine iC X0 hx hby dm_4_6 (v := 4) rfl ?_
 have av11 := V1
 obtain ⟨cl11, Ar11, -, Sz11, Nn11, Ha11, Gf11⟩ := av11
 have hin11 : ¬ ((4 : Int32) < 0 ∨ cl11.slots.size ≤ ((4 : Int32)).toNatClampNeg) := inb_of Sz11 ⟨by decide, by decide⟩
 have hat11 : cl11.slots[((4 : Int32)).toNatClampNeg]? = some (.int c4) := Ha11.at hin11 rfl
 refine Go.by (X0.caload hx (j := (4 : Int32)) (v := (.int c4)) (by rw [e0]; exact Ar11.1) (State.isArrayOf_alike hZ.alike Ar11.2.1) Ar11.2.2 hin11 hat11 (g := (mkF m 7 #[(vR a1), (vI 5)] [(.int 4), (.ref a1)])) rfl rfl (hb hby dm_4_7)) ?_
 show oG p e below P m s₁ 8 #[(vR a1), (vI 5)] [(.int c4)]
 refine bC X0 hx hby dm_4_8 (v := 47) rfl ?_
 by_cases hc10_12 : c4 = (47 : Int32)
 · refine cN X0 hx hby dm_4_10 (XT.ii_ne_f hc10_12) ?_
   refine iC X0 hx hby dm_4_13 (v := 4) rfl ?_
   refine r_val hP hlk hret X0 hx hby dm_4_14 rfl (Or.inl ⟨rfl, Or.inl rfl, _, rfl⟩) (by decide) ?_
   rw [e0]
   exact ⟨by simp [own_l5, own_l4, own_l3, own_l2, own_l1, hc10_12], N0, rfl⟩
 · refine cY X0 hx hby dm_4_10 (pc' := 15) (XT.ii_ne_t hc10_12) (by decide) ?_
   refine iA X0 hx hby dm_4_15 rfl ?_
   refine iC X0 hx hby dm_4_16 (v := 3) rfl ?_
   refine cN X0 hx hby dm_4_17 (XT.ii_le_f (by decide : (3 : Int32) < (5 : Int32))) ?_
   refine aA X0 hx hby dm_4_20 rfl rfl ?_
   refine iC X0 hx hby dm_4_21 (v := 3) rfl ?_
   have av13 := V1
   obtain ⟨cl13, Ar13, -, Sz13, Nn13, Ha13, Gf13⟩ := av13
   have hin13 : ¬ ((3 : Int32) < 0 ∨ cl13.slots.size ≤ ((3 : Int32)).toNatClampNeg) := inb_of Sz13 ⟨by decide, by decide⟩
   have hat13 : cl13.slots[((3 : Int32)).toNatClampNeg]? = some (.int c3) := Ha13.at hin13 rfl
   refine Go.by (X0.caload hx (j := (3 : Int32)) (v := (.int c3)) (by rw [e0]; exact Ar13.1) (State.isArrayOf_alike hZ.alike Ar13.2.1) Ar13.2.2 hin13 hat13 (g := (mkF m 22 #[(vR a1), (vI 5)] [(.int 3), (.ref a1)])) rfl rfl (hb hby dm_4_22)) ?_
   show oG p e below P m s₁ 23 #[(vR a1), (vI 5)] [(.int c3)]
   refine bC X0 hx hby dm_4_23 (v := 47) rfl ?_
   by_cases hc25_14 : c3 = (47 : Int32)
   · refine cN X0 hx hby dm_4_25 (XT.ii_ne_f hc25_14) ?_
     refine iC X0 hx hby dm_4_28 (v := 3) rfl ?_
     refine r_val hP hlk hret X0 hx hby dm_4_29 rfl (Or.inl ⟨rfl, Or.inl rfl, _, rfl⟩) (by decide) ?_
     rw [e0]
     exact ⟨by simp [own_l5, own_l4, own_l3, own_l2, own_l1, hc10_12, hc25_14], N0, rfl⟩
   · refine cY X0 hx hby dm_4_25 (pc' := 30) (XT.ii_ne_t hc25_14) (by decide) ?_
     refine iA X0 hx hby dm_4_30 rfl ?_
     refine iC X0 hx hby dm_4_31 (v := 2) rfl ?_
     refine cN X0 hx hby dm_4_32 (XT.ii_le_f (by decide : (2 : Int32) < (5 : Int32))) ?_
     refine aA X0 hx hby dm_4_35 rfl rfl ?_
     refine iC X0 hx hby dm_4_36 (v := 2) rfl ?_
     have av15 := V1
     obtain ⟨cl15, Ar15, -, Sz15, Nn15, Ha15, Gf15⟩ := av15
     have hin15 : ¬ ((2 : Int32) < 0 ∨ cl15.slots.size ≤ ((2 : Int32)).toNatClampNeg) := inb_of Sz15 ⟨by decide, by decide⟩
     have hat15 : cl15.slots[((2 : Int32)).toNatClampNeg]? = some (.int c2) := Ha15.at hin15 rfl
     refine Go.by (X0.caload hx (j := (2 : Int32)) (v := (.int c2)) (by rw [e0]; exact Ar15.1) (State.isArrayOf_alike hZ.alike Ar15.2.1) Ar15.2.2 hin15 hat15 (g := (mkF m 37 #[(vR a1), (vI 5)] [(.int 2), (.ref a1)])) rfl rfl (hb hby dm_4_37)) ?_
     show oG p e below P m s₁ 38 #[(vR a1), (vI 5)] [(.int c2)]
     refine bC X0 hx hby dm_4_38 (v := 47) rfl ?_
     by_cases hc40_16 : c2 = (47 : Int32)
     · refine cN X0 hx hby dm_4_40 (XT.ii_ne_f hc40_16) ?_
       refine iC X0 hx hby dm_4_43 (v := 2) rfl ?_
       refine r_val hP hlk hret X0 hx hby dm_4_44 rfl (Or.inl ⟨rfl, Or.inl rfl, _, rfl⟩) (by decide) ?_
       rw [e0]
       exact ⟨by simp [own_l5, own_l4, own_l3, own_l2, own_l1, hc10_12, hc25_14, hc40_16], N0, rfl⟩
     · refine cY X0 hx hby dm_4_40 (pc' := 45) (XT.ii_ne_t hc40_16) (by decide) ?_
       refine iA X0 hx hby dm_4_45 rfl ?_
       refine iC X0 hx hby dm_4_46 (v := 1) rfl ?_
       refine cN X0 hx hby dm_4_47 (XT.ii_le_f (by decide : (1 : Int32) < (5 : Int32))) ?_
       refine aA X0 hx hby dm_4_50 rfl rfl ?_
       refine iC X0 hx hby dm_4_51 (v := 1) rfl ?_
       have av17 := V1
       obtain ⟨cl17, Ar17, -, Sz17, Nn17, Ha17, Gf17⟩ := av17
       have hin17 : ¬ ((1 : Int32) < 0 ∨ cl17.slots.size ≤ ((1 : Int32)).toNatClampNeg) := inb_of Sz17 ⟨by decide, by decide⟩
       have hat17 : cl17.slots[((1 : Int32)).toNatClampNeg]? = some (.int c1) := Ha17.at hin17 rfl
       refine Go.by (X0.caload hx (j := (1 : Int32)) (v := (.int c1)) (by rw [e0]; exact Ar17.1) (State.isArrayOf_alike hZ.alike Ar17.2.1) Ar17.2.2 hin17 hat17 (g := (mkF m 52 #[(vR a1), (vI 5)] [(.int 1), (.ref a1)])) rfl rfl (hb hby dm_4_52)) ?_
       show oG p e below P m s₁ 53 #[(vR a1), (vI 5)] [(.int c1)]
       refine bC X0 hx hby dm_4_53 (v := 47) rfl ?_
       by_cases hc55_18 : c1 = (47 : Int32)
       · refine cN X0 hx hby dm_4_55 (XT.ii_ne_f hc55_18) ?_
         refine iC X0 hx hby dm_4_58 (v := 1) rfl ?_
         refine r_val hP hlk hret X0 hx hby dm_4_59 rfl (Or.inl ⟨rfl, Or.inl rfl, _, rfl⟩) (by decide) ?_
         rw [e0]
         exact ⟨by simp [own_l5, own_l4, own_l3, own_l2, own_l1, hc10_12, hc25_14, hc40_16, hc55_18], N0, rfl⟩
       · refine cY X0 hx hby dm_4_55 (pc' := 60) (XT.ii_ne_t hc55_18) (by decide) ?_
         refine iA X0 hx hby dm_4_60 rfl ?_
         refine fN X0 hx hby dm_4_61 (XT.i0_le_f (by decide : (0 : Int32) < (5 : Int32))) ?_
         refine aA X0 hx hby dm_4_64 rfl rfl ?_
         refine iC X0 hx hby dm_4_65 (v := 0) rfl ?_
         have av19 := V1
         obtain ⟨cl19, Ar19, -, Sz19, Nn19, Ha19, Gf19⟩ := av19
         have hin19 : ¬ ((0 : Int32) < 0 ∨ cl19.slots.size ≤ ((0 : Int32)).toNatClampNeg) := inb_of Sz19 ⟨by decide, by decide⟩
         have hat19 : cl19.slots[((0 : Int32)).toNatClampNeg]? = some (.int c0) := Ha19.at hin19 rfl
         refine Go.by (X0.caload hx (j := (0 : Int32)) (v := (.int c0)) (by rw [e0]; exact Ar19.1) (State.isArrayOf_alike hZ.alike Ar19.2.1) Ar19.2.2 hin19 hat19 (g := (mkF m 66 #[(vR a1), (vI 5)] [(.int 0), (.ref a1)])) rfl rfl (hb hby dm_4_66)) ?_
         show oG p e below P m s₁ 67 #[(vR a1), (vI 5)] [(.int c0)]
         refine bC X0 hx hby dm_4_67 (v := 47) rfl ?_
         by_cases hc69_20 : c0 = (47 : Int32)
         · refine cN X0 hx hby dm_4_69 (XT.ii_ne_f hc69_20) ?_
           refine iC X0 hx hby dm_4_72 (v := 0) rfl ?_
           refine r_val hP hlk hret X0 hx hby dm_4_73 rfl (Or.inl ⟨rfl, Or.inl rfl, _, rfl⟩) (by decide) ?_
           rw [e0]
           exact ⟨by simp [own_l5, own_l4, own_l3, own_l2, own_l1, hc10_12, hc25_14, hc40_16, hc55_18, hc69_20], N0, rfl⟩
         · refine cY X0 hx hby dm_4_69 (pc' := 74) (XT.ii_ne_t hc69_20) (by decide) ?_
           refine iC X0 hx hby dm_4_74 (v := (-1)) rfl ?_
           refine r_val hP hlk hret X0 hx hby dm_4_75 rfl (Or.inl ⟨rfl, Or.inl rfl, _, rfl⟩) (by decide) ?_
           rw [e0]
           exact ⟨by simp [own_l5, own_l4, own_l3, own_l2, own_l1, hc10_12, hc25_14, hc40_16, hc55_18, hc69_20], N0, rfl⟩
def Q_startsW0 (Z : State) (a0_ a1_ : Addr) (cs : Int32) (h0 : Heap) (n0 : Nat) (v : Option Value) (h : Heap) (L : List Loc) : Prop := v = some (.int 0) ∧ Fr n0 L ∧ h = h0
theorem rm_startsW0 (l : Launch) (Z : State) (a0 : Array Value) (hw : oW a0 Z) (ws : List Jvm.Cond) (a0_ a1_ : Addr) (cs : Int32) (h0 : Heap) (n0 : Nat) (Z0 : n0 ≤ h0.size) (O0 : Old Z n0 h0) (Scs : Sta Z Z.heap "java/lang/String" "COMPACT_STRINGS" "Z" (.int cs)) (hcs : ¬ cs = (0 : Int32)) (S0 : StrV Z h0 a0_ []) (S1 : StrV Z h0 a1_ [(47 : Int32)]) :
   oM l oY7 j42_75 8 (some .boolean) ws (own_R 2 0 0 30) #[(.ref a0_), (.ref a1_), (.int (-1))] Z h0 (Q_startsW0 Z a0_ a1_ cs h0 n0) := by
 refine own_open (n0 := n0) (cn := "java/lang/String") rfl (plainFor_of_name pn0) (L0 := #[(vR a0_), (vR a1_), (vI (-1)), .unset, .unset, .unset, .unset, .unset]) (fun _ => by first | (simp [entryFrame, mkF, argsToLocals, Value.category]; done) | rfl) ?_
 intro p e s m below meth c s₁ P hx hby hml hown hnm X0 e0 N0 hlk hret hZ hP
 obtain ⟨d0, kd0, ES0, CS0, VS0, AS0⟩ := S0
 have AT0 : Arv Z h0 d0 kd0 .byte (0 : Int32) [] (.int 0) := AS0
 obtain ⟨d1, kd1, ES1, CS1, VS1, AS1⟩ := S1
 have AT1 : Arv Z h0 d1 kd1 .byte (1 : Int32) [(.int 47)] (.int 0) := AS1
 show oG p e below P m s₁ 0 #[(vR a0_), (vR a1_), (vI (-1)), .unset, .unset, .unset, .unset, .unset] []
 refine iA X0 hx hby dj42_75_0 rfl ?_
 refine fY X0 hx hby dj42_75_1 (pc' := 17) (XT.i0_lt_t (by decide : (-1 : Int32) < (0 : Int32))) (by decide) ?_
 refine iC X0 hx hby dj42_75_17 (v := 0) rfl ?_
 refine r_val hP hlk hret X0 hx hby dj42_75_18 rfl (Or.inl ⟨rfl, Or.inr (Or.inl rfl), _, rfl⟩) (by decide) ?_
 rw [e0]
 exact ⟨rfl, N0, rfl⟩
def Q_endsW0 (Z : State) (a0_ a1_ : Addr) (cs : Int32) (h0 : Heap) (n0 : Nat) (v : Option Value) (h : Heap) (L : List Loc) : Prop := v = some (.int 0) ∧ Fr n0 L ∧ h = h0
theorem rm_endsW0 (l : Launch) (Z : State) (a0 : Array Value) (hw : oW a0 Z) (ws : List Jvm.Cond) (a0_ a1_ : Addr) (cs : Int32) (h0 : Heap) (n0 : Nat) (Z0 : n0 ≤ h0.size) (O0 : Old Z n0 h0) (Scs : Sta Z Z.heap "java/lang/String" "COMPACT_STRINGS" "Z" (.int cs)) (hcs : ¬ cs = (0 : Int32)) (S0 : StrV Z h0 a0_ []) (S1 : StrV Z h0 a1_ [(47 : Int32)]) :
   oM l oY8 j42_77 2 (some .boolean) ws (own_R 3 0 0 50) #[(.ref a0_), (.ref a1_)] Z h0 (Q_endsW0 Z a0_ a1_ cs h0 n0) := by
 refine own_open (n0 := n0) (cn := "java/lang/String") rfl (plainFor_of_name pn0) (L0 := #[(vR a0_), (vR a1_)]) (fun _ => by first | (simp [entryFrame, mkF, argsToLocals, Value.category]; done) | rfl) ?_
 intro p e s m below meth c s₁ P hx hby hml hown hnm X0 e0 N0 hlk hret hZ hP
 obtain ⟨d0, kd0, ES0, CS0, VS0, AS0⟩ := S0
 have AT0 : Arv Z h0 d0 kd0 .byte (0 : Int32) [] (.int 0) := AS0
 obtain ⟨d1, kd1, ES1, CS1, VS1, AS1⟩ := S1
 have AT1 : Arv Z h0 d1 kd1 .byte (1 : Int32) [(.int 47)] (.int 0) := AS1
 show oG p e below P m s₁ 0 #[(vR a0_), (vR a1_)] []
 refine aA X0 hx hby dj42_77_0 rfl rfl ?_
 refine aA X0 hx hby dj42_77_1 rfl rfl ?_
 refine aA X0 hx hby dj42_77_2 rfl rfl ?_
 refine c_virt 2 X0 hx hby hml hZ hown (tw_37 hw) (tw_38 hw) (tw_40 hw) (tw_39 hw) (tw_41 hw) (tw_8 hw) (rm_slen l Z a0 hw [] a0_ d0 kd0 (0 : Int32) [] cs h0 n0 Z0 O0 Scs hcs ES0 CS0 VS0 AT0) e0 ES0 dj42_77_3 [] [(.ref a1_), (.ref a0_)] (lenOf pd0 rfl) rfl rfl (by rfl) (by decide) ?_
 rintro _ T11 Lc11 ⟨rfl, N11q, q11⟩ X11
 have N11 := Fr.app N0 N11q
 refine aA X11 hx hby dj42_77_6 rfl rfl ?_
 refine c_virt 3 X11 hx hby hml hZ hown (tw_37 hw) (tw_38 hw) (tw_40 hw) (tw_39 hw) (tw_41 hw) (tw_8 hw) (rm_slen l Z a0 hw [] a1_ d1 kd1 (1 : Int32) [(.int 47)] cs h0 n0 Z0 O0 Scs hcs ES1 CS1 VS1 AT1) q11 ES1 dj42_77_7 [] [(.int 0), (.ref a1_), (.ref a0_)] (lenOf pd0 rfl) rfl rfl (by rfl) (by decide) ?_
 rintro _ T12 Lc12 ⟨rfl, N12q, q12⟩ X12
 have N12 := Fr.app N11 N12q
 refine iM X12 hx hby dj42_77_10 (v := (-1)) rfl ?_
 refine c_virt 0 X12 hx hby hml hZ hown (tw_48 hw) (tw_49 hw) (tw_51 hw) (tw_50 hw) (tw_52 hw) (tw_8 hw) (rm_startsW0 l Z a0 hw [] a0_ a1_ cs h0 n0 Z0 O0 Scs hcs ⟨d0, kd0, ES0, CS0, VS0, AT0⟩ ⟨d1, kd1, ES1, CS1, VS1, AT1⟩) q12 ES0 dj42_77_11 [(.ref a1_), (.int (-1))] [] (lenOf pd14 rfl) rfl rfl (by rfl) (by decide) ?_
 rintro _ T13 Lc13 ⟨rfl, N13q, q13⟩ X13
 have N13 := Fr.app N12 N13q
 refine r_val hP hlk hret X13 hx hby dj42_77_14 rfl (Or.inl ⟨rfl, Or.inr (Or.inl rfl), _, rfl⟩) (by decide) ?_
 rw [q13]
 exact ⟨rfl, N13, rfl⟩
def Q_mism1 (Z : State) (a1 : Addr) (k1 : ClassId) (a2 : Addr) (k2 : ClassId) (x0 : Int32) (h0 : Heap) (n0 : Nat) (v : Option Value) (h : Heap) (L : List Loc) : Prop := v = some (.int (if x0 = (47 : Int32) then (-1 : Int32) else 0)) ∧ Fr n0 L ∧ h = h0
theorem rm_mism1 (l : Launch) (Z : State) (a0 : Array Value) (hw : oW a0 Z) (ws : List Jvm.Cond) (a1 : Addr) (k1 : ClassId) (a2 : Addr) (k2 : ClassId) (x0 : Int32) (h0 : Heap) (n0 : Nat) (Z0 : n0 ≤ h0.size) (V1 : Arv Z h0 a1 k1 .byte (1 : Int32) [(.int x0)] (.int 0)) (V2 : Arv Z h0 a2 k2 .byte (1 : Int32) [(.int 47)] (.int 0)) :
   oM l oY17 j48_14 8 (some .int) ws (own_R 0 0 0 0) #[(.ref a1), (.int 0), (.ref a2), (.int 0), (.int 1)] Z h0 (Q_mism1 Z a1 k1 a2 k2 x0 h0 n0) := by
 refine own_open (n0 := n0) (cn := "jdk/internal/util/ArraysSupport") rfl (plainFor_of_name pn6) (L0 := #[(vR a1), (vI 0), (vR a2), (vI 0), (vI 1), .unset, .unset, .unset]) (fun _ => by first | (simp [entryFrame, mkF, argsToLocals, Value.category]; done) | rfl) ?_
 intro p e s m below meth c s₁ P hx hby hml hown hnm X0 e0 N0 hlk hret hZ hP
 refine iC X0 hx hby dj48_14_0 (v := 0) rfl ?_
 refine iT X0 hx hby dj48_14_1 (l' := #[(vR a1), (vI 0), (vR a2), (vI 0), (vI 1), (vI 0), .unset, .unset]) rfl ?_
 refine iB X0 hx hby dj48_14_3 rfl ?_
 refine bC X0 hx hby dj48_14_5 (v := 7) rfl ?_
 refine cY X0 hx hby dj48_14_7 (pc' := 70) (XT.ii_le_t (by decide : ¬ (7 : Int32) < (1 : Int32))) (by decide) ?_
 refine iB X0 hx hby dj48_14_70 rfl ?_
 refine iB X0 hx hby dj48_14_72 rfl ?_
 refine cN X0 hx hby dj48_14_74 (XT.ii_ge_f (by decide : (0 : Int32) < (1 : Int32))) ?_
 refine aA X0 hx hby dj48_14_77 rfl rfl ?_
 refine iA X0 hx hby dj48_14_78 rfl ?_
 refine iB X0 hx hby dj48_14_79 rfl ?_
 refine iP X0 hx hby dj48_14_81 (v := 0) rfl ?_
 have av11 := V1
 obtain ⟨cl11, Ar11, -, Sz11, Nn11, Ha11, Gf11⟩ := av11
 have hin11 : ¬ ((0 : Int32) < 0 ∨ cl11.slots.size ≤ ((0 : Int32)).toNatClampNeg) := inb_of Sz11 ⟨by decide, by decide⟩
 have hat11 : cl11.slots[((0 : Int32)).toNatClampNeg]? = some (.int x0) := Ha11.at hin11 rfl
 refine Go.by (X0.baloadBytes hx (j := (0 : Int32)) (v := (.int x0)) (by rw [e0]; exact Ar11.1) (State.isArrayOf_alike hZ.alike Ar11.2.1) Ar11.2.2 hin11 hat11 (g := (mkF m 82 #[(vR a1), (vI 0), (vR a2), (vI 0), (vI 1), (vI 0), .unset, .unset] [(.int 0), (.ref a1)])) rfl rfl (hb hby dj48_14_82)) ?_
 show oG p e below P m s₁ 83 #[(vR a1), (vI 0), (vR a2), (vI 0), (vI 1), (vI 0), .unset, .unset] [(.int x0)]
 refine aA X0 hx hby dj48_14_83 rfl rfl ?_
 refine iA X0 hx hby dj48_14_84 rfl ?_
 refine iB X0 hx hby dj48_14_85 rfl ?_
 refine iP X0 hx hby dj48_14_87 (v := 0) rfl ?_
 have av12 := V2
 obtain ⟨cl12, Ar12, -, Sz12, Nn12, Ha12, Gf12⟩ := av12
 have hin12 : ¬ ((0 : Int32) < 0 ∨ cl12.slots.size ≤ ((0 : Int32)).toNatClampNeg) := inb_of Sz12 ⟨by decide, by decide⟩
 have hat12 : cl12.slots[((0 : Int32)).toNatClampNeg]? = some (.int 47) := Ha12.at hin12 rfl
 refine Go.by (X0.baloadBytes hx (j := (0 : Int32)) (v := (.int 47)) (by rw [e0]; exact Ar12.1) (State.isArrayOf_alike hZ.alike Ar12.2.1) Ar12.2.2 hin12 hat12 (g := (mkF m 88 #[(vR a1), (vI 0), (vR a2), (vI 0), (vI 1), (vI 0), .unset, .unset] [(.int 0), (.ref a2), (.int x0)])) rfl rfl (hb hby dj48_14_88)) ?_
 show oG p e below P m s₁ 89 #[(vR a1), (vI 0), (vR a2), (vI 0), (vI 1), (vI 0), .unset, .unset] [(.int 47), (.int x0)]
 by_cases hc89_13 : x0 = (47 : Int32)
 · refine cY X0 hx hby dj48_14_89 (pc' := 95) (XT.ii_eq_t hc89_13) (by decide) ?_
   refine iI X0 hx hby dj48_14_95 rfl (l' := #[(vR a1), (vI 0), (vR a2), (vI 0), (vI 1), (vI 1), .unset, .unset]) rfl ?_
   refine gO X0 hx hby dj48_14_98 (pc' := 70) (by decide) ?_
   refine iB X0 hx hby dj48_14_70 rfl ?_
   refine iB X0 hx hby dj48_14_72 rfl ?_
   refine cY X0 hx hby dj48_14_74 (pc' := 101) (XT.ii_ge_t (by decide : ¬ (1 : Int32) < (1 : Int32))) (by decide) ?_
   refine iC X0 hx hby dj48_14_101 (v := (-1)) rfl ?_
   refine r_val hP hlk hret X0 hx hby dj48_14_102 rfl (Or.inl ⟨rfl, Or.inl rfl, _, rfl⟩) (by decide) ?_
   rw [e0]
   exact ⟨by rw [if_pos hc89_13], N0, rfl⟩
 · refine cN X0 hx hby dj48_14_89 (XT.ii_eq_f hc89_13) ?_
   refine iB X0 hx hby dj48_14_92 rfl ?_
   refine r_val hP hlk hret X0 hx hby dj48_14_94 rfl (Or.inl ⟨rfl, Or.inl rfl, _, rfl⟩) (by decide) ?_
   rw [e0]
   exact ⟨by rw [if_neg hc89_13], N0, rfl⟩
def Q_startsW1 (Z : State) (a0_ a1_ : Addr) (x0 cs : Int32) (h0 : Heap) (n0 : Nat) (v : Option Value) (h : Heap) (L : List Loc) : Prop := v = some (.int (if x0 = (47 : Int32) then (1 : Int32) else 0)) ∧ Fr n0 L ∧ h = h0
theorem rm_startsW1 (l : Launch) (Z : State) (a0 : Array Value) (hw : oW a0 Z) (ws : List Jvm.Cond) (a0_ a1_ : Addr) (x0 cs : Int32) (h0 : Heap) (n0 : Nat) (Z0 : n0 ≤ h0.size) (O0 : Old Z n0 h0) (Scs : Sta Z Z.heap "java/lang/String" "COMPACT_STRINGS" "Z" (.int cs)) (hcs : ¬ cs = (0 : Int32)) (S0 : StrV Z h0 a0_ [x0]) (S1 : StrV Z h0 a1_ [(47 : Int32)]) :
   oM l oY7 j42_75 8 (some .boolean) ws (own_R 2 0 0 30) #[(.ref a0_), (.ref a1_), (.int 0)] Z h0 (Q_startsW1 Z a0_ a1_ x0 cs h0 n0) := by
 refine own_open (n0 := n0) (cn := "java/lang/String") rfl (plainFor_of_name pn0) (L0 := #[(vR a0_), (vR a1_), (vI 0), .unset, .unset, .unset, .unset, .unset]) (fun _ => by first | (simp [entryFrame, mkF, argsToLocals, Value.category]; done) | rfl) ?_
 intro p e s m below meth c s₁ P hx hby hml hown hnm X0 e0 N0 hlk hret hZ hP
 obtain ⟨d0, kd0, ES0, CS0, VS0, AS0⟩ := S0
 have AT0 : Arv Z h0 d0 kd0 .byte (1 : Int32) [(.int x0)] (.int 0) := AS0
 obtain ⟨d1, kd1, ES1, CS1, VS1, AS1⟩ := S1
 have AT1 : Arv Z h0 d1 kd1 .byte (1 : Int32) [(.int 47)] (.int 0) := AS1
 show oG p e below P m s₁ 0 #[(vR a0_), (vR a1_), (vI 0), .unset, .unset, .unset, .unset, .unset] []
 refine iA X0 hx hby dj42_75_0 rfl ?_
 refine fN X0 hx hby dj42_75_1 (XT.i0_lt_f (by decide : ¬ (0 : Int32) < (0 : Int32))) ?_
 refine iA X0 hx hby dj42_75_4 rfl ?_
 refine aA X0 hx hby dj42_75_5 rfl rfl ?_
 refine c_virt 1 X0 hx hby hml hZ hown (tw_37 hw) (tw_38 hw) (tw_40 hw) (tw_39 hw) (tw_41 hw) (tw_8 hw) (rm_slen l Z a0 hw [] a0_ d0 kd0 (1 : Int32) [(.int x0)] cs h0 n0 Z0 O0 Scs hcs ES0 CS0 VS0 AT0) e0 ES0 dj42_75_6 [] [(.int 0)] (lenOf pd0 rfl) rfl rfl (by rfl) (by decide) ?_
 rintro _ T11 Lc11 ⟨rfl, N11q, q11⟩ X11
 have N11 := Fr.app N0 N11q
 refine aA X11 hx hby dj42_75_9 rfl rfl ?_
 refine c_virt 2 X11 hx hby hml hZ hown (tw_37 hw) (tw_38 hw) (tw_40 hw) (tw_39 hw) (tw_41 hw) (tw_8 hw) (rm_slen l Z a0 hw [] a1_ d1 kd1 (1 : Int32) [(.int 47)] cs h0 n0 Z0 O0 Scs hcs ES1 CS1 VS1 AT1) q11 ES1 dj42_75_10 [] [(.int 1), (.int 0)] (lenOf pd0 rfl) rfl rfl (by rfl) (by decide) ?_
 rintro _ T12 Lc12 ⟨rfl, N12q, q12⟩ X12
 have N12 := Fr.app N11 N12q
 refine iM X12 hx hby dj42_75_13 (v := 0) rfl ?_
 refine cY X12 hx hby dj42_75_14 (pc' := 19) (XT.ii_le_t (by decide : ¬ (0 : Int32) < (0 : Int32))) (by decide) ?_
 refine aA X12 hx hby dj42_75_19 rfl rfl ?_
 obtain ⟨T13, X13, e13, st13⟩ := getF X12 hx hZ hown (host := "") (Or.inl (tw_25 hw)) Via.refl q12 VS0 (g := (mkF m 20 #[(vR a0_), (vR a1_), (vI 0), .unset, .unset, .unset, .unset, .unset] [(.ref a0_)])) rfl rfl (hb hby dj42_75_20)
 refine Go.by st13 ?_
 show oG p e below P m T13 23 #[(vR a0_), (vR a1_), (vI 0), .unset, .unset, .unset, .unset, .unset] [(.ref d0)]
 refine aS X13 hx hby dj42_75_23 rfl (l' := #[(vR a0_), (vR a1_), (vI 0), (vR d0), .unset, .unset, .unset, .unset]) rfl ?_
 refine aA X13 hx hby dj42_75_24 rfl rfl ?_
 obtain ⟨T14, X14, e14, st14⟩ := getF X13 hx hZ hown (host := "") (Or.inl (tw_25 hw)) Via.refl e13 VS1 (g := (mkF m 25 #[(vR a0_), (vR a1_), (vI 0), (vR d0), .unset, .unset, .unset, .unset] [(.ref a1_)])) rfl rfl (hb hby dj42_75_25)
 refine Go.by st14 ?_
 show oG p e below P m T14 28 #[(vR a0_), (vR a1_), (vI 0), (vR d0), .unset, .unset, .unset, .unset] [(.ref d1)]
 refine aT X14 hx hby dj42_75_28 rfl (l' := #[(vR a0_), (vR a1_), (vI 0), (vR d0), (vR d1), .unset, .unset, .unset]) rfl ?_
 refine iC X14 hx hby dj42_75_30 (v := 0) rfl ?_
 refine iT X14 hx hby dj42_75_31 (l' := #[(vR a0_), (vR a1_), (vI 0), (vR d0), (vR d1), (vI 0), .unset, .unset]) rfl ?_
 refine aB X14 hx hby dj42_75_33 rfl rfl ?_
 have av15 := AT1
 obtain ⟨cl15, Ar15, -, Sz15, Nn15, -, -⟩ := av15
 refine Go.by (X14.arraylength hx (by rw [e14]; exact Ar15.1) (State.isArrayOf_alike hZ.alike Ar15.2.1) (g := (mkF m 35 #[(vR a0_), (vR a1_), (vI 0), (vR d0), (vR d1), (vI 0), .unset, .unset] [(.ref d1)])) rfl rfl (hb hby dj42_75_35)) ?_
 rw [len_of Sz15 Nn15]
 show oG p e below P m T14 36 #[(vR a0_), (vR a1_), (vI 0), (vR d0), (vR d1), (vI 0), .unset, .unset] [(.int 1)]
 refine iT X14 hx hby dj42_75_36 (l' := #[(vR a0_), (vR a1_), (vI 0), (vR d0), (vR d1), (vI 0), (vI 1), .unset]) rfl ?_
 refine aA X14 hx hby dj42_75_38 rfl rfl ?_
 refine c_virt 0 X14 hx hby hml hZ hown (tw_42 hw) (tw_43 hw) (tw_45 hw) (tw_44 hw) (tw_46 hw) (tw_8 hw) (rm_coder l Z a0 hw [] a0_ cs h0 n0 Z0 O0 Scs hcs CS0) e14 ES0 dj42_75_39 [] [] (lenOf pd6 rfl) rfl rfl (by rfl) (by decide) ?_
 rintro _ T16 Lc16 ⟨rfl, N16q, q16⟩ X16
 have N16 := Fr.app N12 N16q
 refine iT X16 hx hby dj42_75_42 (l' := #[(vR a0_), (vR a1_), (vI 0), (vR d0), (vR d1), (vI 0), (vI 1), (vI 0)]) rfl ?_
 refine iB X16 hx hby dj42_75_44 rfl ?_
 refine aA X16 hx hby dj42_75_46 rfl rfl ?_
 refine c_virt 1 X16 hx hby hml hZ hown (tw_42 hw) (tw_43 hw) (tw_45 hw) (tw_44 hw) (tw_46 hw) (tw_8 hw) (rm_coder l Z a0 hw [] a1_ cs h0 n0 Z0 O0 Scs hcs CS1) q16 ES1 dj42_75_47 [] [(.int 0)] (lenOf pd6 rfl) rfl rfl (by rfl) (by decide) ?_
 rintro _ T17 Lc17 ⟨rfl, N17q, q17⟩ X17
 have N17 := Fr.app N16 N17q
 refine cN X17 hx hby dj42_75_50 (XT.ii_ne_f (by decide : (0 : Int32) = (0 : Int32))) ?_
 refine iB X17 hx hby dj42_75_53 rfl ?_
 refine iC X17 hx hby dj42_75_55 (v := 1) rfl ?_
 refine cY X17 hx hby dj42_75_56 (pc' := 63) (XT.ii_ne_t (by decide : ¬ (0 : Int32) = (1 : Int32))) (by decide) ?_
 refine aA X17 hx hby dj42_75_63 rfl rfl ?_
 refine iA X17 hx hby dj42_75_64 rfl ?_
 refine aB X17 hx hby dj42_75_65 rfl rfl ?_
 refine iC X17 hx hby dj42_75_67 (v := 0) rfl ?_
 refine iB X17 hx hby dj42_75_68 rfl ?_
 refine c_stat 0 X17 hx hby hml hZ hown (tw_93 hw) (tw_94 hw) (tw_95 hw) (tw_96 hw) (rm_mism1 l Z a0 hw [] d0 kd0 d1 kd1 x0 h0 n0 Z0 AT0 AT1) q17 dj42_75_70 [(.ref d0), (.int 0), (.ref d1), (.int 0), (.int 1)] [] (lenOf pd20 rfl) rfl rfl (by rfl) (by decide) ?_
 rintro _ T18 Lc18 ⟨rfl, N18q, q18⟩ X18
 have N18 := Fr.app N17 N18q
 show oG p e below P m T18 73 #[(vR a0_), (vR a1_), (vI 0), (vR d0), (vR d1), (vI 0), (vI 1), (vI 0)] [(.int (if x0 = (47 : Int32) then (-1 : Int32) else 0))]
 by_cases hq : x0 = (47 : Int32)
 · rw [if_pos hq]
   show oG p e below P m T18 73 #[(vR a0_), (vR a1_), (vI 0), (vR d0), (vR d1), (vI 0), (vI 1), (vI 0)] [(.int (-1))]
   refine fN X18 hx hby dj42_75_73 (XT.i0_ge_f (by decide : (-1 : Int32) < (0 : Int32))) ?_
   refine iC X18 hx hby dj42_75_76 (v := 1) rfl ?_
   refine gO X18 hx hby dj42_75_77 (pc' := 81) (by decide) ?_
   refine r_val hP hlk hret X18 hx hby dj42_75_81 rfl (Or.inl ⟨rfl, Or.inr (Or.inl rfl), _, rfl⟩) (by decide) ?_
   rw [q18]
   exact ⟨by rw [if_pos hq], N18, rfl⟩
 · rw [if_neg hq]
   show oG p e below P m T18 73 #[(vR a0_), (vR a1_), (vI 0), (vR d0), (vR d1), (vI 0), (vI 1), (vI 0)] [(.int 0)]
   refine fY X18 hx hby dj42_75_73 (pc' := 80) (XT.i0_ge_t (by decide : ¬ (0 : Int32) < (0 : Int32))) (by decide) ?_
   refine iC X18 hx hby dj42_75_80 (v := 0) rfl ?_
   refine r_val hP hlk hret X18 hx hby dj42_75_81 rfl (Or.inl ⟨rfl, Or.inr (Or.inl rfl), _, rfl⟩) (by decide) ?_
   rw [q18]
   exact ⟨by rw [if_neg hq], N18, rfl⟩
def Q_endsW1 (Z : State) (a0_ a1_ : Addr) (x0 cs : Int32) (h0 : Heap) (n0 : Nat) (v : Option Value) (h : Heap) (L : List Loc) : Prop := v = some (.int (if x0 = (47 : Int32) then (1 : Int32) else 0)) ∧ Fr n0 L ∧ h = h0
theorem rm_endsW1 (l : Launch) (Z : State) (a0 : Array Value) (hw : oW a0 Z) (ws : List Jvm.Cond) (a0_ a1_ : Addr) (x0 cs : Int32) (h0 : Heap) (n0 : Nat) (Z0 : n0 ≤ h0.size) (O0 : Old Z n0 h0) (Scs : Sta Z Z.heap "java/lang/String" "COMPACT_STRINGS" "Z" (.int cs)) (hcs : ¬ cs = (0 : Int32)) (S0 : StrV Z h0 a0_ [x0]) (S1 : StrV Z h0 a1_ [(47 : Int32)]) :
   oM l oY8 j42_77 2 (some .boolean) ws (own_R 3 0 0 50) #[(.ref a0_), (.ref a1_)] Z h0 (Q_endsW1 Z a0_ a1_ x0 cs h0 n0) := by
 refine own_open (n0 := n0) (cn := "java/lang/String") rfl (plainFor_of_name pn0) (L0 := #[(vR a0_), (vR a1_)]) (fun _ => by first | (simp [entryFrame, mkF, argsToLocals, Value.category]; done) | rfl) ?_
 intro p e s m below meth c s₁ P hx hby hml hown hnm X0 e0 N0 hlk hret hZ hP
 obtain ⟨d0, kd0, ES0, CS0, VS0, AS0⟩ := S0
 have AT0 : Arv Z h0 d0 kd0 .byte (1 : Int32) [(.int x0)] (.int 0) := AS0
 obtain ⟨d1, kd1, ES1, CS1, VS1, AS1⟩ := S1
 have AT1 : Arv Z h0 d1 kd1 .byte (1 : Int32) [(.int 47)] (.int 0) := AS1
 show oG p e below P m s₁ 0 #[(vR a0_), (vR a1_)] []
 refine aA X0 hx hby dj42_77_0 rfl rfl ?_
 refine aA X0 hx hby dj42_77_1 rfl rfl ?_
 refine aA X0 hx hby dj42_77_2 rfl rfl ?_
 refine c_virt 2 X0 hx hby hml hZ hown (tw_37 hw) (tw_38 hw) (tw_40 hw) (tw_39 hw) (tw_41 hw) (tw_8 hw) (rm_slen l Z a0 hw [] a0_ d0 kd0 (1 : Int32) [(.int x0)] cs h0 n0 Z0 O0 Scs hcs ES0 CS0 VS0 AT0) e0 ES0 dj42_77_3 [] [(.ref a1_), (.ref a0_)] (lenOf pd0 rfl) rfl rfl (by rfl) (by decide) ?_
 rintro _ T11 Lc11 ⟨rfl, N11q, q11⟩ X11
 have N11 := Fr.app N0 N11q
 refine aA X11 hx hby dj42_77_6 rfl rfl ?_
 refine c_virt 3 X11 hx hby hml hZ hown (tw_37 hw) (tw_38 hw) (tw_40 hw) (tw_39 hw) (tw_41 hw) (tw_8 hw) (rm_slen l Z a0 hw [] a1_ d1 kd1 (1 : Int32) [(.int 47)] cs h0 n0 Z0 O0 Scs hcs ES1 CS1 VS1 AT1) q11 ES1 dj42_77_7 [] [(.int 1), (.ref a1_), (.ref a0_)] (lenOf pd0 rfl) rfl rfl (by rfl) (by decide) ?_
 rintro _ T12 Lc12 ⟨rfl, N12q, q12⟩ X12
 have N12 := Fr.app N11 N12q
 refine iM X12 hx hby dj42_77_10 (v := 0) rfl ?_
 refine c_virt 0 X12 hx hby hml hZ hown (tw_48 hw) (tw_49 hw) (tw_51 hw) (tw_50 hw) (tw_52 hw) (tw_8 hw) (rm_startsW1 l Z a0 hw [] a0_ a1_ x0 cs h0 n0 Z0 O0 Scs hcs ⟨d0, kd0, ES0, CS0, VS0, AT0⟩ ⟨d1, kd1, ES1, CS1, VS1, AT1⟩) q12 ES0 dj42_77_11 [(.ref a1_), (.int 0)] [] (lenOf pd14 rfl) rfl rfl (by rfl) (by decide) ?_
 rintro _ T13 Lc13 ⟨rfl, N13q, q13⟩ X13
 have N13 := Fr.app N12 N13q
 refine r_val hP hlk hret X13 hx hby dj42_77_14 (by by_cases hq : x0 = (47 : Int32) <;> simp [hq] <;> rfl) (Or.inl ⟨rfl, Or.inr (Or.inl rfl), _, rfl⟩) (by decide) ?_
 rw [q13]
 exact ⟨rfl, N13, rfl⟩
def Q_mism2 (Z : State) (a1 : Addr) (k1 : ClassId) (a2 : Addr) (k2 : ClassId) (x0 x1 : Int32) (h0 : Heap) (n0 : Nat) (v : Option Value) (h : Heap) (L : List Loc) : Prop := v = some (.int (if x1 = (47 : Int32) then (-1 : Int32) else 0)) ∧ Fr n0 L ∧ h = h0
theorem rm_mism2 (l : Launch) (Z : State) (a0 : Array Value) (hw : oW a0 Z) (ws : List Jvm.Cond) (a1 : Addr) (k1 : ClassId) (a2 : Addr) (k2 : ClassId) (x0 x1 : Int32) (h0 : Heap) (n0 : Nat) (Z0 : n0 ≤ h0.size) (V1 : Arv Z h0 a1 k1 .byte (2 : Int32) [(.int x0), (.int x1)] (.int 0)) (V2 : Arv Z h0 a2 k2 .byte (1 : Int32) [(.int 47)] (.int 0)) :
   oM l oY17 j48_14 8 (some .int) ws (own_R 0 0 0 0) #[(.ref a1), (.int 1), (.ref a2), (.int 0), (.int 1)] Z h0 (Q_mism2 Z a1 k1 a2 k2 x0 x1 h0 n0) := by
 refine own_open (n0 := n0) (cn := "jdk/internal/util/ArraysSupport") rfl (plainFor_of_name pn6) (L0 := #[(vR a1), (vI 1), (vR a2), (vI 0), (vI 1), .unset, .unset, .unset]) (fun _ => by first | (simp [entryFrame, mkF, argsToLocals, Value.category]; done) | rfl) ?_
 intro p e s m below meth c s₁ P hx hby hml hown hnm X0 e0 N0 hlk hret hZ hP
 refine iC X0 hx hby dj48_14_0 (v := 0) rfl ?_
 refine iT X0 hx hby dj48_14_1 (l' := #[(vR a1), (vI 1), (vR a2), (vI 0), (vI 1), (vI 0), .unset, .unset]) rfl ?_
 refine iB X0 hx hby dj48_14_3 rfl ?_
 refine bC X0 hx hby dj48_14_5 (v := 7) rfl ?_
 refine cY X0 hx hby dj48_14_7 (pc' := 70) (XT.ii_le_t (by decide : ¬ (7 : Int32) < (1 : Int32))) (by decide) ?_
 refine iB X0 hx hby dj48_14_70 rfl ?_
 refine iB X0 hx hby dj48_14_72 rfl ?_
 refine cN X0 hx hby dj48_14_74 (XT.ii_ge_f (by decide : (0 : Int32) < (1 : Int32))) ?_
 refine aA X0 hx hby dj48_14_77 rfl rfl ?_
 refine iA X0 hx hby dj48_14_78 rfl ?_
 refine iB X0 hx hby dj48_14_79 rfl ?_
 refine iP X0 hx hby dj48_14_81 (v := 1) rfl ?_
 have av11 := V1
 obtain ⟨cl11, Ar11, -, Sz11, Nn11, Ha11, Gf11⟩ := av11
 have hin11 : ¬ ((1 : Int32) < 0 ∨ cl11.slots.size ≤ ((1 : Int32)).toNatClampNeg) := inb_of Sz11 ⟨by decide, by decide⟩
 have hat11 : cl11.slots[((1 : Int32)).toNatClampNeg]? = some (.int x1) := Ha11.at hin11 rfl
 refine Go.by (X0.baloadBytes hx (j := (1 : Int32)) (v := (.int x1)) (by rw [e0]; exact Ar11.1) (State.isArrayOf_alike hZ.alike Ar11.2.1) Ar11.2.2 hin11 hat11 (g := (mkF m 82 #[(vR a1), (vI 1), (vR a2), (vI 0), (vI 1), (vI 0), .unset, .unset] [(.int 1), (.ref a1)])) rfl rfl (hb hby dj48_14_82)) ?_
 show oG p e below P m s₁ 83 #[(vR a1), (vI 1), (vR a2), (vI 0), (vI 1), (vI 0), .unset, .unset] [(.int x1)]
 refine aA X0 hx hby dj48_14_83 rfl rfl ?_
 refine iA X0 hx hby dj48_14_84 rfl ?_
 refine iB X0 hx hby dj48_14_85 rfl ?_
 refine iP X0 hx hby dj48_14_87 (v := 0) rfl ?_
 have av12 := V2
 obtain ⟨cl12, Ar12, -, Sz12, Nn12, Ha12, Gf12⟩ := av12
 have hin12 : ¬ ((0 : Int32) < 0 ∨ cl12.slots.size ≤ ((0 : Int32)).toNatClampNeg) := inb_of Sz12 ⟨by decide, by decide⟩
 have hat12 : cl12.slots[((0 : Int32)).toNatClampNeg]? = some (.int 47) := Ha12.at hin12 rfl
 refine Go.by (X0.baloadBytes hx (j := (0 : Int32)) (v := (.int 47)) (by rw [e0]; exact Ar12.1) (State.isArrayOf_alike hZ.alike Ar12.2.1) Ar12.2.2 hin12 hat12 (g := (mkF m 88 #[(vR a1), (vI 1), (vR a2), (vI 0), (vI 1), (vI 0), .unset, .unset] [(.int 0), (.ref a2), (.int x1)])) rfl rfl (hb hby dj48_14_88)) ?_
 show oG p e below P m s₁ 89 #[(vR a1), (vI 1), (vR a2), (vI 0), (vI 1), (vI 0), .unset, .unset] [(.int 47), (.int x1)]
 by_cases hc89_13 : x1 = (47 : Int32)
 · refine cY X0 hx hby dj48_14_89 (pc' := 95) (XT.ii_eq_t hc89_13) (by decide) ?_
   refine iI X0 hx hby dj48_14_95 rfl (l' := #[(vR a1), (vI 1), (vR a2), (vI 0), (vI 1), (vI 1), .unset, .unset]) rfl ?_
   refine gO X0 hx hby dj48_14_98 (pc' := 70) (by decide) ?_
   refine iB X0 hx hby dj48_14_70 rfl ?_
   refine iB X0 hx hby dj48_14_72 rfl ?_
   refine cY X0 hx hby dj48_14_74 (pc' := 101) (XT.ii_ge_t (by decide : ¬ (1 : Int32) < (1 : Int32))) (by decide) ?_
   refine iC X0 hx hby dj48_14_101 (v := (-1)) rfl ?_
   refine r_val hP hlk hret X0 hx hby dj48_14_102 rfl (Or.inl ⟨rfl, Or.inl rfl, _, rfl⟩) (by decide) ?_
   rw [e0]
   exact ⟨by rw [if_pos hc89_13], N0, rfl⟩
 · refine cN X0 hx hby dj48_14_89 (XT.ii_eq_f hc89_13) ?_
   refine iB X0 hx hby dj48_14_92 rfl ?_
   refine r_val hP hlk hret X0 hx hby dj48_14_94 rfl (Or.inl ⟨rfl, Or.inl rfl, _, rfl⟩) (by decide) ?_
   rw [e0]
   exact ⟨by rw [if_neg hc89_13], N0, rfl⟩
def Q_startsW2 (Z : State) (a0_ a1_ : Addr) (x0 x1 cs : Int32) (h0 : Heap) (n0 : Nat) (v : Option Value) (h : Heap) (L : List Loc) : Prop := v = some (.int (if x1 = (47 : Int32) then (1 : Int32) else 0)) ∧ Fr n0 L ∧ h = h0
theorem rm_startsW2 (l : Launch) (Z : State) (a0 : Array Value) (hw : oW a0 Z) (ws : List Jvm.Cond) (a0_ a1_ : Addr) (x0 x1 cs : Int32) (h0 : Heap) (n0 : Nat) (Z0 : n0 ≤ h0.size) (O0 : Old Z n0 h0) (Scs : Sta Z Z.heap "java/lang/String" "COMPACT_STRINGS" "Z" (.int cs)) (hcs : ¬ cs = (0 : Int32)) (S0 : StrV Z h0 a0_ [x0, x1]) (S1 : StrV Z h0 a1_ [(47 : Int32)]) :
   oM l oY7 j42_75 8 (some .boolean) ws (own_R 2 0 0 30) #[(.ref a0_), (.ref a1_), (.int 1)] Z h0 (Q_startsW2 Z a0_ a1_ x0 x1 cs h0 n0) := by
 refine own_open (n0 := n0) (cn := "java/lang/String") rfl (plainFor_of_name pn0) (L0 := #[(vR a0_), (vR a1_), (vI 1), .unset, .unset, .unset, .unset, .unset]) (fun _ => by first | (simp [entryFrame, mkF, argsToLocals, Value.category]; done) | rfl) ?_
 intro p e s m below meth c s₁ P hx hby hml hown hnm X0 e0 N0 hlk hret hZ hP
 obtain ⟨d0, kd0, ES0, CS0, VS0, AS0⟩ := S0
 have AT0 : Arv Z h0 d0 kd0 .byte (2 : Int32) [(.int x0), (.int x1)] (.int 0) := AS0
 obtain ⟨d1, kd1, ES1, CS1, VS1, AS1⟩ := S1
 have AT1 : Arv Z h0 d1 kd1 .byte (1 : Int32) [(.int 47)] (.int 0) := AS1
 show oG p e below P m s₁ 0 #[(vR a0_), (vR a1_), (vI 1), .unset, .unset, .unset, .unset, .unset] []
 refine iA X0 hx hby dj42_75_0 rfl ?_
 refine fN X0 hx hby dj42_75_1 (XT.i0_lt_f (by decide : ¬ (1 : Int32) < (0 : Int32))) ?_
 refine iA X0 hx hby dj42_75_4 rfl ?_
 refine aA X0 hx hby dj42_75_5 rfl rfl ?_
 refine c_virt 1 X0 hx hby hml hZ hown (tw_37 hw) (tw_38 hw) (tw_40 hw) (tw_39 hw) (tw_41 hw) (tw_8 hw) (rm_slen l Z a0 hw [] a0_ d0 kd0 (2 : Int32) [(.int x0), (.int x1)] cs h0 n0 Z0 O0 Scs hcs ES0 CS0 VS0 AT0) e0 ES0 dj42_75_6 [] [(.int 1)] (lenOf pd0 rfl) rfl rfl (by rfl) (by decide) ?_
 rintro _ T11 Lc11 ⟨rfl, N11q, q11⟩ X11
 have N11 := Fr.app N0 N11q
 refine aA X11 hx hby dj42_75_9 rfl rfl ?_
 refine c_virt 2 X11 hx hby hml hZ hown (tw_37 hw) (tw_38 hw) (tw_40 hw) (tw_39 hw) (tw_41 hw) (tw_8 hw) (rm_slen l Z a0 hw [] a1_ d1 kd1 (1 : Int32) [(.int 47)] cs h0 n0 Z0 O0 Scs hcs ES1 CS1 VS1 AT1) q11 ES1 dj42_75_10 [] [(.int 2), (.int 1)] (lenOf pd0 rfl) rfl rfl (by rfl) (by decide) ?_
 rintro _ T12 Lc12 ⟨rfl, N12q, q12⟩ X12
 have N12 := Fr.app N11 N12q
 refine iM X12 hx hby dj42_75_13 (v := 1) rfl ?_
 refine cY X12 hx hby dj42_75_14 (pc' := 19) (XT.ii_le_t (by decide : ¬ (1 : Int32) < (1 : Int32))) (by decide) ?_
 refine aA X12 hx hby dj42_75_19 rfl rfl ?_
 obtain ⟨T13, X13, e13, st13⟩ := getF X12 hx hZ hown (host := "") (Or.inl (tw_25 hw)) Via.refl q12 VS0 (g := (mkF m 20 #[(vR a0_), (vR a1_), (vI 1), .unset, .unset, .unset, .unset, .unset] [(.ref a0_)])) rfl rfl (hb hby dj42_75_20)
 refine Go.by st13 ?_
 show oG p e below P m T13 23 #[(vR a0_), (vR a1_), (vI 1), .unset, .unset, .unset, .unset, .unset] [(.ref d0)]
 refine aS X13 hx hby dj42_75_23 rfl (l' := #[(vR a0_), (vR a1_), (vI 1), (vR d0), .unset, .unset, .unset, .unset]) rfl ?_
 refine aA X13 hx hby dj42_75_24 rfl rfl ?_
 obtain ⟨T14, X14, e14, st14⟩ := getF X13 hx hZ hown (host := "") (Or.inl (tw_25 hw)) Via.refl e13 VS1 (g := (mkF m 25 #[(vR a0_), (vR a1_), (vI 1), (vR d0), .unset, .unset, .unset, .unset] [(.ref a1_)])) rfl rfl (hb hby dj42_75_25)
 refine Go.by st14 ?_
 show oG p e below P m T14 28 #[(vR a0_), (vR a1_), (vI 1), (vR d0), .unset, .unset, .unset, .unset] [(.ref d1)]
 refine aT X14 hx hby dj42_75_28 rfl (l' := #[(vR a0_), (vR a1_), (vI 1), (vR d0), (vR d1), .unset, .unset, .unset]) rfl ?_
 refine iC X14 hx hby dj42_75_30 (v := 0) rfl ?_
 refine iT X14 hx hby dj42_75_31 (l' := #[(vR a0_), (vR a1_), (vI 1), (vR d0), (vR d1), (vI 0), .unset, .unset]) rfl ?_
 refine aB X14 hx hby dj42_75_33 rfl rfl ?_
 have av15 := AT1
 obtain ⟨cl15, Ar15, -, Sz15, Nn15, -, -⟩ := av15
 refine Go.by (X14.arraylength hx (by rw [e14]; exact Ar15.1) (State.isArrayOf_alike hZ.alike Ar15.2.1) (g := (mkF m 35 #[(vR a0_), (vR a1_), (vI 1), (vR d0), (vR d1), (vI 0), .unset, .unset] [(.ref d1)])) rfl rfl (hb hby dj42_75_35)) ?_
 rw [len_of Sz15 Nn15]
 show oG p e below P m T14 36 #[(vR a0_), (vR a1_), (vI 1), (vR d0), (vR d1), (vI 0), .unset, .unset] [(.int 1)]
 refine iT X14 hx hby dj42_75_36 (l' := #[(vR a0_), (vR a1_), (vI 1), (vR d0), (vR d1), (vI 0), (vI 1), .unset]) rfl ?_
 refine aA X14 hx hby dj42_75_38 rfl rfl ?_
 refine c_virt 0 X14 hx hby hml hZ hown (tw_42 hw) (tw_43 hw) (tw_45 hw) (tw_44 hw) (tw_46 hw) (tw_8 hw) (rm_coder l Z a0 hw [] a0_ cs h0 n0 Z0 O0 Scs hcs CS0) e14 ES0 dj42_75_39 [] [] (lenOf pd6 rfl) rfl rfl (by rfl) (by decide) ?_
 rintro _ T16 Lc16 ⟨rfl, N16q, q16⟩ X16
 have N16 := Fr.app N12 N16q
 refine iT X16 hx hby dj42_75_42 (l' := #[(vR a0_), (vR a1_), (vI 1), (vR d0), (vR d1), (vI 0), (vI 1), (vI 0)]) rfl ?_
 refine iB X16 hx hby dj42_75_44 rfl ?_
 refine aA X16 hx hby dj42_75_46 rfl rfl ?_
 refine c_virt 1 X16 hx hby hml hZ hown (tw_42 hw) (tw_43 hw) (tw_45 hw) (tw_44 hw) (tw_46 hw) (tw_8 hw) (rm_coder l Z a0 hw [] a1_ cs h0 n0 Z0 O0 Scs hcs CS1) q16 ES1 dj42_75_47 [] [(.int 0)] (lenOf pd6 rfl) rfl rfl (by rfl) (by decide) ?_
 rintro _ T17 Lc17 ⟨rfl, N17q, q17⟩ X17
 have N17 := Fr.app N16 N17q
 refine cN X17 hx hby dj42_75_50 (XT.ii_ne_f (by decide : (0 : Int32) = (0 : Int32))) ?_
 refine iB X17 hx hby dj42_75_53 rfl ?_
 refine iC X17 hx hby dj42_75_55 (v := 1) rfl ?_
 refine cY X17 hx hby dj42_75_56 (pc' := 63) (XT.ii_ne_t (by decide : ¬ (0 : Int32) = (1 : Int32))) (by decide) ?_
 refine aA X17 hx hby dj42_75_63 rfl rfl ?_
 refine iA X17 hx hby dj42_75_64 rfl ?_
 refine aB X17 hx hby dj42_75_65 rfl rfl ?_
 refine iC X17 hx hby dj42_75_67 (v := 0) rfl ?_
 refine iB X17 hx hby dj42_75_68 rfl ?_
 refine c_stat 0 X17 hx hby hml hZ hown (tw_93 hw) (tw_94 hw) (tw_95 hw) (tw_96 hw) (rm_mism2 l Z a0 hw [] d0 kd0 d1 kd1 x0 x1 h0 n0 Z0 AT0 AT1) q17 dj42_75_70 [(.ref d0), (.int 1), (.ref d1), (.int 0), (.int 1)] [] (lenOf pd20 rfl) rfl rfl (by rfl) (by decide) ?_
 rintro _ T18 Lc18 ⟨rfl, N18q, q18⟩ X18
 have N18 := Fr.app N17 N18q
 show oG p e below P m T18 73 #[(vR a0_), (vR a1_), (vI 1), (vR d0), (vR d1), (vI 0), (vI 1), (vI 0)] [(.int (if x1 = (47 : Int32) then (-1 : Int32) else 0))]
 by_cases hq : x1 = (47 : Int32)
 · rw [if_pos hq]
   show oG p e below P m T18 73 #[(vR a0_), (vR a1_), (vI 1), (vR d0), (vR d1), (vI 0), (vI 1), (vI 0)] [(.int (-1))]
   refine fN X18 hx hby dj42_75_73 (XT.i0_ge_f (by decide : (-1 : Int32) < (0 : Int32))) ?_
   refine iC X18 hx hby dj42_75_76 (v := 1) rfl ?_
   refine gO X18 hx hby dj42_75_77 (pc' := 81) (by decide) ?_
   refine r_val hP hlk hret X18 hx hby dj42_75_81 rfl (Or.inl ⟨rfl, Or.inr (Or.inl rfl), _, rfl⟩) (by decide) ?_
   rw [q18]
   exact ⟨by rw [if_pos hq], N18, rfl⟩
 · rw [if_neg hq]
   show oG p e below P m T18 73 #[(vR a0_), (vR a1_), (vI 1), (vR d0), (vR d1), (vI 0), (vI 1), (vI 0)] [(.int 0)]
   refine fY X18 hx hby dj42_75_73 (pc' := 80) (XT.i0_ge_t (by decide : ¬ (0 : Int32) < (0 : Int32))) (by decide) ?_
   refine iC X18 hx hby dj42_75_80 (v := 0) rfl ?_
   refine r_val hP hlk hret X18 hx hby dj42_75_81 rfl (Or.inl ⟨rfl, Or.inr (Or.inl rfl), _, rfl⟩) (by decide) ?_
   rw [q18]
   exact ⟨by rw [if_neg hq], N18, rfl⟩
def Q_endsW2 (Z : State) (a0_ a1_ : Addr) (x0 x1 cs : Int32) (h0 : Heap) (n0 : Nat) (v : Option Value) (h : Heap) (L : List Loc) : Prop := v = some (.int (if x1 = (47 : Int32) then (1 : Int32) else 0)) ∧ Fr n0 L ∧ h = h0
theorem rm_endsW2 (l : Launch) (Z : State) (a0 : Array Value) (hw : oW a0 Z) (ws : List Jvm.Cond) (a0_ a1_ : Addr) (x0 x1 cs : Int32) (h0 : Heap) (n0 : Nat) (Z0 : n0 ≤ h0.size) (O0 : Old Z n0 h0) (Scs : Sta Z Z.heap "java/lang/String" "COMPACT_STRINGS" "Z" (.int cs)) (hcs : ¬ cs = (0 : Int32)) (S0 : StrV Z h0 a0_ [x0, x1]) (S1 : StrV Z h0 a1_ [(47 : Int32)]) :
   oM l oY8 j42_77 2 (some .boolean) ws (own_R 3 0 0 50) #[(.ref a0_), (.ref a1_)] Z h0 (Q_endsW2 Z a0_ a1_ x0 x1 cs h0 n0) := by
 refine own_open (n0 := n0) (cn := "java/lang/String") rfl (plainFor_of_name pn0) (L0 := #[(vR a0_), (vR a1_)]) (fun _ => by first | (simp [entryFrame, mkF, argsToLocals, Value.category]; done) | rfl) ?_
 intro p e s m below meth c s₁ P hx hby hml hown hnm X0 e0 N0 hlk hret hZ hP
 obtain ⟨d0, kd0, ES0, CS0, VS0, AS0⟩ := S0
 have AT0 : Arv Z h0 d0 kd0 .byte (2 : Int32) [(.int x0), (.int x1)] (.int 0) := AS0
 obtain ⟨d1, kd1, ES1, CS1, VS1, AS1⟩ := S1
 have AT1 : Arv Z h0 d1 kd1 .byte (1 : Int32) [(.int 47)] (.int 0) := AS1
 show oG p e below P m s₁ 0 #[(vR a0_), (vR a1_)] []
 refine aA X0 hx hby dj42_77_0 rfl rfl ?_
 refine aA X0 hx hby dj42_77_1 rfl rfl ?_
 refine aA X0 hx hby dj42_77_2 rfl rfl ?_
 refine c_virt 2 X0 hx hby hml hZ hown (tw_37 hw) (tw_38 hw) (tw_40 hw) (tw_39 hw) (tw_41 hw) (tw_8 hw) (rm_slen l Z a0 hw [] a0_ d0 kd0 (2 : Int32) [(.int x0), (.int x1)] cs h0 n0 Z0 O0 Scs hcs ES0 CS0 VS0 AT0) e0 ES0 dj42_77_3 [] [(.ref a1_), (.ref a0_)] (lenOf pd0 rfl) rfl rfl (by rfl) (by decide) ?_
 rintro _ T11 Lc11 ⟨rfl, N11q, q11⟩ X11
 have N11 := Fr.app N0 N11q
 refine aA X11 hx hby dj42_77_6 rfl rfl ?_
 refine c_virt 3 X11 hx hby hml hZ hown (tw_37 hw) (tw_38 hw) (tw_40 hw) (tw_39 hw) (tw_41 hw) (tw_8 hw) (rm_slen l Z a0 hw [] a1_ d1 kd1 (1 : Int32) [(.int 47)] cs h0 n0 Z0 O0 Scs hcs ES1 CS1 VS1 AT1) q11 ES1 dj42_77_7 [] [(.int 2), (.ref a1_), (.ref a0_)] (lenOf pd0 rfl) rfl rfl (by rfl) (by decide) ?_
 rintro _ T12 Lc12 ⟨rfl, N12q, q12⟩ X12
 have N12 := Fr.app N11 N12q
 refine iM X12 hx hby dj42_77_10 (v := 1) rfl ?_
 refine c_virt 0 X12 hx hby hml hZ hown (tw_48 hw) (tw_49 hw) (tw_51 hw) (tw_50 hw) (tw_52 hw) (tw_8 hw) (rm_startsW2 l Z a0 hw [] a0_ a1_ x0 x1 cs h0 n0 Z0 O0 Scs hcs ⟨d0, kd0, ES0, CS0, VS0, AT0⟩ ⟨d1, kd1, ES1, CS1, VS1, AT1⟩) q12 ES0 dj42_77_11 [(.ref a1_), (.int 1)] [] (lenOf pd14 rfl) rfl rfl (by rfl) (by decide) ?_
 rintro _ T13 Lc13 ⟨rfl, N13q, q13⟩ X13
 have N13 := Fr.app N12 N13q
 refine r_val hP hlk hret X13 hx hby dj42_77_14 (by by_cases hq : x1 = (47 : Int32) <;> simp [hq] <;> rfl) (Or.inl ⟨rfl, Or.inr (Or.inl rfl), _, rfl⟩) (by decide) ?_
 rw [q13]
 exact ⟨rfl, N13, rfl⟩
def Q_mism3 (Z : State) (a1 : Addr) (k1 : ClassId) (a2 : Addr) (k2 : ClassId) (x0 x1 x2 : Int32) (h0 : Heap) (n0 : Nat) (v : Option Value) (h : Heap) (L : List Loc) : Prop := v = some (.int (if x2 = (47 : Int32) then (-1 : Int32) else 0)) ∧ Fr n0 L ∧ h = h0
theorem rm_mism3 (l : Launch) (Z : State) (a0 : Array Value) (hw : oW a0 Z) (ws : List Jvm.Cond) (a1 : Addr) (k1 : ClassId) (a2 : Addr) (k2 : ClassId) (x0 x1 x2 : Int32) (h0 : Heap) (n0 : Nat) (Z0 : n0 ≤ h0.size) (V1 : Arv Z h0 a1 k1 .byte (3 : Int32) [(.int x0), (.int x1), (.int x2)] (.int 0)) (V2 : Arv Z h0 a2 k2 .byte (1 : Int32) [(.int 47)] (.int 0)) :
   oM l oY17 j48_14 8 (some .int) ws (own_R 0 0 0 0) #[(.ref a1), (.int 2), (.ref a2), (.int 0), (.int 1)] Z h0 (Q_mism3 Z a1 k1 a2 k2 x0 x1 x2 h0 n0) := by
 refine own_open (n0 := n0) (cn := "jdk/internal/util/ArraysSupport") rfl (plainFor_of_name pn6) (L0 := #[(vR a1), (vI 2), (vR a2), (vI 0), (vI 1), .unset, .unset, .unset]) (fun _ => by first | (simp [entryFrame, mkF, argsToLocals, Value.category]; done) | rfl) ?_
 intro p e s m below meth c s₁ P hx hby hml hown hnm X0 e0 N0 hlk hret hZ hP
 refine iC X0 hx hby dj48_14_0 (v := 0) rfl ?_
 refine iT X0 hx hby dj48_14_1 (l' := #[(vR a1), (vI 2), (vR a2), (vI 0), (vI 1), (vI 0), .unset, .unset]) rfl ?_
 refine iB X0 hx hby dj48_14_3 rfl ?_
 refine bC X0 hx hby dj48_14_5 (v := 7) rfl ?_
 refine cY X0 hx hby dj48_14_7 (pc' := 70) (XT.ii_le_t (by decide : ¬ (7 : Int32) < (1 : Int32))) (by decide) ?_
 refine iB X0 hx hby dj48_14_70 rfl ?_
 refine iB X0 hx hby dj48_14_72 rfl ?_
 refine cN X0 hx hby dj48_14_74 (XT.ii_ge_f (by decide : (0 : Int32) < (1 : Int32))) ?_
 refine aA X0 hx hby dj48_14_77 rfl rfl ?_
 refine iA X0 hx hby dj48_14_78 rfl ?_
 refine iB X0 hx hby dj48_14_79 rfl ?_
 refine iP X0 hx hby dj48_14_81 (v := 2) rfl ?_
 have av11 := V1
 obtain ⟨cl11, Ar11, -, Sz11, Nn11, Ha11, Gf11⟩ := av11
 have hin11 : ¬ ((2 : Int32) < 0 ∨ cl11.slots.size ≤ ((2 : Int32)).toNatClampNeg) := inb_of Sz11 ⟨by decide, by decide⟩
 have hat11 : cl11.slots[((2 : Int32)).toNatClampNeg]? = some (.int x2) := Ha11.at hin11 rfl
 refine Go.by (X0.baloadBytes hx (j := (2 : Int32)) (v := (.int x2)) (by rw [e0]; exact Ar11.1) (State.isArrayOf_alike hZ.alike Ar11.2.1) Ar11.2.2 hin11 hat11 (g := (mkF m 82 #[(vR a1), (vI 2), (vR a2), (vI 0), (vI 1), (vI 0), .unset, .unset] [(.int 2), (.ref a1)])) rfl rfl (hb hby dj48_14_82)) ?_
 show oG p e below P m s₁ 83 #[(vR a1), (vI 2), (vR a2), (vI 0), (vI 1), (vI 0), .unset, .unset] [(.int x2)]
 refine aA X0 hx hby dj48_14_83 rfl rfl ?_
 refine iA X0 hx hby dj48_14_84 rfl ?_
 refine iB X0 hx hby dj48_14_85 rfl ?_
 refine iP X0 hx hby dj48_14_87 (v := 0) rfl ?_
 have av12 := V2
 obtain ⟨cl12, Ar12, -, Sz12, Nn12, Ha12, Gf12⟩ := av12
 have hin12 : ¬ ((0 : Int32) < 0 ∨ cl12.slots.size ≤ ((0 : Int32)).toNatClampNeg) := inb_of Sz12 ⟨by decide, by decide⟩
 have hat12 : cl12.slots[((0 : Int32)).toNatClampNeg]? = some (.int 47) := Ha12.at hin12 rfl
 refine Go.by (X0.baloadBytes hx (j := (0 : Int32)) (v := (.int 47)) (by rw [e0]; exact Ar12.1) (State.isArrayOf_alike hZ.alike Ar12.2.1) Ar12.2.2 hin12 hat12 (g := (mkF m 88 #[(vR a1), (vI 2), (vR a2), (vI 0), (vI 1), (vI 0), .unset, .unset] [(.int 0), (.ref a2), (.int x2)])) rfl rfl (hb hby dj48_14_88)) ?_
 show oG p e below P m s₁ 89 #[(vR a1), (vI 2), (vR a2), (vI 0), (vI 1), (vI 0), .unset, .unset] [(.int 47), (.int x2)]
 by_cases hc89_13 : x2 = (47 : Int32)
 · refine cY X0 hx hby dj48_14_89 (pc' := 95) (XT.ii_eq_t hc89_13) (by decide) ?_
   refine iI X0 hx hby dj48_14_95 rfl (l' := #[(vR a1), (vI 2), (vR a2), (vI 0), (vI 1), (vI 1), .unset, .unset]) rfl ?_
   refine gO X0 hx hby dj48_14_98 (pc' := 70) (by decide) ?_
   refine iB X0 hx hby dj48_14_70 rfl ?_
   refine iB X0 hx hby dj48_14_72 rfl ?_
   refine cY X0 hx hby dj48_14_74 (pc' := 101) (XT.ii_ge_t (by decide : ¬ (1 : Int32) < (1 : Int32))) (by decide) ?_
   refine iC X0 hx hby dj48_14_101 (v := (-1)) rfl ?_
   refine r_val hP hlk hret X0 hx hby dj48_14_102 rfl (Or.inl ⟨rfl, Or.inl rfl, _, rfl⟩) (by decide) ?_
   rw [e0]
   exact ⟨by rw [if_pos hc89_13], N0, rfl⟩
 · refine cN X0 hx hby dj48_14_89 (XT.ii_eq_f hc89_13) ?_
   refine iB X0 hx hby dj48_14_92 rfl ?_
   refine r_val hP hlk hret X0 hx hby dj48_14_94 rfl (Or.inl ⟨rfl, Or.inl rfl, _, rfl⟩) (by decide) ?_
   rw [e0]
   exact ⟨by rw [if_neg hc89_13], N0, rfl⟩
def Q_startsW3 (Z : State) (a0_ a1_ : Addr) (x0 x1 x2 cs : Int32) (h0 : Heap) (n0 : Nat) (v : Option Value) (h : Heap) (L : List Loc) : Prop := v = some (.int (if x2 = (47 : Int32) then (1 : Int32) else 0)) ∧ Fr n0 L ∧ h = h0
theorem rm_startsW3 (l : Launch) (Z : State) (a0 : Array Value) (hw : oW a0 Z) (ws : List Jvm.Cond) (a0_ a1_ : Addr) (x0 x1 x2 cs : Int32) (h0 : Heap) (n0 : Nat) (Z0 : n0 ≤ h0.size) (O0 : Old Z n0 h0) (Scs : Sta Z Z.heap "java/lang/String" "COMPACT_STRINGS" "Z" (.int cs)) (hcs : ¬ cs = (0 : Int32)) (S0 : StrV Z h0 a0_ [x0, x1, x2]) (S1 : StrV Z h0 a1_ [(47 : Int32)]) :
   oM l oY7 j42_75 8 (some .boolean) ws (own_R 2 0 0 30) #[(.ref a0_), (.ref a1_), (.int 2)] Z h0 (Q_startsW3 Z a0_ a1_ x0 x1 x2 cs h0 n0) := by
 refine own_open (n0 := n0) (cn := "java/lang/String") rfl (plainFor_of_name pn0) (L0 := #[(vR a0_), (vR a1_), (vI 2), .unset, .unset, .unset, .unset, .unset]) (fun _ => by first | (simp [entryFrame, mkF, argsToLocals, Value.category]; done) | rfl) ?_
 intro p e s m below meth c s₁ P hx hby hml hown hnm X0 e0 N0 hlk hret hZ hP
 obtain ⟨d0, kd0, ES0, CS0, VS0, AS0⟩ := S0
 have AT0 : Arv Z h0 d0 kd0 .byte (3 : Int32) [(.int x0), (.int x1), (.int x2)] (.int 0) := AS0
 obtain ⟨d1, kd1, ES1, CS1, VS1, AS1⟩ := S1
 have AT1 : Arv Z h0 d1 kd1 .byte (1 : Int32) [(.int 47)] (.int 0) := AS1
 show oG p e below P m s₁ 0 #[(vR a0_), (vR a1_), (vI 2), .unset, .unset, .unset, .unset, .unset] []
 refine iA X0 hx hby dj42_75_0 rfl ?_
 refine fN X0 hx hby dj42_75_1 (XT.i0_lt_f (by decide : ¬ (2 : Int32) < (0 : Int32))) ?_
 refine iA X0 hx hby dj42_75_4 rfl ?_
 refine aA X0 hx hby dj42_75_5 rfl rfl ?_
 refine c_virt 1 X0 hx hby hml hZ hown (tw_37 hw) (tw_38 hw) (tw_40 hw) (tw_39 hw) (tw_41 hw) (tw_8 hw) (rm_slen l Z a0 hw [] a0_ d0 kd0 (3 : Int32) [(.int x0), (.int x1), (.int x2)] cs h0 n0 Z0 O0 Scs hcs ES0 CS0 VS0 AT0) e0 ES0 dj42_75_6 [] [(.int 2)] (lenOf pd0 rfl) rfl rfl (by rfl) (by decide) ?_
 rintro _ T11 Lc11 ⟨rfl, N11q, q11⟩ X11
 have N11 := Fr.app N0 N11q
 refine aA X11 hx hby dj42_75_9 rfl rfl ?_
 refine c_virt 2 X11 hx hby hml hZ hown (tw_37 hw) (tw_38 hw) (tw_40 hw) (tw_39 hw) (tw_41 hw) (tw_8 hw) (rm_slen l Z a0 hw [] a1_ d1 kd1 (1 : Int32) [(.int 47)] cs h0 n0 Z0 O0 Scs hcs ES1 CS1 VS1 AT1) q11 ES1 dj42_75_10 [] [(.int 3), (.int 2)] (lenOf pd0 rfl) rfl rfl (by rfl) (by decide) ?_
 rintro _ T12 Lc12 ⟨rfl, N12q, q12⟩ X12
 have N12 := Fr.app N11 N12q
 refine iM X12 hx hby dj42_75_13 (v := 2) rfl ?_
 refine cY X12 hx hby dj42_75_14 (pc' := 19) (XT.ii_le_t (by decide : ¬ (2 : Int32) < (2 : Int32))) (by decide) ?_
 refine aA X12 hx hby dj42_75_19 rfl rfl ?_
 obtain ⟨T13, X13, e13, st13⟩ := getF X12 hx hZ hown (host := "") (Or.inl (tw_25 hw)) Via.refl q12 VS0 (g := (mkF m 20 #[(vR a0_), (vR a1_), (vI 2), .unset, .unset, .unset, .unset, .unset] [(.ref a0_)])) rfl rfl (hb hby dj42_75_20)
 refine Go.by st13 ?_
 show oG p e below P m T13 23 #[(vR a0_), (vR a1_), (vI 2), .unset, .unset, .unset, .unset, .unset] [(.ref d0)]
 refine aS X13 hx hby dj42_75_23 rfl (l' := #[(vR a0_), (vR a1_), (vI 2), (vR d0), .unset, .unset, .unset, .unset]) rfl ?_
 refine aA X13 hx hby dj42_75_24 rfl rfl ?_
 obtain ⟨T14, X14, e14, st14⟩ := getF X13 hx hZ hown (host := "") (Or.inl (tw_25 hw)) Via.refl e13 VS1 (g := (mkF m 25 #[(vR a0_), (vR a1_), (vI 2), (vR d0), .unset, .unset, .unset, .unset] [(.ref a1_)])) rfl rfl (hb hby dj42_75_25)
 refine Go.by st14 ?_
 show oG p e below P m T14 28 #[(vR a0_), (vR a1_), (vI 2), (vR d0), .unset, .unset, .unset, .unset] [(.ref d1)]
 refine aT X14 hx hby dj42_75_28 rfl (l' := #[(vR a0_), (vR a1_), (vI 2), (vR d0), (vR d1), .unset, .unset, .unset]) rfl ?_
 refine iC X14 hx hby dj42_75_30 (v := 0) rfl ?_
 refine iT X14 hx hby dj42_75_31 (l' := #[(vR a0_), (vR a1_), (vI 2), (vR d0), (vR d1), (vI 0), .unset, .unset]) rfl ?_
 refine aB X14 hx hby dj42_75_33 rfl rfl ?_
 have av15 := AT1
 obtain ⟨cl15, Ar15, -, Sz15, Nn15, -, -⟩ := av15
 refine Go.by (X14.arraylength hx (by rw [e14]; exact Ar15.1) (State.isArrayOf_alike hZ.alike Ar15.2.1) (g := (mkF m 35 #[(vR a0_), (vR a1_), (vI 2), (vR d0), (vR d1), (vI 0), .unset, .unset] [(.ref d1)])) rfl rfl (hb hby dj42_75_35)) ?_
 rw [len_of Sz15 Nn15]
 show oG p e below P m T14 36 #[(vR a0_), (vR a1_), (vI 2), (vR d0), (vR d1), (vI 0), .unset, .unset] [(.int 1)]
 refine iT X14 hx hby dj42_75_36 (l' := #[(vR a0_), (vR a1_), (vI 2), (vR d0), (vR d1), (vI 0), (vI 1), .unset]) rfl ?_
 refine aA X14 hx hby dj42_75_38 rfl rfl ?_
 refine c_virt 0 X14 hx hby hml hZ hown (tw_42 hw) (tw_43 hw) (tw_45 hw) (tw_44 hw) (tw_46 hw) (tw_8 hw) (rm_coder l Z a0 hw [] a0_ cs h0 n0 Z0 O0 Scs hcs CS0) e14 ES0 dj42_75_39 [] [] (lenOf pd6 rfl) rfl rfl (by rfl) (by decide) ?_
 rintro _ T16 Lc16 ⟨rfl, N16q, q16⟩ X16
 have N16 := Fr.app N12 N16q
 refine iT X16 hx hby dj42_75_42 (l' := #[(vR a0_), (vR a1_), (vI 2), (vR d0), (vR d1), (vI 0), (vI 1), (vI 0)]) rfl ?_
 refine iB X16 hx hby dj42_75_44 rfl ?_
 refine aA X16 hx hby dj42_75_46 rfl rfl ?_
 refine c_virt 1 X16 hx hby hml hZ hown (tw_42 hw) (tw_43 hw) (tw_45 hw) (tw_44 hw) (tw_46 hw) (tw_8 hw) (rm_coder l Z a0 hw [] a1_ cs h0 n0 Z0 O0 Scs hcs CS1) q16 ES1 dj42_75_47 [] [(.int 0)] (lenOf pd6 rfl) rfl rfl (by rfl) (by decide) ?_
 rintro _ T17 Lc17 ⟨rfl, N17q, q17⟩ X17
 have N17 := Fr.app N16 N17q
 refine cN X17 hx hby dj42_75_50 (XT.ii_ne_f (by decide : (0 : Int32) = (0 : Int32))) ?_
 refine iB X17 hx hby dj42_75_53 rfl ?_
 refine iC X17 hx hby dj42_75_55 (v := 1) rfl ?_
 refine cY X17 hx hby dj42_75_56 (pc' := 63) (XT.ii_ne_t (by decide : ¬ (0 : Int32) = (1 : Int32))) (by decide) ?_
 refine aA X17 hx hby dj42_75_63 rfl rfl ?_
 refine iA X17 hx hby dj42_75_64 rfl ?_
 refine aB X17 hx hby dj42_75_65 rfl rfl ?_
 refine iC X17 hx hby dj42_75_67 (v := 0) rfl ?_
 refine iB X17 hx hby dj42_75_68 rfl ?_
 refine c_stat 0 X17 hx hby hml hZ hown (tw_93 hw) (tw_94 hw) (tw_95 hw) (tw_96 hw) (rm_mism3 l Z a0 hw [] d0 kd0 d1 kd1 x0 x1 x2 h0 n0 Z0 AT0 AT1) q17 dj42_75_70 [(.ref d0), (.int 2), (.ref d1), (.int 0), (.int 1)] [] (lenOf pd20 rfl) rfl rfl (by rfl) (by decide) ?_
 rintro _ T18 Lc18 ⟨rfl, N18q, q18⟩ X18
 have N18 := Fr.app N17 N18q
 show oG p e below P m T18 73 #[(vR a0_), (vR a1_), (vI 2), (vR d0), (vR d1), (vI 0), (vI 1), (vI 0)] [(.int (if x2 = (47 : Int32) then (-1 : Int32) else 0))]
 by_cases hq : x2 = (47 : Int32)
 · rw [if_pos hq]
   show oG p e below P m T18 73 #[(vR a0_), (vR a1_), (vI 2), (vR d0), (vR d1), (vI 0), (vI 1), (vI 0)] [(.int (-1))]
   refine fN X18 hx hby dj42_75_73 (XT.i0_ge_f (by decide : (-1 : Int32) < (0 : Int32))) ?_
   refine iC X18 hx hby dj42_75_76 (v := 1) rfl ?_
   refine gO X18 hx hby dj42_75_77 (pc' := 81) (by decide) ?_
   refine r_val hP hlk hret X18 hx hby dj42_75_81 rfl (Or.inl ⟨rfl, Or.inr (Or.inl rfl), _, rfl⟩) (by decide) ?_
   rw [q18]
   exact ⟨by rw [if_pos hq], N18, rfl⟩
 · rw [if_neg hq]
   show oG p e below P m T18 73 #[(vR a0_), (vR a1_), (vI 2), (vR d0), (vR d1), (vI 0), (vI 1), (vI 0)] [(.int 0)]
   refine fY X18 hx hby dj42_75_73 (pc' := 80) (XT.i0_ge_t (by decide : ¬ (0 : Int32) < (0 : Int32))) (by decide) ?_
   refine iC X18 hx hby dj42_75_80 (v := 0) rfl ?_
   refine r_val hP hlk hret X18 hx hby dj42_75_81 rfl (Or.inl ⟨rfl, Or.inr (Or.inl rfl), _, rfl⟩) (by decide) ?_
   rw [q18]
   exact ⟨by rw [if_neg hq], N18, rfl⟩
def Q_endsW3 (Z : State) (a0_ a1_ : Addr) (x0 x1 x2 cs : Int32) (h0 : Heap) (n0 : Nat) (v : Option Value) (h : Heap) (L : List Loc) : Prop := v = some (.int (if x2 = (47 : Int32) then (1 : Int32) else 0)) ∧ Fr n0 L ∧ h = h0
theorem rm_endsW3 (l : Launch) (Z : State) (a0 : Array Value) (hw : oW a0 Z) (ws : List Jvm.Cond) (a0_ a1_ : Addr) (x0 x1 x2 cs : Int32) (h0 : Heap) (n0 : Nat) (Z0 : n0 ≤ h0.size) (O0 : Old Z n0 h0) (Scs : Sta Z Z.heap "java/lang/String" "COMPACT_STRINGS" "Z" (.int cs)) (hcs : ¬ cs = (0 : Int32)) (S0 : StrV Z h0 a0_ [x0, x1, x2]) (S1 : StrV Z h0 a1_ [(47 : Int32)]) :
   oM l oY8 j42_77 2 (some .boolean) ws (own_R 3 0 0 50) #[(.ref a0_), (.ref a1_)] Z h0 (Q_endsW3 Z a0_ a1_ x0 x1 x2 cs h0 n0) := by
 refine own_open (n0 := n0) (cn := "java/lang/String") rfl (plainFor_of_name pn0) (L0 := #[(vR a0_), (vR a1_)]) (fun _ => by first | (simp [entryFrame, mkF, argsToLocals, Value.category]; done) | rfl) ?_
 intro p e s m below meth c s₁ P hx hby hml hown hnm X0 e0 N0 hlk hret hZ hP
 obtain ⟨d0, kd0, ES0, CS0, VS0, AS0⟩ := S0
 have AT0 : Arv Z h0 d0 kd0 .byte (3 : Int32) [(.int x0), (.int x1), (.int x2)] (.int 0) := AS0
 obtain ⟨d1, kd1, ES1, CS1, VS1, AS1⟩ := S1
 have AT1 : Arv Z h0 d1 kd1 .byte (1 : Int32) [(.int 47)] (.int 0) := AS1
 show oG p e below P m s₁ 0 #[(vR a0_), (vR a1_)] []
 refine aA X0 hx hby dj42_77_0 rfl rfl ?_
 refine aA X0 hx hby dj42_77_1 rfl rfl ?_
 refine aA X0 hx hby dj42_77_2 rfl rfl ?_
 refine c_virt 2 X0 hx hby hml hZ hown (tw_37 hw) (tw_38 hw) (tw_40 hw) (tw_39 hw) (tw_41 hw) (tw_8 hw) (rm_slen l Z a0 hw [] a0_ d0 kd0 (3 : Int32) [(.int x0), (.int x1), (.int x2)] cs h0 n0 Z0 O0 Scs hcs ES0 CS0 VS0 AT0) e0 ES0 dj42_77_3 [] [(.ref a1_), (.ref a0_)] (lenOf pd0 rfl) rfl rfl (by rfl) (by decide) ?_
 rintro _ T11 Lc11 ⟨rfl, N11q, q11⟩ X11
 have N11 := Fr.app N0 N11q
 refine aA X11 hx hby dj42_77_6 rfl rfl ?_
 refine c_virt 3 X11 hx hby hml hZ hown (tw_37 hw) (tw_38 hw) (tw_40 hw) (tw_39 hw) (tw_41 hw) (tw_8 hw) (rm_slen l Z a0 hw [] a1_ d1 kd1 (1 : Int32) [(.int 47)] cs h0 n0 Z0 O0 Scs hcs ES1 CS1 VS1 AT1) q11 ES1 dj42_77_7 [] [(.int 3), (.ref a1_), (.ref a0_)] (lenOf pd0 rfl) rfl rfl (by rfl) (by decide) ?_
 rintro _ T12 Lc12 ⟨rfl, N12q, q12⟩ X12
 have N12 := Fr.app N11 N12q
 refine iM X12 hx hby dj42_77_10 (v := 2) rfl ?_
 refine c_virt 0 X12 hx hby hml hZ hown (tw_48 hw) (tw_49 hw) (tw_51 hw) (tw_50 hw) (tw_52 hw) (tw_8 hw) (rm_startsW3 l Z a0 hw [] a0_ a1_ x0 x1 x2 cs h0 n0 Z0 O0 Scs hcs ⟨d0, kd0, ES0, CS0, VS0, AT0⟩ ⟨d1, kd1, ES1, CS1, VS1, AT1⟩) q12 ES0 dj42_77_11 [(.ref a1_), (.int 2)] [] (lenOf pd14 rfl) rfl rfl (by rfl) (by decide) ?_
 rintro _ T13 Lc13 ⟨rfl, N13q, q13⟩ X13
 have N13 := Fr.app N12 N13q
 refine r_val hP hlk hret X13 hx hby dj42_77_14 (by by_cases hq : x2 = (47 : Int32) <;> simp [hq] <;> rfl) (Or.inl ⟨rfl, Or.inr (Or.inl rfl), _, rfl⟩) (by decide) ?_
 rw [q13]
 exact ⟨rfl, N13, rfl⟩
def Q_mism4 (Z : State) (a1 : Addr) (k1 : ClassId) (a2 : Addr) (k2 : ClassId) (x0 x1 x2 x3 : Int32) (h0 : Heap) (n0 : Nat) (v : Option Value) (h : Heap) (L : List Loc) : Prop := v = some (.int (if x3 = (47 : Int32) then (-1 : Int32) else 0)) ∧ Fr n0 L ∧ h = h0
theorem rm_mism4 (l : Launch) (Z : State) (a0 : Array Value) (hw : oW a0 Z) (ws : List Jvm.Cond) (a1 : Addr) (k1 : ClassId) (a2 : Addr) (k2 : ClassId) (x0 x1 x2 x3 : Int32) (h0 : Heap) (n0 : Nat) (Z0 : n0 ≤ h0.size) (V1 : Arv Z h0 a1 k1 .byte (4 : Int32) [(.int x0), (.int x1), (.int x2), (.int x3)] (.int 0)) (V2 : Arv Z h0 a2 k2 .byte (1 : Int32) [(.int 47)] (.int 0)) :
   oM l oY17 j48_14 8 (some .int) ws (own_R 0 0 0 0) #[(.ref a1), (.int 3), (.ref a2), (.int 0), (.int 1)] Z h0 (Q_mism4 Z a1 k1 a2 k2 x0 x1 x2 x3 h0 n0) := by
 refine own_open (n0 := n0) (cn := "jdk/internal/util/ArraysSupport") rfl (plainFor_of_name pn6) (L0 := #[(vR a1), (vI 3), (vR a2), (vI 0), (vI 1), .unset, .unset, .unset]) (fun _ => by first | (simp [entryFrame, mkF, argsToLocals, Value.category]; done) | rfl) ?_
 intro p e s m below meth c s₁ P hx hby hml hown hnm X0 e0 N0 hlk hret hZ hP
 refine iC X0 hx hby dj48_14_0 (v := 0) rfl ?_
 refine iT X0 hx hby dj48_14_1 (l' := #[(vR a1), (vI 3), (vR a2), (vI 0), (vI 1), (vI 0), .unset, .unset]) rfl ?_
 refine iB X0 hx hby dj48_14_3 rfl ?_
 refine bC X0 hx hby dj48_14_5 (v := 7) rfl ?_
 refine cY X0 hx hby dj48_14_7 (pc' := 70) (XT.ii_le_t (by decide : ¬ (7 : Int32) < (1 : Int32))) (by decide) ?_
 refine iB X0 hx hby dj48_14_70 rfl ?_
 refine iB X0 hx hby dj48_14_72 rfl ?_
 refine cN X0 hx hby dj48_14_74 (XT.ii_ge_f (by decide : (0 : Int32) < (1 : Int32))) ?_
 refine aA X0 hx hby dj48_14_77 rfl rfl ?_
 refine iA X0 hx hby dj48_14_78 rfl ?_
 refine iB X0 hx hby dj48_14_79 rfl ?_
 refine iP X0 hx hby dj48_14_81 (v := 3) rfl ?_
 have av11 := V1
 obtain ⟨cl11, Ar11, -, Sz11, Nn11, Ha11, Gf11⟩ := av11
 have hin11 : ¬ ((3 : Int32) < 0 ∨ cl11.slots.size ≤ ((3 : Int32)).toNatClampNeg) := inb_of Sz11 ⟨by decide, by decide⟩
 have hat11 : cl11.slots[((3 : Int32)).toNatClampNeg]? = some (.int x3) := Ha11.at hin11 rfl
 refine Go.by (X0.baloadBytes hx (j := (3 : Int32)) (v := (.int x3)) (by rw [e0]; exact Ar11.1) (State.isArrayOf_alike hZ.alike Ar11.2.1) Ar11.2.2 hin11 hat11 (g := (mkF m 82 #[(vR a1), (vI 3), (vR a2), (vI 0), (vI 1), (vI 0), .unset, .unset] [(.int 3), (.ref a1)])) rfl rfl (hb hby dj48_14_82)) ?_
 show oG p e below P m s₁ 83 #[(vR a1), (vI 3), (vR a2), (vI 0), (vI 1), (vI 0), .unset, .unset] [(.int x3)]
 refine aA X0 hx hby dj48_14_83 rfl rfl ?_
 refine iA X0 hx hby dj48_14_84 rfl ?_
 refine iB X0 hx hby dj48_14_85 rfl ?_
 refine iP X0 hx hby dj48_14_87 (v := 0) rfl ?_
 have av12 := V2
 obtain ⟨cl12, Ar12, -, Sz12, Nn12, Ha12, Gf12⟩ := av12
 have hin12 : ¬ ((0 : Int32) < 0 ∨ cl12.slots.size ≤ ((0 : Int32)).toNatClampNeg) := inb_of Sz12 ⟨by decide, by decide⟩
 have hat12 : cl12.slots[((0 : Int32)).toNatClampNeg]? = some (.int 47) := Ha12.at hin12 rfl
 refine Go.by (X0.baloadBytes hx (j := (0 : Int32)) (v := (.int 47)) (by rw [e0]; exact Ar12.1) (State.isArrayOf_alike hZ.alike Ar12.2.1) Ar12.2.2 hin12 hat12 (g := (mkF m 88 #[(vR a1), (vI 3), (vR a2), (vI 0), (vI 1), (vI 0), .unset, .unset] [(.int 0), (.ref a2), (.int x3)])) rfl rfl (hb hby dj48_14_88)) ?_
 show oG p e below P m s₁ 89 #[(vR a1), (vI 3), (vR a2), (vI 0), (vI 1), (vI 0), .unset, .unset] [(.int 47), (.int x3)]
 by_cases hc89_13 : x3 = (47 : Int32)
 · refine cY X0 hx hby dj48_14_89 (pc' := 95) (XT.ii_eq_t hc89_13) (by decide) ?_
   refine iI X0 hx hby dj48_14_95 rfl (l' := #[(vR a1), (vI 3), (vR a2), (vI 0), (vI 1), (vI 1), .unset, .unset]) rfl ?_
   refine gO X0 hx hby dj48_14_98 (pc' := 70) (by decide) ?_
   refine iB X0 hx hby dj48_14_70 rfl ?_
   refine iB X0 hx hby dj48_14_72 rfl ?_
   refine cY X0 hx hby dj48_14_74 (pc' := 101) (XT.ii_ge_t (by decide : ¬ (1 : Int32) < (1 : Int32))) (by decide) ?_
   refine iC X0 hx hby dj48_14_101 (v := (-1)) rfl ?_
   refine r_val hP hlk hret X0 hx hby dj48_14_102 rfl (Or.inl ⟨rfl, Or.inl rfl, _, rfl⟩) (by decide) ?_
   rw [e0]
   exact ⟨by rw [if_pos hc89_13], N0, rfl⟩
 · refine cN X0 hx hby dj48_14_89 (XT.ii_eq_f hc89_13) ?_
   refine iB X0 hx hby dj48_14_92 rfl ?_
   refine r_val hP hlk hret X0 hx hby dj48_14_94 rfl (Or.inl ⟨rfl, Or.inl rfl, _, rfl⟩) (by decide) ?_
   rw [e0]
   exact ⟨by rw [if_neg hc89_13], N0, rfl⟩
def Q_startsW4 (Z : State) (a0_ a1_ : Addr) (x0 x1 x2 x3 cs : Int32) (h0 : Heap) (n0 : Nat) (v : Option Value) (h : Heap) (L : List Loc) : Prop := v = some (.int (if x3 = (47 : Int32) then (1 : Int32) else 0)) ∧ Fr n0 L ∧ h = h0
theorem rm_startsW4 (l : Launch) (Z : State) (a0 : Array Value) (hw : oW a0 Z) (ws : List Jvm.Cond) (a0_ a1_ : Addr) (x0 x1 x2 x3 cs : Int32) (h0 : Heap) (n0 : Nat) (Z0 : n0 ≤ h0.size) (O0 : Old Z n0 h0) (Scs : Sta Z Z.heap "java/lang/String" "COMPACT_STRINGS" "Z" (.int cs)) (hcs : ¬ cs = (0 : Int32)) (S0 : StrV Z h0 a0_ [x0, x1, x2, x3]) (S1 : StrV Z h0 a1_ [(47 : Int32)]) :
   oM l oY7 j42_75 8 (some .boolean) ws (own_R 2 0 0 30) #[(.ref a0_), (.ref a1_), (.int 3)] Z h0 (Q_startsW4 Z a0_ a1_ x0 x1 x2 x3 cs h0 n0) := by
 refine own_open (n0 := n0) (cn := "java/lang/String") rfl (plainFor_of_name pn0) (L0 := #[(vR a0_), (vR a1_), (vI 3), .unset, .unset, .unset, .unset, .unset]) (fun _ => by first | (simp [entryFrame, mkF, argsToLocals, Value.category]; done) | rfl) ?_
 intro p e s m below meth c s₁ P hx hby hml hown hnm X0 e0 N0 hlk hret hZ hP
 obtain ⟨d0, kd0, ES0, CS0, VS0, AS0⟩ := S0
 have AT0 : Arv Z h0 d0 kd0 .byte (4 : Int32) [(.int x0), (.int x1), (.int x2), (.int x3)] (.int 0) := AS0
 obtain ⟨d1, kd1, ES1, CS1, VS1, AS1⟩ := S1
 have AT1 : Arv Z h0 d1 kd1 .byte (1 : Int32) [(.int 47)] (.int 0) := AS1
 show oG p e below P m s₁ 0 #[(vR a0_), (vR a1_), (vI 3), .unset, .unset, .unset, .unset, .unset] []
 refine iA X0 hx hby dj42_75_0 rfl ?_
 refine fN X0 hx hby dj42_75_1 (XT.i0_lt_f (by decide : ¬ (3 : Int32) < (0 : Int32))) ?_
 refine iA X0 hx hby dj42_75_4 rfl ?_
 refine aA X0 hx hby dj42_75_5 rfl rfl ?_
 refine c_virt 1 X0 hx hby hml hZ hown (tw_37 hw) (tw_38 hw) (tw_40 hw) (tw_39 hw) (tw_41 hw) (tw_8 hw) (rm_slen l Z a0 hw [] a0_ d0 kd0 (4 : Int32) [(.int x0), (.int x1), (.int x2), (.int x3)] cs h0 n0 Z0 O0 Scs hcs ES0 CS0 VS0 AT0) e0 ES0 dj42_75_6 [] [(.int 3)] (lenOf pd0 rfl) rfl rfl (by rfl) (by decide) ?_
 rintro _ T11 Lc11 ⟨rfl, N11q, q11⟩ X11
 have N11 := Fr.app N0 N11q
 refine aA X11 hx hby dj42_75_9 rfl rfl ?_
 refine c_virt 2 X11 hx hby hml hZ hown (tw_37 hw) (tw_38 hw) (tw_40 hw) (tw_39 hw) (tw_41 hw) (tw_8 hw) (rm_slen l Z a0 hw [] a1_ d1 kd1 (1 : Int32) [(.int 47)] cs h0 n0 Z0 O0 Scs hcs ES1 CS1 VS1 AT1) q11 ES1 dj42_75_10 [] [(.int 4), (.int 3)] (lenOf pd0 rfl) rfl rfl (by rfl) (by decide) ?_
 rintro _ T12 Lc12 ⟨rfl, N12q, q12⟩ X12
 have N12 := Fr.app N11 N12q
 refine iM X12 hx hby dj42_75_13 (v := 3) rfl ?_
 refine cY X12 hx hby dj42_75_14 (pc' := 19) (XT.ii_le_t (by decide : ¬ (3 : Int32) < (3 : Int32))) (by decide) ?_
 refine aA X12 hx hby dj42_75_19 rfl rfl ?_
 obtain ⟨T13, X13, e13, st13⟩ := getF X12 hx hZ hown (host := "") (Or.inl (tw_25 hw)) Via.refl q12 VS0 (g := (mkF m 20 #[(vR a0_), (vR a1_), (vI 3), .unset, .unset, .unset, .unset, .unset] [(.ref a0_)])) rfl rfl (hb hby dj42_75_20)
 refine Go.by st13 ?_
 show oG p e below P m T13 23 #[(vR a0_), (vR a1_), (vI 3), .unset, .unset, .unset, .unset, .unset] [(.ref d0)]
 refine aS X13 hx hby dj42_75_23 rfl (l' := #[(vR a0_), (vR a1_), (vI 3), (vR d0), .unset, .unset, .unset, .unset]) rfl ?_
 refine aA X13 hx hby dj42_75_24 rfl rfl ?_
 obtain ⟨T14, X14, e14, st14⟩ := getF X13 hx hZ hown (host := "") (Or.inl (tw_25 hw)) Via.refl e13 VS1 (g := (mkF m 25 #[(vR a0_), (vR a1_), (vI 3), (vR d0), .unset, .unset, .unset, .unset] [(.ref a1_)])) rfl rfl (hb hby dj42_75_25)
 refine Go.by st14 ?_
 show oG p e below P m T14 28 #[(vR a0_), (vR a1_), (vI 3), (vR d0), .unset, .unset, .unset, .unset] [(.ref d1)]
 refine aT X14 hx hby dj42_75_28 rfl (l' := #[(vR a0_), (vR a1_), (vI 3), (vR d0), (vR d1), .unset, .unset, .unset]) rfl ?_
 refine iC X14 hx hby dj42_75_30 (v := 0) rfl ?_
 refine iT X14 hx hby dj42_75_31 (l' := #[(vR a0_), (vR a1_), (vI 3), (vR d0), (vR d1), (vI 0), .unset, .unset]) rfl ?_
 refine aB X14 hx hby dj42_75_33 rfl rfl ?_
 have av15 := AT1
 obtain ⟨cl15, Ar15, -, Sz15, Nn15, -, -⟩ := av15
 refine Go.by (X14.arraylength hx (by rw [e14]; exact Ar15.1) (State.isArrayOf_alike hZ.alike Ar15.2.1) (g := (mkF m 35 #[(vR a0_), (vR a1_), (vI 3), (vR d0), (vR d1), (vI 0), .unset, .unset] [(.ref d1)])) rfl rfl (hb hby dj42_75_35)) ?_
 rw [len_of Sz15 Nn15]
 show oG p e below P m T14 36 #[(vR a0_), (vR a1_), (vI 3), (vR d0), (vR d1), (vI 0), .unset, .unset] [(.int 1)]
 refine iT X14 hx hby dj42_75_36 (l' := #[(vR a0_), (vR a1_), (vI 3), (vR d0), (vR d1), (vI 0), (vI 1), .unset]) rfl ?_
 refine aA X14 hx hby dj42_75_38 rfl rfl ?_
 refine c_virt 0 X14 hx hby hml hZ hown (tw_42 hw) (tw_43 hw) (tw_45 hw) (tw_44 hw) (tw_46 hw) (tw_8 hw) (rm_coder l Z a0 hw [] a0_ cs h0 n0 Z0 O0 Scs hcs CS0) e14 ES0 dj42_75_39 [] [] (lenOf pd6 rfl) rfl rfl (by rfl) (by decide) ?_
 rintro _ T16 Lc16 ⟨rfl, N16q, q16⟩ X16
 have N16 := Fr.app N12 N16q
 refine iT X16 hx hby dj42_75_42 (l' := #[(vR a0_), (vR a1_), (vI 3), (vR d0), (vR d1), (vI 0), (vI 1), (vI 0)]) rfl ?_
 refine iB X16 hx hby dj42_75_44 rfl ?_
 refine aA X16 hx hby dj42_75_46 rfl rfl ?_
 refine c_virt 1 X16 hx hby hml hZ hown (tw_42 hw) (tw_43 hw) (tw_45 hw) (tw_44 hw) (tw_46 hw) (tw_8 hw) (rm_coder l Z a0 hw [] a1_ cs h0 n0 Z0 O0 Scs hcs CS1) q16 ES1 dj42_75_47 [] [(.int 0)] (lenOf pd6 rfl) rfl rfl (by rfl) (by decide) ?_
 rintro _ T17 Lc17 ⟨rfl, N17q, q17⟩ X17
 have N17 := Fr.app N16 N17q
 refine cN X17 hx hby dj42_75_50 (XT.ii_ne_f (by decide : (0 : Int32) = (0 : Int32))) ?_
 refine iB X17 hx hby dj42_75_53 rfl ?_
 refine iC X17 hx hby dj42_75_55 (v := 1) rfl ?_
 refine cY X17 hx hby dj42_75_56 (pc' := 63) (XT.ii_ne_t (by decide : ¬ (0 : Int32) = (1 : Int32))) (by decide) ?_
 refine aA X17 hx hby dj42_75_63 rfl rfl ?_
 refine iA X17 hx hby dj42_75_64 rfl ?_
 refine aB X17 hx hby dj42_75_65 rfl rfl ?_
 refine iC X17 hx hby dj42_75_67 (v := 0) rfl ?_
 refine iB X17 hx hby dj42_75_68 rfl ?_
 refine c_stat 0 X17 hx hby hml hZ hown (tw_93 hw) (tw_94 hw) (tw_95 hw) (tw_96 hw) (rm_mism4 l Z a0 hw [] d0 kd0 d1 kd1 x0 x1 x2 x3 h0 n0 Z0 AT0 AT1) q17 dj42_75_70 [(.ref d0), (.int 3), (.ref d1), (.int 0), (.int 1)] [] (lenOf pd20 rfl) rfl rfl (by rfl) (by decide) ?_
 rintro _ T18 Lc18 ⟨rfl, N18q, q18⟩ X18
 have N18 := Fr.app N17 N18q
 show oG p e below P m T18 73 #[(vR a0_), (vR a1_), (vI 3), (vR d0), (vR d1), (vI 0), (vI 1), (vI 0)] [(.int (if x3 = (47 : Int32) then (-1 : Int32) else 0))]
 by_cases hq : x3 = (47 : Int32)
 · rw [if_pos hq]
   show oG p e below P m T18 73 #[(vR a0_), (vR a1_), (vI 3), (vR d0), (vR d1), (vI 0), (vI 1), (vI 0)] [(.int (-1))]
   refine fN X18 hx hby dj42_75_73 (XT.i0_ge_f (by decide : (-1 : Int32) < (0 : Int32))) ?_
   refine iC X18 hx hby dj42_75_76 (v := 1) rfl ?_
   refine gO X18 hx hby dj42_75_77 (pc' := 81) (by decide) ?_
   refine r_val hP hlk hret X18 hx hby dj42_75_81 rfl (Or.inl ⟨rfl, Or.inr (Or.inl rfl), _, rfl⟩) (by decide) ?_
   rw [q18]
   exact ⟨by rw [if_pos hq], N18, rfl⟩
 · rw [if_neg hq]
   show oG p e below P m T18 73 #[(vR a0_), (vR a1_), (vI 3), (vR d0), (vR d1), (vI 0), (vI 1), (vI 0)] [(.int 0)]
   refine fY X18 hx hby dj42_75_73 (pc' := 80) (XT.i0_ge_t (by decide : ¬ (0 : Int32) < (0 : Int32))) (by decide) ?_
   refine iC X18 hx hby dj42_75_80 (v := 0) rfl ?_
   refine r_val hP hlk hret X18 hx hby dj42_75_81 rfl (Or.inl ⟨rfl, Or.inr (Or.inl rfl), _, rfl⟩) (by decide) ?_
   rw [q18]
   exact ⟨by rw [if_neg hq], N18, rfl⟩
def Q_endsW4 (Z : State) (a0_ a1_ : Addr) (x0 x1 x2 x3 cs : Int32) (h0 : Heap) (n0 : Nat) (v : Option Value) (h : Heap) (L : List Loc) : Prop := v = some (.int (if x3 = (47 : Int32) then (1 : Int32) else 0)) ∧ Fr n0 L ∧ h = h0
theorem rm_endsW4 (l : Launch) (Z : State) (a0 : Array Value) (hw : oW a0 Z) (ws : List Jvm.Cond) (a0_ a1_ : Addr) (x0 x1 x2 x3 cs : Int32) (h0 : Heap) (n0 : Nat) (Z0 : n0 ≤ h0.size) (O0 : Old Z n0 h0) (Scs : Sta Z Z.heap "java/lang/String" "COMPACT_STRINGS" "Z" (.int cs)) (hcs : ¬ cs = (0 : Int32)) (S0 : StrV Z h0 a0_ [x0, x1, x2, x3]) (S1 : StrV Z h0 a1_ [(47 : Int32)]) :
   oM l oY8 j42_77 2 (some .boolean) ws (own_R 3 0 0 50) #[(.ref a0_), (.ref a1_)] Z h0 (Q_endsW4 Z a0_ a1_ x0 x1 x2 x3 cs h0 n0) := by
 refine own_open (n0 := n0) (cn := "java/lang/String") rfl (plainFor_of_name pn0) (L0 := #[(vR a0_), (vR a1_)]) (fun _ => by first | (simp [entryFrame, mkF, argsToLocals, Value.category]; done) | rfl) ?_
 intro p e s m below meth c s₁ P hx hby hml hown hnm X0 e0 N0 hlk hret hZ hP
 obtain ⟨d0, kd0, ES0, CS0, VS0, AS0⟩ := S0
 have AT0 : Arv Z h0 d0 kd0 .byte (4 : Int32) [(.int x0), (.int x1), (.int x2), (.int x3)] (.int 0) := AS0
 obtain ⟨d1, kd1, ES1, CS1, VS1, AS1⟩ := S1
 have AT1 : Arv Z h0 d1 kd1 .byte (1 : Int32) [(.int 47)] (.int 0) := AS1
 show oG p e below P m s₁ 0 #[(vR a0_), (vR a1_)] []
 refine aA X0 hx hby dj42_77_0 rfl rfl ?_
 refine aA X0 hx hby dj42_77_1 rfl rfl ?_
 refine aA X0 hx hby dj42_77_2 rfl rfl ?_
 refine c_virt 2 X0 hx hby hml hZ hown (tw_37 hw) (tw_38 hw) (tw_40 hw) (tw_39 hw) (tw_41 hw) (tw_8 hw) (rm_slen l Z a0 hw [] a0_ d0 kd0 (4 : Int32) [(.int x0), (.int x1), (.int x2), (.int x3)] cs h0 n0 Z0 O0 Scs hcs ES0 CS0 VS0 AT0) e0 ES0 dj42_77_3 [] [(.ref a1_), (.ref a0_)] (lenOf pd0 rfl) rfl rfl (by rfl) (by decide) ?_
 rintro _ T11 Lc11 ⟨rfl, N11q, q11⟩ X11
 have N11 := Fr.app N0 N11q
 refine aA X11 hx hby dj42_77_6 rfl rfl ?_
 refine c_virt 3 X11 hx hby hml hZ hown (tw_37 hw) (tw_38 hw) (tw_40 hw) (tw_39 hw) (tw_41 hw) (tw_8 hw) (rm_slen l Z a0 hw [] a1_ d1 kd1 (1 : Int32) [(.int 47)] cs h0 n0 Z0 O0 Scs hcs ES1 CS1 VS1 AT1) q11 ES1 dj42_77_7 [] [(.int 4), (.ref a1_), (.ref a0_)] (lenOf pd0 rfl) rfl rfl (by rfl) (by decide) ?_
 rintro _ T12 Lc12 ⟨rfl, N12q, q12⟩ X12
 have N12 := Fr.app N11 N12q
 refine iM X12 hx hby dj42_77_10 (v := 3) rfl ?_
 refine c_virt 0 X12 hx hby hml hZ hown (tw_48 hw) (tw_49 hw) (tw_51 hw) (tw_50 hw) (tw_52 hw) (tw_8 hw) (rm_startsW4 l Z a0 hw [] a0_ a1_ x0 x1 x2 x3 cs h0 n0 Z0 O0 Scs hcs ⟨d0, kd0, ES0, CS0, VS0, AT0⟩ ⟨d1, kd1, ES1, CS1, VS1, AT1⟩) q12 ES0 dj42_77_11 [(.ref a1_), (.int 3)] [] (lenOf pd14 rfl) rfl rfl (by rfl) (by decide) ?_
 rintro _ T13 Lc13 ⟨rfl, N13q, q13⟩ X13
 have N13 := Fr.app N12 N13q
 refine r_val hP hlk hret X13 hx hby dj42_77_14 (by by_cases hq : x3 = (47 : Int32) <;> simp [hq] <;> rfl) (Or.inl ⟨rfl, Or.inr (Or.inl rfl), _, rfl⟩) (by decide) ?_
 rw [q13]
 exact ⟨rfl, N13, rfl⟩
def Q_mism5 (Z : State) (a1 : Addr) (k1 : ClassId) (a2 : Addr) (k2 : ClassId) (x0 x1 x2 x3 x4 : Int32) (h0 : Heap) (n0 : Nat) (v : Option Value) (h : Heap) (L : List Loc) : Prop := v = some (.int (if x4 = (47 : Int32) then (-1 : Int32) else 0)) ∧ Fr n0 L ∧ h = h0
theorem rm_mism5 (l : Launch) (Z : State) (a0 : Array Value) (hw : oW a0 Z) (ws : List Jvm.Cond) (a1 : Addr) (k1 : ClassId) (a2 : Addr) (k2 : ClassId) (x0 x1 x2 x3 x4 : Int32) (h0 : Heap) (n0 : Nat) (Z0 : n0 ≤ h0.size) (V1 : Arv Z h0 a1 k1 .byte (5 : Int32) [(.int x0), (.int x1), (.int x2), (.int x3), (.int x4)] (.int 0)) (V2 : Arv Z h0 a2 k2 .byte (1 : Int32) [(.int 47)] (.int 0)) :
   oM l oY17 j48_14 8 (some .int) ws (own_R 0 0 0 0) #[(.ref a1), (.int 4), (.ref a2), (.int 0), (.int 1)] Z h0 (Q_mism5 Z a1 k1 a2 k2 x0 x1 x2 x3 x4 h0 n0) := by
 refine own_open (n0 := n0) (cn := "jdk/internal/util/ArraysSupport") rfl (plainFor_of_name pn6) (L0 := #[(vR a1), (vI 4), (vR a2), (vI 0), (vI 1), .unset, .unset, .unset]) (fun _ => by first | (simp [entryFrame, mkF, argsToLocals, Value.category]; done) | rfl) ?_
 intro p e s m below meth c s₁ P hx hby hml hown hnm X0 e0 N0 hlk hret hZ hP
 refine iC X0 hx hby dj48_14_0 (v := 0) rfl ?_
 refine iT X0 hx hby dj48_14_1 (l' := #[(vR a1), (vI 4), (vR a2), (vI 0), (vI 1), (vI 0), .unset, .unset]) rfl ?_
 refine iB X0 hx hby dj48_14_3 rfl ?_
 refine bC X0 hx hby dj48_14_5 (v := 7) rfl ?_
 refine cY X0 hx hby dj48_14_7 (pc' := 70) (XT.ii_le_t (by decide : ¬ (7 : Int32) < (1 : Int32))) (by decide) ?_
 refine iB X0 hx hby dj48_14_70 rfl ?_
 refine iB X0 hx hby dj48_14_72 rfl ?_
 refine cN X0 hx hby dj48_14_74 (XT.ii_ge_f (by decide : (0 : Int32) < (1 : Int32))) ?_
 refine aA X0 hx hby dj48_14_77 rfl rfl ?_
 refine iA X0 hx hby dj48_14_78 rfl ?_
 refine iB X0 hx hby dj48_14_79 rfl ?_
 refine iP X0 hx hby dj48_14_81 (v := 4) rfl ?_
 have av11 := V1
 obtain ⟨cl11, Ar11, -, Sz11, Nn11, Ha11, Gf11⟩ := av11
 have hin11 : ¬ ((4 : Int32) < 0 ∨ cl11.slots.size ≤ ((4 : Int32)).toNatClampNeg) := inb_of Sz11 ⟨by decide, by decide⟩
 have hat11 : cl11.slots[((4 : Int32)).toNatClampNeg]? = some (.int x4) := Ha11.at hin11 rfl
 refine Go.by (X0.baloadBytes hx (j := (4 : Int32)) (v := (.int x4)) (by rw [e0]; exact Ar11.1) (State.isArrayOf_alike hZ.alike Ar11.2.1) Ar11.2.2 hin11 hat11 (g := (mkF m 82 #[(vR a1), (vI 4), (vR a2), (vI 0), (vI 1), (vI 0), .unset, .unset] [(.int 4), (.ref a1)])) rfl rfl (hb hby dj48_14_82)) ?_
 show oG p e below P m s₁ 83 #[(vR a1), (vI 4), (vR a2), (vI 0), (vI 1), (vI 0), .unset, .unset] [(.int x4)]
 refine aA X0 hx hby dj48_14_83 rfl rfl ?_
 refine iA X0 hx hby dj48_14_84 rfl ?_
 refine iB X0 hx hby dj48_14_85 rfl ?_
 refine iP X0 hx hby dj48_14_87 (v := 0) rfl ?_
 have av12 := V2
 obtain ⟨cl12, Ar12, -, Sz12, Nn12, Ha12, Gf12⟩ := av12
 have hin12 : ¬ ((0 : Int32) < 0 ∨ cl12.slots.size ≤ ((0 : Int32)).toNatClampNeg) := inb_of Sz12 ⟨by decide, by decide⟩
 have hat12 : cl12.slots[((0 : Int32)).toNatClampNeg]? = some (.int 47) := Ha12.at hin12 rfl
 refine Go.by (X0.baloadBytes hx (j := (0 : Int32)) (v := (.int 47)) (by rw [e0]; exact Ar12.1) (State.isArrayOf_alike hZ.alike Ar12.2.1) Ar12.2.2 hin12 hat12 (g := (mkF m 88 #[(vR a1), (vI 4), (vR a2), (vI 0), (vI 1), (vI 0), .unset, .unset] [(.int 0), (.ref a2), (.int x4)])) rfl rfl (hb hby dj48_14_88)) ?_
 show oG p e below P m s₁ 89 #[(vR a1), (vI 4), (vR a2), (vI 0), (vI 1), (vI 0), .unset, .unset] [(.int 47), (.int x4)]
 by_cases hc89_13 : x4 = (47 : Int32)
 · refine cY X0 hx hby dj48_14_89 (pc' := 95) (XT.ii_eq_t hc89_13) (by decide) ?_
   refine iI X0 hx hby dj48_14_95 rfl (l' := #[(vR a1), (vI 4), (vR a2), (vI 0), (vI 1), (vI 1), .unset, .unset]) rfl ?_
   refine gO X0 hx hby dj48_14_98 (pc' := 70) (by decide) ?_
   refine iB X0 hx hby dj48_14_70 rfl ?_
   refine iB X0 hx hby dj48_14_72 rfl ?_
   refine cY X0 hx hby dj48_14_74 (pc' := 101) (XT.ii_ge_t (by decide : ¬ (1 : Int32) < (1 : Int32))) (by decide) ?_
   refine iC X0 hx hby dj48_14_101 (v := (-1)) rfl ?_
   refine r_val hP hlk hret X0 hx hby dj48_14_102 rfl (Or.inl ⟨rfl, Or.inl rfl, _, rfl⟩) (by decide) ?_
   rw [e0]
   exact ⟨by rw [if_pos hc89_13], N0, rfl⟩
 · refine cN X0 hx hby dj48_14_89 (XT.ii_eq_f hc89_13) ?_
   refine iB X0 hx hby dj48_14_92 rfl ?_
   refine r_val hP hlk hret X0 hx hby dj48_14_94 rfl (Or.inl ⟨rfl, Or.inl rfl, _, rfl⟩) (by decide) ?_
   rw [e0]
   exact ⟨by rw [if_neg hc89_13], N0, rfl⟩
def Q_startsW5 (Z : State) (a0_ a1_ : Addr) (x0 x1 x2 x3 x4 cs : Int32) (h0 : Heap) (n0 : Nat) (v : Option Value) (h : Heap) (L : List Loc) : Prop := v = some (.int (if x4 = (47 : Int32) then (1 : Int32) else 0)) ∧ Fr n0 L ∧ h = h0
theorem rm_startsW5 (l : Launch) (Z : State) (a0 : Array Value) (hw : oW a0 Z) (ws : List Jvm.Cond) (a0_ a1_ : Addr) (x0 x1 x2 x3 x4 cs : Int32) (h0 : Heap) (n0 : Nat) (Z0 : n0 ≤ h0.size) (O0 : Old Z n0 h0) (Scs : Sta Z Z.heap "java/lang/String" "COMPACT_STRINGS" "Z" (.int cs)) (hcs : ¬ cs = (0 : Int32)) (S0 : StrV Z h0 a0_ [x0, x1, x2, x3, x4]) (S1 : StrV Z h0 a1_ [(47 : Int32)]) :
   oM l oY7 j42_75 8 (some .boolean) ws (own_R 2 0 0 30) #[(.ref a0_), (.ref a1_), (.int 4)] Z h0 (Q_startsW5 Z a0_ a1_ x0 x1 x2 x3 x4 cs h0 n0) := by
 refine own_open (n0 := n0) (cn := "java/lang/String") rfl (plainFor_of_name pn0) (L0 := #[(vR a0_), (vR a1_), (vI 4), .unset, .unset, .unset, .unset, .unset]) (fun _ => by first | (simp [entryFrame, mkF, argsToLocals, Value.category]; done) | rfl) ?_
 intro p e s m below meth c s₁ P hx hby hml hown hnm X0 e0 N0 hlk hret hZ hP
 obtain ⟨d0, kd0, ES0, CS0, VS0, AS0⟩ := S0
 have AT0 : Arv Z h0 d0 kd0 .byte (5 : Int32) [(.int x0), (.int x1), (.int x2), (.int x3), (.int x4)] (.int 0) := AS0
 obtain ⟨d1, kd1, ES1, CS1, VS1, AS1⟩ := S1
 have AT1 : Arv Z h0 d1 kd1 .byte (1 : Int32) [(.int 47)] (.int 0) := AS1
 show oG p e below P m s₁ 0 #[(vR a0_), (vR a1_), (vI 4), .unset, .unset, .unset, .unset, .unset] []
 refine iA X0 hx hby dj42_75_0 rfl ?_
 refine fN X0 hx hby dj42_75_1 (XT.i0_lt_f (by decide : ¬ (4 : Int32) < (0 : Int32))) ?_
 refine iA X0 hx hby dj42_75_4 rfl ?_
 refine aA X0 hx hby dj42_75_5 rfl rfl ?_
 refine c_virt 1 X0 hx hby hml hZ hown (tw_37 hw) (tw_38 hw) (tw_40 hw) (tw_39 hw) (tw_41 hw) (tw_8 hw) (rm_slen l Z a0 hw [] a0_ d0 kd0 (5 : Int32) [(.int x0), (.int x1), (.int x2), (.int x3), (.int x4)] cs h0 n0 Z0 O0 Scs hcs ES0 CS0 VS0 AT0) e0 ES0 dj42_75_6 [] [(.int 4)] (lenOf pd0 rfl) rfl rfl (by rfl) (by decide) ?_
 rintro _ T11 Lc11 ⟨rfl, N11q, q11⟩ X11
 have N11 := Fr.app N0 N11q
 refine aA X11 hx hby dj42_75_9 rfl rfl ?_
 refine c_virt 2 X11 hx hby hml hZ hown (tw_37 hw) (tw_38 hw) (tw_40 hw) (tw_39 hw) (tw_41 hw) (tw_8 hw) (rm_slen l Z a0 hw [] a1_ d1 kd1 (1 : Int32) [(.int 47)] cs h0 n0 Z0 O0 Scs hcs ES1 CS1 VS1 AT1) q11 ES1 dj42_75_10 [] [(.int 5), (.int 4)] (lenOf pd0 rfl) rfl rfl (by rfl) (by decide) ?_
 rintro _ T12 Lc12 ⟨rfl, N12q, q12⟩ X12
 have N12 := Fr.app N11 N12q
 refine iM X12 hx hby dj42_75_13 (v := 4) rfl ?_
 refine cY X12 hx hby dj42_75_14 (pc' := 19) (XT.ii_le_t (by decide : ¬ (4 : Int32) < (4 : Int32))) (by decide) ?_
 refine aA X12 hx hby dj42_75_19 rfl rfl ?_
 obtain ⟨T13, X13, e13, st13⟩ := getF X12 hx hZ hown (host := "") (Or.inl (tw_25 hw)) Via.refl q12 VS0 (g := (mkF m 20 #[(vR a0_), (vR a1_), (vI 4), .unset, .unset, .unset, .unset, .unset] [(.ref a0_)])) rfl rfl (hb hby dj42_75_20)
 refine Go.by st13 ?_
 show oG p e below P m T13 23 #[(vR a0_), (vR a1_), (vI 4), .unset, .unset, .unset, .unset, .unset] [(.ref d0)]
 refine aS X13 hx hby dj42_75_23 rfl (l' := #[(vR a0_), (vR a1_), (vI 4), (vR d0), .unset, .unset, .unset, .unset]) rfl ?_
 refine aA X13 hx hby dj42_75_24 rfl rfl ?_
 obtain ⟨T14, X14, e14, st14⟩ := getF X13 hx hZ hown (host := "") (Or.inl (tw_25 hw)) Via.refl e13 VS1 (g := (mkF m 25 #[(vR a0_), (vR a1_), (vI 4), (vR d0), .unset, .unset, .unset, .unset] [(.ref a1_)])) rfl rfl (hb hby dj42_75_25)
 refine Go.by st14 ?_
 show oG p e below P m T14 28 #[(vR a0_), (vR a1_), (vI 4), (vR d0), .unset, .unset, .unset, .unset] [(.ref d1)]
 refine aT X14 hx hby dj42_75_28 rfl (l' := #[(vR a0_), (vR a1_), (vI 4), (vR d0), (vR d1), .unset, .unset, .unset]) rfl ?_
 refine iC X14 hx hby dj42_75_30 (v := 0) rfl ?_
 refine iT X14 hx hby dj42_75_31 (l' := #[(vR a0_), (vR a1_), (vI 4), (vR d0), (vR d1), (vI 0), .unset, .unset]) rfl ?_
 refine aB X14 hx hby dj42_75_33 rfl rfl ?_
 have av15 := AT1
 obtain ⟨cl15, Ar15, -, Sz15, Nn15, -, -⟩ := av15
 refine Go.by (X14.arraylength hx (by rw [e14]; exact Ar15.1) (State.isArrayOf_alike hZ.alike Ar15.2.1) (g := (mkF m 35 #[(vR a0_), (vR a1_), (vI 4), (vR d0), (vR d1), (vI 0), .unset, .unset] [(.ref d1)])) rfl rfl (hb hby dj42_75_35)) ?_
 rw [len_of Sz15 Nn15]
 show oG p e below P m T14 36 #[(vR a0_), (vR a1_), (vI 4), (vR d0), (vR d1), (vI 0), .unset, .unset] [(.int 1)]
 refine iT X14 hx hby dj42_75_36 (l' := #[(vR a0_), (vR a1_), (vI 4), (vR d0), (vR d1), (vI 0), (vI 1), .unset]) rfl ?_
 refine aA X14 hx hby dj42_75_38 rfl rfl ?_
 refine c_virt 0 X14 hx hby hml hZ hown (tw_42 hw) (tw_43 hw) (tw_45 hw) (tw_44 hw) (tw_46 hw) (tw_8 hw) (rm_coder l Z a0 hw [] a0_ cs h0 n0 Z0 O0 Scs hcs CS0) e14 ES0 dj42_75_39 [] [] (lenOf pd6 rfl) rfl rfl (by rfl) (by decide) ?_
 rintro _ T16 Lc16 ⟨rfl, N16q, q16⟩ X16
 have N16 := Fr.app N12 N16q
 refine iT X16 hx hby dj42_75_42 (l' := #[(vR a0_), (vR a1_), (vI 4), (vR d0), (vR d1), (vI 0), (vI 1), (vI 0)]) rfl ?_
 refine iB X16 hx hby dj42_75_44 rfl ?_
 refine aA X16 hx hby dj42_75_46 rfl rfl ?_
 refine c_virt 1 X16 hx hby hml hZ hown (tw_42 hw) (tw_43 hw) (tw_45 hw) (tw_44 hw) (tw_46 hw) (tw_8 hw) (rm_coder l Z a0 hw [] a1_ cs h0 n0 Z0 O0 Scs hcs CS1) q16 ES1 dj42_75_47 [] [(.int 0)] (lenOf pd6 rfl) rfl rfl (by rfl) (by decide) ?_
 rintro _ T17 Lc17 ⟨rfl, N17q, q17⟩ X17
 have N17 := Fr.app N16 N17q
 refine cN X17 hx hby dj42_75_50 (XT.ii_ne_f (by decide : (0 : Int32) = (0 : Int32))) ?_
 refine iB X17 hx hby dj42_75_53 rfl ?_
 refine iC X17 hx hby dj42_75_55 (v := 1) rfl ?_
 refine cY X17 hx hby dj42_75_56 (pc' := 63) (XT.ii_ne_t (by decide : ¬ (0 : Int32) = (1 : Int32))) (by decide) ?_
 refine aA X17 hx hby dj42_75_63 rfl rfl ?_
 refine iA X17 hx hby dj42_75_64 rfl ?_
 refine aB X17 hx hby dj42_75_65 rfl rfl ?_
 refine iC X17 hx hby dj42_75_67 (v := 0) rfl ?_
 refine iB X17 hx hby dj42_75_68 rfl ?_
 refine c_stat 0 X17 hx hby hml hZ hown (tw_93 hw) (tw_94 hw) (tw_95 hw) (tw_96 hw) (rm_mism5 l Z a0 hw [] d0 kd0 d1 kd1 x0 x1 x2 x3 x4 h0 n0 Z0 AT0 AT1) q17 dj42_75_70 [(.ref d0), (.int 4), (.ref d1), (.int 0), (.int 1)] [] (lenOf pd20 rfl) rfl rfl (by rfl) (by decide) ?_
 rintro _ T18 Lc18 ⟨rfl, N18q, q18⟩ X18
 have N18 := Fr.app N17 N18q
 show oG p e below P m T18 73 #[(vR a0_), (vR a1_), (vI 4), (vR d0), (vR d1), (vI 0), (vI 1), (vI 0)] [(.int (if x4 = (47 : Int32) then (-1 : Int32) else 0))]
 by_cases hq : x4 = (47 : Int32)
 · rw [if_pos hq]
   show oG p e below P m T18 73 #[(vR a0_), (vR a1_), (vI 4), (vR d0), (vR d1), (vI 0), (vI 1), (vI 0)] [(.int (-1))]
   refine fN X18 hx hby dj42_75_73 (XT.i0_ge_f (by decide : (-1 : Int32) < (0 : Int32))) ?_
   refine iC X18 hx hby dj42_75_76 (v := 1) rfl ?_
   refine gO X18 hx hby dj42_75_77 (pc' := 81) (by decide) ?_
   refine r_val hP hlk hret X18 hx hby dj42_75_81 rfl (Or.inl ⟨rfl, Or.inr (Or.inl rfl), _, rfl⟩) (by decide) ?_
   rw [q18]
   exact ⟨by rw [if_pos hq], N18, rfl⟩
 · rw [if_neg hq]
   show oG p e below P m T18 73 #[(vR a0_), (vR a1_), (vI 4), (vR d0), (vR d1), (vI 0), (vI 1), (vI 0)] [(.int 0)]
   refine fY X18 hx hby dj42_75_73 (pc' := 80) (XT.i0_ge_t (by decide : ¬ (0 : Int32) < (0 : Int32))) (by decide) ?_
   refine iC X18 hx hby dj42_75_80 (v := 0) rfl ?_
   refine r_val hP hlk hret X18 hx hby dj42_75_81 rfl (Or.inl ⟨rfl, Or.inr (Or.inl rfl), _, rfl⟩) (by decide) ?_
   rw [q18]
   exact ⟨by rw [if_neg hq], N18, rfl⟩
def Q_endsW5 (Z : State) (a0_ a1_ : Addr) (x0 x1 x2 x3 x4 cs : Int32) (h0 : Heap) (n0 : Nat) (v : Option Value) (h : Heap) (L : List Loc) : Prop := v = some (.int (if x4 = (47 : Int32) then (1 : Int32) else 0)) ∧ Fr n0 L ∧ h = h0
theorem rm_endsW5 (l : Launch) (Z : State) (a0 : Array Value) (hw : oW a0 Z) (ws : List Jvm.Cond) (a0_ a1_ : Addr) (x0 x1 x2 x3 x4 cs : Int32) (h0 : Heap) (n0 : Nat) (Z0 : n0 ≤ h0.size) (O0 : Old Z n0 h0) (Scs : Sta Z Z.heap "java/lang/String" "COMPACT_STRINGS" "Z" (.int cs)) (hcs : ¬ cs = (0 : Int32)) (S0 : StrV Z h0 a0_ [x0, x1, x2, x3, x4]) (S1 : StrV Z h0 a1_ [(47 : Int32)]) :
   oM l oY8 j42_77 2 (some .boolean) ws (own_R 3 0 0 50) #[(.ref a0_), (.ref a1_)] Z h0 (Q_endsW5 Z a0_ a1_ x0 x1 x2 x3 x4 cs h0 n0) := by
 refine own_open (n0 := n0) (cn := "java/lang/String") rfl (plainFor_of_name pn0) (L0 := #[(vR a0_), (vR a1_)]) (fun _ => by first | (simp [entryFrame, mkF, argsToLocals, Value.category]; done) | rfl) ?_
 intro p e s m below meth c s₁ P hx hby hml hown hnm X0 e0 N0 hlk hret hZ hP
 obtain ⟨d0, kd0, ES0, CS0, VS0, AS0⟩ := S0
 have AT0 : Arv Z h0 d0 kd0 .byte (5 : Int32) [(.int x0), (.int x1), (.int x2), (.int x3), (.int x4)] (.int 0) := AS0
 obtain ⟨d1, kd1, ES1, CS1, VS1, AS1⟩ := S1
 have AT1 : Arv Z h0 d1 kd1 .byte (1 : Int32) [(.int 47)] (.int 0) := AS1
 show oG p e below P m s₁ 0 #[(vR a0_), (vR a1_)] []
 refine aA X0 hx hby dj42_77_0 rfl rfl ?_
 refine aA X0 hx hby dj42_77_1 rfl rfl ?_
 refine aA X0 hx hby dj42_77_2 rfl rfl ?_
 refine c_virt 2 X0 hx hby hml hZ hown (tw_37 hw) (tw_38 hw) (tw_40 hw) (tw_39 hw) (tw_41 hw) (tw_8 hw) (rm_slen l Z a0 hw [] a0_ d0 kd0 (5 : Int32) [(.int x0), (.int x1), (.int x2), (.int x3), (.int x4)] cs h0 n0 Z0 O0 Scs hcs ES0 CS0 VS0 AT0) e0 ES0 dj42_77_3 [] [(.ref a1_), (.ref a0_)] (lenOf pd0 rfl) rfl rfl (by rfl) (by decide) ?_
 rintro _ T11 Lc11 ⟨rfl, N11q, q11⟩ X11
 have N11 := Fr.app N0 N11q
 refine aA X11 hx hby dj42_77_6 rfl rfl ?_
 refine c_virt 3 X11 hx hby hml hZ hown (tw_37 hw) (tw_38 hw) (tw_40 hw) (tw_39 hw) (tw_41 hw) (tw_8 hw) (rm_slen l Z a0 hw [] a1_ d1 kd1 (1 : Int32) [(.int 47)] cs h0 n0 Z0 O0 Scs hcs ES1 CS1 VS1 AT1) q11 ES1 dj42_77_7 [] [(.int 5), (.ref a1_), (.ref a0_)] (lenOf pd0 rfl) rfl rfl (by rfl) (by decide) ?_
 rintro _ T12 Lc12 ⟨rfl, N12q, q12⟩ X12
 have N12 := Fr.app N11 N12q
 refine iM X12 hx hby dj42_77_10 (v := 4) rfl ?_
 refine c_virt 0 X12 hx hby hml hZ hown (tw_48 hw) (tw_49 hw) (tw_51 hw) (tw_50 hw) (tw_52 hw) (tw_8 hw) (rm_startsW5 l Z a0 hw [] a0_ a1_ x0 x1 x2 x3 x4 cs h0 n0 Z0 O0 Scs hcs ⟨d0, kd0, ES0, CS0, VS0, AT0⟩ ⟨d1, kd1, ES1, CS1, VS1, AT1⟩) q12 ES0 dj42_77_11 [(.ref a1_), (.int 4)] [] (lenOf pd14 rfl) rfl rfl (by rfl) (by decide) ?_
 rintro _ T13 Lc13 ⟨rfl, N13q, q13⟩ X13
 have N13 := Fr.app N12 N13q
 refine r_val hP hlk hret X13 hx hby dj42_77_14 (by by_cases hq : x4 = (47 : Int32) <;> simp [hq] <;> rfl) (Or.inl ⟨rfl, Or.inr (Or.inl rfl), _, rfl⟩) (by decide) ?_
 rw [q13]
 exact ⟨rfl, N13, rfl⟩
def Q_l1last0_0 (Z : State) (a1 : Addr) (k1 : ClassId) (h0 : Heap) (n0 : Nat) (v : Option Value) (h : Heap) (L : List Loc) : Prop := v = some (.int (-1)) ∧ Fr n0 L ∧ h = h0
theorem rm_l1last0_0 (l : Launch) (Z : State) (a0 : Array Value) (hw : oW a0 Z) (ws : List Jvm.Cond) (a1 : Addr) (k1 : ClassId) (h0 : Heap) (n0 : Nat) (Z0 : n0 ≤ h0.size) (V1 : Arv Z h0 a1 k1 .byte (0 : Int32) [] (.int 0)) :
   oM l oY4 j43_27 4 (some .int) ws (own_R 1 0 0 14) #[(.ref a1), (.int 47), (.int (-1))] Z h0 (Q_l1last0_0 Z a1 k1 h0 n0) := by
 refine own_open (n0 := n0) (cn := "java/lang/StringLatin1") rfl (plainFor_of_name pn1) (L0 := #[(vR a1), (vI 47), (vI (-1)), .unset]) (fun _ => by first | (simp [entryFrame, mkF, argsToLocals, Value.category]; done) | rfl) ?_
 intro p e s m below meth c s₁ P hx hby hml hown hnm X0 e0 N0 hlk hret hZ hP
 refine iA X0 hx hby dj43_27_0 rfl ?_
 refine c_stat 0 X0 hx hby hml hZ hown (tw_68 hw) (tw_69 hw) (tw_66 hw) (tw_70 hw) (rm_canEncI l Z a0 hw []  h0 n0 Z0 ) e0 dj43_27_1 [(.int 47)] [] (lenOf pd7 rfl) rfl rfl (by rfl) (by decide) ?_
 rintro _ T11 Lc11 ⟨rfl, N11q, q11⟩ X11
 have N11 := Fr.app N0 N11q
 refine fY X11 hx hby dj43_27_4 (pc' := 9) (XT.i0_ne_t (by decide : ¬ (1 : Int32) = (0 : Int32))) (by decide) ?_
 refine iA X11 hx hby dj43_27_9 rfl ?_
 refine aA X11 hx hby dj43_27_10 rfl rfl ?_
 have av12 := V1
 obtain ⟨cl12, Ar12, -, Sz12, Nn12, -, -⟩ := av12
 refine Go.by (X11.arraylength hx (by rw [q11]; exact Ar12.1) (State.isArrayOf_alike hZ.alike Ar12.2.1) (g := (mkF m 11 #[(vR a1), (vI 47), (vI (-1)), .unset] [(.ref a1), (.int (-1))])) rfl rfl (hb hby dj43_27_11)) ?_
 rw [len_of Sz12 Nn12]
 show oG p e below P m T11 12 #[(vR a1), (vI 47), (vI (-1)), .unset] [(.int 0), (.int (-1))]
 refine iC X11 hx hby dj43_27_12 (v := 1) rfl ?_
 refine iM X11 hx hby dj43_27_13 (v := (-1)) rfl ?_
 refine c_stat 0 X11 hx hby hml hZ hown (tw_71 hw) (tw_72 hw) (tw_73 hw) (tw_74 hw) (rm_min l Z a0 hw [] (-1 : Int32) (-1 : Int32) (-1 : Int32) h0 n0 Z0 (by decide)) q11 dj43_27_14 [(.int (-1)), (.int (-1))] [] (lenOf pd1 rfl) rfl rfl (by rfl) (by decide) ?_
 rintro _ T13 Lc13 ⟨rfl, N13q, q13⟩ X13
 have N13 := Fr.app N11 N13q
 refine iS X13 hx hby dj43_27_17 (l' := #[(vR a1), (vI 47), (vI (-1)), (vI (-1))]) rfl ?_
 refine iA X13 hx hby dj43_27_18 rfl ?_
 refine fY X13 hx hby dj43_27_19 (pc' := 38) (XT.i0_lt_t (by decide : (-1 : Int32) < (0 : Int32))) (by decide) ?_
 refine iC X13 hx hby dj43_27_38 (v := (-1)) rfl ?_
 refine r_val hP hlk hret X13 hx hby dj43_27_39 rfl (Or.inl ⟨rfl, Or.inl rfl, _, rfl⟩) (by decide) ?_
 rw [q13]
 exact ⟨rfl, N13, rfl⟩
def Q_slast0_0 (Z : State) (a0_ : Addr) (cs : Int32) (h0 : Heap) (n0 : Nat) (v : Option Value) (h : Heap) (L : List Loc) : Prop := v = some (.int (-1)) ∧ Fr n0 L ∧ h = h0
theorem rm_slast0_0 (l : Launch) (Z : State) (a0 : Array Value) (hw : oW a0 Z) (ws : List Jvm.Cond) (a0_ : Addr) (cs : Int32) (h0 : Heap) (n0 : Nat) (Z0 : n0 ≤ h0.size) (O0 : Old Z n0 h0) (Scs : Sta Z Z.heap "java/lang/String" "COMPACT_STRINGS" "Z" (.int cs)) (hcs : ¬ cs = (0 : Int32)) (S0 : StrV Z h0 a0_ []) :
   oM l oY2 j42_83 3 (some .int) ws (own_R 2 0 0 30) #[(.ref a0_), (.int 47), (.int (-1))] Z h0 (Q_slast0_0 Z a0_ cs h0 n0) := by
 refine own_open (n0 := n0) (cn := "java/lang/String") rfl (plainFor_of_name pn0) (L0 := #[(vR a0_), (vI 47), (vI (-1))]) (fun _ => by first | (simp [entryFrame, mkF, argsToLocals, Value.category]; done) | rfl) ?_
 intro p e s m below meth c s₁ P hx hby hml hown hnm X0 e0 N0 hlk hret hZ hP
 obtain ⟨d0, kd0, ES0, CS0, VS0, AS0⟩ := S0
 have AT0 : Arv Z h0 d0 kd0 .byte (0 : Int32) [] (.int 0) := AS0
 show oG p e below P m s₁ 0 #[(vR a0_), (vI 47), (vI (-1))] []
 refine aA X0 hx hby dj42_83_0 rfl rfl ?_
 refine c_virt 0 X0 hx hby hml hZ hown (tw_59 hw) (tw_60 hw) (tw_62 hw) (tw_61 hw) (tw_63 hw) (tw_8 hw) (rm_isLat l Z a0 hw [] a0_ cs h0 n0 Z0 O0 Scs hcs CS0) e0 ES0 dj42_83_1 [] [] (lenOf pd4 rfl) rfl rfl (by rfl) (by decide) ?_
 rintro _ T11 Lc11 ⟨rfl, N11q, q11⟩ X11
 have N11 := Fr.app N0 N11q
 refine fN X11 hx hby dj42_83_4 (XT.i0_eq_f (by decide : ¬ (1 : Int32) = (0 : Int32))) ?_
 refine aA X11 hx hby dj42_83_7 rfl rfl ?_
 obtain ⟨T12, X12, e12, st12⟩ := getF X11 hx hZ hown (host := "") (Or.inl (tw_25 hw)) Via.refl q11 VS0 (g := (mkF m 8 #[(vR a0_), (vI 47), (vI (-1))] [(.ref a0_)])) rfl rfl (hb hby dj42_83_8)
 refine Go.by st12 ?_
 show oG p e below P m T12 11 #[(vR a0_), (vI 47), (vI (-1))] [(.ref d0)]
 refine iA X12 hx hby dj42_83_11 rfl ?_
 refine iA X12 hx hby dj42_83_12 rfl ?_
 refine c_stat 0 X12 hx hby hml hZ hown (tw_64 hw) (tw_65 hw) (tw_66 hw) (tw_67 hw) (rm_l1last0_0 l Z a0 hw [] d0 kd0 h0 n0 Z0 AT0) e12 dj42_83_13 [(.ref d0), (.int 47), (.int (-1))] [] (lenOf pd8 rfl) rfl rfl (by rfl) (by decide) ?_
 rintro _ T13 Lc13 ⟨rfl, N13q, q13⟩ X13
 have N13 := Fr.app N11 N13q
 refine gO X13 hx hby dj42_83_16 (pc' := 28) (by decide) ?_
 refine r_val hP hlk hret X13 hx hby dj42_83_28 rfl (Or.inl ⟨rfl, Or.inl rfl, _, rfl⟩) (by decide) ?_
 rw [q13]
 exact ⟨rfl, N13, rfl⟩
def Q_l1last1_1 (Z : State) (a1 : Addr) (k1 : ClassId) (x0 : Int32) (h0 : Heap) (n0 : Nat) (v : Option Value) (h : Heap) (L : List Loc) : Prop := v = some (.int (own_l1 x0)) ∧ Fr n0 L ∧ h = h0
theorem rm_l1last1_1 (l : Launch) (Z : State) (a0 : Array Value) (hw : oW a0 Z) (ws : List Jvm.Cond) (a1 : Addr) (k1 : ClassId) (x0 : Int32) (h0 : Heap) (n0 : Nat) (Z0 : n0 ≤ h0.size) (V1 : Arv Z h0 a1 k1 .byte (1 : Int32) [(.int x0)] (.int 0)) :
   oM l oY4 j43_27 4 (some .int) ws (own_R 1 0 0 14) #[(.ref a1), (.int 47), (.int 0)] Z h0 (Q_l1last1_1 Z a1 k1 x0 h0 n0) := by
 refine own_open (n0 := n0) (cn := "java/lang/StringLatin1") rfl (plainFor_of_name pn1) (L0 := #[(vR a1), (vI 47), (vI 0), .unset]) (fun _ => by first | (simp [entryFrame, mkF, argsToLocals, Value.category]; done) | rfl) ?_
 intro p e s m below meth c s₁ P hx hby hml hown hnm X0 e0 N0 hlk hret hZ hP
 refine iA X0 hx hby dj43_27_0 rfl ?_
 refine c_stat 0 X0 hx hby hml hZ hown (tw_68 hw) (tw_69 hw) (tw_66 hw) (tw_70 hw) (rm_canEncI l Z a0 hw []  h0 n0 Z0 ) e0 dj43_27_1 [(.int 47)] [] (lenOf pd7 rfl) rfl rfl (by rfl) (by decide) ?_
 rintro _ T11 Lc11 ⟨rfl, N11q, q11⟩ X11
 have N11 := Fr.app N0 N11q
 refine fY X11 hx hby dj43_27_4 (pc' := 9) (XT.i0_ne_t (by decide : ¬ (1 : Int32) = (0 : Int32))) (by decide) ?_
 refine iA X11 hx hby dj43_27_9 rfl ?_
 refine aA X11 hx hby dj43_27_10 rfl rfl ?_
 have av12 := V1
 obtain ⟨cl12, Ar12, -, Sz12, Nn12, -, -⟩ := av12
 refine Go.by (X11.arraylength hx (by rw [q11]; exact Ar12.1) (State.isArrayOf_alike hZ.alike Ar12.2.1) (g := (mkF m 11 #[(vR a1), (vI 47), (vI 0), .unset] [(.ref a1), (.int 0)])) rfl rfl (hb hby dj43_27_11)) ?_
 rw [len_of Sz12 Nn12]
 show oG p e below P m T11 12 #[(vR a1), (vI 47), (vI 0), .unset] [(.int 1), (.int 0)]
 refine iC X11 hx hby dj43_27_12 (v := 1) rfl ?_
 refine iM X11 hx hby dj43_27_13 (v := 0) rfl ?_
 refine c_stat 0 X11 hx hby hml hZ hown (tw_71 hw) (tw_72 hw) (tw_73 hw) (tw_74 hw) (rm_min l Z a0 hw [] (0 : Int32) (0 : Int32) (0 : Int32) h0 n0 Z0 (by decide)) q11 dj43_27_14 [(.int 0), (.int 0)] [] (lenOf pd1 rfl) rfl rfl (by rfl) (by decide) ?_
 rintro _ T13 Lc13 ⟨rfl, N13q, q13⟩ X13
 have N13 := Fr.app N11 N13q
 refine iS X13 hx hby dj43_27_17 (l' := #[(vR a1), (vI 47), (vI 0), (vI 0)]) rfl ?_
 refine iA X13 hx hby dj43_27_18 rfl ?_
 refine fN X13 hx hby dj43_27_19 (XT.i0_lt_f (by decide : ¬ (0 : Int32) < (0 : Int32))) ?_
 refine aA X13 hx hby dj43_27_22 rfl rfl ?_
 refine iA X13 hx hby dj43_27_23 rfl ?_
 have av14 := V1
 obtain ⟨cl14, Ar14, -, Sz14, Nn14, Ha14, Gf14⟩ := av14
 have hin14 : ¬ ((0 : Int32) < 0 ∨ cl14.slots.size ≤ ((0 : Int32)).toNatClampNeg) := inb_of Sz14 ⟨by decide, by decide⟩
 have hat14 : cl14.slots[((0 : Int32)).toNatClampNeg]? = some (.int x0) := Ha14.at hin14 rfl
 refine Go.by (X13.baloadBytes hx (j := (0 : Int32)) (v := (.int x0)) (by rw [q13]; exact Ar14.1) (State.isArrayOf_alike hZ.alike Ar14.2.1) Ar14.2.2 hin14 hat14 (g := (mkF m 24 #[(vR a1), (vI 47), (vI 0), (vI 0)] [(.int 0), (.ref a1)])) rfl rfl (hb hby dj43_27_24)) ?_
 show oG p e below P m T13 25 #[(vR a1), (vI 47), (vI 0), (vI 0)] [(.int x0)]
 refine iA X13 hx hby dj43_27_25 rfl ?_
 refine Go.by (fun _ => XS.i2b X13.here hx rfl (hb hby dj43_27_26) rfl) ?_
 show oG p e below P m T13 27 #[(vR a1), (vI 47), (vI 0), (vI 0)] [(.int ((47 : Int32).toInt8.toInt32)), (.int x0)]
 show oG p e below P m T13 27 #[(vR a1), (vI 47), (vI 0), (vI 0)] [(.int 47), (.int x0)]
 by_cases hc27_15 : x0 = (47 : Int32)
 · refine cN X13 hx hby dj43_27_27 (XT.ii_ne_f hc27_15) ?_
   refine iA X13 hx hby dj43_27_30 rfl ?_
   refine r_val hP hlk hret X13 hx hby dj43_27_31 rfl (Or.inl ⟨rfl, Or.inl rfl, _, rfl⟩) (by decide) ?_
   rw [q13]
   exact ⟨by simp [own_l1, hc27_15], N13, rfl⟩
 · refine cY X13 hx hby dj43_27_27 (pc' := 32) (XT.ii_ne_t hc27_15) (by decide) ?_
   refine iI X13 hx hby dj43_27_32 rfl (l' := #[(vR a1), (vI 47), (vI 0), (vI (-1))]) rfl ?_
   refine gO X13 hx hby dj43_27_35 (pc' := 18) (by decide) ?_
   refine iA X13 hx hby dj43_27_18 rfl ?_
   refine fY X13 hx hby dj43_27_19 (pc' := 38) (XT.i0_lt_t (by decide : (-1 : Int32) < (0 : Int32))) (by decide) ?_
   refine iC X13 hx hby dj43_27_38 (v := (-1)) rfl ?_
   refine r_val hP hlk hret X13 hx hby dj43_27_39 rfl (Or.inl ⟨rfl, Or.inl rfl, _, rfl⟩) (by decide) ?_
   rw [q13]
   exact ⟨by simp [own_l1, hc27_15], N13, rfl⟩
def Q_slast1_1 (Z : State) (a0_ : Addr) (x0 cs : Int32) (h0 : Heap) (n0 : Nat) (v : Option Value) (h : Heap) (L : List Loc) : Prop := v = some (.int (own_l1 x0)) ∧ Fr n0 L ∧ h = h0
theorem rm_slast1_1 (l : Launch) (Z : State) (a0 : Array Value) (hw : oW a0 Z) (ws : List Jvm.Cond) (a0_ : Addr) (x0 cs : Int32) (h0 : Heap) (n0 : Nat) (Z0 : n0 ≤ h0.size) (O0 : Old Z n0 h0) (Scs : Sta Z Z.heap "java/lang/String" "COMPACT_STRINGS" "Z" (.int cs)) (hcs : ¬ cs = (0 : Int32)) (S0 : StrV Z h0 a0_ [x0]) :
   oM l oY2 j42_83 3 (some .int) ws (own_R 2 0 0 30) #[(.ref a0_), (.int 47), (.int 0)] Z h0 (Q_slast1_1 Z a0_ x0 cs h0 n0) := by
 refine own_open (n0 := n0) (cn := "java/lang/String") rfl (plainFor_of_name pn0) (L0 := #[(vR a0_), (vI 47), (vI 0)]) (fun _ => by first | (simp [entryFrame, mkF, argsToLocals, Value.category]; done) | rfl) ?_
 intro p e s m below meth c s₁ P hx hby hml hown hnm X0 e0 N0 hlk hret hZ hP
 obtain ⟨d0, kd0, ES0, CS0, VS0, AS0⟩ := S0
 have AT0 : Arv Z h0 d0 kd0 .byte (1 : Int32) [(.int x0)] (.int 0) := AS0
 show oG p e below P m s₁ 0 #[(vR a0_), (vI 47), (vI 0)] []
 refine aA X0 hx hby dj42_83_0 rfl rfl ?_
 refine c_virt 0 X0 hx hby hml hZ hown (tw_59 hw) (tw_60 hw) (tw_62 hw) (tw_61 hw) (tw_63 hw) (tw_8 hw) (rm_isLat l Z a0 hw [] a0_ cs h0 n0 Z0 O0 Scs hcs CS0) e0 ES0 dj42_83_1 [] [] (lenOf pd4 rfl) rfl rfl (by rfl) (by decide) ?_
 rintro _ T11 Lc11 ⟨rfl, N11q, q11⟩ X11
 have N11 := Fr.app N0 N11q
 refine fN X11 hx hby dj42_83_4 (XT.i0_eq_f (by decide : ¬ (1 : Int32) = (0 : Int32))) ?_
 refine aA X11 hx hby dj42_83_7 rfl rfl ?_
 obtain ⟨T12, X12, e12, st12⟩ := getF X11 hx hZ hown (host := "") (Or.inl (tw_25 hw)) Via.refl q11 VS0 (g := (mkF m 8 #[(vR a0_), (vI 47), (vI 0)] [(.ref a0_)])) rfl rfl (hb hby dj42_83_8)
 refine Go.by st12 ?_
 show oG p e below P m T12 11 #[(vR a0_), (vI 47), (vI 0)] [(.ref d0)]
 refine iA X12 hx hby dj42_83_11 rfl ?_
 refine iA X12 hx hby dj42_83_12 rfl ?_
 refine c_stat 0 X12 hx hby hml hZ hown (tw_64 hw) (tw_65 hw) (tw_66 hw) (tw_67 hw) (rm_l1last1_1 l Z a0 hw [] d0 kd0 x0 h0 n0 Z0 AT0) e12 dj42_83_13 [(.ref d0), (.int 47), (.int 0)] [] (lenOf pd8 rfl) rfl rfl (by rfl) (by decide) ?_
 rintro _ T13 Lc13 ⟨rfl, N13q, q13⟩ X13
 have N13 := Fr.app N11 N13q
 refine gO X13 hx hby dj42_83_16 (pc' := 28) (by decide) ?_
 refine r_val hP hlk hret X13 hx hby dj42_83_28 rfl (Or.inl ⟨rfl, Or.inl rfl, _, rfl⟩) (by decide) ?_
 rw [q13]
 exact ⟨rfl, N13, rfl⟩
def Q_l1last1_0 (Z : State) (a1 : Addr) (k1 : ClassId) (x0 : Int32) (h0 : Heap) (n0 : Nat) (v : Option Value) (h : Heap) (L : List Loc) : Prop := v = some (.int (-1)) ∧ Fr n0 L ∧ h = h0
theorem rm_l1last1_0 (l : Launch) (Z : State) (a0 : Array Value) (hw : oW a0 Z) (ws : List Jvm.Cond) (a1 : Addr) (k1 : ClassId) (x0 : Int32) (h0 : Heap) (n0 : Nat) (Z0 : n0 ≤ h0.size) (V1 : Arv Z h0 a1 k1 .byte (1 : Int32) [(.int x0)] (.int 0)) :
   oM l oY4 j43_27 4 (some .int) ws (own_R 1 0 0 14) #[(.ref a1), (.int 47), (.int (-1))] Z h0 (Q_l1last1_0 Z a1 k1 x0 h0 n0) := by
 refine own_open (n0 := n0) (cn := "java/lang/StringLatin1") rfl (plainFor_of_name pn1) (L0 := #[(vR a1), (vI 47), (vI (-1)), .unset]) (fun _ => by first | (simp [entryFrame, mkF, argsToLocals, Value.category]; done) | rfl) ?_
 intro p e s m below meth c s₁ P hx hby hml hown hnm X0 e0 N0 hlk hret hZ hP
 refine iA X0 hx hby dj43_27_0 rfl ?_
 refine c_stat 0 X0 hx hby hml hZ hown (tw_68 hw) (tw_69 hw) (tw_66 hw) (tw_70 hw) (rm_canEncI l Z a0 hw []  h0 n0 Z0 ) e0 dj43_27_1 [(.int 47)] [] (lenOf pd7 rfl) rfl rfl (by rfl) (by decide) ?_
 rintro _ T11 Lc11 ⟨rfl, N11q, q11⟩ X11
 have N11 := Fr.app N0 N11q
 refine fY X11 hx hby dj43_27_4 (pc' := 9) (XT.i0_ne_t (by decide : ¬ (1 : Int32) = (0 : Int32))) (by decide) ?_
 refine iA X11 hx hby dj43_27_9 rfl ?_
 refine aA X11 hx hby dj43_27_10 rfl rfl ?_
 have av12 := V1
 obtain ⟨cl12, Ar12, -, Sz12, Nn12, -, -⟩ := av12
 refine Go.by (X11.arraylength hx (by rw [q11]; exact Ar12.1) (State.isArrayOf_alike hZ.alike Ar12.2.1) (g := (mkF m 11 #[(vR a1), (vI 47), (vI (-1)), .unset] [(.ref a1), (.int (-1))])) rfl rfl (hb hby dj43_27_11)) ?_
 rw [len_of Sz12 Nn12]
 show oG p e below P m T11 12 #[(vR a1), (vI 47), (vI (-1)), .unset] [(.int 1), (.int (-1))]
 refine iC X11 hx hby dj43_27_12 (v := 1) rfl ?_
 refine iM X11 hx hby dj43_27_13 (v := 0) rfl ?_
 refine c_stat 0 X11 hx hby hml hZ hown (tw_71 hw) (tw_72 hw) (tw_73 hw) (tw_74 hw) (rm_min l Z a0 hw [] (-1 : Int32) (0 : Int32) (-1 : Int32) h0 n0 Z0 (by decide)) q11 dj43_27_14 [(.int (-1)), (.int 0)] [] (lenOf pd1 rfl) rfl rfl (by rfl) (by decide) ?_
 rintro _ T13 Lc13 ⟨rfl, N13q, q13⟩ X13
 have N13 := Fr.app N11 N13q
 refine iS X13 hx hby dj43_27_17 (l' := #[(vR a1), (vI 47), (vI (-1)), (vI (-1))]) rfl ?_
 refine iA X13 hx hby dj43_27_18 rfl ?_
 refine fY X13 hx hby dj43_27_19 (pc' := 38) (XT.i0_lt_t (by decide : (-1 : Int32) < (0 : Int32))) (by decide) ?_
 refine iC X13 hx hby dj43_27_38 (v := (-1)) rfl ?_
 refine r_val hP hlk hret X13 hx hby dj43_27_39 rfl (Or.inl ⟨rfl, Or.inl rfl, _, rfl⟩) (by decide) ?_
 rw [q13]
 exact ⟨rfl, N13, rfl⟩
def Q_slast1_0 (Z : State) (a0_ : Addr) (x0 cs : Int32) (h0 : Heap) (n0 : Nat) (v : Option Value) (h : Heap) (L : List Loc) : Prop := v = some (.int (-1)) ∧ Fr n0 L ∧ h = h0
theorem rm_slast1_0 (l : Launch) (Z : State) (a0 : Array Value) (hw : oW a0 Z) (ws : List Jvm.Cond) (a0_ : Addr) (x0 cs : Int32) (h0 : Heap) (n0 : Nat) (Z0 : n0 ≤ h0.size) (O0 : Old Z n0 h0) (Scs : Sta Z Z.heap "java/lang/String" "COMPACT_STRINGS" "Z" (.int cs)) (hcs : ¬ cs = (0 : Int32)) (S0 : StrV Z h0 a0_ [x0]) :
   oM l oY2 j42_83 3 (some .int) ws (own_R 2 0 0 30) #[(.ref a0_), (.int 47), (.int (-1))] Z h0 (Q_slast1_0 Z a0_ x0 cs h0 n0) := by
 refine own_open (n0 := n0) (cn := "java/lang/String") rfl (plainFor_of_name pn0) (L0 := #[(vR a0_), (vI 47), (vI (-1))]) (fun _ => by first | (simp [entryFrame, mkF, argsToLocals, Value.category]; done) | rfl) ?_
 intro p e s m below meth c s₁ P hx hby hml hown hnm X0 e0 N0 hlk hret hZ hP
 obtain ⟨d0, kd0, ES0, CS0, VS0, AS0⟩ := S0
 have AT0 : Arv Z h0 d0 kd0 .byte (1 : Int32) [(.int x0)] (.int 0) := AS0
 show oG p e below P m s₁ 0 #[(vR a0_), (vI 47), (vI (-1))] []
 refine aA X0 hx hby dj42_83_0 rfl rfl ?_
 refine c_virt 0 X0 hx hby hml hZ hown (tw_59 hw) (tw_60 hw) (tw_62 hw) (tw_61 hw) (tw_63 hw) (tw_8 hw) (rm_isLat l Z a0 hw [] a0_ cs h0 n0 Z0 O0 Scs hcs CS0) e0 ES0 dj42_83_1 [] [] (lenOf pd4 rfl) rfl rfl (by rfl) (by decide) ?_
 rintro _ T11 Lc11 ⟨rfl, N11q, q11⟩ X11
 have N11 := Fr.app N0 N11q
 refine fN X11 hx hby dj42_83_4 (XT.i0_eq_f (by decide : ¬ (1 : Int32) = (0 : Int32))) ?_
 refine aA X11 hx hby dj42_83_7 rfl rfl ?_
 obtain ⟨T12, X12, e12, st12⟩ := getF X11 hx hZ hown (host := "") (Or.inl (tw_25 hw)) Via.refl q11 VS0 (g := (mkF m 8 #[(vR a0_), (vI 47), (vI (-1))] [(.ref a0_)])) rfl rfl (hb hby dj42_83_8)
 refine Go.by st12 ?_
 show oG p e below P m T12 11 #[(vR a0_), (vI 47), (vI (-1))] [(.ref d0)]
 refine iA X12 hx hby dj42_83_11 rfl ?_
 refine iA X12 hx hby dj42_83_12 rfl ?_
 refine c_stat 0 X12 hx hby hml hZ hown (tw_64 hw) (tw_65 hw) (tw_66 hw) (tw_67 hw) (rm_l1last1_0 l Z a0 hw [] d0 kd0 x0 h0 n0 Z0 AT0) e12 dj42_83_13 [(.ref d0), (.int 47), (.int (-1))] [] (lenOf pd8 rfl) rfl rfl (by rfl) (by decide) ?_
 rintro _ T13 Lc13 ⟨rfl, N13q, q13⟩ X13
 have N13 := Fr.app N11 N13q
 refine gO X13 hx hby dj42_83_16 (pc' := 28) (by decide) ?_
 refine r_val hP hlk hret X13 hx hby dj42_83_28 rfl (Or.inl ⟨rfl, Or.inl rfl, _, rfl⟩) (by decide) ?_
 rw [q13]
 exact ⟨rfl, N13, rfl⟩
def Q_l1last2_2 (Z : State) (a1 : Addr) (k1 : ClassId) (x0 x1 : Int32) (h0 : Heap) (n0 : Nat) (v : Option Value) (h : Heap) (L : List Loc) : Prop := v = some (.int (own_l2 x0 x1)) ∧ Fr n0 L ∧ h = h0
theorem rm_l1last2_2 (l : Launch) (Z : State) (a0 : Array Value) (hw : oW a0 Z) (ws : List Jvm.Cond) (a1 : Addr) (k1 : ClassId) (x0 x1 : Int32) (h0 : Heap) (n0 : Nat) (Z0 : n0 ≤ h0.size) (V1 : Arv Z h0 a1 k1 .byte (2 : Int32) [(.int x0), (.int x1)] (.int 0)) :
   oM l oY4 j43_27 4 (some .int) ws (own_R 1 0 0 14) #[(.ref a1), (.int 47), (.int 1)] Z h0 (Q_l1last2_2 Z a1 k1 x0 x1 h0 n0) := by
 refine own_open (n0 := n0) (cn := "java/lang/StringLatin1") rfl (plainFor_of_name pn1) (L0 := #[(vR a1), (vI 47), (vI 1), .unset]) (fun _ => by first | (simp [entryFrame, mkF, argsToLocals, Value.category]; done) | rfl) ?_
 intro p e s m below meth c s₁ P hx hby hml hown hnm X0 e0 N0 hlk hret hZ hP
 refine iA X0 hx hby dj43_27_0 rfl ?_
 refine c_stat 0 X0 hx hby hml hZ hown (tw_68 hw) (tw_69 hw) (tw_66 hw) (tw_70 hw) (rm_canEncI l Z a0 hw []  h0 n0 Z0 ) e0 dj43_27_1 [(.int 47)] [] (lenOf pd7 rfl) rfl rfl (by rfl) (by decide) ?_
 rintro _ T11 Lc11 ⟨rfl, N11q, q11⟩ X11
 have N11 := Fr.app N0 N11q
 refine fY X11 hx hby dj43_27_4 (pc' := 9) (XT.i0_ne_t (by decide : ¬ (1 : Int32) = (0 : Int32))) (by decide) ?_
 refine iA X11 hx hby dj43_27_9 rfl ?_
 refine aA X11 hx hby dj43_27_10 rfl rfl ?_
 have av12 := V1
 obtain ⟨cl12, Ar12, -, Sz12, Nn12, -, -⟩ := av12
 refine Go.by (X11.arraylength hx (by rw [q11]; exact Ar12.1) (State.isArrayOf_alike hZ.alike Ar12.2.1) (g := (mkF m 11 #[(vR a1), (vI 47), (vI 1), .unset] [(.ref a1), (.int 1)])) rfl rfl (hb hby dj43_27_11)) ?_
 rw [len_of Sz12 Nn12]
 show oG p e below P m T11 12 #[(vR a1), (vI 47), (vI 1), .unset] [(.int 2), (.int 1)]
 refine iC X11 hx hby dj43_27_12 (v := 1) rfl ?_
 refine iM X11 hx hby dj43_27_13 (v := 1) rfl ?_
 refine c_stat 0 X11 hx hby hml hZ hown (tw_71 hw) (tw_72 hw) (tw_73 hw) (tw_74 hw) (rm_min l Z a0 hw [] (1 : Int32) (1 : Int32) (1 : Int32) h0 n0 Z0 (by decide)) q11 dj43_27_14 [(.int 1), (.int 1)] [] (lenOf pd1 rfl) rfl rfl (by rfl) (by decide) ?_
 rintro _ T13 Lc13 ⟨rfl, N13q, q13⟩ X13
 have N13 := Fr.app N11 N13q
 refine iS X13 hx hby dj43_27_17 (l' := #[(vR a1), (vI 47), (vI 1), (vI 1)]) rfl ?_
 refine iA X13 hx hby dj43_27_18 rfl ?_
 refine fN X13 hx hby dj43_27_19 (XT.i0_lt_f (by decide : ¬ (1 : Int32) < (0 : Int32))) ?_
 refine aA X13 hx hby dj43_27_22 rfl rfl ?_
 refine iA X13 hx hby dj43_27_23 rfl ?_
 have av14 := V1
 obtain ⟨cl14, Ar14, -, Sz14, Nn14, Ha14, Gf14⟩ := av14
 have hin14 : ¬ ((1 : Int32) < 0 ∨ cl14.slots.size ≤ ((1 : Int32)).toNatClampNeg) := inb_of Sz14 ⟨by decide, by decide⟩
 have hat14 : cl14.slots[((1 : Int32)).toNatClampNeg]? = some (.int x1) := Ha14.at hin14 rfl
 refine Go.by (X13.baloadBytes hx (j := (1 : Int32)) (v := (.int x1)) (by rw [q13]; exact Ar14.1) (State.isArrayOf_alike hZ.alike Ar14.2.1) Ar14.2.2 hin14 hat14 (g := (mkF m 24 #[(vR a1), (vI 47), (vI 1), (vI 1)] [(.int 1), (.ref a1)])) rfl rfl (hb hby dj43_27_24)) ?_
 show oG p e below P m T13 25 #[(vR a1), (vI 47), (vI 1), (vI 1)] [(.int x1)]
 refine iA X13 hx hby dj43_27_25 rfl ?_
 refine Go.by (fun _ => XS.i2b X13.here hx rfl (hb hby dj43_27_26) rfl) ?_
 show oG p e below P m T13 27 #[(vR a1), (vI 47), (vI 1), (vI 1)] [(.int ((47 : Int32).toInt8.toInt32)), (.int x1)]
 show oG p e below P m T13 27 #[(vR a1), (vI 47), (vI 1), (vI 1)] [(.int 47), (.int x1)]
 by_cases hc27_15 : x1 = (47 : Int32)
 · refine cN X13 hx hby dj43_27_27 (XT.ii_ne_f hc27_15) ?_
   refine iA X13 hx hby dj43_27_30 rfl ?_
   refine r_val hP hlk hret X13 hx hby dj43_27_31 rfl (Or.inl ⟨rfl, Or.inl rfl, _, rfl⟩) (by decide) ?_
   rw [q13]
   exact ⟨by simp [own_l2, own_l1, hc27_15], N13, rfl⟩
 · refine cY X13 hx hby dj43_27_27 (pc' := 32) (XT.ii_ne_t hc27_15) (by decide) ?_
   refine iI X13 hx hby dj43_27_32 rfl (l' := #[(vR a1), (vI 47), (vI 1), (vI 0)]) rfl ?_
   refine gO X13 hx hby dj43_27_35 (pc' := 18) (by decide) ?_
   refine iA X13 hx hby dj43_27_18 rfl ?_
   refine fN X13 hx hby dj43_27_19 (XT.i0_lt_f (by decide : ¬ (0 : Int32) < (0 : Int32))) ?_
   refine aA X13 hx hby dj43_27_22 rfl rfl ?_
   refine iA X13 hx hby dj43_27_23 rfl ?_
   have av16 := V1
   obtain ⟨cl16, Ar16, -, Sz16, Nn16, Ha16, Gf16⟩ := av16
   have hin16 : ¬ ((0 : Int32) < 0 ∨ cl16.slots.size ≤ ((0 : Int32)).toNatClampNeg) := inb_of Sz16 ⟨by decide, by decide⟩
   have hat16 : cl16.slots[((0 : Int32)).toNatClampNeg]? = some (.int x0) := Ha16.at hin16 rfl
   refine Go.by (X13.baloadBytes hx (j := (0 : Int32)) (v := (.int x0)) (by rw [q13]; exact Ar16.1) (State.isArrayOf_alike hZ.alike Ar16.2.1) Ar16.2.2 hin16 hat16 (g := (mkF m 24 #[(vR a1), (vI 47), (vI 1), (vI 0)] [(.int 0), (.ref a1)])) rfl rfl (hb hby dj43_27_24)) ?_
   show oG p e below P m T13 25 #[(vR a1), (vI 47), (vI 1), (vI 0)] [(.int x0)]
   refine iA X13 hx hby dj43_27_25 rfl ?_
   refine Go.by (fun _ => XS.i2b X13.here hx rfl (hb hby dj43_27_26) rfl) ?_
   show oG p e below P m T13 27 #[(vR a1), (vI 47), (vI 1), (vI 0)] [(.int ((47 : Int32).toInt8.toInt32)), (.int x0)]
   show oG p e below P m T13 27 #[(vR a1), (vI 47), (vI 1), (vI 0)] [(.int 47), (.int x0)]
   by_cases hc27_17 : x0 = (47 : Int32)
   · refine cN X13 hx hby dj43_27_27 (XT.ii_ne_f hc27_17) ?_
     refine iA X13 hx hby dj43_27_30 rfl ?_
     refine r_val hP hlk hret X13 hx hby dj43_27_31 rfl (Or.inl ⟨rfl, Or.inl rfl, _, rfl⟩) (by decide) ?_
     rw [q13]
     exact ⟨by simp [own_l2, own_l1, hc27_15, hc27_17], N13, rfl⟩
   · refine cY X13 hx hby dj43_27_27 (pc' := 32) (XT.ii_ne_t hc27_17) (by decide) ?_
     refine iI X13 hx hby dj43_27_32 rfl (l' := #[(vR a1), (vI 47), (vI 1), (vI (-1))]) rfl ?_
     refine gO X13 hx hby dj43_27_35 (pc' := 18) (by decide) ?_
     refine iA X13 hx hby dj43_27_18 rfl ?_
     refine fY X13 hx hby dj43_27_19 (pc' := 38) (XT.i0_lt_t (by decide : (-1 : Int32) < (0 : Int32))) (by decide) ?_
     refine iC X13 hx hby dj43_27_38 (v := (-1)) rfl ?_
     refine r_val hP hlk hret X13 hx hby dj43_27_39 rfl (Or.inl ⟨rfl, Or.inl rfl, _, rfl⟩) (by decide) ?_
     rw [q13]
     exact ⟨by simp [own_l2, own_l1, hc27_15, hc27_17], N13, rfl⟩
def Q_slast2_2 (Z : State) (a0_ : Addr) (x0 x1 cs : Int32) (h0 : Heap) (n0 : Nat) (v : Option Value) (h : Heap) (L : List Loc) : Prop := v = some (.int (own_l2 x0 x1)) ∧ Fr n0 L ∧ h = h0
theorem rm_slast2_2 (l : Launch) (Z : State) (a0 : Array Value) (hw : oW a0 Z) (ws : List Jvm.Cond) (a0_ : Addr) (x0 x1 cs : Int32) (h0 : Heap) (n0 : Nat) (Z0 : n0 ≤ h0.size) (O0 : Old Z n0 h0) (Scs : Sta Z Z.heap "java/lang/String" "COMPACT_STRINGS" "Z" (.int cs)) (hcs : ¬ cs = (0 : Int32)) (S0 : StrV Z h0 a0_ [x0, x1]) :
   oM l oY2 j42_83 3 (some .int) ws (own_R 2 0 0 30) #[(.ref a0_), (.int 47), (.int 1)] Z h0 (Q_slast2_2 Z a0_ x0 x1 cs h0 n0) := by
 refine own_open (n0 := n0) (cn := "java/lang/String") rfl (plainFor_of_name pn0) (L0 := #[(vR a0_), (vI 47), (vI 1)]) (fun _ => by first | (simp [entryFrame, mkF, argsToLocals, Value.category]; done) | rfl) ?_
 intro p e s m below meth c s₁ P hx hby hml hown hnm X0 e0 N0 hlk hret hZ hP
 obtain ⟨d0, kd0, ES0, CS0, VS0, AS0⟩ := S0
 have AT0 : Arv Z h0 d0 kd0 .byte (2 : Int32) [(.int x0), (.int x1)] (.int 0) := AS0
 show oG p e below P m s₁ 0 #[(vR a0_), (vI 47), (vI 1)] []
 refine aA X0 hx hby dj42_83_0 rfl rfl ?_
 refine c_virt 0 X0 hx hby hml hZ hown (tw_59 hw) (tw_60 hw) (tw_62 hw) (tw_61 hw) (tw_63 hw) (tw_8 hw) (rm_isLat l Z a0 hw [] a0_ cs h0 n0 Z0 O0 Scs hcs CS0) e0 ES0 dj42_83_1 [] [] (lenOf pd4 rfl) rfl rfl (by rfl) (by decide) ?_
 rintro _ T11 Lc11 ⟨rfl, N11q, q11⟩ X11
 have N11 := Fr.app N0 N11q
 refine fN X11 hx hby dj42_83_4 (XT.i0_eq_f (by decide : ¬ (1 : Int32) = (0 : Int32))) ?_
 refine aA X11 hx hby dj42_83_7 rfl rfl ?_
 obtain ⟨T12, X12, e12, st12⟩ := getF X11 hx hZ hown (host := "") (Or.inl (tw_25 hw)) Via.refl q11 VS0 (g := (mkF m 8 #[(vR a0_), (vI 47), (vI 1)] [(.ref a0_)])) rfl rfl (hb hby dj42_83_8)
 refine Go.by st12 ?_
 show oG p e below P m T12 11 #[(vR a0_), (vI 47), (vI 1)] [(.ref d0)]
 refine iA X12 hx hby dj42_83_11 rfl ?_
 refine iA X12 hx hby dj42_83_12 rfl ?_
 refine c_stat 0 X12 hx hby hml hZ hown (tw_64 hw) (tw_65 hw) (tw_66 hw) (tw_67 hw) (rm_l1last2_2 l Z a0 hw [] d0 kd0 x0 x1 h0 n0 Z0 AT0) e12 dj42_83_13 [(.ref d0), (.int 47), (.int 1)] [] (lenOf pd8 rfl) rfl rfl (by rfl) (by decide) ?_
 rintro _ T13 Lc13 ⟨rfl, N13q, q13⟩ X13
 have N13 := Fr.app N11 N13q
 refine gO X13 hx hby dj42_83_16 (pc' := 28) (by decide) ?_
 refine r_val hP hlk hret X13 hx hby dj42_83_28 rfl (Or.inl ⟨rfl, Or.inl rfl, _, rfl⟩) (by decide) ?_
 rw [q13]
 exact ⟨rfl, N13, rfl⟩
def Q_l1last2_1 (Z : State) (a1 : Addr) (k1 : ClassId) (x0 x1 : Int32) (h0 : Heap) (n0 : Nat) (v : Option Value) (h : Heap) (L : List Loc) : Prop := v = some (.int (own_l1 x0)) ∧ Fr n0 L ∧ h = h0
theorem rm_l1last2_1 (l : Launch) (Z : State) (a0 : Array Value) (hw : oW a0 Z) (ws : List Jvm.Cond) (a1 : Addr) (k1 : ClassId) (x0 x1 : Int32) (h0 : Heap) (n0 : Nat) (Z0 : n0 ≤ h0.size) (V1 : Arv Z h0 a1 k1 .byte (2 : Int32) [(.int x0), (.int x1)] (.int 0)) :
   oM l oY4 j43_27 4 (some .int) ws (own_R 1 0 0 14) #[(.ref a1), (.int 47), (.int 0)] Z h0 (Q_l1last2_1 Z a1 k1 x0 x1 h0 n0) := by
 refine own_open (n0 := n0) (cn := "java/lang/StringLatin1") rfl (plainFor_of_name pn1) (L0 := #[(vR a1), (vI 47), (vI 0), .unset]) (fun _ => by first | (simp [entryFrame, mkF, argsToLocals, Value.category]; done) | rfl) ?_
 intro p e s m below meth c s₁ P hx hby hml hown hnm X0 e0 N0 hlk hret hZ hP
 refine iA X0 hx hby dj43_27_0 rfl ?_
 refine c_stat 0 X0 hx hby hml hZ hown (tw_68 hw) (tw_69 hw) (tw_66 hw) (tw_70 hw) (rm_canEncI l Z a0 hw []  h0 n0 Z0 ) e0 dj43_27_1 [(.int 47)] [] (lenOf pd7 rfl) rfl rfl (by rfl) (by decide) ?_
 rintro _ T11 Lc11 ⟨rfl, N11q, q11⟩ X11
 have N11 := Fr.app N0 N11q
 refine fY X11 hx hby dj43_27_4 (pc' := 9) (XT.i0_ne_t (by decide : ¬ (1 : Int32) = (0 : Int32))) (by decide) ?_
 refine iA X11 hx hby dj43_27_9 rfl ?_
 refine aA X11 hx hby dj43_27_10 rfl rfl ?_
 have av12 := V1
 obtain ⟨cl12, Ar12, -, Sz12, Nn12, -, -⟩ := av12
 refine Go.by (X11.arraylength hx (by rw [q11]; exact Ar12.1) (State.isArrayOf_alike hZ.alike Ar12.2.1) (g := (mkF m 11 #[(vR a1), (vI 47), (vI 0), .unset] [(.ref a1), (.int 0)])) rfl rfl (hb hby dj43_27_11)) ?_
 rw [len_of Sz12 Nn12]
 show oG p e below P m T11 12 #[(vR a1), (vI 47), (vI 0), .unset] [(.int 2), (.int 0)]
 refine iC X11 hx hby dj43_27_12 (v := 1) rfl ?_
 refine iM X11 hx hby dj43_27_13 (v := 1) rfl ?_
 refine c_stat 0 X11 hx hby hml hZ hown (tw_71 hw) (tw_72 hw) (tw_73 hw) (tw_74 hw) (rm_min l Z a0 hw [] (0 : Int32) (1 : Int32) (0 : Int32) h0 n0 Z0 (by decide)) q11 dj43_27_14 [(.int 0), (.int 1)] [] (lenOf pd1 rfl) rfl rfl (by rfl) (by decide) ?_
 rintro _ T13 Lc13 ⟨rfl, N13q, q13⟩ X13
 have N13 := Fr.app N11 N13q
 refine iS X13 hx hby dj43_27_17 (l' := #[(vR a1), (vI 47), (vI 0), (vI 0)]) rfl ?_
 refine iA X13 hx hby dj43_27_18 rfl ?_
 refine fN X13 hx hby dj43_27_19 (XT.i0_lt_f (by decide : ¬ (0 : Int32) < (0 : Int32))) ?_
 refine aA X13 hx hby dj43_27_22 rfl rfl ?_
 refine iA X13 hx hby dj43_27_23 rfl ?_
 have av14 := V1
 obtain ⟨cl14, Ar14, -, Sz14, Nn14, Ha14, Gf14⟩ := av14
 have hin14 : ¬ ((0 : Int32) < 0 ∨ cl14.slots.size ≤ ((0 : Int32)).toNatClampNeg) := inb_of Sz14 ⟨by decide, by decide⟩
 have hat14 : cl14.slots[((0 : Int32)).toNatClampNeg]? = some (.int x0) := Ha14.at hin14 rfl
 refine Go.by (X13.baloadBytes hx (j := (0 : Int32)) (v := (.int x0)) (by rw [q13]; exact Ar14.1) (State.isArrayOf_alike hZ.alike Ar14.2.1) Ar14.2.2 hin14 hat14 (g := (mkF m 24 #[(vR a1), (vI 47), (vI 0), (vI 0)] [(.int 0), (.ref a1)])) rfl rfl (hb hby dj43_27_24)) ?_
 show oG p e below P m T13 25 #[(vR a1), (vI 47), (vI 0), (vI 0)] [(.int x0)]
 refine iA X13 hx hby dj43_27_25 rfl ?_
 refine Go.by (fun _ => XS.i2b X13.here hx rfl (hb hby dj43_27_26) rfl) ?_
 show oG p e below P m T13 27 #[(vR a1), (vI 47), (vI 0), (vI 0)] [(.int ((47 : Int32).toInt8.toInt32)), (.int x0)]
 show oG p e below P m T13 27 #[(vR a1), (vI 47), (vI 0), (vI 0)] [(.int 47), (.int x0)]
 by_cases hc27_15 : x0 = (47 : Int32)
 · refine cN X13 hx hby dj43_27_27 (XT.ii_ne_f hc27_15) ?_
   refine iA X13 hx hby dj43_27_30 rfl ?_
   refine r_val hP hlk hret X13 hx hby dj43_27_31 rfl (Or.inl ⟨rfl, Or.inl rfl, _, rfl⟩) (by decide) ?_
   rw [q13]
   exact ⟨by simp [own_l1, hc27_15], N13, rfl⟩
 · refine cY X13 hx hby dj43_27_27 (pc' := 32) (XT.ii_ne_t hc27_15) (by decide) ?_
   refine iI X13 hx hby dj43_27_32 rfl (l' := #[(vR a1), (vI 47), (vI 0), (vI (-1))]) rfl ?_
   refine gO X13 hx hby dj43_27_35 (pc' := 18) (by decide) ?_
   refine iA X13 hx hby dj43_27_18 rfl ?_
   refine fY X13 hx hby dj43_27_19 (pc' := 38) (XT.i0_lt_t (by decide : (-1 : Int32) < (0 : Int32))) (by decide) ?_
   refine iC X13 hx hby dj43_27_38 (v := (-1)) rfl ?_
   refine r_val hP hlk hret X13 hx hby dj43_27_39 rfl (Or.inl ⟨rfl, Or.inl rfl, _, rfl⟩) (by decide) ?_
   rw [q13]
   exact ⟨by simp [own_l1, hc27_15], N13, rfl⟩
def Q_slast2_1 (Z : State) (a0_ : Addr) (x0 x1 cs : Int32) (h0 : Heap) (n0 : Nat) (v : Option Value) (h : Heap) (L : List Loc) : Prop := v = some (.int (own_l1 x0)) ∧ Fr n0 L ∧ h = h0
theorem rm_slast2_1 (l : Launch) (Z : State) (a0 : Array Value) (hw : oW a0 Z) (ws : List Jvm.Cond) (a0_ : Addr) (x0 x1 cs : Int32) (h0 : Heap) (n0 : Nat) (Z0 : n0 ≤ h0.size) (O0 : Old Z n0 h0) (Scs : Sta Z Z.heap "java/lang/String" "COMPACT_STRINGS" "Z" (.int cs)) (hcs : ¬ cs = (0 : Int32)) (S0 : StrV Z h0 a0_ [x0, x1]) :
   oM l oY2 j42_83 3 (some .int) ws (own_R 2 0 0 30) #[(.ref a0_), (.int 47), (.int 0)] Z h0 (Q_slast2_1 Z a0_ x0 x1 cs h0 n0) := by
 refine own_open (n0 := n0) (cn := "java/lang/String") rfl (plainFor_of_name pn0) (L0 := #[(vR a0_), (vI 47), (vI 0)]) (fun _ => by first | (simp [entryFrame, mkF, argsToLocals, Value.category]; done) | rfl) ?_
 intro p e s m below meth c s₁ P hx hby hml hown hnm X0 e0 N0 hlk hret hZ hP
 obtain ⟨d0, kd0, ES0, CS0, VS0, AS0⟩ := S0
 have AT0 : Arv Z h0 d0 kd0 .byte (2 : Int32) [(.int x0), (.int x1)] (.int 0) := AS0
 show oG p e below P m s₁ 0 #[(vR a0_), (vI 47), (vI 0)] []
 refine aA X0 hx hby dj42_83_0 rfl rfl ?_
 refine c_virt 0 X0 hx hby hml hZ hown (tw_59 hw) (tw_60 hw) (tw_62 hw) (tw_61 hw) (tw_63 hw) (tw_8 hw) (rm_isLat l Z a0 hw [] a0_ cs h0 n0 Z0 O0 Scs hcs CS0) e0 ES0 dj42_83_1 [] [] (lenOf pd4 rfl) rfl rfl (by rfl) (by decide) ?_
 rintro _ T11 Lc11 ⟨rfl, N11q, q11⟩ X11
 have N11 := Fr.app N0 N11q
 refine fN X11 hx hby dj42_83_4 (XT.i0_eq_f (by decide : ¬ (1 : Int32) = (0 : Int32))) ?_
 refine aA X11 hx hby dj42_83_7 rfl rfl ?_
 obtain ⟨T12, X12, e12, st12⟩ := getF X11 hx hZ hown (host := "") (Or.inl (tw_25 hw)) Via.refl q11 VS0 (g := (mkF m 8 #[(vR a0_), (vI 47), (vI 0)] [(.ref a0_)])) rfl rfl (hb hby dj42_83_8)
 refine Go.by st12 ?_
 show oG p e below P m T12 11 #[(vR a0_), (vI 47), (vI 0)] [(.ref d0)]
 refine iA X12 hx hby dj42_83_11 rfl ?_
 refine iA X12 hx hby dj42_83_12 rfl ?_
 refine c_stat 0 X12 hx hby hml hZ hown (tw_64 hw) (tw_65 hw) (tw_66 hw) (tw_67 hw) (rm_l1last2_1 l Z a0 hw [] d0 kd0 x0 x1 h0 n0 Z0 AT0) e12 dj42_83_13 [(.ref d0), (.int 47), (.int 0)] [] (lenOf pd8 rfl) rfl rfl (by rfl) (by decide) ?_
 rintro _ T13 Lc13 ⟨rfl, N13q, q13⟩ X13
 have N13 := Fr.app N11 N13q
 refine gO X13 hx hby dj42_83_16 (pc' := 28) (by decide) ?_
 refine r_val hP hlk hret X13 hx hby dj42_83_28 rfl (Or.inl ⟨rfl, Or.inl rfl, _, rfl⟩) (by decide) ?_
 rw [q13]
 exact ⟨rfl, N13, rfl⟩
def Q_l1last3_3 (Z : State) (a1 : Addr) (k1 : ClassId) (x0 x1 x2 : Int32) (h0 : Heap) (n0 : Nat) (v : Option Value) (h : Heap) (L : List Loc) : Prop := v = some (.int (own_l3 x0 x1 x2)) ∧ Fr n0 L ∧ h = h0
theorem rm_l1last3_3 (l : Launch) (Z : State) (a0 : Array Value) (hw : oW a0 Z) (ws : List Jvm.Cond) (a1 : Addr) (k1 : ClassId) (x0 x1 x2 : Int32) (h0 : Heap) (n0 : Nat) (Z0 : n0 ≤ h0.size) (V1 : Arv Z h0 a1 k1 .byte (3 : Int32) [(.int x0), (.int x1), (.int x2)] (.int 0)) :
   oM l oY4 j43_27 4 (some .int) ws (own_R 1 0 0 14) #[(.ref a1), (.int 47), (.int 2)] Z h0 (Q_l1last3_3 Z a1 k1 x0 x1 x2 h0 n0) := by
 refine own_open (n0 := n0) (cn := "java/lang/StringLatin1") rfl (plainFor_of_name pn1) (L0 := #[(vR a1), (vI 47), (vI 2), .unset]) (fun _ => by first | (simp [entryFrame, mkF, argsToLocals, Value.category]; done) | rfl) ?_
 intro p e s m below meth c s₁ P hx hby hml hown hnm X0 e0 N0 hlk hret hZ hP
 refine iA X0 hx hby dj43_27_0 rfl ?_
 refine c_stat 0 X0 hx hby hml hZ hown (tw_68 hw) (tw_69 hw) (tw_66 hw) (tw_70 hw) (rm_canEncI l Z a0 hw []  h0 n0 Z0 ) e0 dj43_27_1 [(.int 47)] [] (lenOf pd7 rfl) rfl rfl (by rfl) (by decide) ?_
 rintro _ T11 Lc11 ⟨rfl, N11q, q11⟩ X11
 have N11 := Fr.app N0 N11q
 refine fY X11 hx hby dj43_27_4 (pc' := 9) (XT.i0_ne_t (by decide : ¬ (1 : Int32) = (0 : Int32))) (by decide) ?_
 refine iA X11 hx hby dj43_27_9 rfl ?_
 refine aA X11 hx hby dj43_27_10 rfl rfl ?_
 have av12 := V1
 obtain ⟨cl12, Ar12, -, Sz12, Nn12, -, -⟩ := av12
 refine Go.by (X11.arraylength hx (by rw [q11]; exact Ar12.1) (State.isArrayOf_alike hZ.alike Ar12.2.1) (g := (mkF m 11 #[(vR a1), (vI 47), (vI 2), .unset] [(.ref a1), (.int 2)])) rfl rfl (hb hby dj43_27_11)) ?_
 rw [len_of Sz12 Nn12]
 show oG p e below P m T11 12 #[(vR a1), (vI 47), (vI 2), .unset] [(.int 3), (.int 2)]
 refine iC X11 hx hby dj43_27_12 (v := 1) rfl ?_
 refine iM X11 hx hby dj43_27_13 (v := 2) rfl ?_
 refine c_stat 0 X11 hx hby hml hZ hown (tw_71 hw) (tw_72 hw) (tw_73 hw) (tw_74 hw) (rm_min l Z a0 hw [] (2 : Int32) (2 : Int32) (2 : Int32) h0 n0 Z0 (by decide)) q11 dj43_27_14 [(.int 2), (.int 2)] [] (lenOf pd1 rfl) rfl rfl (by rfl) (by decide) ?_
 rintro _ T13 Lc13 ⟨rfl, N13q, q13⟩ X13
 have N13 := Fr.app N11 N13q
 refine iS X13 hx hby dj43_27_17 (l' := #[(vR a1), (vI 47), (vI 2), (vI 2)]) rfl ?_
 refine iA X13 hx hby dj43_27_18 rfl ?_
 refine fN X13 hx hby dj43_27_19 (XT.i0_lt_f (by decide : ¬ (2 : Int32) < (0 : Int32))) ?_
 refine aA X13 hx hby dj43_27_22 rfl rfl ?_
 refine iA X13 hx hby dj43_27_23 rfl ?_
 have av14 := V1
 obtain ⟨cl14, Ar14, -, Sz14, Nn14, Ha14, Gf14⟩ := av14
 have hin14 : ¬ ((2 : Int32) < 0 ∨ cl14.slots.size ≤ ((2 : Int32)).toNatClampNeg) := inb_of Sz14 ⟨by decide, by decide⟩
 have hat14 : cl14.slots[((2 : Int32)).toNatClampNeg]? = some (.int x2) := Ha14.at hin14 rfl
 refine Go.by (X13.baloadBytes hx (j := (2 : Int32)) (v := (.int x2)) (by rw [q13]; exact Ar14.1) (State.isArrayOf_alike hZ.alike Ar14.2.1) Ar14.2.2 hin14 hat14 (g := (mkF m 24 #[(vR a1), (vI 47), (vI 2), (vI 2)] [(.int 2), (.ref a1)])) rfl rfl (hb hby dj43_27_24)) ?_
 show oG p e below P m T13 25 #[(vR a1), (vI 47), (vI 2), (vI 2)] [(.int x2)]
 refine iA X13 hx hby dj43_27_25 rfl ?_
 refine Go.by (fun _ => XS.i2b X13.here hx rfl (hb hby dj43_27_26) rfl) ?_
 show oG p e below P m T13 27 #[(vR a1), (vI 47), (vI 2), (vI 2)] [(.int ((47 : Int32).toInt8.toInt32)), (.int x2)]
 show oG p e below P m T13 27 #[(vR a1), (vI 47), (vI 2), (vI 2)] [(.int 47), (.int x2)]
 by_cases hc27_15 : x2 = (47 : Int32)
 · refine cN X13 hx hby dj43_27_27 (XT.ii_ne_f hc27_15) ?_
   refine iA X13 hx hby dj43_27_30 rfl ?_
   refine r_val hP hlk hret X13 hx hby dj43_27_31 rfl (Or.inl ⟨rfl, Or.inl rfl, _, rfl⟩) (by decide) ?_
   rw [q13]
   exact ⟨by simp [own_l3, own_l2, own_l1, hc27_15], N13, rfl⟩
 · refine cY X13 hx hby dj43_27_27 (pc' := 32) (XT.ii_ne_t hc27_15) (by decide) ?_
   refine iI X13 hx hby dj43_27_32 rfl (l' := #[(vR a1), (vI 47), (vI 2), (vI 1)]) rfl ?_
   refine gO X13 hx hby dj43_27_35 (pc' := 18) (by decide) ?_
   refine iA X13 hx hby dj43_27_18 rfl ?_
   refine fN X13 hx hby dj43_27_19 (XT.i0_lt_f (by decide : ¬ (1 : Int32) < (0 : Int32))) ?_
   refine aA X13 hx hby dj43_27_22 rfl rfl ?_
   refine iA X13 hx hby dj43_27_23 rfl ?_
   have av16 := V1
   obtain ⟨cl16, Ar16, -, Sz16, Nn16, Ha16, Gf16⟩ := av16
   have hin16 : ¬ ((1 : Int32) < 0 ∨ cl16.slots.size ≤ ((1 : Int32)).toNatClampNeg) := inb_of Sz16 ⟨by decide, by decide⟩
   have hat16 : cl16.slots[((1 : Int32)).toNatClampNeg]? = some (.int x1) := Ha16.at hin16 rfl
   refine Go.by (X13.baloadBytes hx (j := (1 : Int32)) (v := (.int x1)) (by rw [q13]; exact Ar16.1) (State.isArrayOf_alike hZ.alike Ar16.2.1) Ar16.2.2 hin16 hat16 (g := (mkF m 24 #[(vR a1), (vI 47), (vI 2), (vI 1)] [(.int 1), (.ref a1)])) rfl rfl (hb hby dj43_27_24)) ?_
   show oG p e below P m T13 25 #[(vR a1), (vI 47), (vI 2), (vI 1)] [(.int x1)]
   refine iA X13 hx hby dj43_27_25 rfl ?_
   refine Go.by (fun _ => XS.i2b X13.here hx rfl (hb hby dj43_27_26) rfl) ?_
   show oG p e below P m T13 27 #[(vR a1), (vI 47), (vI 2), (vI 1)] [(.int ((47 : Int32).toInt8.toInt32)), (.int x1)]
   show oG p e below P m T13 27 #[(vR a1), (vI 47), (vI 2), (vI 1)] [(.int 47), (.int x1)]
   by_cases hc27_17 : x1 = (47 : Int32)
   · refine cN X13 hx hby dj43_27_27 (XT.ii_ne_f hc27_17) ?_
     refine iA X13 hx hby dj43_27_30 rfl ?_
     refine r_val hP hlk hret X13 hx hby dj43_27_31 rfl (Or.inl ⟨rfl, Or.inl rfl, _, rfl⟩) (by decide) ?_
     rw [q13]
     exact ⟨by simp [own_l3, own_l2, own_l1, hc27_15, hc27_17], N13, rfl⟩
   · refine cY X13 hx hby dj43_27_27 (pc' := 32) (XT.ii_ne_t hc27_17) (by decide) ?_
     refine iI X13 hx hby dj43_27_32 rfl (l' := #[(vR a1), (vI 47), (vI 2), (vI 0)]) rfl ?_
     refine gO X13 hx hby dj43_27_35 (pc' := 18) (by decide) ?_
     refine iA X13 hx hby dj43_27_18 rfl ?_
     refine fN X13 hx hby dj43_27_19 (XT.i0_lt_f (by decide : ¬ (0 : Int32) < (0 : Int32))) ?_
     refine aA X13 hx hby dj43_27_22 rfl rfl ?_
     refine iA X13 hx hby dj43_27_23 rfl ?_
     have av18 := V1
     obtain ⟨cl18, Ar18, -, Sz18, Nn18, Ha18, Gf18⟩ := av18
     have hin18 : ¬ ((0 : Int32) < 0 ∨ cl18.slots.size ≤ ((0 : Int32)).toNatClampNeg) := inb_of Sz18 ⟨by decide, by decide⟩
     have hat18 : cl18.slots[((0 : Int32)).toNatClampNeg]? = some (.int x0) := Ha18.at hin18 rfl
     refine Go.by (X13.baloadBytes hx (j := (0 : Int32)) (v := (.int x0)) (by rw [q13]; exact Ar18.1) (State.isArrayOf_alike hZ.alike Ar18.2.1) Ar18.2.2 hin18 hat18 (g := (mkF m 24 #[(vR a1), (vI 47), (vI 2), (vI 0)] [(.int 0), (.ref a1)])) rfl rfl (hb hby dj43_27_24)) ?_
     show oG p e below P m T13 25 #[(vR a1), (vI 47), (vI 2), (vI 0)] [(.int x0)]
     refine iA X13 hx hby dj43_27_25 rfl ?_
     refine Go.by (fun _ => XS.i2b X13.here hx rfl (hb hby dj43_27_26) rfl) ?_
     show oG p e below P m T13 27 #[(vR a1), (vI 47), (vI 2), (vI 0)] [(.int ((47 : Int32).toInt8.toInt32)), (.int x0)]
     show oG p e below P m T13 27 #[(vR a1), (vI 47), (vI 2), (vI 0)] [(.int 47), (.int x0)]
     by_cases hc27_19 : x0 = (47 : Int32)
     · refine cN X13 hx hby dj43_27_27 (XT.ii_ne_f hc27_19) ?_
       refine iA X13 hx hby dj43_27_30 rfl ?_
       refine r_val hP hlk hret X13 hx hby dj43_27_31 rfl (Or.inl ⟨rfl, Or.inl rfl, _, rfl⟩) (by decide) ?_
       rw [q13]
       exact ⟨by simp [own_l3, own_l2, own_l1, hc27_15, hc27_17, hc27_19], N13, rfl⟩
     · refine cY X13 hx hby dj43_27_27 (pc' := 32) (XT.ii_ne_t hc27_19) (by decide) ?_
       refine iI X13 hx hby dj43_27_32 rfl (l' := #[(vR a1), (vI 47), (vI 2), (vI (-1))]) rfl ?_
       refine gO X13 hx hby dj43_27_35 (pc' := 18) (by decide) ?_
       refine iA X13 hx hby dj43_27_18 rfl ?_
       refine fY X13 hx hby dj43_27_19 (pc' := 38) (XT.i0_lt_t (by decide : (-1 : Int32) < (0 : Int32))) (by decide) ?_
       refine iC X13 hx hby dj43_27_38 (v := (-1)) rfl ?_
       refine r_val hP hlk hret X13 hx hby dj43_27_39 rfl (Or.inl ⟨rfl, Or.inl rfl, _, rfl⟩) (by decide) ?_
       rw [q13]
       exact ⟨by simp [own_l3, own_l2, own_l1, hc27_15, hc27_17, hc27_19], N13, rfl⟩
def Q_slast3_3 (Z : State) (a0_ : Addr) (x0 x1 x2 cs : Int32) (h0 : Heap) (n0 : Nat) (v : Option Value) (h : Heap) (L : List Loc) : Prop := v = some (.int (own_l3 x0 x1 x2)) ∧ Fr n0 L ∧ h = h0
theorem rm_slast3_3 (l : Launch) (Z : State) (a0 : Array Value) (hw : oW a0 Z) (ws : List Jvm.Cond) (a0_ : Addr) (x0 x1 x2 cs : Int32) (h0 : Heap) (n0 : Nat) (Z0 : n0 ≤ h0.size) (O0 : Old Z n0 h0) (Scs : Sta Z Z.heap "java/lang/String" "COMPACT_STRINGS" "Z" (.int cs)) (hcs : ¬ cs = (0 : Int32)) (S0 : StrV Z h0 a0_ [x0, x1, x2]) :
   oM l oY2 j42_83 3 (some .int) ws (own_R 2 0 0 30) #[(.ref a0_), (.int 47), (.int 2)] Z h0 (Q_slast3_3 Z a0_ x0 x1 x2 cs h0 n0) := by
 refine own_open (n0 := n0) (cn := "java/lang/String") rfl (plainFor_of_name pn0) (L0 := #[(vR a0_), (vI 47), (vI 2)]) (fun _ => by first | (simp [entryFrame, mkF, argsToLocals, Value.category]; done) | rfl) ?_
 intro p e s m below meth c s₁ P hx hby hml hown hnm X0 e0 N0 hlk hret hZ hP
 obtain ⟨d0, kd0, ES0, CS0, VS0, AS0⟩ := S0
 have AT0 : Arv Z h0 d0 kd0 .byte (3 : Int32) [(.int x0), (.int x1), (.int x2)] (.int 0) := AS0
 show oG p e below P m s₁ 0 #[(vR a0_), (vI 47), (vI 2)] []
 refine aA X0 hx hby dj42_83_0 rfl rfl ?_
 refine c_virt 0 X0 hx hby hml hZ hown (tw_59 hw) (tw_60 hw) (tw_62 hw) (tw_61 hw) (tw_63 hw) (tw_8 hw) (rm_isLat l Z a0 hw [] a0_ cs h0 n0 Z0 O0 Scs hcs CS0) e0 ES0 dj42_83_1 [] [] (lenOf pd4 rfl) rfl rfl (by rfl) (by decide) ?_
 rintro _ T11 Lc11 ⟨rfl, N11q, q11⟩ X11
 have N11 := Fr.app N0 N11q
 refine fN X11 hx hby dj42_83_4 (XT.i0_eq_f (by decide : ¬ (1 : Int32) = (0 : Int32))) ?_
 refine aA X11 hx hby dj42_83_7 rfl rfl ?_
 obtain ⟨T12, X12, e12, st12⟩ := getF X11 hx hZ hown (host := "") (Or.inl (tw_25 hw)) Via.refl q11 VS0 (g := (mkF m 8 #[(vR a0_), (vI 47), (vI 2)] [(.ref a0_)])) rfl rfl (hb hby dj42_83_8)
 refine Go.by st12 ?_
 show oG p e below P m T12 11 #[(vR a0_), (vI 47), (vI 2)] [(.ref d0)]
 refine iA X12 hx hby dj42_83_11 rfl ?_
 refine iA X12 hx hby dj42_83_12 rfl ?_
 refine c_stat 0 X12 hx hby hml hZ hown (tw_64 hw) (tw_65 hw) (tw_66 hw) (tw_67 hw) (rm_l1last3_3 l Z a0 hw [] d0 kd0 x0 x1 x2 h0 n0 Z0 AT0) e12 dj42_83_13 [(.ref d0), (.int 47), (.int 2)] [] (lenOf pd8 rfl) rfl rfl (by rfl) (by decide) ?_
 rintro _ T13 Lc13 ⟨rfl, N13q, q13⟩ X13
 have N13 := Fr.app N11 N13q
 refine gO X13 hx hby dj42_83_16 (pc' := 28) (by decide) ?_
 refine r_val hP hlk hret X13 hx hby dj42_83_28 rfl (Or.inl ⟨rfl, Or.inl rfl, _, rfl⟩) (by decide) ?_
 rw [q13]
 exact ⟨rfl, N13, rfl⟩
def Q_l1last3_2 (Z : State) (a1 : Addr) (k1 : ClassId) (x0 x1 x2 : Int32) (h0 : Heap) (n0 : Nat) (v : Option Value) (h : Heap) (L : List Loc) : Prop := v = some (.int (own_l2 x0 x1)) ∧ Fr n0 L ∧ h = h0
theorem rm_l1last3_2 (l : Launch) (Z : State) (a0 : Array Value) (hw : oW a0 Z) (ws : List Jvm.Cond) (a1 : Addr) (k1 : ClassId) (x0 x1 x2 : Int32) (h0 : Heap) (n0 : Nat) (Z0 : n0 ≤ h0.size) (V1 : Arv Z h0 a1 k1 .byte (3 : Int32) [(.int x0), (.int x1), (.int x2)] (.int 0)) :
   oM l oY4 j43_27 4 (some .int) ws (own_R 1 0 0 14) #[(.ref a1), (.int 47), (.int 1)] Z h0 (Q_l1last3_2 Z a1 k1 x0 x1 x2 h0 n0) := by
 refine own_open (n0 := n0) (cn := "java/lang/StringLatin1") rfl (plainFor_of_name pn1) (L0 := #[(vR a1), (vI 47), (vI 1), .unset]) (fun _ => by first | (simp [entryFrame, mkF, argsToLocals, Value.category]; done) | rfl) ?_
 intro p e s m below meth c s₁ P hx hby hml hown hnm X0 e0 N0 hlk hret hZ hP
 refine iA X0 hx hby dj43_27_0 rfl ?_
 refine c_stat 0 X0 hx hby hml hZ hown (tw_68 hw) (tw_69 hw) (tw_66 hw) (tw_70 hw) (rm_canEncI l Z a0 hw []  h0 n0 Z0 ) e0 dj43_27_1 [(.int 47)] [] (lenOf pd7 rfl) rfl rfl (by rfl) (by decide) ?_
 rintro _ T11 Lc11 ⟨rfl, N11q, q11⟩ X11
 have N11 := Fr.app N0 N11q
 refine fY X11 hx hby dj43_27_4 (pc' := 9) (XT.i0_ne_t (by decide : ¬ (1 : Int32) = (0 : Int32))) (by decide) ?_
 refine iA X11 hx hby dj43_27_9 rfl ?_
 refine aA X11 hx hby dj43_27_10 rfl rfl ?_
 have av12 := V1
 obtain ⟨cl12, Ar12, -, Sz12, Nn12, -, -⟩ := av12
 refine Go.by (X11.arraylength hx (by rw [q11]; exact Ar12.1) (State.isArrayOf_alike hZ.alike Ar12.2.1) (g := (mkF m 11 #[(vR a1), (vI 47), (vI 1), .unset] [(.ref a1), (.int 1)])) rfl rfl (hb hby dj43_27_11)) ?_
 rw [len_of Sz12 Nn12]
 show oG p e below P m T11 12 #[(vR a1), (vI 47), (vI 1), .unset] [(.int 3), (.int 1)]
 refine iC X11 hx hby dj43_27_12 (v := 1) rfl ?_
 refine iM X11 hx hby dj43_27_13 (v := 2) rfl ?_
 refine c_stat 0 X11 hx hby hml hZ hown (tw_71 hw) (tw_72 hw) (tw_73 hw) (tw_74 hw) (rm_min l Z a0 hw [] (1 : Int32) (2 : Int32) (1 : Int32) h0 n0 Z0 (by decide)) q11 dj43_27_14 [(.int 1), (.int 2)] [] (lenOf pd1 rfl) rfl rfl (by rfl) (by decide) ?_
 rintro _ T13 Lc13 ⟨rfl, N13q, q13⟩ X13
 have N13 := Fr.app N11 N13q
 refine iS X13 hx hby dj43_27_17 (l' := #[(vR a1), (vI 47), (vI 1), (vI 1)]) rfl ?_
 refine iA X13 hx hby dj43_27_18 rfl ?_
 refine fN X13 hx hby dj43_27_19 (XT.i0_lt_f (by decide : ¬ (1 : Int32) < (0 : Int32))) ?_
 refine aA X13 hx hby dj43_27_22 rfl rfl ?_
 refine iA X13 hx hby dj43_27_23 rfl ?_
 have av14 := V1
 obtain ⟨cl14, Ar14, -, Sz14, Nn14, Ha14, Gf14⟩ := av14
 have hin14 : ¬ ((1 : Int32) < 0 ∨ cl14.slots.size ≤ ((1 : Int32)).toNatClampNeg) := inb_of Sz14 ⟨by decide, by decide⟩
 have hat14 : cl14.slots[((1 : Int32)).toNatClampNeg]? = some (.int x1) := Ha14.at hin14 rfl
 refine Go.by (X13.baloadBytes hx (j := (1 : Int32)) (v := (.int x1)) (by rw [q13]; exact Ar14.1) (State.isArrayOf_alike hZ.alike Ar14.2.1) Ar14.2.2 hin14 hat14 (g := (mkF m 24 #[(vR a1), (vI 47), (vI 1), (vI 1)] [(.int 1), (.ref a1)])) rfl rfl (hb hby dj43_27_24)) ?_
 show oG p e below P m T13 25 #[(vR a1), (vI 47), (vI 1), (vI 1)] [(.int x1)]
 refine iA X13 hx hby dj43_27_25 rfl ?_
 refine Go.by (fun _ => XS.i2b X13.here hx rfl (hb hby dj43_27_26) rfl) ?_
 show oG p e below P m T13 27 #[(vR a1), (vI 47), (vI 1), (vI 1)] [(.int ((47 : Int32).toInt8.toInt32)), (.int x1)]
 show oG p e below P m T13 27 #[(vR a1), (vI 47), (vI 1), (vI 1)] [(.int 47), (.int x1)]
 by_cases hc27_15 : x1 = (47 : Int32)
 · refine cN X13 hx hby dj43_27_27 (XT.ii_ne_f hc27_15) ?_
   refine iA X13 hx hby dj43_27_30 rfl ?_
   refine r_val hP hlk hret X13 hx hby dj43_27_31 rfl (Or.inl ⟨rfl, Or.inl rfl, _, rfl⟩) (by decide) ?_
   rw [q13]
   exact ⟨by simp [own_l2, own_l1, hc27_15], N13, rfl⟩
 · refine cY X13 hx hby dj43_27_27 (pc' := 32) (XT.ii_ne_t hc27_15) (by decide) ?_
   refine iI X13 hx hby dj43_27_32 rfl (l' := #[(vR a1), (vI 47), (vI 1), (vI 0)]) rfl ?_
   refine gO X13 hx hby dj43_27_35 (pc' := 18) (by decide) ?_
   refine iA X13 hx hby dj43_27_18 rfl ?_
   refine fN X13 hx hby dj43_27_19 (XT.i0_lt_f (by decide : ¬ (0 : Int32) < (0 : Int32))) ?_
   refine aA X13 hx hby dj43_27_22 rfl rfl ?_
   refine iA X13 hx hby dj43_27_23 rfl ?_
   have av16 := V1
   obtain ⟨cl16, Ar16, -, Sz16, Nn16, Ha16, Gf16⟩ := av16
   have hin16 : ¬ ((0 : Int32) < 0 ∨ cl16.slots.size ≤ ((0 : Int32)).toNatClampNeg) := inb_of Sz16 ⟨by decide, by decide⟩
   have hat16 : cl16.slots[((0 : Int32)).toNatClampNeg]? = some (.int x0) := Ha16.at hin16 rfl
   refine Go.by (X13.baloadBytes hx (j := (0 : Int32)) (v := (.int x0)) (by rw [q13]; exact Ar16.1) (State.isArrayOf_alike hZ.alike Ar16.2.1) Ar16.2.2 hin16 hat16 (g := (mkF m 24 #[(vR a1), (vI 47), (vI 1), (vI 0)] [(.int 0), (.ref a1)])) rfl rfl (hb hby dj43_27_24)) ?_
   show oG p e below P m T13 25 #[(vR a1), (vI 47), (vI 1), (vI 0)] [(.int x0)]
   refine iA X13 hx hby dj43_27_25 rfl ?_
   refine Go.by (fun _ => XS.i2b X13.here hx rfl (hb hby dj43_27_26) rfl) ?_
   show oG p e below P m T13 27 #[(vR a1), (vI 47), (vI 1), (vI 0)] [(.int ((47 : Int32).toInt8.toInt32)), (.int x0)]
   show oG p e below P m T13 27 #[(vR a1), (vI 47), (vI 1), (vI 0)] [(.int 47), (.int x0)]
   by_cases hc27_17 : x0 = (47 : Int32)
   · refine cN X13 hx hby dj43_27_27 (XT.ii_ne_f hc27_17) ?_
     refine iA X13 hx hby dj43_27_30 rfl ?_
     refine r_val hP hlk hret X13 hx hby dj43_27_31 rfl (Or.inl ⟨rfl, Or.inl rfl, _, rfl⟩) (by decide) ?_
     rw [q13]
     exact ⟨by simp [own_l2, own_l1, hc27_15, hc27_17], N13, rfl⟩
   · refine cY X13 hx hby dj43_27_27 (pc' := 32) (XT.ii_ne_t hc27_17) (by decide) ?_
     refine iI X13 hx hby dj43_27_32 rfl (l' := #[(vR a1), (vI 47), (vI 1), (vI (-1))]) rfl ?_
     refine gO X13 hx hby dj43_27_35 (pc' := 18) (by decide) ?_
     refine iA X13 hx hby dj43_27_18 rfl ?_
     refine fY X13 hx hby dj43_27_19 (pc' := 38) (XT.i0_lt_t (by decide : (-1 : Int32) < (0 : Int32))) (by decide) ?_
     refine iC X13 hx hby dj43_27_38 (v := (-1)) rfl ?_
     refine r_val hP hlk hret X13 hx hby dj43_27_39 rfl (Or.inl ⟨rfl, Or.inl rfl, _, rfl⟩) (by decide) ?_
     rw [q13]
     exact ⟨by simp [own_l2, own_l1, hc27_15, hc27_17], N13, rfl⟩
def Q_slast3_2 (Z : State) (a0_ : Addr) (x0 x1 x2 cs : Int32) (h0 : Heap) (n0 : Nat) (v : Option Value) (h : Heap) (L : List Loc) : Prop := v = some (.int (own_l2 x0 x1)) ∧ Fr n0 L ∧ h = h0
theorem rm_slast3_2 (l : Launch) (Z : State) (a0 : Array Value) (hw : oW a0 Z) (ws : List Jvm.Cond) (a0_ : Addr) (x0 x1 x2 cs : Int32) (h0 : Heap) (n0 : Nat) (Z0 : n0 ≤ h0.size) (O0 : Old Z n0 h0) (Scs : Sta Z Z.heap "java/lang/String" "COMPACT_STRINGS" "Z" (.int cs)) (hcs : ¬ cs = (0 : Int32)) (S0 : StrV Z h0 a0_ [x0, x1, x2]) :
   oM l oY2 j42_83 3 (some .int) ws (own_R 2 0 0 30) #[(.ref a0_), (.int 47), (.int 1)] Z h0 (Q_slast3_2 Z a0_ x0 x1 x2 cs h0 n0) := by
 refine own_open (n0 := n0) (cn := "java/lang/String") rfl (plainFor_of_name pn0) (L0 := #[(vR a0_), (vI 47), (vI 1)]) (fun _ => by first | (simp [entryFrame, mkF, argsToLocals, Value.category]; done) | rfl) ?_
 intro p e s m below meth c s₁ P hx hby hml hown hnm X0 e0 N0 hlk hret hZ hP
 obtain ⟨d0, kd0, ES0, CS0, VS0, AS0⟩ := S0
 have AT0 : Arv Z h0 d0 kd0 .byte (3 : Int32) [(.int x0), (.int x1), (.int x2)] (.int 0) := AS0
 show oG p e below P m s₁ 0 #[(vR a0_), (vI 47), (vI 1)] []
 refine aA X0 hx hby dj42_83_0 rfl rfl ?_
 refine c_virt 0 X0 hx hby hml hZ hown (tw_59 hw) (tw_60 hw) (tw_62 hw) (tw_61 hw) (tw_63 hw) (tw_8 hw) (rm_isLat l Z a0 hw [] a0_ cs h0 n0 Z0 O0 Scs hcs CS0) e0 ES0 dj42_83_1 [] [] (lenOf pd4 rfl) rfl rfl (by rfl) (by decide) ?_
 rintro _ T11 Lc11 ⟨rfl, N11q, q11⟩ X11
 have N11 := Fr.app N0 N11q
 refine fN X11 hx hby dj42_83_4 (XT.i0_eq_f (by decide : ¬ (1 : Int32) = (0 : Int32))) ?_
 refine aA X11 hx hby dj42_83_7 rfl rfl ?_
 obtain ⟨T12, X12, e12, st12⟩ := getF X11 hx hZ hown (host := "") (Or.inl (tw_25 hw)) Via.refl q11 VS0 (g := (mkF m 8 #[(vR a0_), (vI 47), (vI 1)] [(.ref a0_)])) rfl rfl (hb hby dj42_83_8)
 refine Go.by st12 ?_
 show oG p e below P m T12 11 #[(vR a0_), (vI 47), (vI 1)] [(.ref d0)]
 refine iA X12 hx hby dj42_83_11 rfl ?_
 refine iA X12 hx hby dj42_83_12 rfl ?_
 refine c_stat 0 X12 hx hby hml hZ hown (tw_64 hw) (tw_65 hw) (tw_66 hw) (tw_67 hw) (rm_l1last3_2 l Z a0 hw [] d0 kd0 x0 x1 x2 h0 n0 Z0 AT0) e12 dj42_83_13 [(.ref d0), (.int 47), (.int 1)] [] (lenOf pd8 rfl) rfl rfl (by rfl) (by decide) ?_
 rintro _ T13 Lc13 ⟨rfl, N13q, q13⟩ X13
 have N13 := Fr.app N11 N13q
 refine gO X13 hx hby dj42_83_16 (pc' := 28) (by decide) ?_
 refine r_val hP hlk hret X13 hx hby dj42_83_28 rfl (Or.inl ⟨rfl, Or.inl rfl, _, rfl⟩) (by decide) ?_
 rw [q13]
 exact ⟨rfl, N13, rfl⟩
def Q_l1last4_4 (Z : State) (a1 : Addr) (k1 : ClassId) (x0 x1 x2 x3 : Int32) (h0 : Heap) (n0 : Nat) (v : Option Value) (h : Heap) (L : List Loc) : Prop := v = some (.int (own_l4 x0 x1 x2 x3)) ∧ Fr n0 L ∧ h = h0
theorem rm_l1last4_4 (l : Launch) (Z : State) (a0 : Array Value) (hw : oW a0 Z) (ws : List Jvm.Cond) (a1 : Addr) (k1 : ClassId) (x0 x1 x2 x3 : Int32) (h0 : Heap) (n0 : Nat) (Z0 : n0 ≤ h0.size) (V1 : Arv Z h0 a1 k1 .byte (4 : Int32) [(.int x0), (.int x1), (.int x2), (.int x3)] (.int 0)) :
   oM l oY4 j43_27 4 (some .int) ws (own_R 1 0 0 14) #[(.ref a1), (.int 47), (.int 3)] Z h0 (Q_l1last4_4 Z a1 k1 x0 x1 x2 x3 h0 n0) := by
 refine own_open (n0 := n0) (cn := "java/lang/StringLatin1") rfl (plainFor_of_name pn1) (L0 := #[(vR a1), (vI 47), (vI 3), .unset]) (fun _ => by first | (simp [entryFrame, mkF, argsToLocals, Value.category]; done) | rfl) ?_
 intro p e s m below meth c s₁ P hx hby hml hown hnm X0 e0 N0 hlk hret hZ hP
 refine iA X0 hx hby dj43_27_0 rfl ?_
 refine c_stat 0 X0 hx hby hml hZ hown (tw_68 hw) (tw_69 hw) (tw_66 hw) (tw_70 hw) (rm_canEncI l Z a0 hw []  h0 n0 Z0 ) e0 dj43_27_1 [(.int 47)] [] (lenOf pd7 rfl) rfl rfl (by rfl) (by decide) ?_
 rintro _ T11 Lc11 ⟨rfl, N11q, q11⟩ X11
 have N11 := Fr.app N0 N11q
 refine fY X11 hx hby dj43_27_4 (pc' := 9) (XT.i0_ne_t (by decide : ¬ (1 : Int32) = (0 : Int32))) (by decide) ?_
 refine iA X11 hx hby dj43_27_9 rfl ?_
 refine aA X11 hx hby dj43_27_10 rfl rfl ?_
 have av12 := V1
 obtain ⟨cl12, Ar12, -, Sz12, Nn12, -, -⟩ := av12
 refine Go.by (X11.arraylength hx (by rw [q11]; exact Ar12.1) (State.isArrayOf_alike hZ.alike Ar12.2.1) (g := (mkF m 11 #[(vR a1), (vI 47), (vI 3), .unset] [(.ref a1), (.int 3)])) rfl rfl (hb hby dj43_27_11)) ?_
 rw [len_of Sz12 Nn12]
 show oG p e below P m T11 12 #[(vR a1), (vI 47), (vI 3), .unset] [(.int 4), (.int 3)]
 refine iC X11 hx hby dj43_27_12 (v := 1) rfl ?_
 refine iM X11 hx hby dj43_27_13 (v := 3) rfl ?_
 refine c_stat 0 X11 hx hby hml hZ hown (tw_71 hw) (tw_72 hw) (tw_73 hw) (tw_74 hw) (rm_min l Z a0 hw [] (3 : Int32) (3 : Int32) (3 : Int32) h0 n0 Z0 (by decide)) q11 dj43_27_14 [(.int 3), (.int 3)] [] (lenOf pd1 rfl) rfl rfl (by rfl) (by decide) ?_
 rintro _ T13 Lc13 ⟨rfl, N13q, q13⟩ X13
 have N13 := Fr.app N11 N13q
 refine iS X13 hx hby dj43_27_17 (l' := #[(vR a1), (vI 47), (vI 3), (vI 3)]) rfl ?_
 refine iA X13 hx hby dj43_27_18 rfl ?_
 refine fN X13 hx hby dj43_27_19 (XT.i0_lt_f (by decide : ¬ (3 : Int32) < (0 : Int32))) ?_
 refine aA X13 hx hby dj43_27_22 rfl rfl ?_
 refine iA X13 hx hby dj43_27_23 rfl ?_
 have av14 := V1
 obtain ⟨cl14, Ar14, -, Sz14, Nn14, Ha14, Gf14⟩ := av14
 have hin14 : ¬ ((3 : Int32) < 0 ∨ cl14.slots.size ≤ ((3 : Int32)).toNatClampNeg) := inb_of Sz14 ⟨by decide, by decide⟩
 have hat14 : cl14.slots[((3 : Int32)).toNatClampNeg]? = some (.int x3) := Ha14.at hin14 rfl
 refine Go.by (X13.baloadBytes hx (j := (3 : Int32)) (v := (.int x3)) (by rw [q13]; exact Ar14.1) (State.isArrayOf_alike hZ.alike Ar14.2.1) Ar14.2.2 hin14 hat14 (g := (mkF m 24 #[(vR a1), (vI 47), (vI 3), (vI 3)] [(.int 3), (.ref a1)])) rfl rfl (hb hby dj43_27_24)) ?_
 show oG p e below P m T13 25 #[(vR a1), (vI 47), (vI 3), (vI 3)] [(.int x3)]
 refine iA X13 hx hby dj43_27_25 rfl ?_
 refine Go.by (fun _ => XS.i2b X13.here hx rfl (hb hby dj43_27_26) rfl) ?_
 show oG p e below P m T13 27 #[(vR a1), (vI 47), (vI 3), (vI 3)] [(.int ((47 : Int32).toInt8.toInt32)), (.int x3)]
 show oG p e below P m T13 27 #[(vR a1), (vI 47), (vI 3), (vI 3)] [(.int 47), (.int x3)]
 by_cases hc27_15 : x3 = (47 : Int32)
 · refine cN X13 hx hby dj43_27_27 (XT.ii_ne_f hc27_15) ?_
   refine iA X13 hx hby dj43_27_30 rfl ?_
   refine r_val hP hlk hret X13 hx hby dj43_27_31 rfl (Or.inl ⟨rfl, Or.inl rfl, _, rfl⟩) (by decide) ?_
   rw [q13]
   exact ⟨by simp [own_l4, own_l3, own_l2, own_l1, hc27_15], N13, rfl⟩
 · refine cY X13 hx hby dj43_27_27 (pc' := 32) (XT.ii_ne_t hc27_15) (by decide) ?_
   refine iI X13 hx hby dj43_27_32 rfl (l' := #[(vR a1), (vI 47), (vI 3), (vI 2)]) rfl ?_
   refine gO X13 hx hby dj43_27_35 (pc' := 18) (by decide) ?_
   refine iA X13 hx hby dj43_27_18 rfl ?_
   refine fN X13 hx hby dj43_27_19 (XT.i0_lt_f (by decide : ¬ (2 : Int32) < (0 : Int32))) ?_
   refine aA X13 hx hby dj43_27_22 rfl rfl ?_
   refine iA X13 hx hby dj43_27_23 rfl ?_
   have av16 := V1
   obtain ⟨cl16, Ar16, -, Sz16, Nn16, Ha16, Gf16⟩ := av16
   have hin16 : ¬ ((2 : Int32) < 0 ∨ cl16.slots.size ≤ ((2 : Int32)).toNatClampNeg) := inb_of Sz16 ⟨by decide, by decide⟩
   have hat16 : cl16.slots[((2 : Int32)).toNatClampNeg]? = some (.int x2) := Ha16.at hin16 rfl
   refine Go.by (X13.baloadBytes hx (j := (2 : Int32)) (v := (.int x2)) (by rw [q13]; exact Ar16.1) (State.isArrayOf_alike hZ.alike Ar16.2.1) Ar16.2.2 hin16 hat16 (g := (mkF m 24 #[(vR a1), (vI 47), (vI 3), (vI 2)] [(.int 2), (.ref a1)])) rfl rfl (hb hby dj43_27_24)) ?_
   show oG p e below P m T13 25 #[(vR a1), (vI 47), (vI 3), (vI 2)] [(.int x2)]
   refine iA X13 hx hby dj43_27_25 rfl ?_
   refine Go.by (fun _ => XS.i2b X13.here hx rfl (hb hby dj43_27_26) rfl) ?_
   show oG p e below P m T13 27 #[(vR a1), (vI 47), (vI 3), (vI 2)] [(.int ((47 : Int32).toInt8.toInt32)), (.int x2)]
   show oG p e below P m T13 27 #[(vR a1), (vI 47), (vI 3), (vI 2)] [(.int 47), (.int x2)]
   by_cases hc27_17 : x2 = (47 : Int32)
   · refine cN X13 hx hby dj43_27_27 (XT.ii_ne_f hc27_17) ?_
     refine iA X13 hx hby dj43_27_30 rfl ?_
     refine r_val hP hlk hret X13 hx hby dj43_27_31 rfl (Or.inl ⟨rfl, Or.inl rfl, _, rfl⟩) (by decide) ?_
     rw [q13]
     exact ⟨by simp [own_l4, own_l3, own_l2, own_l1, hc27_15, hc27_17], N13, rfl⟩
   · refine cY X13 hx hby dj43_27_27 (pc' := 32) (XT.ii_ne_t hc27_17) (by decide) ?_
     refine iI X13 hx hby dj43_27_32 rfl (l' := #[(vR a1), (vI 47), (vI 3), (vI 1)]) rfl ?_
     refine gO X13 hx hby dj43_27_35 (pc' := 18) (by decide) ?_
     refine iA X13 hx hby dj43_27_18 rfl ?_
     refine fN X13 hx hby dj43_27_19 (XT.i0_lt_f (by decide : ¬ (1 : Int32) < (0 : Int32))) ?_
     refine aA X13 hx hby dj43_27_22 rfl rfl ?_
     refine iA X13 hx hby dj43_27_23 rfl ?_
     have av18 := V1
     obtain ⟨cl18, Ar18, -, Sz18, Nn18, Ha18, Gf18⟩ := av18
     have hin18 : ¬ ((1 : Int32) < 0 ∨ cl18.slots.size ≤ ((1 : Int32)).toNatClampNeg) := inb_of Sz18 ⟨by decide, by decide⟩
     have hat18 : cl18.slots[((1 : Int32)).toNatClampNeg]? = some (.int x1) := Ha18.at hin18 rfl
     refine Go.by (X13.baloadBytes hx (j := (1 : Int32)) (v := (.int x1)) (by rw [q13]; exact Ar18.1) (State.isArrayOf_alike hZ.alike Ar18.2.1) Ar18.2.2 hin18 hat18 (g := (mkF m 24 #[(vR a1), (vI 47), (vI 3), (vI 1)] [(.int 1), (.ref a1)])) rfl rfl (hb hby dj43_27_24)) ?_
     show oG p e below P m T13 25 #[(vR a1), (vI 47), (vI 3), (vI 1)] [(.int x1)]
     refine iA X13 hx hby dj43_27_25 rfl ?_
     refine Go.by (fun _ => XS.i2b X13.here hx rfl (hb hby dj43_27_26) rfl) ?_
     show oG p e below P m T13 27 #[(vR a1), (vI 47), (vI 3), (vI 1)] [(.int ((47 : Int32).toInt8.toInt32)), (.int x1)]
     show oG p e below P m T13 27 #[(vR a1), (vI 47), (vI 3), (vI 1)] [(.int 47), (.int x1)]
     by_cases hc27_19 : x1 = (47 : Int32)
     · refine cN X13 hx hby dj43_27_27 (XT.ii_ne_f hc27_19) ?_
       refine iA X13 hx hby dj43_27_30 rfl ?_
       refine r_val hP hlk hret X13 hx hby dj43_27_31 rfl (Or.inl ⟨rfl, Or.inl rfl, _, rfl⟩) (by decide) ?_
       rw [q13]
       exact ⟨by simp [own_l4, own_l3, own_l2, own_l1, hc27_15, hc27_17, hc27_19], N13, rfl⟩
     · refine cY X13 hx hby dj43_27_27 (pc' := 32) (XT.ii_ne_t hc27_19) (by decide) ?_
       refine iI X13 hx hby dj43_27_32 rfl (l' := #[(vR a1), (vI 47), (vI 3), (vI 0)]) rfl ?_
       refine gO X13 hx hby dj43_27_35 (pc' := 18) (by decide) ?_
       refine iA X13 hx hby dj43_27_18 rfl ?_
       refine fN X13 hx hby dj43_27_19 (XT.i0_lt_f (by decide : ¬ (0 : Int32) < (0 : Int32))) ?_
       refine aA X13 hx hby dj43_27_22 rfl rfl ?_
       refine iA X13 hx hby dj43_27_23 rfl ?_
       have av20 := V1
       obtain ⟨cl20, Ar20, -, Sz20, Nn20, Ha20, Gf20⟩ := av20
       have hin20 : ¬ ((0 : Int32) < 0 ∨ cl20.slots.size ≤ ((0 : Int32)).toNatClampNeg) := inb_of Sz20 ⟨by decide, by decide⟩
       have hat20 : cl20.slots[((0 : Int32)).toNatClampNeg]? = some (.int x0) := Ha20.at hin20 rfl
       refine Go.by (X13.baloadBytes hx (j := (0 : Int32)) (v := (.int x0)) (by rw [q13]; exact Ar20.1) (State.isArrayOf_alike hZ.alike Ar20.2.1) Ar20.2.2 hin20 hat20 (g := (mkF m 24 #[(vR a1), (vI 47), (vI 3), (vI 0)] [(.int 0), (.ref a1)])) rfl rfl (hb hby dj43_27_24)) ?_
       show oG p e below P m T13 25 #[(vR a1), (vI 47), (vI 3), (vI 0)] [(.int x0)]
       refine iA X13 hx hby dj43_27_25 rfl ?_
       refine Go.by (fun _ => XS.i2b X13.here hx rfl (hb hby dj43_27_26) rfl) ?_
       show oG p e below P m T13 27 #[(vR a1), (vI 47), (vI 3), (vI 0)] [(.int ((47 : Int32).toInt8.toInt32)), (.int x0)]
       show oG p e below P m T13 27 #[(vR a1), (vI 47), (vI 3), (vI 0)] [(.int 47), (.int x0)]
       by_cases hc27_21 : x0 = (47 : Int32)
       · refine cN X13 hx hby dj43_27_27 (XT.ii_ne_f hc27_21) ?_
         refine iA X13 hx hby dj43_27_30 rfl ?_
         refine r_val hP hlk hret X13 hx hby dj43_27_31 rfl (Or.inl ⟨rfl, Or.inl rfl, _, rfl⟩) (by decide) ?_
         rw [q13]
         exact ⟨by simp [own_l4, own_l3, own_l2, own_l1, hc27_15, hc27_17, hc27_19, hc27_21], N13, rfl⟩
       · refine cY X13 hx hby dj43_27_27 (pc' := 32) (XT.ii_ne_t hc27_21) (by decide) ?_
         refine iI X13 hx hby dj43_27_32 rfl (l' := #[(vR a1), (vI 47), (vI 3), (vI (-1))]) rfl ?_
         refine gO X13 hx hby dj43_27_35 (pc' := 18) (by decide) ?_
         refine iA X13 hx hby dj43_27_18 rfl ?_
         refine fY X13 hx hby dj43_27_19 (pc' := 38) (XT.i0_lt_t (by decide : (-1 : Int32) < (0 : Int32))) (by decide) ?_
         refine iC X13 hx hby dj43_27_38 (v := (-1)) rfl ?_
         refine r_val hP hlk hret X13 hx hby dj43_27_39 rfl (Or.inl ⟨rfl, Or.inl rfl, _, rfl⟩) (by decide) ?_
         rw [q13]
         exact ⟨by simp [own_l4, own_l3, own_l2, own_l1, hc27_15, hc27_17, hc27_19, hc27_21], N13, rfl⟩
def Q_slast4_4 (Z : State) (a0_ : Addr) (x0 x1 x2 x3 cs : Int32) (h0 : Heap) (n0 : Nat) (v : Option Value) (h : Heap) (L : List Loc) : Prop := v = some (.int (own_l4 x0 x1 x2 x3)) ∧ Fr n0 L ∧ h = h0
theorem rm_slast4_4 (l : Launch) (Z : State) (a0 : Array Value) (hw : oW a0 Z) (ws : List Jvm.Cond) (a0_ : Addr) (x0 x1 x2 x3 cs : Int32) (h0 : Heap) (n0 : Nat) (Z0 : n0 ≤ h0.size) (O0 : Old Z n0 h0) (Scs : Sta Z Z.heap "java/lang/String" "COMPACT_STRINGS" "Z" (.int cs)) (hcs : ¬ cs = (0 : Int32)) (S0 : StrV Z h0 a0_ [x0, x1, x2, x3]) :
   oM l oY2 j42_83 3 (some .int) ws (own_R 2 0 0 30) #[(.ref a0_), (.int 47), (.int 3)] Z h0 (Q_slast4_4 Z a0_ x0 x1 x2 x3 cs h0 n0) := by
 refine own_open (n0 := n0) (cn := "java/lang/String") rfl (plainFor_of_name pn0) (L0 := #[(vR a0_), (vI 47), (vI 3)]) (fun _ => by first | (simp [entryFrame, mkF, argsToLocals, Value.category]; done) | rfl) ?_
 intro p e s m below meth c s₁ P hx hby hml hown hnm X0 e0 N0 hlk hret hZ hP
 obtain ⟨d0, kd0, ES0, CS0, VS0, AS0⟩ := S0
 have AT0 : Arv Z h0 d0 kd0 .byte (4 : Int32) [(.int x0), (.int x1), (.int x2), (.int x3)] (.int 0) := AS0
 show oG p e below P m s₁ 0 #[(vR a0_), (vI 47), (vI 3)] []
 refine aA X0 hx hby dj42_83_0 rfl rfl ?_
 refine c_virt 0 X0 hx hby hml hZ hown (tw_59 hw) (tw_60 hw) (tw_62 hw) (tw_61 hw) (tw_63 hw) (tw_8 hw) (rm_isLat l Z a0 hw [] a0_ cs h0 n0 Z0 O0 Scs hcs CS0) e0 ES0 dj42_83_1 [] [] (lenOf pd4 rfl) rfl rfl (by rfl) (by decide) ?_
 rintro _ T11 Lc11 ⟨rfl, N11q, q11⟩ X11
 have N11 := Fr.app N0 N11q
 refine fN X11 hx hby dj42_83_4 (XT.i0_eq_f (by decide : ¬ (1 : Int32) = (0 : Int32))) ?_
 refine aA X11 hx hby dj42_83_7 rfl rfl ?_
 obtain ⟨T12, X12, e12, st12⟩ := getF X11 hx hZ hown (host := "") (Or.inl (tw_25 hw)) Via.refl q11 VS0 (g := (mkF m 8 #[(vR a0_), (vI 47), (vI 3)] [(.ref a0_)])) rfl rfl (hb hby dj42_83_8)
 refine Go.by st12 ?_
 show oG p e below P m T12 11 #[(vR a0_), (vI 47), (vI 3)] [(.ref d0)]
 refine iA X12 hx hby dj42_83_11 rfl ?_
 refine iA X12 hx hby dj42_83_12 rfl ?_
 refine c_stat 0 X12 hx hby hml hZ hown (tw_64 hw) (tw_65 hw) (tw_66 hw) (tw_67 hw) (rm_l1last4_4 l Z a0 hw [] d0 kd0 x0 x1 x2 x3 h0 n0 Z0 AT0) e12 dj42_83_13 [(.ref d0), (.int 47), (.int 3)] [] (lenOf pd8 rfl) rfl rfl (by rfl) (by decide) ?_
 rintro _ T13 Lc13 ⟨rfl, N13q, q13⟩ X13
 have N13 := Fr.app N11 N13q
 refine gO X13 hx hby dj42_83_16 (pc' := 28) (by decide) ?_
 refine r_val hP hlk hret X13 hx hby dj42_83_28 rfl (Or.inl ⟨rfl, Or.inl rfl, _, rfl⟩) (by decide) ?_
 rw [q13]
 exact ⟨rfl, N13, rfl⟩
def Q_l1last4_3 (Z : State) (a1 : Addr) (k1 : ClassId) (x0 x1 x2 x3 : Int32) (h0 : Heap) (n0 : Nat) (v : Option Value) (h : Heap) (L : List Loc) : Prop := v = some (.int (own_l3 x0 x1 x2)) ∧ Fr n0 L ∧ h = h0
theorem rm_l1last4_3 (l : Launch) (Z : State) (a0 : Array Value) (hw : oW a0 Z) (ws : List Jvm.Cond) (a1 : Addr) (k1 : ClassId) (x0 x1 x2 x3 : Int32) (h0 : Heap) (n0 : Nat) (Z0 : n0 ≤ h0.size) (V1 : Arv Z h0 a1 k1 .byte (4 : Int32) [(.int x0), (.int x1), (.int x2), (.int x3)] (.int 0)) :
   oM l oY4 j43_27 4 (some .int) ws (own_R 1 0 0 14) #[(.ref a1), (.int 47), (.int 2)] Z h0 (Q_l1last4_3 Z a1 k1 x0 x1 x2 x3 h0 n0) := by
 refine own_open (n0 := n0) (cn := "java/lang/StringLatin1") rfl (plainFor_of_name pn1) (L0 := #[(vR a1), (vI 47), (vI 2), .unset]) (fun _ => by first | (simp [entryFrame, mkF, argsToLocals, Value.category]; done) | rfl) ?_
 intro p e s m below meth c s₁ P hx hby hml hown hnm X0 e0 N0 hlk hret hZ hP
 refine iA X0 hx hby dj43_27_0 rfl ?_
 refine c_stat 0 X0 hx hby hml hZ hown (tw_68 hw) (tw_69 hw) (tw_66 hw) (tw_70 hw) (rm_canEncI l Z a0 hw []  h0 n0 Z0 ) e0 dj43_27_1 [(.int 47)] [] (lenOf pd7 rfl) rfl rfl (by rfl) (by decide) ?_
 rintro _ T11 Lc11 ⟨rfl, N11q, q11⟩ X11
 have N11 := Fr.app N0 N11q
 refine fY X11 hx hby dj43_27_4 (pc' := 9) (XT.i0_ne_t (by decide : ¬ (1 : Int32) = (0 : Int32))) (by decide) ?_
 refine iA X11 hx hby dj43_27_9 rfl ?_
 refine aA X11 hx hby dj43_27_10 rfl rfl ?_
 have av12 := V1
 obtain ⟨cl12, Ar12, -, Sz12, Nn12, -, -⟩ := av12
 refine Go.by (X11.arraylength hx (by rw [q11]; exact Ar12.1) (State.isArrayOf_alike hZ.alike Ar12.2.1) (g := (mkF m 11 #[(vR a1), (vI 47), (vI 2), .unset] [(.ref a1), (.int 2)])) rfl rfl (hb hby dj43_27_11)) ?_
 rw [len_of Sz12 Nn12]
 show oG p e below P m T11 12 #[(vR a1), (vI 47), (vI 2), .unset] [(.int 4), (.int 2)]
 refine iC X11 hx hby dj43_27_12 (v := 1) rfl ?_
 refine iM X11 hx hby dj43_27_13 (v := 3) rfl ?_
 refine c_stat 0 X11 hx hby hml hZ hown (tw_71 hw) (tw_72 hw) (tw_73 hw) (tw_74 hw) (rm_min l Z a0 hw [] (2 : Int32) (3 : Int32) (2 : Int32) h0 n0 Z0 (by decide)) q11 dj43_27_14 [(.int 2), (.int 3)] [] (lenOf pd1 rfl) rfl rfl (by rfl) (by decide) ?_
 rintro _ T13 Lc13 ⟨rfl, N13q, q13⟩ X13
 have N13 := Fr.app N11 N13q
 refine iS X13 hx hby dj43_27_17 (l' := #[(vR a1), (vI 47), (vI 2), (vI 2)]) rfl ?_
 refine iA X13 hx hby dj43_27_18 rfl ?_
 refine fN X13 hx hby dj43_27_19 (XT.i0_lt_f (by decide : ¬ (2 : Int32) < (0 : Int32))) ?_
 refine aA X13 hx hby dj43_27_22 rfl rfl ?_
 refine iA X13 hx hby dj43_27_23 rfl ?_
 have av14 := V1
 obtain ⟨cl14, Ar14, -, Sz14, Nn14, Ha14, Gf14⟩ := av14
 have hin14 : ¬ ((2 : Int32) < 0 ∨ cl14.slots.size ≤ ((2 : Int32)).toNatClampNeg) := inb_of Sz14 ⟨by decide, by decide⟩
 have hat14 : cl14.slots[((2 : Int32)).toNatClampNeg]? = some (.int x2) := Ha14.at hin14 rfl
 refine Go.by (X13.baloadBytes hx (j := (2 : Int32)) (v := (.int x2)) (by rw [q13]; exact Ar14.1) (State.isArrayOf_alike hZ.alike Ar14.2.1) Ar14.2.2 hin14 hat14 (g := (mkF m 24 #[(vR a1), (vI 47), (vI 2), (vI 2)] [(.int 2), (.ref a1)])) rfl rfl (hb hby dj43_27_24)) ?_
 show oG p e below P m T13 25 #[(vR a1), (vI 47), (vI 2), (vI 2)] [(.int x2)]
 refine iA X13 hx hby dj43_27_25 rfl ?_
 refine Go.by (fun _ => XS.i2b X13.here hx rfl (hb hby dj43_27_26) rfl) ?_
 show oG p e below P m T13 27 #[(vR a1), (vI 47), (vI 2), (vI 2)] [(.int ((47 : Int32).toInt8.toInt32)), (.int x2)]
 show oG p e below P m T13 27 #[(vR a1), (vI 47), (vI 2), (vI 2)] [(.int 47), (.int x2)]
 by_cases hc27_15 : x2 = (47 : Int32)
 · refine cN X13 hx hby dj43_27_27 (XT.ii_ne_f hc27_15) ?_
   refine iA X13 hx hby dj43_27_30 rfl ?_
   refine r_val hP hlk hret X13 hx hby dj43_27_31 rfl (Or.inl ⟨rfl, Or.inl rfl, _, rfl⟩) (by decide) ?_
   rw [q13]
   exact ⟨by simp [own_l3, own_l2, own_l1, hc27_15], N13, rfl⟩
 · refine cY X13 hx hby dj43_27_27 (pc' := 32) (XT.ii_ne_t hc27_15) (by decide) ?_
   refine iI X13 hx hby dj43_27_32 rfl (l' := #[(vR a1), (vI 47), (vI 2), (vI 1)]) rfl ?_
   refine gO X13 hx hby dj43_27_35 (pc' := 18) (by decide) ?_
   refine iA X13 hx hby dj43_27_18 rfl ?_
   refine fN X13 hx hby dj43_27_19 (XT.i0_lt_f (by decide : ¬ (1 : Int32) < (0 : Int32))) ?_
   refine aA X13 hx hby dj43_27_22 rfl rfl ?_
   refine iA X13 hx hby dj43_27_23 rfl ?_
   have av16 := V1
   obtain ⟨cl16, Ar16, -, Sz16, Nn16, Ha16, Gf16⟩ := av16
   have hin16 : ¬ ((1 : Int32) < 0 ∨ cl16.slots.size ≤ ((1 : Int32)).toNatClampNeg) := inb_of Sz16 ⟨by decide, by decide⟩
   have hat16 : cl16.slots[((1 : Int32)).toNatClampNeg]? = some (.int x1) := Ha16.at hin16 rfl
   refine Go.by (X13.baloadBytes hx (j := (1 : Int32)) (v := (.int x1)) (by rw [q13]; exact Ar16.1) (State.isArrayOf_alike hZ.alike Ar16.2.1) Ar16.2.2 hin16 hat16 (g := (mkF m 24 #[(vR a1), (vI 47), (vI 2), (vI 1)] [(.int 1), (.ref a1)])) rfl rfl (hb hby dj43_27_24)) ?_
   show oG p e below P m T13 25 #[(vR a1), (vI 47), (vI 2), (vI 1)] [(.int x1)]
   refine iA X13 hx hby dj43_27_25 rfl ?_
   refine Go.by (fun _ => XS.i2b X13.here hx rfl (hb hby dj43_27_26) rfl) ?_
   show oG p e below P m T13 27 #[(vR a1), (vI 47), (vI 2), (vI 1)] [(.int ((47 : Int32).toInt8.toInt32)), (.int x1)]
   show oG p e below P m T13 27 #[(vR a1), (vI 47), (vI 2), (vI 1)] [(.int 47), (.int x1)]
   by_cases hc27_17 : x1 = (47 : Int32)
   · refine cN X13 hx hby dj43_27_27 (XT.ii_ne_f hc27_17) ?_
     refine iA X13 hx hby dj43_27_30 rfl ?_
     refine r_val hP hlk hret X13 hx hby dj43_27_31 rfl (Or.inl ⟨rfl, Or.inl rfl, _, rfl⟩) (by decide) ?_
     rw [q13]
     exact ⟨by simp [own_l3, own_l2, own_l1, hc27_15, hc27_17], N13, rfl⟩
   · refine cY X13 hx hby dj43_27_27 (pc' := 32) (XT.ii_ne_t hc27_17) (by decide) ?_
     refine iI X13 hx hby dj43_27_32 rfl (l' := #[(vR a1), (vI 47), (vI 2), (vI 0)]) rfl ?_
     refine gO X13 hx hby dj43_27_35 (pc' := 18) (by decide) ?_
     refine iA X13 hx hby dj43_27_18 rfl ?_
     refine fN X13 hx hby dj43_27_19 (XT.i0_lt_f (by decide : ¬ (0 : Int32) < (0 : Int32))) ?_
     refine aA X13 hx hby dj43_27_22 rfl rfl ?_
     refine iA X13 hx hby dj43_27_23 rfl ?_
     have av18 := V1
     obtain ⟨cl18, Ar18, -, Sz18, Nn18, Ha18, Gf18⟩ := av18
     have hin18 : ¬ ((0 : Int32) < 0 ∨ cl18.slots.size ≤ ((0 : Int32)).toNatClampNeg) := inb_of Sz18 ⟨by decide, by decide⟩
     have hat18 : cl18.slots[((0 : Int32)).toNatClampNeg]? = some (.int x0) := Ha18.at hin18 rfl
     refine Go.by (X13.baloadBytes hx (j := (0 : Int32)) (v := (.int x0)) (by rw [q13]; exact Ar18.1) (State.isArrayOf_alike hZ.alike Ar18.2.1) Ar18.2.2 hin18 hat18 (g := (mkF m 24 #[(vR a1), (vI 47), (vI 2), (vI 0)] [(.int 0), (.ref a1)])) rfl rfl (hb hby dj43_27_24)) ?_
     show oG p e below P m T13 25 #[(vR a1), (vI 47), (vI 2), (vI 0)] [(.int x0)]
     refine iA X13 hx hby dj43_27_25 rfl ?_
     refine Go.by (fun _ => XS.i2b X13.here hx rfl (hb hby dj43_27_26) rfl) ?_
     show oG p e below P m T13 27 #[(vR a1), (vI 47), (vI 2), (vI 0)] [(.int ((47 : Int32).toInt8.toInt32)), (.int x0)]
     show oG p e below P m T13 27 #[(vR a1), (vI 47), (vI 2), (vI 0)] [(.int 47), (.int x0)]
     by_cases hc27_19 : x0 = (47 : Int32)
     · refine cN X13 hx hby dj43_27_27 (XT.ii_ne_f hc27_19) ?_
       refine iA X13 hx hby dj43_27_30 rfl ?_
       refine r_val hP hlk hret X13 hx hby dj43_27_31 rfl (Or.inl ⟨rfl, Or.inl rfl, _, rfl⟩) (by decide) ?_
       rw [q13]
       exact ⟨by simp [own_l3, own_l2, own_l1, hc27_15, hc27_17, hc27_19], N13, rfl⟩
     · refine cY X13 hx hby dj43_27_27 (pc' := 32) (XT.ii_ne_t hc27_19) (by decide) ?_
       refine iI X13 hx hby dj43_27_32 rfl (l' := #[(vR a1), (vI 47), (vI 2), (vI (-1))]) rfl ?_
       refine gO X13 hx hby dj43_27_35 (pc' := 18) (by decide) ?_
       refine iA X13 hx hby dj43_27_18 rfl ?_
       refine fY X13 hx hby dj43_27_19 (pc' := 38) (XT.i0_lt_t (by decide : (-1 : Int32) < (0 : Int32))) (by decide) ?_
       refine iC X13 hx hby dj43_27_38 (v := (-1)) rfl ?_
       refine r_val hP hlk hret X13 hx hby dj43_27_39 rfl (Or.inl ⟨rfl, Or.inl rfl, _, rfl⟩) (by decide) ?_
       rw [q13]
       exact ⟨by simp [own_l3, own_l2, own_l1, hc27_15, hc27_17, hc27_19], N13, rfl⟩
def Q_slast4_3 (Z : State) (a0_ : Addr) (x0 x1 x2 x3 cs : Int32) (h0 : Heap) (n0 : Nat) (v : Option Value) (h : Heap) (L : List Loc) : Prop := v = some (.int (own_l3 x0 x1 x2)) ∧ Fr n0 L ∧ h = h0
theorem rm_slast4_3 (l : Launch) (Z : State) (a0 : Array Value) (hw : oW a0 Z) (ws : List Jvm.Cond) (a0_ : Addr) (x0 x1 x2 x3 cs : Int32) (h0 : Heap) (n0 : Nat) (Z0 : n0 ≤ h0.size) (O0 : Old Z n0 h0) (Scs : Sta Z Z.heap "java/lang/String" "COMPACT_STRINGS" "Z" (.int cs)) (hcs : ¬ cs = (0 : Int32)) (S0 : StrV Z h0 a0_ [x0, x1, x2, x3]) :
   oM l oY2 j42_83 3 (some .int) ws (own_R 2 0 0 30) #[(.ref a0_), (.int 47), (.int 2)] Z h0 (Q_slast4_3 Z a0_ x0 x1 x2 x3 cs h0 n0) := by
 refine own_open (n0 := n0) (cn := "java/lang/String") rfl (plainFor_of_name pn0) (L0 := #[(vR a0_), (vI 47), (vI 2)]) (fun _ => by first | (simp [entryFrame, mkF, argsToLocals, Value.category]; done) | rfl) ?_
 intro p e s m below meth c s₁ P hx hby hml hown hnm X0 e0 N0 hlk hret hZ hP
 obtain ⟨d0, kd0, ES0, CS0, VS0, AS0⟩ := S0
 have AT0 : Arv Z h0 d0 kd0 .byte (4 : Int32) [(.int x0), (.int x1), (.int x2), (.int x3)] (.int 0) := AS0
 show oG p e below P m s₁ 0 #[(vR a0_), (vI 47), (vI 2)] []
 refine aA X0 hx hby dj42_83_0 rfl rfl ?_
 refine c_virt 0 X0 hx hby hml hZ hown (tw_59 hw) (tw_60 hw) (tw_62 hw) (tw_61 hw) (tw_63 hw) (tw_8 hw) (rm_isLat l Z a0 hw [] a0_ cs h0 n0 Z0 O0 Scs hcs CS0) e0 ES0 dj42_83_1 [] [] (lenOf pd4 rfl) rfl rfl (by rfl) (by decide) ?_
 rintro _ T11 Lc11 ⟨rfl, N11q, q11⟩ X11
 have N11 := Fr.app N0 N11q
 refine fN X11 hx hby dj42_83_4 (XT.i0_eq_f (by decide : ¬ (1 : Int32) = (0 : Int32))) ?_
 refine aA X11 hx hby dj42_83_7 rfl rfl ?_
 obtain ⟨T12, X12, e12, st12⟩ := getF X11 hx hZ hown (host := "") (Or.inl (tw_25 hw)) Via.refl q11 VS0 (g := (mkF m 8 #[(vR a0_), (vI 47), (vI 2)] [(.ref a0_)])) rfl rfl (hb hby dj42_83_8)
 refine Go.by st12 ?_
 show oG p e below P m T12 11 #[(vR a0_), (vI 47), (vI 2)] [(.ref d0)]
 refine iA X12 hx hby dj42_83_11 rfl ?_
 refine iA X12 hx hby dj42_83_12 rfl ?_
 refine c_stat 0 X12 hx hby hml hZ hown (tw_64 hw) (tw_65 hw) (tw_66 hw) (tw_67 hw) (rm_l1last4_3 l Z a0 hw [] d0 kd0 x0 x1 x2 x3 h0 n0 Z0 AT0) e12 dj42_83_13 [(.ref d0), (.int 47), (.int 2)] [] (lenOf pd8 rfl) rfl rfl (by rfl) (by decide) ?_
 rintro _ T13 Lc13 ⟨rfl, N13q, q13⟩ X13
 have N13 := Fr.app N11 N13q
 refine gO X13 hx hby dj42_83_16 (pc' := 28) (by decide) ?_
 refine r_val hP hlk hret X13 hx hby dj42_83_28 rfl (Or.inl ⟨rfl, Or.inl rfl, _, rfl⟩) (by decide) ?_
 rw [q13]
 exact ⟨rfl, N13, rfl⟩
def Q_l1last5_5 (Z : State) (a1 : Addr) (k1 : ClassId) (x0 x1 x2 x3 x4 : Int32) (h0 : Heap) (n0 : Nat) (v : Option Value) (h : Heap) (L : List Loc) : Prop := v = some (.int (own_l5 x0 x1 x2 x3 x4)) ∧ Fr n0 L ∧ h = h0
theorem rm_l1last5_5 (l : Launch) (Z : State) (a0 : Array Value) (hw : oW a0 Z) (ws : List Jvm.Cond) (a1 : Addr) (k1 : ClassId) (x0 x1 x2 x3 x4 : Int32) (h0 : Heap) (n0 : Nat) (Z0 : n0 ≤ h0.size) (V1 : Arv Z h0 a1 k1 .byte (5 : Int32) [(.int x0), (.int x1), (.int x2), (.int x3), (.int x4)] (.int 0)) :
   oM l oY4 j43_27 4 (some .int) ws (own_R 1 0 0 14) #[(.ref a1), (.int 47), (.int 4)] Z h0 (Q_l1last5_5 Z a1 k1 x0 x1 x2 x3 x4 h0 n0) := by
 refine own_open (n0 := n0) (cn := "java/lang/StringLatin1") rfl (plainFor_of_name pn1) (L0 := #[(vR a1), (vI 47), (vI 4), .unset]) (fun _ => by first | (simp [entryFrame, mkF, argsToLocals, Value.category]; done) | rfl) ?_
 intro p e s m below meth c s₁ P hx hby hml hown hnm X0 e0 N0 hlk hret hZ hP
 refine iA X0 hx hby dj43_27_0 rfl ?_
 refine c_stat 0 X0 hx hby hml hZ hown (tw_68 hw) (tw_69 hw) (tw_66 hw) (tw_70 hw) (rm_canEncI l Z a0 hw []  h0 n0 Z0 ) e0 dj43_27_1 [(.int 47)] [] (lenOf pd7 rfl) rfl rfl (by rfl) (by decide) ?_
 rintro _ T11 Lc11 ⟨rfl, N11q, q11⟩ X11
 have N11 := Fr.app N0 N11q
 refine fY X11 hx hby dj43_27_4 (pc' := 9) (XT.i0_ne_t (by decide : ¬ (1 : Int32) = (0 : Int32))) (by decide) ?_
 refine iA X11 hx hby dj43_27_9 rfl ?_
 refine aA X11 hx hby dj43_27_10 rfl rfl ?_
 have av12 := V1
 obtain ⟨cl12, Ar12, -, Sz12, Nn12, -, -⟩ := av12
 refine Go.by (X11.arraylength hx (by rw [q11]; exact Ar12.1) (State.isArrayOf_alike hZ.alike Ar12.2.1) (g := (mkF m 11 #[(vR a1), (vI 47), (vI 4), .unset] [(.ref a1), (.int 4)])) rfl rfl (hb hby dj43_27_11)) ?_
 rw [len_of Sz12 Nn12]
 show oG p e below P m T11 12 #[(vR a1), (vI 47), (vI 4), .unset] [(.int 5), (.int 4)]
 refine iC X11 hx hby dj43_27_12 (v := 1) rfl ?_
 refine iM X11 hx hby dj43_27_13 (v := 4) rfl ?_
 refine c_stat 0 X11 hx hby hml hZ hown (tw_71 hw) (tw_72 hw) (tw_73 hw) (tw_74 hw) (rm_min l Z a0 hw [] (4 : Int32) (4 : Int32) (4 : Int32) h0 n0 Z0 (by decide)) q11 dj43_27_14 [(.int 4), (.int 4)] [] (lenOf pd1 rfl) rfl rfl (by rfl) (by decide) ?_
 rintro _ T13 Lc13 ⟨rfl, N13q, q13⟩ X13
 have N13 := Fr.app N11 N13q
 refine iS X13 hx hby dj43_27_17 (l' := #[(vR a1), (vI 47), (vI 4), (vI 4)]) rfl ?_
 refine iA X13 hx hby dj43_27_18 rfl ?_
 refine fN X13 hx hby dj43_27_19 (XT.i0_lt_f (by decide : ¬ (4 : Int32) < (0 : Int32))) ?_
 refine aA X13 hx hby dj43_27_22 rfl rfl ?_
 refine iA X13 hx hby dj43_27_23 rfl ?_
 have av14 := V1
 obtain ⟨cl14, Ar14, -, Sz14, Nn14, Ha14, Gf14⟩ := av14
 have hin14 : ¬ ((4 : Int32) < 0 ∨ cl14.slots.size ≤ ((4 : Int32)).toNatClampNeg) := inb_of Sz14 ⟨by decide, by decide⟩
 have hat14 : cl14.slots[((4 : Int32)).toNatClampNeg]? = some (.int x4) := Ha14.at hin14 rfl
 refine Go.by (X13.baloadBytes hx (j := (4 : Int32)) (v := (.int x4)) (by rw [q13]; exact Ar14.1) (State.isArrayOf_alike hZ.alike Ar14.2.1) Ar14.2.2 hin14 hat14 (g := (mkF m 24 #[(vR a1), (vI 47), (vI 4), (vI 4)] [(.int 4), (.ref a1)])) rfl rfl (hb hby dj43_27_24)) ?_
 show oG p e below P m T13 25 #[(vR a1), (vI 47), (vI 4), (vI 4)] [(.int x4)]
 refine iA X13 hx hby dj43_27_25 rfl ?_
 refine Go.by (fun _ => XS.i2b X13.here hx rfl (hb hby dj43_27_26) rfl) ?_
 show oG p e below P m T13 27 #[(vR a1), (vI 47), (vI 4), (vI 4)] [(.int ((47 : Int32).toInt8.toInt32)), (.int x4)]
 show oG p e below P m T13 27 #[(vR a1), (vI 47), (vI 4), (vI 4)] [(.int 47), (.int x4)]
 by_cases hc27_15 : x4 = (47 : Int32)
 · refine cN X13 hx hby dj43_27_27 (XT.ii_ne_f hc27_15) ?_
   refine iA X13 hx hby dj43_27_30 rfl ?_
   refine r_val hP hlk hret X13 hx hby dj43_27_31 rfl (Or.inl ⟨rfl, Or.inl rfl, _, rfl⟩) (by decide) ?_
   rw [q13]
   exact ⟨by simp [own_l5, own_l4, own_l3, own_l2, own_l1, hc27_15], N13, rfl⟩
 · refine cY X13 hx hby dj43_27_27 (pc' := 32) (XT.ii_ne_t hc27_15) (by decide) ?_
   refine iI X13 hx hby dj43_27_32 rfl (l' := #[(vR a1), (vI 47), (vI 4), (vI 3)]) rfl ?_
   refine gO X13 hx hby dj43_27_35 (pc' := 18) (by decide) ?_
   refine iA X13 hx hby dj43_27_18 rfl ?_
   refine fN X13 hx hby dj43_27_19 (XT.i0_lt_f (by decide : ¬ (3 : Int32) < (0 : Int32))) ?_
   refine aA X13 hx hby dj43_27_22 rfl rfl ?_
   refine iA X13 hx hby dj43_27_23 rfl ?_
   have av16 := V1
   obtain ⟨cl16, Ar16, -, Sz16, Nn16, Ha16, Gf16⟩ := av16
   have hin16 : ¬ ((3 : Int32) < 0 ∨ cl16.slots.size ≤ ((3 : Int32)).toNatClampNeg) := inb_of Sz16 ⟨by decide, by decide⟩
   have hat16 : cl16.slots[((3 : Int32)).toNatClampNeg]? = some (.int x3) := Ha16.at hin16 rfl
   refine Go.by (X13.baloadBytes hx (j := (3 : Int32)) (v := (.int x3)) (by rw [q13]; exact Ar16.1) (State.isArrayOf_alike hZ.alike Ar16.2.1) Ar16.2.2 hin16 hat16 (g := (mkF m 24 #[(vR a1), (vI 47), (vI 4), (vI 3)] [(.int 3), (.ref a1)])) rfl rfl (hb hby dj43_27_24)) ?_
   show oG p e below P m T13 25 #[(vR a1), (vI 47), (vI 4), (vI 3)] [(.int x3)]
   refine iA X13 hx hby dj43_27_25 rfl ?_
   refine Go.by (fun _ => XS.i2b X13.here hx rfl (hb hby dj43_27_26) rfl) ?_
   show oG p e below P m T13 27 #[(vR a1), (vI 47), (vI 4), (vI 3)] [(.int ((47 : Int32).toInt8.toInt32)), (.int x3)]
   show oG p e below P m T13 27 #[(vR a1), (vI 47), (vI 4), (vI 3)] [(.int 47), (.int x3)]
   by_cases hc27_17 : x3 = (47 : Int32)
   · refine cN X13 hx hby dj43_27_27 (XT.ii_ne_f hc27_17) ?_
     refine iA X13 hx hby dj43_27_30 rfl ?_
     refine r_val hP hlk hret X13 hx hby dj43_27_31 rfl (Or.inl ⟨rfl, Or.inl rfl, _, rfl⟩) (by decide) ?_
     rw [q13]
     exact ⟨by simp [own_l5, own_l4, own_l3, own_l2, own_l1, hc27_15, hc27_17], N13, rfl⟩
   · refine cY X13 hx hby dj43_27_27 (pc' := 32) (XT.ii_ne_t hc27_17) (by decide) ?_
     refine iI X13 hx hby dj43_27_32 rfl (l' := #[(vR a1), (vI 47), (vI 4), (vI 2)]) rfl ?_
     refine gO X13 hx hby dj43_27_35 (pc' := 18) (by decide) ?_
     refine iA X13 hx hby dj43_27_18 rfl ?_
     refine fN X13 hx hby dj43_27_19 (XT.i0_lt_f (by decide : ¬ (2 : Int32) < (0 : Int32))) ?_
     refine aA X13 hx hby dj43_27_22 rfl rfl ?_
     refine iA X13 hx hby dj43_27_23 rfl ?_
     have av18 := V1
     obtain ⟨cl18, Ar18, -, Sz18, Nn18, Ha18, Gf18⟩ := av18
     have hin18 : ¬ ((2 : Int32) < 0 ∨ cl18.slots.size ≤ ((2 : Int32)).toNatClampNeg) := inb_of Sz18 ⟨by decide, by decide⟩
     have hat18 : cl18.slots[((2 : Int32)).toNatClampNeg]? = some (.int x2) := Ha18.at hin18 rfl
     refine Go.by (X13.baloadBytes hx (j := (2 : Int32)) (v := (.int x2)) (by rw [q13]; exact Ar18.1) (State.isArrayOf_alike hZ.alike Ar18.2.1) Ar18.2.2 hin18 hat18 (g := (mkF m 24 #[(vR a1), (vI 47), (vI 4), (vI 2)] [(.int 2), (.ref a1)])) rfl rfl (hb hby dj43_27_24)) ?_
     show oG p e below P m T13 25 #[(vR a1), (vI 47), (vI 4), (vI 2)] [(.int x2)]
     refine iA X13 hx hby dj43_27_25 rfl ?_
     refine Go.by (fun _ => XS.i2b X13.here hx rfl (hb hby dj43_27_26) rfl) ?_
     show oG p e below P m T13 27 #[(vR a1), (vI 47), (vI 4), (vI 2)] [(.int ((47 : Int32).toInt8.toInt32)), (.int x2)]
     show oG p e below P m T13 27 #[(vR a1), (vI 47), (vI 4), (vI 2)] [(.int 47), (.int x2)]
     by_cases hc27_19 : x2 = (47 : Int32)
     · refine cN X13 hx hby dj43_27_27 (XT.ii_ne_f hc27_19) ?_
       refine iA X13 hx hby dj43_27_30 rfl ?_
       refine r_val hP hlk hret X13 hx hby dj43_27_31 rfl (Or.inl ⟨rfl, Or.inl rfl, _, rfl⟩) (by decide) ?_
       rw [q13]
       exact ⟨by simp [own_l5, own_l4, own_l3, own_l2, own_l1, hc27_15, hc27_17, hc27_19], N13, rfl⟩
     · refine cY X13 hx hby dj43_27_27 (pc' := 32) (XT.ii_ne_t hc27_19) (by decide) ?_
       refine iI X13 hx hby dj43_27_32 rfl (l' := #[(vR a1), (vI 47), (vI 4), (vI 1)]) rfl ?_
       refine gO X13 hx hby dj43_27_35 (pc' := 18) (by decide) ?_
       refine iA X13 hx hby dj43_27_18 rfl ?_
       refine fN X13 hx hby dj43_27_19 (XT.i0_lt_f (by decide : ¬ (1 : Int32) < (0 : Int32))) ?_
       refine aA X13 hx hby dj43_27_22 rfl rfl ?_
       refine iA X13 hx hby dj43_27_23 rfl ?_
       have av20 := V1
       obtain ⟨cl20, Ar20, -, Sz20, Nn20, Ha20, Gf20⟩ := av20
       have hin20 : ¬ ((1 : Int32) < 0 ∨ cl20.slots.size ≤ ((1 : Int32)).toNatClampNeg) := inb_of Sz20 ⟨by decide, by decide⟩
       have hat20 : cl20.slots[((1 : Int32)).toNatClampNeg]? = some (.int x1) := Ha20.at hin20 rfl
       refine Go.by (X13.baloadBytes hx (j := (1 : Int32)) (v := (.int x1)) (by rw [q13]; exact Ar20.1) (State.isArrayOf_alike hZ.alike Ar20.2.1) Ar20.2.2 hin20 hat20 (g := (mkF m 24 #[(vR a1), (vI 47), (vI 4), (vI 1)] [(.int 1), (.ref a1)])) rfl rfl (hb hby dj43_27_24)) ?_
       show oG p e below P m T13 25 #[(vR a1), (vI 47), (vI 4), (vI 1)] [(.int x1)]
       refine iA X13 hx hby dj43_27_25 rfl ?_
       refine Go.by (fun _ => XS.i2b X13.here hx rfl (hb hby dj43_27_26) rfl) ?_
       show oG p e below P m T13 27 #[(vR a1), (vI 47), (vI 4), (vI 1)] [(.int ((47 : Int32).toInt8.toInt32)), (.int x1)]
       show oG p e below P m T13 27 #[(vR a1), (vI 47), (vI 4), (vI 1)] [(.int 47), (.int x1)]
       by_cases hc27_21 : x1 = (47 : Int32)
       · refine cN X13 hx hby dj43_27_27 (XT.ii_ne_f hc27_21) ?_
         refine iA X13 hx hby dj43_27_30 rfl ?_
         refine r_val hP hlk hret X13 hx hby dj43_27_31 rfl (Or.inl ⟨rfl, Or.inl rfl, _, rfl⟩) (by decide) ?_
         rw [q13]
         exact ⟨by simp [own_l5, own_l4, own_l3, own_l2, own_l1, hc27_15, hc27_17, hc27_19, hc27_21], N13, rfl⟩
       · refine cY X13 hx hby dj43_27_27 (pc' := 32) (XT.ii_ne_t hc27_21) (by decide) ?_
         refine iI X13 hx hby dj43_27_32 rfl (l' := #[(vR a1), (vI 47), (vI 4), (vI 0)]) rfl ?_
         refine gO X13 hx hby dj43_27_35 (pc' := 18) (by decide) ?_
         refine iA X13 hx hby dj43_27_18 rfl ?_
         refine fN X13 hx hby dj43_27_19 (XT.i0_lt_f (by decide : ¬ (0 : Int32) < (0 : Int32))) ?_
         refine aA X13 hx hby dj43_27_22 rfl rfl ?_
         refine iA X13 hx hby dj43_27_23 rfl ?_
         have av22 := V1
         obtain ⟨cl22, Ar22, -, Sz22, Nn22, Ha22, Gf22⟩ := av22
         have hin22 : ¬ ((0 : Int32) < 0 ∨ cl22.slots.size ≤ ((0 : Int32)).toNatClampNeg) := inb_of Sz22 ⟨by decide, by decide⟩
         have hat22 : cl22.slots[((0 : Int32)).toNatClampNeg]? = some (.int x0) := Ha22.at hin22 rfl
         refine Go.by (X13.baloadBytes hx (j := (0 : Int32)) (v := (.int x0)) (by rw [q13]; exact Ar22.1) (State.isArrayOf_alike hZ.alike Ar22.2.1) Ar22.2.2 hin22 hat22 (g := (mkF m 24 #[(vR a1), (vI 47), (vI 4), (vI 0)] [(.int 0), (.ref a1)])) rfl rfl (hb hby dj43_27_24)) ?_
         show oG p e below P m T13 25 #[(vR a1), (vI 47), (vI 4), (vI 0)] [(.int x0)]
         refine iA X13 hx hby dj43_27_25 rfl ?_
         refine Go.by (fun _ => XS.i2b X13.here hx rfl (hb hby dj43_27_26) rfl) ?_
         show oG p e below P m T13 27 #[(vR a1), (vI 47), (vI 4), (vI 0)] [(.int ((47 : Int32).toInt8.toInt32)), (.int x0)]
         show oG p e below P m T13 27 #[(vR a1), (vI 47), (vI 4), (vI 0)] [(.int 47), (.int x0)]
         by_cases hc27_23 : x0 = (47 : Int32)
         · refine cN X13 hx hby dj43_27_27 (XT.ii_ne_f hc27_23) ?_
           refine iA X13 hx hby dj43_27_30 rfl ?_
           refine r_val hP hlk hret X13 hx hby dj43_27_31 rfl (Or.inl ⟨rfl, Or.inl rfl, _, rfl⟩) (by decide) ?_
           rw [q13]
           exact ⟨by simp [own_l5, own_l4, own_l3, own_l2, own_l1, hc27_15, hc27_17, hc27_19, hc27_21, hc27_23], N13, rfl⟩
         · refine cY X13 hx hby dj43_27_27 (pc' := 32) (XT.ii_ne_t hc27_23) (by decide) ?_
           refine iI X13 hx hby dj43_27_32 rfl (l' := #[(vR a1), (vI 47), (vI 4), (vI (-1))]) rfl ?_
           refine gO X13 hx hby dj43_27_35 (pc' := 18) (by decide) ?_
           refine iA X13 hx hby dj43_27_18 rfl ?_
           refine fY X13 hx hby dj43_27_19 (pc' := 38) (XT.i0_lt_t (by decide : (-1 : Int32) < (0 : Int32))) (by decide) ?_
           refine iC X13 hx hby dj43_27_38 (v := (-1)) rfl ?_
           refine r_val hP hlk hret X13 hx hby dj43_27_39 rfl (Or.inl ⟨rfl, Or.inl rfl, _, rfl⟩) (by decide) ?_
           rw [q13]
           exact ⟨by simp [own_l5, own_l4, own_l3, own_l2, own_l1, hc27_15, hc27_17, hc27_19, hc27_21, hc27_23], N13, rfl⟩
def Q_slast5_5 (Z : State) (a0_ : Addr) (x0 x1 x2 x3 x4 cs : Int32) (h0 : Heap) (n0 : Nat) (v : Option Value) (h : Heap) (L : List Loc) : Prop := v = some (.int (own_l5 x0 x1 x2 x3 x4)) ∧ Fr n0 L ∧ h = h0
theorem rm_slast5_5 (l : Launch) (Z : State) (a0 : Array Value) (hw : oW a0 Z) (ws : List Jvm.Cond) (a0_ : Addr) (x0 x1 x2 x3 x4 cs : Int32) (h0 : Heap) (n0 : Nat) (Z0 : n0 ≤ h0.size) (O0 : Old Z n0 h0) (Scs : Sta Z Z.heap "java/lang/String" "COMPACT_STRINGS" "Z" (.int cs)) (hcs : ¬ cs = (0 : Int32)) (S0 : StrV Z h0 a0_ [x0, x1, x2, x3, x4]) :
   oM l oY2 j42_83 3 (some .int) ws (own_R 2 0 0 30) #[(.ref a0_), (.int 47), (.int 4)] Z h0 (Q_slast5_5 Z a0_ x0 x1 x2 x3 x4 cs h0 n0) := by
 refine own_open (n0 := n0) (cn := "java/lang/String") rfl (plainFor_of_name pn0) (L0 := #[(vR a0_), (vI 47), (vI 4)]) (fun _ => by first | (simp [entryFrame, mkF, argsToLocals, Value.category]; done) | rfl) ?_
 intro p e s m below meth c s₁ P hx hby hml hown hnm X0 e0 N0 hlk hret hZ hP
 obtain ⟨d0, kd0, ES0, CS0, VS0, AS0⟩ := S0
 have AT0 : Arv Z h0 d0 kd0 .byte (5 : Int32) [(.int x0), (.int x1), (.int x2), (.int x3), (.int x4)] (.int 0) := AS0
 show oG p e below P m s₁ 0 #[(vR a0_), (vI 47), (vI 4)] []
 refine aA X0 hx hby dj42_83_0 rfl rfl ?_
 refine c_virt 0 X0 hx hby hml hZ hown (tw_59 hw) (tw_60 hw) (tw_62 hw) (tw_61 hw) (tw_63 hw) (tw_8 hw) (rm_isLat l Z a0 hw [] a0_ cs h0 n0 Z0 O0 Scs hcs CS0) e0 ES0 dj42_83_1 [] [] (lenOf pd4 rfl) rfl rfl (by rfl) (by decide) ?_
 rintro _ T11 Lc11 ⟨rfl, N11q, q11⟩ X11
 have N11 := Fr.app N0 N11q
 refine fN X11 hx hby dj42_83_4 (XT.i0_eq_f (by decide : ¬ (1 : Int32) = (0 : Int32))) ?_
 refine aA X11 hx hby dj42_83_7 rfl rfl ?_
 obtain ⟨T12, X12, e12, st12⟩ := getF X11 hx hZ hown (host := "") (Or.inl (tw_25 hw)) Via.refl q11 VS0 (g := (mkF m 8 #[(vR a0_), (vI 47), (vI 4)] [(.ref a0_)])) rfl rfl (hb hby dj42_83_8)
 refine Go.by st12 ?_
 show oG p e below P m T12 11 #[(vR a0_), (vI 47), (vI 4)] [(.ref d0)]
 refine iA X12 hx hby dj42_83_11 rfl ?_
 refine iA X12 hx hby dj42_83_12 rfl ?_
 refine c_stat 0 X12 hx hby hml hZ hown (tw_64 hw) (tw_65 hw) (tw_66 hw) (tw_67 hw) (rm_l1last5_5 l Z a0 hw [] d0 kd0 x0 x1 x2 x3 x4 h0 n0 Z0 AT0) e12 dj42_83_13 [(.ref d0), (.int 47), (.int 4)] [] (lenOf pd8 rfl) rfl rfl (by rfl) (by decide) ?_
 rintro _ T13 Lc13 ⟨rfl, N13q, q13⟩ X13
 have N13 := Fr.app N11 N13q
 refine gO X13 hx hby dj42_83_16 (pc' := 28) (by decide) ?_
 refine r_val hP hlk hret X13 hx hby dj42_83_28 rfl (Or.inl ⟨rfl, Or.inl rfl, _, rfl⟩) (by decide) ?_
 rw [q13]
 exact ⟨rfl, N13, rfl⟩
def Q_l1last5_4 (Z : State) (a1 : Addr) (k1 : ClassId) (x0 x1 x2 x3 x4 : Int32) (h0 : Heap) (n0 : Nat) (v : Option Value) (h : Heap) (L : List Loc) : Prop := v = some (.int (own_l4 x0 x1 x2 x3)) ∧ Fr n0 L ∧ h = h0
theorem rm_l1last5_4 (l : Launch) (Z : State) (a0 : Array Value) (hw : oW a0 Z) (ws : List Jvm.Cond) (a1 : Addr) (k1 : ClassId) (x0 x1 x2 x3 x4 : Int32) (h0 : Heap) (n0 : Nat) (Z0 : n0 ≤ h0.size) (V1 : Arv Z h0 a1 k1 .byte (5 : Int32) [(.int x0), (.int x1), (.int x2), (.int x3), (.int x4)] (.int 0)) :
   oM l oY4 j43_27 4 (some .int) ws (own_R 1 0 0 14) #[(.ref a1), (.int 47), (.int 3)] Z h0 (Q_l1last5_4 Z a1 k1 x0 x1 x2 x3 x4 h0 n0) := by
 refine own_open (n0 := n0) (cn := "java/lang/StringLatin1") rfl (plainFor_of_name pn1) (L0 := #[(vR a1), (vI 47), (vI 3), .unset]) (fun _ => by first | (simp [entryFrame, mkF, argsToLocals, Value.category]; done) | rfl) ?_
 intro p e s m below meth c s₁ P hx hby hml hown hnm X0 e0 N0 hlk hret hZ hP
 refine iA X0 hx hby dj43_27_0 rfl ?_
 refine c_stat 0 X0 hx hby hml hZ hown (tw_68 hw) (tw_69 hw) (tw_66 hw) (tw_70 hw) (rm_canEncI l Z a0 hw []  h0 n0 Z0 ) e0 dj43_27_1 [(.int 47)] [] (lenOf pd7 rfl) rfl rfl (by rfl) (by decide) ?_
 rintro _ T11 Lc11 ⟨rfl, N11q, q11⟩ X11
 have N11 := Fr.app N0 N11q
 refine fY X11 hx hby dj43_27_4 (pc' := 9) (XT.i0_ne_t (by decide : ¬ (1 : Int32) = (0 : Int32))) (by decide) ?_
 refine iA X11 hx hby dj43_27_9 rfl ?_
 refine aA X11 hx hby dj43_27_10 rfl rfl ?_
 have av12 := V1
 obtain ⟨cl12, Ar12, -, Sz12, Nn12, -, -⟩ := av12
 refine Go.by (X11.arraylength hx (by rw [q11]; exact Ar12.1) (State.isArrayOf_alike hZ.alike Ar12.2.1) (g := (mkF m 11 #[(vR a1), (vI 47), (vI 3), .unset] [(.ref a1), (.int 3)])) rfl rfl (hb hby dj43_27_11)) ?_
 rw [len_of Sz12 Nn12]
 show oG p e below P m T11 12 #[(vR a1), (vI 47), (vI 3), .unset] [(.int 5), (.int 3)]
 refine iC X11 hx hby dj43_27_12 (v := 1) rfl ?_
 refine iM X11 hx hby dj43_27_13 (v := 4) rfl ?_
 refine c_stat 0 X11 hx hby hml hZ hown (tw_71 hw) (tw_72 hw) (tw_73 hw) (tw_74 hw) (rm_min l Z a0 hw [] (3 : Int32) (4 : Int32) (3 : Int32) h0 n0 Z0 (by decide)) q11 dj43_27_14 [(.int 3), (.int 4)] [] (lenOf pd1 rfl) rfl rfl (by rfl) (by decide) ?_
 rintro _ T13 Lc13 ⟨rfl, N13q, q13⟩ X13
 have N13 := Fr.app N11 N13q
 refine iS X13 hx hby dj43_27_17 (l' := #[(vR a1), (vI 47), (vI 3), (vI 3)]) rfl ?_
 refine iA X13 hx hby dj43_27_18 rfl ?_
 refine fN X13 hx hby dj43_27_19 (XT.i0_lt_f (by decide : ¬ (3 : Int32) < (0 : Int32))) ?_
 refine aA X13 hx hby dj43_27_22 rfl rfl ?_
 refine iA X13 hx hby dj43_27_23 rfl ?_
 have av14 := V1
 obtain ⟨cl14, Ar14, -, Sz14, Nn14, Ha14, Gf14⟩ := av14
 have hin14 : ¬ ((3 : Int32) < 0 ∨ cl14.slots.size ≤ ((3 : Int32)).toNatClampNeg) := inb_of Sz14 ⟨by decide, by decide⟩
 have hat14 : cl14.slots[((3 : Int32)).toNatClampNeg]? = some (.int x3) := Ha14.at hin14 rfl
 refine Go.by (X13.baloadBytes hx (j := (3 : Int32)) (v := (.int x3)) (by rw [q13]; exact Ar14.1) (State.isArrayOf_alike hZ.alike Ar14.2.1) Ar14.2.2 hin14 hat14 (g := (mkF m 24 #[(vR a1), (vI 47), (vI 3), (vI 3)] [(.int 3), (.ref a1)])) rfl rfl (hb hby dj43_27_24)) ?_
 show oG p e below P m T13 25 #[(vR a1), (vI 47), (vI 3), (vI 3)] [(.int x3)]
 refine iA X13 hx hby dj43_27_25 rfl ?_
 refine Go.by (fun _ => XS.i2b X13.here hx rfl (hb hby dj43_27_26) rfl) ?_
 show oG p e below P m T13 27 #[(vR a1), (vI 47), (vI 3), (vI 3)] [(.int ((47 : Int32).toInt8.toInt32)), (.int x3)]
 show oG p e below P m T13 27 #[(vR a1), (vI 47), (vI 3), (vI 3)] [(.int 47), (.int x3)]
 by_cases hc27_15 : x3 = (47 : Int32)
 · refine cN X13 hx hby dj43_27_27 (XT.ii_ne_f hc27_15) ?_
   refine iA X13 hx hby dj43_27_30 rfl ?_
   refine r_val hP hlk hret X13 hx hby dj43_27_31 rfl (Or.inl ⟨rfl, Or.inl rfl, _, rfl⟩) (by decide) ?_
   rw [q13]
   exact ⟨by simp [own_l4, own_l3, own_l2, own_l1, hc27_15], N13, rfl⟩
 · refine cY X13 hx hby dj43_27_27 (pc' := 32) (XT.ii_ne_t hc27_15) (by decide) ?_
   refine iI X13 hx hby dj43_27_32 rfl (l' := #[(vR a1), (vI 47), (vI 3), (vI 2)]) rfl ?_
   refine gO X13 hx hby dj43_27_35 (pc' := 18) (by decide) ?_
   refine iA X13 hx hby dj43_27_18 rfl ?_
   refine fN X13 hx hby dj43_27_19 (XT.i0_lt_f (by decide : ¬ (2 : Int32) < (0 : Int32))) ?_
   refine aA X13 hx hby dj43_27_22 rfl rfl ?_
   refine iA X13 hx hby dj43_27_23 rfl ?_
   have av16 := V1
   obtain ⟨cl16, Ar16, -, Sz16, Nn16, Ha16, Gf16⟩ := av16
   have hin16 : ¬ ((2 : Int32) < 0 ∨ cl16.slots.size ≤ ((2 : Int32)).toNatClampNeg) := inb_of Sz16 ⟨by decide, by decide⟩
   have hat16 : cl16.slots[((2 : Int32)).toNatClampNeg]? = some (.int x2) := Ha16.at hin16 rfl
   refine Go.by (X13.baloadBytes hx (j := (2 : Int32)) (v := (.int x2)) (by rw [q13]; exact Ar16.1) (State.isArrayOf_alike hZ.alike Ar16.2.1) Ar16.2.2 hin16 hat16 (g := (mkF m 24 #[(vR a1), (vI 47), (vI 3), (vI 2)] [(.int 2), (.ref a1)])) rfl rfl (hb hby dj43_27_24)) ?_
   show oG p e below P m T13 25 #[(vR a1), (vI 47), (vI 3), (vI 2)] [(.int x2)]
   refine iA X13 hx hby dj43_27_25 rfl ?_
   refine Go.by (fun _ => XS.i2b X13.here hx rfl (hb hby dj43_27_26) rfl) ?_
   show oG p e below P m T13 27 #[(vR a1), (vI 47), (vI 3), (vI 2)] [(.int ((47 : Int32).toInt8.toInt32)), (.int x2)]
   show oG p e below P m T13 27 #[(vR a1), (vI 47), (vI 3), (vI 2)] [(.int 47), (.int x2)]
   by_cases hc27_17 : x2 = (47 : Int32)
   · refine cN X13 hx hby dj43_27_27 (XT.ii_ne_f hc27_17) ?_
     refine iA X13 hx hby dj43_27_30 rfl ?_
     refine r_val hP hlk hret X13 hx hby dj43_27_31 rfl (Or.inl ⟨rfl, Or.inl rfl, _, rfl⟩) (by decide) ?_
     rw [q13]
     exact ⟨by simp [own_l4, own_l3, own_l2, own_l1, hc27_15, hc27_17], N13, rfl⟩
   · refine cY X13 hx hby dj43_27_27 (pc' := 32) (XT.ii_ne_t hc27_17) (by decide) ?_
     refine iI X13 hx hby dj43_27_32 rfl (l' := #[(vR a1), (vI 47), (vI 3), (vI 1)]) rfl ?_
     refine gO X13 hx hby dj43_27_35 (pc' := 18) (by decide) ?_
     refine iA X13 hx hby dj43_27_18 rfl ?_
     refine fN X13 hx hby dj43_27_19 (XT.i0_lt_f (by decide : ¬ (1 : Int32) < (0 : Int32))) ?_
     refine aA X13 hx hby dj43_27_22 rfl rfl ?_
     refine iA X13 hx hby dj43_27_23 rfl ?_
     have av18 := V1
     obtain ⟨cl18, Ar18, -, Sz18, Nn18, Ha18, Gf18⟩ := av18
     have hin18 : ¬ ((1 : Int32) < 0 ∨ cl18.slots.size ≤ ((1 : Int32)).toNatClampNeg) := inb_of Sz18 ⟨by decide, by decide⟩
     have hat18 : cl18.slots[((1 : Int32)).toNatClampNeg]? = some (.int x1) := Ha18.at hin18 rfl
     refine Go.by (X13.baloadBytes hx (j := (1 : Int32)) (v := (.int x1)) (by rw [q13]; exact Ar18.1) (State.isArrayOf_alike hZ.alike Ar18.2.1) Ar18.2.2 hin18 hat18 (g := (mkF m 24 #[(vR a1), (vI 47), (vI 3), (vI 1)] [(.int 1), (.ref a1)])) rfl rfl (hb hby dj43_27_24)) ?_
     show oG p e below P m T13 25 #[(vR a1), (vI 47), (vI 3), (vI 1)] [(.int x1)]
     refine iA X13 hx hby dj43_27_25 rfl ?_
     refine Go.by (fun _ => XS.i2b X13.here hx rfl (hb hby dj43_27_26) rfl) ?_
     show oG p e below P m T13 27 #[(vR a1), (vI 47), (vI 3), (vI 1)] [(.int ((47 : Int32).toInt8.toInt32)), (.int x1)]
     show oG p e below P m T13 27 #[(vR a1), (vI 47), (vI 3), (vI 1)] [(.int 47), (.int x1)]
     by_cases hc27_19 : x1 = (47 : Int32)
     · refine cN X13 hx hby dj43_27_27 (XT.ii_ne_f hc27_19) ?_
       refine iA X13 hx hby dj43_27_30 rfl ?_
       refine r_val hP hlk hret X13 hx hby dj43_27_31 rfl (Or.inl ⟨rfl, Or.inl rfl, _, rfl⟩) (by decide) ?_
       rw [q13]
       exact ⟨by simp [own_l4, own_l3, own_l2, own_l1, hc27_15, hc27_17, hc27_19], N13, rfl⟩
     · refine cY X13 hx hby dj43_27_27 (pc' := 32) (XT.ii_ne_t hc27_19) (by decide) ?_
       refine iI X13 hx hby dj43_27_32 rfl (l' := #[(vR a1), (vI 47), (vI 3), (vI 0)]) rfl ?_
       refine gO X13 hx hby dj43_27_35 (pc' := 18) (by decide) ?_
       refine iA X13 hx hby dj43_27_18 rfl ?_
       refine fN X13 hx hby dj43_27_19 (XT.i0_lt_f (by decide : ¬ (0 : Int32) < (0 : Int32))) ?_
       refine aA X13 hx hby dj43_27_22 rfl rfl ?_
       refine iA X13 hx hby dj43_27_23 rfl ?_
       have av20 := V1
       obtain ⟨cl20, Ar20, -, Sz20, Nn20, Ha20, Gf20⟩ := av20
       have hin20 : ¬ ((0 : Int32) < 0 ∨ cl20.slots.size ≤ ((0 : Int32)).toNatClampNeg) := inb_of Sz20 ⟨by decide, by decide⟩
       have hat20 : cl20.slots[((0 : Int32)).toNatClampNeg]? = some (.int x0) := Ha20.at hin20 rfl
       refine Go.by (X13.baloadBytes hx (j := (0 : Int32)) (v := (.int x0)) (by rw [q13]; exact Ar20.1) (State.isArrayOf_alike hZ.alike Ar20.2.1) Ar20.2.2 hin20 hat20 (g := (mkF m 24 #[(vR a1), (vI 47), (vI 3), (vI 0)] [(.int 0), (.ref a1)])) rfl rfl (hb hby dj43_27_24)) ?_
       show oG p e below P m T13 25 #[(vR a1), (vI 47), (vI 3), (vI 0)] [(.int x0)]
       refine iA X13 hx hby dj43_27_25 rfl ?_
       refine Go.by (fun _ => XS.i2b X13.here hx rfl (hb hby dj43_27_26) rfl) ?_
       show oG p e below P m T13 27 #[(vR a1), (vI 47), (vI 3), (vI 0)] [(.int ((47 : Int32).toInt8.toInt32)), (.int x0)]
       show oG p e below P m T13 27 #[(vR a1), (vI 47), (vI 3), (vI 0)] [(.int 47), (.int x0)]
       by_cases hc27_21 : x0 = (47 : Int32)
       · refine cN X13 hx hby dj43_27_27 (XT.ii_ne_f hc27_21) ?_
         refine iA X13 hx hby dj43_27_30 rfl ?_
         refine r_val hP hlk hret X13 hx hby dj43_27_31 rfl (Or.inl ⟨rfl, Or.inl rfl, _, rfl⟩) (by decide) ?_
         rw [q13]
         exact ⟨by simp [own_l4, own_l3, own_l2, own_l1, hc27_15, hc27_17, hc27_19, hc27_21], N13, rfl⟩
       · refine cY X13 hx hby dj43_27_27 (pc' := 32) (XT.ii_ne_t hc27_21) (by decide) ?_
         refine iI X13 hx hby dj43_27_32 rfl (l' := #[(vR a1), (vI 47), (vI 3), (vI (-1))]) rfl ?_
         refine gO X13 hx hby dj43_27_35 (pc' := 18) (by decide) ?_
         refine iA X13 hx hby dj43_27_18 rfl ?_
         refine fY X13 hx hby dj43_27_19 (pc' := 38) (XT.i0_lt_t (by decide : (-1 : Int32) < (0 : Int32))) (by decide) ?_
         refine iC X13 hx hby dj43_27_38 (v := (-1)) rfl ?_
         refine r_val hP hlk hret X13 hx hby dj43_27_39 rfl (Or.inl ⟨rfl, Or.inl rfl, _, rfl⟩) (by decide) ?_
         rw [q13]
         exact ⟨by simp [own_l4, own_l3, own_l2, own_l1, hc27_15, hc27_17, hc27_19, hc27_21], N13, rfl⟩
def Q_slast5_4 (Z : State) (a0_ : Addr) (x0 x1 x2 x3 x4 cs : Int32) (h0 : Heap) (n0 : Nat) (v : Option Value) (h : Heap) (L : List Loc) : Prop := v = some (.int (own_l4 x0 x1 x2 x3)) ∧ Fr n0 L ∧ h = h0
theorem rm_slast5_4 (l : Launch) (Z : State) (a0 : Array Value) (hw : oW a0 Z) (ws : List Jvm.Cond) (a0_ : Addr) (x0 x1 x2 x3 x4 cs : Int32) (h0 : Heap) (n0 : Nat) (Z0 : n0 ≤ h0.size) (O0 : Old Z n0 h0) (Scs : Sta Z Z.heap "java/lang/String" "COMPACT_STRINGS" "Z" (.int cs)) (hcs : ¬ cs = (0 : Int32)) (S0 : StrV Z h0 a0_ [x0, x1, x2, x3, x4]) :
   oM l oY2 j42_83 3 (some .int) ws (own_R 2 0 0 30) #[(.ref a0_), (.int 47), (.int 3)] Z h0 (Q_slast5_4 Z a0_ x0 x1 x2 x3 x4 cs h0 n0) := by
 refine own_open (n0 := n0) (cn := "java/lang/String") rfl (plainFor_of_name pn0) (L0 := #[(vR a0_), (vI 47), (vI 3)]) (fun _ => by first | (simp [entryFrame, mkF, argsToLocals, Value.category]; done) | rfl) ?_
 intro p e s m below meth c s₁ P hx hby hml hown hnm X0 e0 N0 hlk hret hZ hP
 obtain ⟨d0, kd0, ES0, CS0, VS0, AS0⟩ := S0
 have AT0 : Arv Z h0 d0 kd0 .byte (5 : Int32) [(.int x0), (.int x1), (.int x2), (.int x3), (.int x4)] (.int 0) := AS0
 show oG p e below P m s₁ 0 #[(vR a0_), (vI 47), (vI 3)] []
 refine aA X0 hx hby dj42_83_0 rfl rfl ?_
 refine c_virt 0 X0 hx hby hml hZ hown (tw_59 hw) (tw_60 hw) (tw_62 hw) (tw_61 hw) (tw_63 hw) (tw_8 hw) (rm_isLat l Z a0 hw [] a0_ cs h0 n0 Z0 O0 Scs hcs CS0) e0 ES0 dj42_83_1 [] [] (lenOf pd4 rfl) rfl rfl (by rfl) (by decide) ?_
 rintro _ T11 Lc11 ⟨rfl, N11q, q11⟩ X11
 have N11 := Fr.app N0 N11q
 refine fN X11 hx hby dj42_83_4 (XT.i0_eq_f (by decide : ¬ (1 : Int32) = (0 : Int32))) ?_
 refine aA X11 hx hby dj42_83_7 rfl rfl ?_
 obtain ⟨T12, X12, e12, st12⟩ := getF X11 hx hZ hown (host := "") (Or.inl (tw_25 hw)) Via.refl q11 VS0 (g := (mkF m 8 #[(vR a0_), (vI 47), (vI 3)] [(.ref a0_)])) rfl rfl (hb hby dj42_83_8)
 refine Go.by st12 ?_
 show oG p e below P m T12 11 #[(vR a0_), (vI 47), (vI 3)] [(.ref d0)]
 refine iA X12 hx hby dj42_83_11 rfl ?_
 refine iA X12 hx hby dj42_83_12 rfl ?_
 refine c_stat 0 X12 hx hby hml hZ hown (tw_64 hw) (tw_65 hw) (tw_66 hw) (tw_67 hw) (rm_l1last5_4 l Z a0 hw [] d0 kd0 x0 x1 x2 x3 x4 h0 n0 Z0 AT0) e12 dj42_83_13 [(.ref d0), (.int 47), (.int 3)] [] (lenOf pd8 rfl) rfl rfl (by rfl) (by decide) ?_
 rintro _ T13 Lc13 ⟨rfl, N13q, q13⟩ X13
 have N13 := Fr.app N11 N13q
 refine gO X13 hx hby dj42_83_16 (pc' := 28) (by decide) ?_
 refine r_val hP hlk hret X13 hx hby dj42_83_28 rfl (Or.inl ⟨rfl, Or.inl rfl, _, rfl⟩) (by decide) ?_
 rw [q13]
 exact ⟨rfl, N13, rfl⟩
def Q_siBB (Z : State) (a0_ a1 : Addr) (h0 : Heap) (n0 : Nat) (v : Option Value) (h : Heap) (L : List Loc) : Prop := v = none ∧ Fr n0 L ∧ Keep h0 h [a0_] ∧ Fld Z h a0_ "java/lang/String" "coder" "B" (.int 0) ∧ Fld Z h a0_ "java/lang/String" "value" "[B" (.ref a1)
theorem rm_siBB (l : Launch) (Z : State) (a0 : Array Value) (hw : oW a0 Z) (ws : List Jvm.Cond) (a0_ a1 : Addr) (h0 : Heap) (n0 : Nat) (Z0 : n0 ≤ h0.size) (E0 : Exa Z h0 a0_ "java/lang/String") (g_a0_ : n0 ≤ a0_) (F0_coder : Fld Z h0 a0_ "java/lang/String" "coder" "B" (.int 0)) (F0_value : Fld Z h0 a0_ "java/lang/String" "value" "[B" .null) :
   oM l oY24 j42_151 3 none ws (own_R 1 0 0 12) #[(.ref a0_), (.ref a1), (.int 0)] Z h0 (Q_siBB Z a0_ a1 h0 n0) := by
 refine own_open (n0 := n0) (cn := "java/lang/String") rfl (plainFor_of_name pn0) (L0 := #[(vR a0_), (vR a1), (vI 0)]) (fun _ => by first | (simp [entryFrame, mkF, argsToLocals, Value.category]; done) | rfl) ?_
 intro p e s m below meth c s₁ P hx hby hml hown hnm X0 e0 N0 hlk hret hZ hP
 refine aA X0 hx hby dj42_151_0 rfl rfl ?_
 obtain ⟨T11, X11, e11, st11⟩ := initO X0 hx hZ hown (tw_16 hw) (tw_17 hw) (tw_18 hw) e0 (g := (mkF m 1 #[(vR a0_), (vR a1), (vI 0)] [(.ref a0_)])) rfl (by rw [hml]; rfl) rfl (hb hby dj42_151_1) (by decide) (W := 0) (by show 2 * 0 + _ ≤ _; exact Nat.le_of_eq rfl) (by decide)
 refine Go.by st11 ?_
 show oG p e below P m T11 4 #[(vR a0_), (vR a1), (vI 0)] []
 refine aA X11 hx hby dj42_151_4 rfl rfl ?_
 refine aA X11 hx hby dj42_151_5 rfl rfl ?_
 obtain ⟨T12, h12, X12, e12, W12, st12⟩ := putF X11 hx hZ hown (host := "") (Or.inl (tw_25 hw)) Via.refl e11 F0_value E0 (Or.inr ⟨(tw_21 hw), rfl, hnm⟩) (tw_7 hw) (ty := (.array .byte)) (by decide) rfl rfl (g := (mkF m 6 #[(vR a0_), (vR a1), (vI 0)] [(.ref a1), (.ref a0_)])) rfl rfl (hb hby dj42_151_6)
 refine Go.by st12 ?_
 have N12 := Fr.snoc X12 N0 g_a0_
 have f12_0 := Nat.le_trans Z0 (Keep.of_wr W12).1
 have f12_1 := Keep.wr (Keep.refl h0 [a0_]) W12 (Or.inl (List.mem_of_getElem? (i := 0) rfl))
 have f12_2 := Exa.wr W12 E0
 have f12_3 := Fld.other W12 F0_coder (Or.inr (slot_ne (Or.inr (tw_22 hw)) (Or.inr (tw_21 hw)) (by decide) (t := .byte) (t' := (.array .byte)) (by decide) (by decide)))
 have f12_4 := Fld.same W12 F0_value
 show oG p e below P m T12 9 #[(vR a0_), (vR a1), (vI 0)] []
 refine aA X12 hx hby dj42_151_9 rfl rfl ?_
 refine iA X12 hx hby dj42_151_10 rfl ?_
 obtain ⟨T13, h13, X13, e13, W13, st13⟩ := putFN X12 hx hZ hown (tw_26 hw) Via.refl e12 f12_3 f12_2 (Or.inr ⟨(tw_22 hw), rfl, hnm⟩) (tw_7 hw) (ty := .byte) (v' := (.int 0)) (by decide) rfl rfl (g := (mkF m 11 #[(vR a0_), (vR a1), (vI 0)] [(.int 0), (.ref a0_)])) rfl rfl (hb hby dj42_151_11)
 refine Go.by st13 ?_
 have N13 := Fr.snoc X13 N12 g_a0_
 have f13_0 := Nat.le_trans f12_0 (Keep.of_wr W13).1
 have f13_1 := Keep.wr f12_1 W13 (Or.inl (List.mem_of_getElem? (i := 0) rfl))
 have f13_2 := Exa.wr W13 f12_2
 have f13_3 := Fld.same W13 f12_3
 have f13_4 := Fld.other W13 f12_4 (Or.inr (slot_ne (Or.inr (tw_21 hw)) (Or.inr (tw_22 hw)) (by decide) (t := (.array .byte)) (t' := .byte) (by decide) (by decide)))
 show oG p e below P m T13 14 #[(vR a0_), (vR a1), (vI 0)] []
 refine own_fin hP hlk X13 (v := none) (fun _ => rfl) (by decide) (by decide) ?_ (fun fs hr => X13.returnOut hx hret (hb hby dj42_151_14) hr)
 rw [e13]
 exact ⟨rfl, N13, f13_1, f13_3, f13_4⟩
def Q_corb3_1 (Z : State) (a1 : Addr) (k1 : ClassId) (x0 x1 x2 : Int32) (h0 : Heap) (n0 : Nat) (v : Option Value) (h : Heap) (L : List Loc) : Prop := ∃ b k, v = some (.ref b) ∧ Fr n0 L ∧ Keep h0 h [] ∧ h0.size ≤ b ∧ Arv Z h b k .byte (1 : Int32) [(.int x0)] (.int 0)
theorem rm_corb3_1 (l : Launch) (Z : State) (a0 : Array Value) (hw : oW a0 Z) (ws : List Jvm.Cond) (a1 : Addr) (k1 : ClassId) (x0 x1 x2 : Int32) (h0 : Heap) (n0 : Nat) (Z0 : n0 ≤ h0.size) (V1 : Arv Z h0 a1 k1 .byte (3 : Int32) [(.int x0), (.int x1), (.int x2)] (.int 0)) :
   oM l oY12 j65_133 5 (some (.array .byte)) ws (own_R 1 1 1 30) #[(.ref a1), (.int 0), (.int 1)] Z h0 (Q_corb3_1 Z a1 k1 x0 x1 x2 h0 n0) := by
 refine own_open (n0 := n0) (cn := "java/util/Arrays") rfl (plainFor_of_name pn3) (L0 := #[(vR a1), (vI 0), (vI 1), .unset, .unset]) (fun _ => by first | (simp [entryFrame, mkF, argsToLocals, Value.category]; done) | rfl) ?_
 intro p e s m below meth c s₁ P hx hby hml hown hnm X0 e0 N0 hlk hret hZ hP
 refine iA X0 hx hby dj65_133_0 rfl ?_
 refine iA X0 hx hby dj65_133_1 rfl ?_
 refine c_stat 0 X0 hx hby hml hZ hown (tw_121 hw) (tw_122 hw) (tw_116 hw) (tw_123 hw) (rm_chkLen l Z a0 hw [] (1 : Int32) h0 n0 Z0 (by decide)) e0 dj65_133_2 [(.int 0), (.int 1)] [] (lenOf pd10 rfl) rfl rfl (by rfl) (by decide) ?_
 rintro _ T11 Lc11 ⟨rfl, N11q, q11⟩ X11
 have N11 := Fr.app N0 N11q
 refine iA X11 hx hby dj65_133_5 rfl ?_
 refine iA X11 hx hby dj65_133_6 rfl ?_
 refine iM X11 hx hby dj65_133_7 (v := 1) rfl ?_
 refine iS X11 hx hby dj65_133_8 (l' := #[(vR a1), (vI 0), (vI 1), (vI 1), .unset]) rfl ?_
 refine iA X11 hx hby dj65_133_9 rfl ?_
 obtain ⟨T12, h12, k12, X12, e12, E12, A12, st12⟩ := newP X11 hx hZ (aty := .byte) (tw_20 hw) q11 (g := (mkF m 10 #[(vR a1), (vI 0), (vI 1), (vI 1), .unset] [(.int 1)])) rfl (hb hby dj65_133_10) rfl (by decide) (cap := 1) (by decide) (by decide) (by decide) (by decide)
 obtain ⟨b12, g12⟩ : ∃ z, z = h0.size := ⟨_, rfl⟩
 rw [← g12] at A12 st12
 have g_b12 : n0 ≤ b12 := Nat.le_trans Z0 (Nat.le_of_eq g12.symm)
 have sz_b12 : h0.size ≤ b12 := Nat.le_trans (Keep.refl h0 []).1 (Nat.le_of_eq g12.symm)
 have ne_a1_b12 : a1 ≠ b12 := Nat.ne_of_lt (Nat.lt_of_lt_of_le (V1.lt) (Nat.le_of_eq g12.symm))
 have f12_0 := Nat.le_trans Z0 E12.1
 have f12_1 := Keep.ext (Keep.refl h0 []) E12
 have f12_2 := Arv.ext V1 E12
 refine Go.by st12 ?_
 have V12 : Arv Z h12 b12 k12 .byte (1 : Int32) [(.int 0)] (.int 0) := (Arv.new A12 (by decide)).pad (pad_rep [] (.int 0) 1)
 show oG p e below P m T12 12 #[(vR a1), (vI 0), (vI 1), (vI 1), .unset] [(.ref b12)]
 refine aT X12 hx hby dj65_133_12 rfl (l' := #[(vR a1), (vI 0), (vI 1), (vI 1), (vR b12)]) rfl ?_
 refine aA X12 hx hby dj65_133_14 rfl rfl ?_
 refine iA X12 hx hby dj65_133_15 rfl ?_
 refine aB X12 hx hby dj65_133_16 rfl rfl ?_
 refine iC X12 hx hby dj65_133_18 (v := 0) rfl ?_
 refine aA X12 hx hby dj65_133_19 rfl rfl ?_
 have av13 := f12_2
 obtain ⟨cl13, Ar13, -, Sz13, Nn13, -, -⟩ := av13
 refine Go.by (X12.arraylength hx (by rw [e12]; exact Ar13.1) (State.isArrayOf_alike hZ.alike Ar13.2.1) (g := (mkF m 20 #[(vR a1), (vI 0), (vI 1), (vI 1), (vR b12)] [(.ref a1), (.int 0), (.ref b12), (.int 0), (.ref a1)])) rfl rfl (hb hby dj65_133_20)) ?_
 rw [len_of Sz13 Nn13]
 show oG p e below P m T12 21 #[(vR a1), (vI 0), (vI 1), (vI 1), (vR b12)] [(.int 3), (.int 0), (.ref b12), (.int 0), (.ref a1)]
 refine iA X12 hx hby dj65_133_21 rfl ?_
 refine iM X12 hx hby dj65_133_22 (v := 3) rfl ?_
 refine iA X12 hx hby dj65_133_23 rfl ?_
 refine c_stat 4 X12 hx hby hml hZ hown (tw_124 hw) (tw_72 hw) (tw_73 hw) (tw_74 hw) (rm_min l Z a0 hw [] (3 : Int32) (1 : Int32) (1 : Int32) h12 n0 f12_0 (by decide)) e12 dj65_133_24 [(.int 3), (.int 1)] [(.int 0), (.ref b12), (.int 0), (.ref a1)] (lenOf pd1 rfl) rfl rfl (by rfl) (by decide) ?_
 rintro _ T14 Lc14 ⟨rfl, N14q, q14⟩ X14
 have N14 := Fr.app N11 N14q
 obtain ⟨T15, h15, Lc15, X15, e15, N15, K15, V15, st15⟩ := cpA X14 hx hZ hown (tw_125 hw) (tw_128 hw) (tw_126 hw) (tw_127 hw) q14 f12_2 V12 (us := [(.int x0)]) (Or.inl ⟨rfl, rfl⟩) (by decide) (by decide) (by decide) (by decide) (by decide) rfl (by decide) N14 g_b12 (g := (mkF m 27 #[(vR a1), (vI 0), (vI 1), (vI 1), (vR b12)] [(.int 1), (.int 0), (.ref b12), (.int 0), (.ref a1)])) rfl (by rw [hml]; rfl) rfl (hb hby dj65_133_27) (by decide) (W := 0) (by show 2 * 0 + _ ≤ _; exact Nat.le_of_eq rfl) (by decide)
 have V15' : Arv Z h15 b12 k12 .byte (1 : Int32) [(.int x0)] (.int 0) := V15
 have f15_0 := Nat.le_trans f12_0 K15.1
 have f15_1 := Keep.trans f12_1 K15 (allS (Or.inr sz_b12) all0)
 have f15_2 := Arv.keep f12_2 K15 (ninS ne_a1_b12 nin0)
 refine Go.by st15 ?_
 show oG p e below P m T15 30 #[(vR a1), (vI 0), (vI 1), (vI 1), (vR b12)] []
 refine aB X15 hx hby dj65_133_30 rfl rfl ?_
 refine r_val hP hlk hret X15 hx hby dj65_133_32 rfl (Or.inr (Or.inr (Or.inr (Or.inr ⟨rfl, rfl, rfl⟩)))) (by decide) ?_
 rw [e15]
 exact ⟨b12, k12, rfl, N15, f15_1, sz_b12, V15'⟩
def Q_cor3_1 (Z : State) (a1 : Addr) (k1 : ClassId) (x0 x1 x2 : Int32) (h0 : Heap) (n0 : Nat) (v : Option Value) (h : Heap) (L : List Loc) : Prop := ∃ b k, v = some (.ref b) ∧ Fr n0 L ∧ Keep h0 h [] ∧ h0.size ≤ b ∧ Arv Z h b k .byte (1 : Int32) [(.int x0)] (.int 0)
theorem rm_cor3_1 (l : Launch) (Z : State) (a0 : Array Value) (hw : oW a0 Z) (ws : List Jvm.Cond) (a1 : Addr) (k1 : ClassId) (x0 x1 x2 : Int32) (h0 : Heap) (n0 : Nat) (Z0 : n0 ≤ h0.size) (V1 : Arv Z h0 a1 k1 .byte (3 : Int32) [(.int x0), (.int x1), (.int x2)] (.int 0)) :
   oM l oY13 j65_132 3 (some (.array .byte)) ws (own_R 2 1 1 48) #[(.ref a1), (.int 0), (.int 1)] Z h0 (Q_cor3_1 Z a1 k1 x0 x1 x2 h0 n0) := by
 refine own_open (n0 := n0) (cn := "java/util/Arrays") rfl (plainFor_of_name pn3) (L0 := #[(vR a1), (vI 0), (vI 1)]) (fun _ => by first | (simp [entryFrame, mkF, argsToLocals, Value.category]; done) | rfl) ?_
 intro p e s m below meth c s₁ P hx hby hml hown hnm X0 e0 N0 hlk hret hZ hP
 refine iA X0 hx hby dj65_132_0 rfl ?_
 refine fN X0 hx hby dj65_132_1 (XT.i0_ne_f (by decide : (0 : Int32) = (0 : Int32))) ?_
 refine iA X0 hx hby dj65_132_4 rfl ?_
 refine aA X0 hx hby dj65_132_5 rfl rfl ?_
 have av11 := V1
 obtain ⟨cl11, Ar11, -, Sz11, Nn11, -, -⟩ := av11
 refine Go.by (X0.arraylength hx (by rw [e0]; exact Ar11.1) (State.isArrayOf_alike hZ.alike Ar11.2.1) (g := (mkF m 6 #[(vR a1), (vI 0), (vI 1)] [(.ref a1), (.int 1)])) rfl rfl (hb hby dj65_132_6)) ?_
 rw [len_of Sz11 Nn11]
 show oG p e below P m s₁ 7 #[(vR a1), (vI 0), (vI 1)] [(.int 3), (.int 1)]
 refine cN X0 hx hby dj65_132_7 (XT.ii_eq_f (by decide : ¬ (1 : Int32) = (3 : Int32))) ?_
 refine aA X0 hx hby dj65_132_10 rfl rfl ?_
 refine iA X0 hx hby dj65_132_11 rfl ?_
 refine iA X0 hx hby dj65_132_12 rfl ?_
 refine c_stat 0 X0 hx hby hml hZ hown (tw_118 hw) (tw_119 hw) (tw_116 hw) (tw_120 hw) (rm_corb3_1 l Z a0 hw [] a1 k1 x0 x1 x2 h0 n0 Z0 V1) e0 dj65_132_13 [(.ref a1), (.int 0), (.int 1)] [] (lenOf pd5 rfl) rfl rfl (by rfl) (by decide) ?_
 rintro _ T12 Lc12 ⟨d12, kd12, rfl, N12q, K12, z12, V12⟩ X12
 have N12 := Fr.app N0 N12q
 have f12_0 := Nat.le_trans Z0 K12.1
 have f12_1 := Keep.trans (Keep.refl h0 []) K12 all0
 have f12_2 := Arv.keep V1 K12 nin0
 have g_d12 : n0 ≤ d12 := Nat.le_trans Z0 z12
 have sz_d12 : h0.size ≤ d12 := Nat.le_trans (Keep.refl h0 []).1 z12
 have nea1d12 : a1 ≠ d12 := Nat.ne_of_lt (Nat.lt_of_lt_of_le (V1.lt) z12)
 refine r_val hP hlk hret X12 hx hby dj65_132_16 rfl (Or.inr (Or.inr (Or.inr (Or.inr ⟨rfl, rfl, rfl⟩)))) (by decide) ?_
 exact ⟨d12, kd12, rfl, N12, f12_1, sz_d12, V12⟩
def Q_news3_1 (Z : State) (a1 : Addr) (k1 : ClassId) (x0 x1 x2 : Int32) (h0 : Heap) (n0 : Nat) (v : Option Value) (h : Heap) (L : List Loc) : Prop := ∃ b, v = some (.ref b) ∧ Fr n0 L ∧ Keep h0 h [] ∧ StrV Z h b [x0]
theorem rm_news3_1 (l : Launch) (Z : State) (a0 : Array Value) (hw : oW a0 Z) (ws : List Jvm.Cond) (a1 : Addr) (k1 : ClassId) (x0 x1 x2 : Int32) (h0 : Heap) (n0 : Nat) (Z0 : n0 ≤ h0.size) (V1 : Arv Z h0 a1 k1 .byte (3 : Int32) [(.int x0), (.int x1), (.int x2)] (.int 0)) :
   oM l oY10 j43_47 3 (some (.object "java/lang/String")) ws (own_R 3 2 5 66) #[(.ref a1), (.int 0), (.int 1)] Z h0 (Q_news3_1 Z a1 k1 x0 x1 x2 h0 n0) := by
 refine own_open (n0 := n0) (cn := "java/lang/StringLatin1") rfl (plainFor_of_name pn1) (L0 := #[(vR a1), (vI 0), (vI 1)]) (fun _ => by first | (simp [entryFrame, mkF, argsToLocals, Value.category]; done) | rfl) ?_
 intro p e s m below meth c s₁ P hx hby hml hown hnm X0 e0 N0 hlk hret hZ hP
 refine iA X0 hx hby dj43_47_0 rfl ?_
 refine fY X0 hx hby dj43_47_1 (pc' := 7) (XT.i0_ne_t (by decide : ¬ (1 : Int32) = (0 : Int32))) (by decide) ?_
 obtain ⟨T11, h11, X11, e11, E11, A11, D11, U11, st11⟩ := newO X0 hx hZ hown (tw_113 hw) (tw_7 hw) (tw_8 hw) e0 (g := (mkF m 7 #[(vR a1), (vI 0), (vI 1)] [])) rfl (hb hby dj43_47_7) (by decide) (by decide)
 obtain ⟨b11, g11⟩ : ∃ z, z = h0.size := ⟨_, rfl⟩
 rw [← g11] at A11 D11 U11 st11
 have g_b11 : n0 ≤ b11 := Nat.le_trans Z0 (Nat.le_of_eq g11.symm)
 have sz_b11 : h0.size ≤ b11 := Nat.le_trans (Keep.refl h0 []).1 (Nat.le_of_eq g11.symm)
 have ne_a1_b11 : a1 ≠ b11 := Nat.ne_of_lt (Nat.lt_of_lt_of_le (V1.lt) (Nat.le_of_eq g11.symm))
 have f11_0 := Nat.le_trans Z0 E11.1
 have f11_1 := Keep.ext (Keep.refl h0 []) E11
 have f11_2 := Arv.ext V1 E11
 refine Go.by st11 ?_
 have F11_value : Fld Z h11 b11 "java/lang/String" "value" "[B" .null := D11 (Or.inr (tw_21 hw)) (ty := (.array .byte)) (by decide)
 have F11_coder : Fld Z h11 b11 "java/lang/String" "coder" "B" (.int 0) := D11 (Or.inr (tw_22 hw)) (ty := .byte) (by decide)
 show oG p e below P m T11 10 #[(vR a1), (vI 0), (vI 1)] [(.ref b11)]
 refine dU X11 hx hby dj43_47_10 rfl ?_
 refine aA X11 hx hby dj43_47_11 rfl rfl ?_
 refine iA X11 hx hby dj43_47_12 rfl ?_
 refine iA X11 hx hby dj43_47_13 rfl ?_
 refine iA X11 hx hby dj43_47_14 rfl ?_
 refine iP X11 hx hby dj43_47_15 (v := 1) rfl ?_
 refine c_stat 2 X11 hx hby hml hZ hown (tw_114 hw) (tw_115 hw) (tw_116 hw) (tw_117 hw) (rm_cor3_1 l Z a0 hw [] a1 k1 x0 x1 x2 h11 n0 f11_0 f11_2) e11 dj43_47_16 [(.ref a1), (.int 0), (.int 1)] [(.ref b11), (.ref b11)] (lenOf pd5 rfl) rfl rfl (by rfl) (by decide) ?_
 rintro _ T12 Lc12 ⟨d12, kd12, rfl, N12q, K12, z12, V12⟩ X12
 have N12 := Fr.app N0 N12q
 have f12_0 := Nat.le_trans f11_0 K12.1
 have f12_1 := Keep.trans f11_1 K12 all0
 have f12_2 := Arv.keep f11_2 K12 nin0
 have f12_3 := Exa.keep A11 K12
 have f12_4 := Fld.keep F11_value K12 nin0
 have f12_5 := Fld.keep F11_coder K12 nin0
 have g_d12 : n0 ≤ d12 := Nat.le_trans f11_0 z12
 have sz_d12 : h0.size ≤ d12 := Nat.le_trans f11_1.1 z12
 have nea1d12 : a1 ≠ d12 := Nat.ne_of_lt (Nat.lt_of_lt_of_le (f11_2.lt) z12)
 have neb11d12 : b11 ≠ d12 := Nat.ne_of_lt (Nat.lt_of_lt_of_le (A11.lt) z12)
 refine iC X12 hx hby dj43_47_19 (v := 0) rfl ?_
 obtain ⟨_, _, ⟨T13, L13, k13, n13⟩, -, X13, ⟨Lc13, hQ13, l13, y13, z13⟩, st13⟩ := X12.specialBack hx (y := oY24) rfl hown (mvT hZ (tw_129 hw)) (mvT hZ (tw_130 hw)) (mvT hZ (tw_131 hw)) (by decide) (backOf (W := 1) (rm_siBB l Z a0 hw [] b11 d12 T12.heap n0 f12_0 f12_3 g_b11 f12_5 f12_4) hZ (tw_131 hw) (tw_8 hw) (by decide) (by decide)) (g := (mkF m 20 #[(vR a1), (vI 0), (vI 1)] [(.int 0), (.ref d12), (.ref b11), (.ref b11)])) rfl (by rw [hml]; rfl) (Steps.refl _) (a := b11) (argsL := [(.ref d12), (.int 0)]) (rest := [(.ref b11)]) (lenOf pd15 rfl) rfl (by show 2 * 0 + _ ≤ _; exact Nat.le_of_eq rfl) (hb hby dj43_47_20) (fun _ _ => ⟨rfl, rfl, (by decide : 2 + 0 ≤ _), (by decide : 5 + 0 ≤ _)⟩)
 dsimp only [Pt.U, Pt.locs, Pt.cells, Pt.slots] at X13 l13 y13 z13 st13 hQ13
 subst l13 y13 z13
 obtain ⟨rfl, N13q, K13, G13_0, G13_1⟩ := hQ13
 have N13 := Fr.app N12 N13q
 refine Go.by (fun t k => st13.trans k) ?_
 have f13_0 := Nat.le_trans f12_0 K13.1
 have f13_1 := Keep.trans f12_1 K13 (allS (Or.inr sz_b11) all0)
 have f13_2 := Arv.keep f12_2 K13 (ninS ne_a1_b11 nin0)
 have f13_3 := Exa.keep f12_3 K13
 have f13_4 := Arv.keep V12 K13 (ninS (Ne.symm neb11d12) nin0)
 show oG p e below P m T13 23 #[(vR a1), (vI 0), (vI 1)] [(.ref b11)]
 refine r_val hP hlk hret X13 hx hby dj43_47_23 rfl (Or.inr (Or.inr (Or.inr (Or.inr ⟨rfl, rfl, rfl⟩)))) (by decide) ?_
 exact ⟨b11, rfl, N13, f13_1, ⟨d12, kd12, f13_3, G13_0, G13_1, f13_4⟩⟩
def Q_subs3_1 (Z : State) (a0_ : Addr) (x0 x1 x2 cs : Int32) (fm : Value) (h0 : Heap) (n0 : Nat) (v : Option Value) (h : Heap) (L : List Loc) : Prop := ∃ b, v = some (.ref b) ∧ Fr n0 L ∧ Keep h0 h [] ∧ StrV Z h b [x0]
theorem rm_subs3_1 (l : Launch) (Z : State) (a0 : Array Value) (hw : oW a0 Z) (ws : List Jvm.Cond) (a0_ : Addr) (x0 x1 x2 cs : Int32) (fm : Value) (h0 : Heap) (n0 : Nat) (Z0 : n0 ≤ h0.size) (O0 : Old Z n0 h0) (Scs : Sta Z Z.heap "java/lang/String" "COMPACT_STRINGS" "Z" (.int cs)) (hcs : ¬ cs = (0 : Int32)) (Sfm : Sta Z Z.heap "jdk/internal/util/Preconditions" "SIOOBE_FORMATTER" "Ljava/util/function/BiFunction;" fm) (hfm : fm.isRef = true) (S0 : StrV Z h0 a0_ [x0, x1, x2]) :
   oM l oY1 j42_92 5 (some (.object "java/lang/String")) ws (own_R 4 2 5 82) #[(.ref a0_), (.int 0), (.int 1)] Z h0 (Q_subs3_1 Z a0_ x0 x1 x2 cs fm h0 n0) := by
 refine own_open (n0 := n0) (cn := "java/lang/String") rfl (plainFor_of_name pn0) (L0 := #[(vR a0_), (vI 0), (vI 1), .unset, .unset]) (fun _ => by first | (simp [entryFrame, mkF, argsToLocals, Value.category]; done) | rfl) ?_
 intro p e s m below meth c s₁ P hx hby hml hown hnm X0 e0 N0 hlk hret hZ hP
 obtain ⟨d0, kd0, ES0, CS0, VS0, AS0⟩ := S0
 have AT0 : Arv Z h0 d0 kd0 .byte (3 : Int32) [(.int x0), (.int x1), (.int x2)] (.int 0) := AS0
 show oG p e below P m s₁ 0 #[(vR a0_), (vI 0), (vI 1), .unset, .unset] []
 refine aA X0 hx hby dj42_92_0 rfl rfl ?_
 refine c_virt 0 X0 hx hby hml hZ hown (tw_37 hw) (tw_38 hw) (tw_40 hw) (tw_39 hw) (tw_41 hw) (tw_8 hw) (rm_slen l Z a0 hw [] a0_ d0 kd0 (3 : Int32) [(.int x0), (.int x1), (.int x2)] cs h0 n0 Z0 O0 Scs hcs ES0 CS0 VS0 AT0) e0 ES0 dj42_92_1 [] [] (lenOf pd0 rfl) rfl rfl (by rfl) (by decide) ?_
 rintro _ T11 Lc11 ⟨rfl, N11q, q11⟩ X11
 have N11 := Fr.app N0 N11q
 refine iS X11 hx hby dj42_92_4 (l' := #[(vR a0_), (vI 0), (vI 1), (vI 3), .unset]) rfl ?_
 refine iA X11 hx hby dj42_92_5 rfl ?_
 refine iA X11 hx hby dj42_92_6 rfl ?_
 refine iA X11 hx hby dj42_92_7 rfl ?_
 refine c_stat 0 X11 hx hby hml hZ hown (tw_102 hw) (tw_103 hw) (tw_8 hw) (tw_104 hw) (rm_chkB l Z a0 hw [] (1 : Int32) (3 : Int32) fm h0 n0 Z0 O0 Sfm hfm (by decide) (by decide)) q11 dj42_92_8 [(.int 0), (.int 1), (.int 3)] [] (lenOf pd11 rfl) rfl rfl (by rfl) (by decide) ?_
 rintro _ T12 Lc12 ⟨rfl, N12q, q12⟩ X12
 have N12 := Fr.app N11 N12q
 refine iA X12 hx hby dj42_92_11 rfl ?_
 refine fN X12 hx hby dj42_92_12 (XT.i0_ne_f (by decide : (0 : Int32) = (0 : Int32))) ?_
 refine iA X12 hx hby dj42_92_15 rfl ?_
 refine iA X12 hx hby dj42_92_16 rfl ?_
 refine cY X12 hx hby dj42_92_17 (pc' := 22) (XT.ii_ne_t (by decide : ¬ (1 : Int32) = (3 : Int32))) (by decide) ?_
 refine iA X12 hx hby dj42_92_22 rfl ?_
 refine iA X12 hx hby dj42_92_23 rfl ?_
 refine iM X12 hx hby dj42_92_24 (v := 1) rfl ?_
 refine iT X12 hx hby dj42_92_25 (l' := #[(vR a0_), (vI 0), (vI 1), (vI 3), (vI 1)]) rfl ?_
 refine aA X12 hx hby dj42_92_27 rfl rfl ?_
 refine c_virt 0 X12 hx hby hml hZ hown (tw_59 hw) (tw_60 hw) (tw_62 hw) (tw_61 hw) (tw_63 hw) (tw_8 hw) (rm_isLat l Z a0 hw [] a0_ cs h0 n0 Z0 O0 Scs hcs CS0) q12 ES0 dj42_92_28 [] [] (lenOf pd4 rfl) rfl rfl (by rfl) (by decide) ?_
 rintro _ T13 Lc13 ⟨rfl, N13q, q13⟩ X13
 have N13 := Fr.app N12 N13q
 refine fN X13 hx hby dj42_92_31 (XT.i0_eq_f (by decide : ¬ (1 : Int32) = (0 : Int32))) ?_
 refine aA X13 hx hby dj42_92_34 rfl rfl ?_
 obtain ⟨T14, X14, e14, st14⟩ := getF X13 hx hZ hown (host := "") (Or.inl (tw_25 hw)) Via.refl q13 VS0 (g := (mkF m 35 #[(vR a0_), (vI 0), (vI 1), (vI 3), (vI 1)] [(.ref a0_)])) rfl rfl (hb hby dj42_92_35)
 refine Go.by st14 ?_
 show oG p e below P m T14 38 #[(vR a0_), (vI 0), (vI 1), (vI 3), (vI 1)] [(.ref d0)]
 refine iA X14 hx hby dj42_92_38 rfl ?_
 refine iB X14 hx hby dj42_92_39 rfl ?_
 refine c_stat 0 X14 hx hby hml hZ hown (tw_110 hw) (tw_111 hw) (tw_66 hw) (tw_112 hw) (rm_news3_1 l Z a0 hw [] d0 kd0 x0 x1 x2 h0 n0 Z0 AT0) e14 dj42_92_41 [(.ref d0), (.int 0), (.int 1)] [] (lenOf pd12 rfl) rfl rfl (by rfl) (by decide) ?_
 rintro _ T15 Lc15 ⟨b15, rfl, N15q, K15, S15⟩ X15
 have N15 := Fr.app N13 N15q
 have f15_0 := Nat.le_trans Z0 K15.1
 have f15_1 := Keep.trans (Keep.refl h0 []) K15 all0
 have f15_2 := Old.keep O0 K15 all0
 have f15_3 := Exa.keep ES0 K15
 have f15_4 := Fld.keep CS0 K15 nin0
 have f15_5 := Fld.keep VS0 K15 nin0
 have f15_6 := Arv.keep AT0 K15 nin0
 refine gO X15 hx hby dj42_92_44 (pc' := 57) (by decide) ?_
 refine r_val hP hlk hret X15 hx hby dj42_92_57 rfl (Or.inr (Or.inr (Or.inr (Or.inr ⟨rfl, rfl, rfl⟩)))) (by decide) ?_
 exact ⟨b15, rfl, N15, f15_1, S15⟩
def Q_corb4_1 (Z : State) (a1 : Addr) (k1 : ClassId) (x0 x1 x2 x3 : Int32) (h0 : Heap) (n0 : Nat) (v : Option Value) (h : Heap) (L : List Loc) : Prop := ∃ b k, v = some (.ref b) ∧ Fr n0 L ∧ Keep h0 h [] ∧ h0.size ≤ b ∧ Arv Z h b k .byte (1 : Int32) [(.int x0)] (.int 0)
theorem rm_corb4_1 (l : Launch) (Z : State) (a0 : Array Value) (hw : oW a0 Z) (ws : List Jvm.Cond) (a1 : Addr) (k1 : ClassId) (x0 x1 x2 x3 : Int32) (h0 : Heap) (n0 : Nat) (Z0 : n0 ≤ h0.size) (V1 : Arv Z h0 a1 k1 .byte (4 : Int32) [(.int x0), (.int x1), (.int x2), (.int x3)] (.int 0)) :
   oM l oY12 j65_133 5 (some (.array .byte)) ws (own_R 1 1 1 30) #[(.ref a1), (.int 0), (.int 1)] Z h0 (Q_corb4_1 Z a1 k1 x0 x1 x2 x3 h0 n0) := by
 refine own_open (n0 := n0) (cn := "java/util/Arrays") rfl (plainFor_of_name pn3) (L0 := #[(vR a1), (vI 0), (vI 1), .unset, .unset]) (fun _ => by first | (simp [entryFrame, mkF, argsToLocals, Value.category]; done) | rfl) ?_
 intro p e s m below meth c s₁ P hx hby hml hown hnm X0 e0 N0 hlk hret hZ hP
 refine iA X0 hx hby dj65_133_0 rfl ?_
 refine iA X0 hx hby dj65_133_1 rfl ?_
 refine c_stat 0 X0 hx hby hml hZ hown (tw_121 hw) (tw_122 hw) (tw_116 hw) (tw_123 hw) (rm_chkLen l Z a0 hw [] (1 : Int32) h0 n0 Z0 (by decide)) e0 dj65_133_2 [(.int 0), (.int 1)] [] (lenOf pd10 rfl) rfl rfl (by rfl) (by decide) ?_
 rintro _ T11 Lc11 ⟨rfl, N11q, q11⟩ X11
 have N11 := Fr.app N0 N11q
 refine iA X11 hx hby dj65_133_5 rfl ?_
 refine iA X11 hx hby dj65_133_6 rfl ?_
 refine iM X11 hx hby dj65_133_7 (v := 1) rfl ?_
 refine iS X11 hx hby dj65_133_8 (l' := #[(vR a1), (vI 0), (vI 1), (vI 1), .unset]) rfl ?_
 refine iA X11 hx hby dj65_133_9 rfl ?_
 obtain ⟨T12, h12, k12, X12, e12, E12, A12, st12⟩ := newP X11 hx hZ (aty := .byte) (tw_20 hw) q11 (g := (mkF m 10 #[(vR a1), (vI 0), (vI 1), (vI 1), .unset] [(.int 1)])) rfl (hb hby dj65_133_10) rfl (by decide) (cap := 1) (by decide) (by decide) (by decide) (by decide)
 obtain ⟨b12, g12⟩ : ∃ z, z = h0.size := ⟨_, rfl⟩
 rw [← g12] at A12 st12
 have g_b12 : n0 ≤ b12 := Nat.le_trans Z0 (Nat.le_of_eq g12.symm)
 have sz_b12 : h0.size ≤ b12 := Nat.le_trans (Keep.refl h0 []).1 (Nat.le_of_eq g12.symm)
 have ne_a1_b12 : a1 ≠ b12 := Nat.ne_of_lt (Nat.lt_of_lt_of_le (V1.lt) (Nat.le_of_eq g12.symm))
 have f12_0 := Nat.le_trans Z0 E12.1
 have f12_1 := Keep.ext (Keep.refl h0 []) E12
 have f12_2 := Arv.ext V1 E12
 refine Go.by st12 ?_
 have V12 : Arv Z h12 b12 k12 .byte (1 : Int32) [(.int 0)] (.int 0) := (Arv.new A12 (by decide)).pad (pad_rep [] (.int 0) 1)
 show oG p e below P m T12 12 #[(vR a1), (vI 0), (vI 1), (vI 1), .unset] [(.ref b12)]
 refine aT X12 hx hby dj65_133_12 rfl (l' := #[(vR a1), (vI 0), (vI 1), (vI 1), (vR b12)]) rfl ?_
 refine aA X12 hx hby dj65_133_14 rfl rfl ?_
 refine iA X12 hx hby dj65_133_15 rfl ?_
 refine aB X12 hx hby dj65_133_16 rfl rfl ?_
 refine iC X12 hx hby dj65_133_18 (v := 0) rfl ?_
 refine aA X12 hx hby dj65_133_19 rfl rfl ?_
 have av13 := f12_2
 obtain ⟨cl13, Ar13, -, Sz13, Nn13, -, -⟩ := av13
 refine Go.by (X12.arraylength hx (by rw [e12]; exact Ar13.1) (State.isArrayOf_alike hZ.alike Ar13.2.1) (g := (mkF m 20 #[(vR a1), (vI 0), (vI 1), (vI 1), (vR b12)] [(.ref a1), (.int 0), (.ref b12), (.int 0), (.ref a1)])) rfl rfl (hb hby dj65_133_20)) ?_
 rw [len_of Sz13 Nn13]
 show oG p e below P m T12 21 #[(vR a1), (vI 0), (vI 1), (vI 1), (vR b12)] [(.int 4), (.int 0), (.ref b12), (.int 0), (.ref a1)]
 refine iA X12 hx hby dj65_133_21 rfl ?_
 refine iM X12 hx hby dj65_133_22 (v := 4) rfl ?_
 refine iA X12 hx hby dj65_133_23 rfl ?_
 refine c_stat 4 X12 hx hby hml hZ hown (tw_124 hw) (tw_72 hw) (tw_73 hw) (tw_74 hw) (rm_min l Z a0 hw [] (4 : Int32) (1 : Int32) (1 : Int32) h12 n0 f12_0 (by decide)) e12 dj65_133_24 [(.int 4), (.int 1)] [(.int 0), (.ref b12), (.int 0), (.ref a1)] (lenOf pd1 rfl) rfl rfl (by rfl) (by decide) ?_
 rintro _ T14 Lc14 ⟨rfl, N14q, q14⟩ X14
 have N14 := Fr.app N11 N14q
 obtain ⟨T15, h15, Lc15, X15, e15, N15, K15, V15, st15⟩ := cpA X14 hx hZ hown (tw_125 hw) (tw_128 hw) (tw_126 hw) (tw_127 hw) q14 f12_2 V12 (us := [(.int x0)]) (Or.inl ⟨rfl, rfl⟩) (by decide) (by decide) (by decide) (by decide) (by decide) rfl (by decide) N14 g_b12 (g := (mkF m 27 #[(vR a1), (vI 0), (vI 1), (vI 1), (vR b12)] [(.int 1), (.int 0), (.ref b12), (.int 0), (.ref a1)])) rfl (by rw [hml]; rfl) rfl (hb hby dj65_133_27) (by decide) (W := 0) (by show 2 * 0 + _ ≤ _; exact Nat.le_of_eq rfl) (by decide)
 have V15' : Arv Z h15 b12 k12 .byte (1 : Int32) [(.int x0)] (.int 0) := V15
 have f15_0 := Nat.le_trans f12_0 K15.1
 have f15_1 := Keep.trans f12_1 K15 (allS (Or.inr sz_b12) all0)
 have f15_2 := Arv.keep f12_2 K15 (ninS ne_a1_b12 nin0)
 refine Go.by st15 ?_
 show oG p e below P m T15 30 #[(vR a1), (vI 0), (vI 1), (vI 1), (vR b12)] []
 refine aB X15 hx hby dj65_133_30 rfl rfl ?_
 refine r_val hP hlk hret X15 hx hby dj65_133_32 rfl (Or.inr (Or.inr (Or.inr (Or.inr ⟨rfl, rfl, rfl⟩)))) (by decide) ?_
 rw [e15]
 exact ⟨b12, k12, rfl, N15, f15_1, sz_b12, V15'⟩
def Q_cor4_1 (Z : State) (a1 : Addr) (k1 : ClassId) (x0 x1 x2 x3 : Int32) (h0 : Heap) (n0 : Nat) (v : Option Value) (h : Heap) (L : List Loc) : Prop := ∃ b k, v = some (.ref b) ∧ Fr n0 L ∧ Keep h0 h [] ∧ h0.size ≤ b ∧ Arv Z h b k .byte (1 : Int32) [(.int x0)] (.int 0)
theorem rm_cor4_1 (l : Launch) (Z : State) (a0 : Array Value) (hw : oW a0 Z) (ws : List Jvm.Cond) (a1 : Addr) (k1 : ClassId) (x0 x1 x2 x3 : Int32) (h0 : Heap) (n0 : Nat) (Z0 : n0 ≤ h0.size) (V1 : Arv Z h0 a1 k1 .byte (4 : Int32) [(.int x0), (.int x1), (.int x2), (.int x3)] (.int 0)) :
   oM l oY13 j65_132 3 (some (.array .byte)) ws (own_R 2 1 1 48) #[(.ref a1), (.int 0), (.int 1)] Z h0 (Q_cor4_1 Z a1 k1 x0 x1 x2 x3 h0 n0) := by
 refine own_open (n0 := n0) (cn := "java/util/Arrays") rfl (plainFor_of_name pn3) (L0 := #[(vR a1), (vI 0), (vI 1)]) (fun _ => by first | (simp [entryFrame, mkF, argsToLocals, Value.category]; done) | rfl) ?_
 intro p e s m below meth c s₁ P hx hby hml hown hnm X0 e0 N0 hlk hret hZ hP
 refine iA X0 hx hby dj65_132_0 rfl ?_
 refine fN X0 hx hby dj65_132_1 (XT.i0_ne_f (by decide : (0 : Int32) = (0 : Int32))) ?_
 refine iA X0 hx hby dj65_132_4 rfl ?_
 refine aA X0 hx hby dj65_132_5 rfl rfl ?_
 have av11 := V1
 obtain ⟨cl11, Ar11, -, Sz11, Nn11, -, -⟩ := av11
 refine Go.by (X0.arraylength hx (by rw [e0]; exact Ar11.1) (State.isArrayOf_alike hZ.alike Ar11.2.1) (g := (mkF m 6 #[(vR a1), (vI 0), (vI 1)] [(.ref a1), (.int 1)])) rfl rfl (hb hby dj65_132_6)) ?_
 rw [len_of Sz11 Nn11]
 show oG p e below P m s₁ 7 #[(vR a1), (vI 0), (vI 1)] [(.int 4), (.int 1)]
 refine cN X0 hx hby dj65_132_7 (XT.ii_eq_f (by decide : ¬ (1 : Int32) = (4 : Int32))) ?_
 refine aA X0 hx hby dj65_132_10 rfl rfl ?_
 refine iA X0 hx hby dj65_132_11 rfl ?_
 refine iA X0 hx hby dj65_132_12 rfl ?_
 refine c_stat 0 X0 hx hby hml hZ hown (tw_118 hw) (tw_119 hw) (tw_116 hw) (tw_120 hw) (rm_corb4_1 l Z a0 hw [] a1 k1 x0 x1 x2 x3 h0 n0 Z0 V1) e0 dj65_132_13 [(.ref a1), (.int 0), (.int 1)] [] (lenOf pd5 rfl) rfl rfl (by rfl) (by decide) ?_
 rintro _ T12 Lc12 ⟨d12, kd12, rfl, N12q, K12, z12, V12⟩ X12
 have N12 := Fr.app N0 N12q
 have f12_0 := Nat.le_trans Z0 K12.1
 have f12_1 := Keep.trans (Keep.refl h0 []) K12 all0
 have f12_2 := Arv.keep V1 K12 nin0
 have g_d12 : n0 ≤ d12 := Nat.le_trans Z0 z12
 have sz_d12 : h0.size ≤ d12 := Nat.le_trans (Keep.refl h0 []).1 z12
 have nea1d12 : a1 ≠ d12 := Nat.ne_of_lt (Nat.lt_of_lt_of_le (V1.lt) z12)
 refine r_val hP hlk hret X12 hx hby dj65_132_16 rfl (Or.inr (Or.inr (Or.inr (Or.inr ⟨rfl, rfl, rfl⟩)))) (by decide) ?_
 exact ⟨d12, kd12, rfl, N12, f12_1, sz_d12, V12⟩
def Q_news4_1 (Z : State) (a1 : Addr) (k1 : ClassId) (x0 x1 x2 x3 : Int32) (h0 : Heap) (n0 : Nat) (v : Option Value) (h : Heap) (L : List Loc) : Prop := ∃ b, v = some (.ref b) ∧ Fr n0 L ∧ Keep h0 h [] ∧ StrV Z h b [x0]
theorem rm_news4_1 (l : Launch) (Z : State) (a0 : Array Value) (hw : oW a0 Z) (ws : List Jvm.Cond) (a1 : Addr) (k1 : ClassId) (x0 x1 x2 x3 : Int32) (h0 : Heap) (n0 : Nat) (Z0 : n0 ≤ h0.size) (V1 : Arv Z h0 a1 k1 .byte (4 : Int32) [(.int x0), (.int x1), (.int x2), (.int x3)] (.int 0)) :
   oM l oY10 j43_47 3 (some (.object "java/lang/String")) ws (own_R 3 2 5 66) #[(.ref a1), (.int 0), (.int 1)] Z h0 (Q_news4_1 Z a1 k1 x0 x1 x2 x3 h0 n0) := by
 refine own_open (n0 := n0) (cn := "java/lang/StringLatin1") rfl (plainFor_of_name pn1) (L0 := #[(vR a1), (vI 0), (vI 1)]) (fun _ => by first | (simp [entryFrame, mkF, argsToLocals, Value.category]; done) | rfl) ?_
 intro p e s m below meth c s₁ P hx hby hml hown hnm X0 e0 N0 hlk hret hZ hP
 refine iA X0 hx hby dj43_47_0 rfl ?_
 refine fY X0 hx hby dj43_47_1 (pc' := 7) (XT.i0_ne_t (by decide : ¬ (1 : Int32) = (0 : Int32))) (by decide) ?_
 obtain ⟨T11, h11, X11, e11, E11, A11, D11, U11, st11⟩ := newO X0 hx hZ hown (tw_113 hw) (tw_7 hw) (tw_8 hw) e0 (g := (mkF m 7 #[(vR a1), (vI 0), (vI 1)] [])) rfl (hb hby dj43_47_7) (by decide) (by decide)
 obtain ⟨b11, g11⟩ : ∃ z, z = h0.size := ⟨_, rfl⟩
 rw [← g11] at A11 D11 U11 st11
 have g_b11 : n0 ≤ b11 := Nat.le_trans Z0 (Nat.le_of_eq g11.symm)
 have sz_b11 : h0.size ≤ b11 := Nat.le_trans (Keep.refl h0 []).1 (Nat.le_of_eq g11.symm)
 have ne_a1_b11 : a1 ≠ b11 := Nat.ne_of_lt (Nat.lt_of_lt_of_le (V1.lt) (Nat.le_of_eq g11.symm))
 have f11_0 := Nat.le_trans Z0 E11.1
 have f11_1 := Keep.ext (Keep.refl h0 []) E11
 have f11_2 := Arv.ext V1 E11
 refine Go.by st11 ?_
 have F11_value : Fld Z h11 b11 "java/lang/String" "value" "[B" .null := D11 (Or.inr (tw_21 hw)) (ty := (.array .byte)) (by decide)
 have F11_coder : Fld Z h11 b11 "java/lang/String" "coder" "B" (.int 0) := D11 (Or.inr (tw_22 hw)) (ty := .byte) (by decide)
 show oG p e below P m T11 10 #[(vR a1), (vI 0), (vI 1)] [(.ref b11)]
 refine dU X11 hx hby dj43_47_10 rfl ?_
 refine aA X11 hx hby dj43_47_11 rfl rfl ?_
 refine iA X11 hx hby dj43_47_12 rfl ?_
 refine iA X11 hx hby dj43_47_13 rfl ?_
 refine iA X11 hx hby dj43_47_14 rfl ?_
 refine iP X11 hx hby dj43_47_15 (v := 1) rfl ?_
 refine c_stat 2 X11 hx hby hml hZ hown (tw_114 hw) (tw_115 hw) (tw_116 hw) (tw_117 hw) (rm_cor4_1 l Z a0 hw [] a1 k1 x0 x1 x2 x3 h11 n0 f11_0 f11_2) e11 dj43_47_16 [(.ref a1), (.int 0), (.int 1)] [(.ref b11), (.ref b11)] (lenOf pd5 rfl) rfl rfl (by rfl) (by decide) ?_
 rintro _ T12 Lc12 ⟨d12, kd12, rfl, N12q, K12, z12, V12⟩ X12
 have N12 := Fr.app N0 N12q
 have f12_0 := Nat.le_trans f11_0 K12.1
 have f12_1 := Keep.trans f11_1 K12 all0
 have f12_2 := Arv.keep f11_2 K12 nin0
 have f12_3 := Exa.keep A11 K12
 have f12_4 := Fld.keep F11_value K12 nin0
 have f12_5 := Fld.keep F11_coder K12 nin0
 have g_d12 : n0 ≤ d12 := Nat.le_trans f11_0 z12
 have sz_d12 : h0.size ≤ d12 := Nat.le_trans f11_1.1 z12
 have nea1d12 : a1 ≠ d12 := Nat.ne_of_lt (Nat.lt_of_lt_of_le (f11_2.lt) z12)
 have neb11d12 : b11 ≠ d12 := Nat.ne_of_lt (Nat.lt_of_lt_of_le (A11.lt) z12)
 refine iC X12 hx hby dj43_47_19 (v := 0) rfl ?_
 obtain ⟨_, _, ⟨T13, L13, k13, n13⟩, -, X13, ⟨Lc13, hQ13, l13, y13, z13⟩, st13⟩ := X12.specialBack hx (y := oY24) rfl hown (mvT hZ (tw_129 hw)) (mvT hZ (tw_130 hw)) (mvT hZ (tw_131 hw)) (by decide) (backOf (W := 1) (rm_siBB l Z a0 hw [] b11 d12 T12.heap n0 f12_0 f12_3 g_b11 f12_5 f12_4) hZ (tw_131 hw) (tw_8 hw) (by decide) (by decide)) (g := (mkF m 20 #[(vR a1), (vI 0), (vI 1)] [(.int 0), (.ref d12), (.ref b11), (.ref b11)])) rfl (by rw [hml]; rfl) (Steps.refl _) (a := b11) (argsL := [(.ref d12), (.int 0)]) (rest := [(.ref b11)]) (lenOf pd15 rfl) rfl (by show 2 * 0 + _ ≤ _; exact Nat.le_of_eq rfl) (hb hby dj43_47_20) (fun _ _ => ⟨rfl, rfl, (by decide : 2 + 0 ≤ _), (by decide : 5 + 0 ≤ _)⟩)
 dsimp only [Pt.U, Pt.locs, Pt.cells, Pt.slots] at X13 l13 y13 z13 st13 hQ13
 subst l13 y13 z13
 obtain ⟨rfl, N13q, K13, G13_0, G13_1⟩ := hQ13
 have N13 := Fr.app N12 N13q
 refine Go.by (fun t k => st13.trans k) ?_
 have f13_0 := Nat.le_trans f12_0 K13.1
 have f13_1 := Keep.trans f12_1 K13 (allS (Or.inr sz_b11) all0)
 have f13_2 := Arv.keep f12_2 K13 (ninS ne_a1_b11 nin0)
 have f13_3 := Exa.keep f12_3 K13
 have f13_4 := Arv.keep V12 K13 (ninS (Ne.symm neb11d12) nin0)
 show oG p e below P m T13 23 #[(vR a1), (vI 0), (vI 1)] [(.ref b11)]
 refine r_val hP hlk hret X13 hx hby dj43_47_23 rfl (Or.inr (Or.inr (Or.inr (Or.inr ⟨rfl, rfl, rfl⟩)))) (by decide) ?_
 exact ⟨b11, rfl, N13, f13_1, ⟨d12, kd12, f13_3, G13_0, G13_1, f13_4⟩⟩
def Q_subs4_1 (Z : State) (a0_ : Addr) (x0 x1 x2 x3 cs : Int32) (fm : Value) (h0 : Heap) (n0 : Nat) (v : Option Value) (h : Heap) (L : List Loc) : Prop := ∃ b, v = some (.ref b) ∧ Fr n0 L ∧ Keep h0 h [] ∧ StrV Z h b [x0]
theorem rm_subs4_1 (l : Launch) (Z : State) (a0 : Array Value) (hw : oW a0 Z) (ws : List Jvm.Cond) (a0_ : Addr) (x0 x1 x2 x3 cs : Int32) (fm : Value) (h0 : Heap) (n0 : Nat) (Z0 : n0 ≤ h0.size) (O0 : Old Z n0 h0) (Scs : Sta Z Z.heap "java/lang/String" "COMPACT_STRINGS" "Z" (.int cs)) (hcs : ¬ cs = (0 : Int32)) (Sfm : Sta Z Z.heap "jdk/internal/util/Preconditions" "SIOOBE_FORMATTER" "Ljava/util/function/BiFunction;" fm) (hfm : fm.isRef = true) (S0 : StrV Z h0 a0_ [x0, x1, x2, x3]) :
   oM l oY1 j42_92 5 (some (.object "java/lang/String")) ws (own_R 4 2 5 82) #[(.ref a0_), (.int 0), (.int 1)] Z h0 (Q_subs4_1 Z a0_ x0 x1 x2 x3 cs fm h0 n0) := by
 refine own_open (n0 := n0) (cn := "java/lang/String") rfl (plainFor_of_name pn0) (L0 := #[(vR a0_), (vI 0), (vI 1), .unset, .unset]) (fun _ => by first | (simp [entryFrame, mkF, argsToLocals, Value.category]; done) | rfl) ?_
 intro p e s m below meth c s₁ P hx hby hml hown hnm X0 e0 N0 hlk hret hZ hP
 obtain ⟨d0, kd0, ES0, CS0, VS0, AS0⟩ := S0
 have AT0 : Arv Z h0 d0 kd0 .byte (4 : Int32) [(.int x0), (.int x1), (.int x2), (.int x3)] (.int 0) := AS0
 show oG p e below P m s₁ 0 #[(vR a0_), (vI 0), (vI 1), .unset, .unset] []
 refine aA X0 hx hby dj42_92_0 rfl rfl ?_
 refine c_virt 0 X0 hx hby hml hZ hown (tw_37 hw) (tw_38 hw) (tw_40 hw) (tw_39 hw) (tw_41 hw) (tw_8 hw) (rm_slen l Z a0 hw [] a0_ d0 kd0 (4 : Int32) [(.int x0), (.int x1), (.int x2), (.int x3)] cs h0 n0 Z0 O0 Scs hcs ES0 CS0 VS0 AT0) e0 ES0 dj42_92_1 [] [] (lenOf pd0 rfl) rfl rfl (by rfl) (by decide) ?_
 rintro _ T11 Lc11 ⟨rfl, N11q, q11⟩ X11
 have N11 := Fr.app N0 N11q
 refine iS X11 hx hby dj42_92_4 (l' := #[(vR a0_), (vI 0), (vI 1), (vI 4), .unset]) rfl ?_
 refine iA X11 hx hby dj42_92_5 rfl ?_
 refine iA X11 hx hby dj42_92_6 rfl ?_
 refine iA X11 hx hby dj42_92_7 rfl ?_
 refine c_stat 0 X11 hx hby hml hZ hown (tw_102 hw) (tw_103 hw) (tw_8 hw) (tw_104 hw) (rm_chkB l Z a0 hw [] (1 : Int32) (4 : Int32) fm h0 n0 Z0 O0 Sfm hfm (by decide) (by decide)) q11 dj42_92_8 [(.int 0), (.int 1), (.int 4)] [] (lenOf pd11 rfl) rfl rfl (by rfl) (by decide) ?_
 rintro _ T12 Lc12 ⟨rfl, N12q, q12⟩ X12
 have N12 := Fr.app N11 N12q
 refine iA X12 hx hby dj42_92_11 rfl ?_
 refine fN X12 hx hby dj42_92_12 (XT.i0_ne_f (by decide : (0 : Int32) = (0 : Int32))) ?_
 refine iA X12 hx hby dj42_92_15 rfl ?_
 refine iA X12 hx hby dj42_92_16 rfl ?_
 refine cY X12 hx hby dj42_92_17 (pc' := 22) (XT.ii_ne_t (by decide : ¬ (1 : Int32) = (4 : Int32))) (by decide) ?_
 refine iA X12 hx hby dj42_92_22 rfl ?_
 refine iA X12 hx hby dj42_92_23 rfl ?_
 refine iM X12 hx hby dj42_92_24 (v := 1) rfl ?_
 refine iT X12 hx hby dj42_92_25 (l' := #[(vR a0_), (vI 0), (vI 1), (vI 4), (vI 1)]) rfl ?_
 refine aA X12 hx hby dj42_92_27 rfl rfl ?_
 refine c_virt 0 X12 hx hby hml hZ hown (tw_59 hw) (tw_60 hw) (tw_62 hw) (tw_61 hw) (tw_63 hw) (tw_8 hw) (rm_isLat l Z a0 hw [] a0_ cs h0 n0 Z0 O0 Scs hcs CS0) q12 ES0 dj42_92_28 [] [] (lenOf pd4 rfl) rfl rfl (by rfl) (by decide) ?_
 rintro _ T13 Lc13 ⟨rfl, N13q, q13⟩ X13
 have N13 := Fr.app N12 N13q
 refine fN X13 hx hby dj42_92_31 (XT.i0_eq_f (by decide : ¬ (1 : Int32) = (0 : Int32))) ?_
 refine aA X13 hx hby dj42_92_34 rfl rfl ?_
 obtain ⟨T14, X14, e14, st14⟩ := getF X13 hx hZ hown (host := "") (Or.inl (tw_25 hw)) Via.refl q13 VS0 (g := (mkF m 35 #[(vR a0_), (vI 0), (vI 1), (vI 4), (vI 1)] [(.ref a0_)])) rfl rfl (hb hby dj42_92_35)
 refine Go.by st14 ?_
 show oG p e below P m T14 38 #[(vR a0_), (vI 0), (vI 1), (vI 4), (vI 1)] [(.ref d0)]
 refine iA X14 hx hby dj42_92_38 rfl ?_
 refine iB X14 hx hby dj42_92_39 rfl ?_
 refine c_stat 0 X14 hx hby hml hZ hown (tw_110 hw) (tw_111 hw) (tw_66 hw) (tw_112 hw) (rm_news4_1 l Z a0 hw [] d0 kd0 x0 x1 x2 x3 h0 n0 Z0 AT0) e14 dj42_92_41 [(.ref d0), (.int 0), (.int 1)] [] (lenOf pd12 rfl) rfl rfl (by rfl) (by decide) ?_
 rintro _ T15 Lc15 ⟨b15, rfl, N15q, K15, S15⟩ X15
 have N15 := Fr.app N13 N15q
 have f15_0 := Nat.le_trans Z0 K15.1
 have f15_1 := Keep.trans (Keep.refl h0 []) K15 all0
 have f15_2 := Old.keep O0 K15 all0
 have f15_3 := Exa.keep ES0 K15
 have f15_4 := Fld.keep CS0 K15 nin0
 have f15_5 := Fld.keep VS0 K15 nin0
 have f15_6 := Arv.keep AT0 K15 nin0
 refine gO X15 hx hby dj42_92_44 (pc' := 57) (by decide) ?_
 refine r_val hP hlk hret X15 hx hby dj42_92_57 rfl (Or.inr (Or.inr (Or.inr (Or.inr ⟨rfl, rfl, rfl⟩)))) (by decide) ?_
 exact ⟨b15, rfl, N15, f15_1, S15⟩
def Q_corb4_2 (Z : State) (a1 : Addr) (k1 : ClassId) (x0 x1 x2 x3 : Int32) (h0 : Heap) (n0 : Nat) (v : Option Value) (h : Heap) (L : List Loc) : Prop := ∃ b k, v = some (.ref b) ∧ Fr n0 L ∧ Keep h0 h [] ∧ h0.size ≤ b ∧ Arv Z h b k .byte (2 : Int32) [(.int x0), (.int x1)] (.int 0)
theorem rm_corb4_2 (l : Launch) (Z : State) (a0 : Array Value) (hw : oW a0 Z) (ws : List Jvm.Cond) (a1 : Addr) (k1 : ClassId) (x0 x1 x2 x3 : Int32) (h0 : Heap) (n0 : Nat) (Z0 : n0 ≤ h0.size) (V1 : Arv Z h0 a1 k1 .byte (4 : Int32) [(.int x0), (.int x1), (.int x2), (.int x3)] (.int 0)) :
   oM l oY12 j65_133 5 (some (.array .byte)) ws (own_R 1 1 2 30) #[(.ref a1), (.int 0), (.int 2)] Z h0 (Q_corb4_2 Z a1 k1 x0 x1 x2 x3 h0 n0) := by
 refine own_open (n0 := n0) (cn := "java/util/Arrays") rfl (plainFor_of_name pn3) (L0 := #[(vR a1), (vI 0), (vI 2), .unset, .unset]) (fun _ => by first | (simp [entryFrame, mkF, argsToLocals, Value.category]; done) | rfl) ?_
 intro p e s m below meth c s₁ P hx hby hml hown hnm X0 e0 N0 hlk hret hZ hP
 refine iA X0 hx hby dj65_133_0 rfl ?_
 refine iA X0 hx hby dj65_133_1 rfl ?_
 refine c_stat 0 X0 hx hby hml hZ hown (tw_121 hw) (tw_122 hw) (tw_116 hw) (tw_123 hw) (rm_chkLen l Z a0 hw [] (2 : Int32) h0 n0 Z0 (by decide)) e0 dj65_133_2 [(.int 0), (.int 2)] [] (lenOf pd10 rfl) rfl rfl (by rfl) (by decide) ?_
 rintro _ T11 Lc11 ⟨rfl, N11q, q11⟩ X11
 have N11 := Fr.app N0 N11q
 refine iA X11 hx hby dj65_133_5 rfl ?_
 refine iA X11 hx hby dj65_133_6 rfl ?_
 refine iM X11 hx hby dj65_133_7 (v := 2) rfl ?_
 refine iS X11 hx hby dj65_133_8 (l' := #[(vR a1), (vI 0), (vI 2), (vI 2), .unset]) rfl ?_
 refine iA X11 hx hby dj65_133_9 rfl ?_
 obtain ⟨T12, h12, k12, X12, e12, E12, A12, st12⟩ := newP X11 hx hZ (aty := .byte) (tw_20 hw) q11 (g := (mkF m 10 #[(vR a1), (vI 0), (vI 2), (vI 2), .unset] [(.int 2)])) rfl (hb hby dj65_133_10) rfl (by decide) (cap := 2) (by decide) (by decide) (by decide) (by decide)
 obtain ⟨b12, g12⟩ : ∃ z, z = h0.size := ⟨_, rfl⟩
 rw [← g12] at A12 st12
 have g_b12 : n0 ≤ b12 := Nat.le_trans Z0 (Nat.le_of_eq g12.symm)
 have sz_b12 : h0.size ≤ b12 := Nat.le_trans (Keep.refl h0 []).1 (Nat.le_of_eq g12.symm)
 have ne_a1_b12 : a1 ≠ b12 := Nat.ne_of_lt (Nat.lt_of_lt_of_le (V1.lt) (Nat.le_of_eq g12.symm))
 have f12_0 := Nat.le_trans Z0 E12.1
 have f12_1 := Keep.ext (Keep.refl h0 []) E12
 have f12_2 := Arv.ext V1 E12
 refine Go.by st12 ?_
 have V12 : Arv Z h12 b12 k12 .byte (2 : Int32) [(.int 0), (.int 0)] (.int 0) := (Arv.new A12 (by decide)).pad (pad_rep [] (.int 0) 2)
 show oG p e below P m T12 12 #[(vR a1), (vI 0), (vI 2), (vI 2), .unset] [(.ref b12)]
 refine aT X12 hx hby dj65_133_12 rfl (l' := #[(vR a1), (vI 0), (vI 2), (vI 2), (vR b12)]) rfl ?_
 refine aA X12 hx hby dj65_133_14 rfl rfl ?_
 refine iA X12 hx hby dj65_133_15 rfl ?_
 refine aB X12 hx hby dj65_133_16 rfl rfl ?_
 refine iC X12 hx hby dj65_133_18 (v := 0) rfl ?_
 refine aA X12 hx hby dj65_133_19 rfl rfl ?_
 have av13 := f12_2
 obtain ⟨cl13, Ar13, -, Sz13, Nn13, -, -⟩ := av13
 refine Go.by (X12.arraylength hx (by rw [e12]; exact Ar13.1) (State.isArrayOf_alike hZ.alike Ar13.2.1) (g := (mkF m 20 #[(vR a1), (vI 0), (vI 2), (vI 2), (vR b12)] [(.ref a1), (.int 0), (.ref b12), (.int 0), (.ref a1)])) rfl rfl (hb hby dj65_133_20)) ?_
 rw [len_of Sz13 Nn13]
 show oG p e below P m T12 21 #[(vR a1), (vI 0), (vI 2), (vI 2), (vR b12)] [(.int 4), (.int 0), (.ref b12), (.int 0), (.ref a1)]
 refine iA X12 hx hby dj65_133_21 rfl ?_
 refine iM X12 hx hby dj65_133_22 (v := 4) rfl ?_
 refine iA X12 hx hby dj65_133_23 rfl ?_
 refine c_stat 4 X12 hx hby hml hZ hown (tw_124 hw) (tw_72 hw) (tw_73 hw) (tw_74 hw) (rm_min l Z a0 hw [] (4 : Int32) (2 : Int32) (2 : Int32) h12 n0 f12_0 (by decide)) e12 dj65_133_24 [(.int 4), (.int 2)] [(.int 0), (.ref b12), (.int 0), (.ref a1)] (lenOf pd1 rfl) rfl rfl (by rfl) (by decide) ?_
 rintro _ T14 Lc14 ⟨rfl, N14q, q14⟩ X14
 have N14 := Fr.app N11 N14q
 obtain ⟨T15, h15, Lc15, X15, e15, N15, K15, V15, st15⟩ := cpA X14 hx hZ hown (tw_125 hw) (tw_128 hw) (tw_126 hw) (tw_127 hw) q14 f12_2 V12 (us := [(.int x0), (.int x1)]) (Or.inl ⟨rfl, rfl⟩) (by decide) (by decide) (by decide) (by decide) (by decide) rfl (by decide) N14 g_b12 (g := (mkF m 27 #[(vR a1), (vI 0), (vI 2), (vI 2), (vR b12)] [(.int 2), (.int 0), (.ref b12), (.int 0), (.ref a1)])) rfl (by rw [hml]; rfl) rfl (hb hby dj65_133_27) (by decide) (W := 0) (by show 2 * 0 + _ ≤ _; exact Nat.le_of_eq rfl) (by decide)
 have V15' : Arv Z h15 b12 k12 .byte (2 : Int32) [(.int x0), (.int x1)] (.int 0) := V15
 have f15_0 := Nat.le_trans f12_0 K15.1
 have f15_1 := Keep.trans f12_1 K15 (allS (Or.inr sz_b12) all0)
 have f15_2 := Arv.keep f12_2 K15 (ninS ne_a1_b12 nin0)
 refine Go.by st15 ?_
 show oG p e below P m T15 30 #[(vR a1), (vI 0), (vI 2), (vI 2), (vR b12)] []
 refine aB X15 hx hby dj65_133_30 rfl rfl ?_
 refine r_val hP hlk hret X15 hx hby dj65_133_32 rfl (Or.inr (Or.inr (Or.inr (Or.inr ⟨rfl, rfl, rfl⟩)))) (by decide) ?_
 rw [e15]
 exact ⟨b12, k12, rfl, N15, f15_1, sz_b12, V15'⟩
def Q_cor4_2 (Z : State) (a1 : Addr) (k1 : ClassId) (x0 x1 x2 x3 : Int32) (h0 : Heap) (n0 : Nat) (v : Option Value) (h : Heap) (L : List Loc) : Prop := ∃ b k, v = some (.ref b) ∧ Fr n0 L ∧ Keep h0 h [] ∧ h0.size ≤ b ∧ Arv Z h b k .byte (2 : Int32) [(.int x0), (.int x1)] (.int 0)
theorem rm_cor4_2 (l : Launch) (Z : State) (a0 : Array Value) (hw : oW a0 Z) (ws : List Jvm.Cond) (a1 : Addr) (k1 : ClassId) (x0 x1 x2 x3 : Int32) (h0 : Heap) (n0 : Nat) (Z0 : n0 ≤ h0.size) (V1 : Arv Z h0 a1 k1 .byte (4 : Int32) [(.int x0), (.int x1), (.int x2), (.int x3)] (.int 0)) :
   oM l oY13 j65_132 3 (some (.array .byte)) ws (own_R 2 1 2 48) #[(.ref a1), (.int 0), (.int 2)] Z h0 (Q_cor4_2 Z a1 k1 x0 x1 x2 x3 h0 n0) := by
 refine own_open (n0 := n0) (cn := "java/util/Arrays") rfl (plainFor_of_name pn3) (L0 := #[(vR a1), (vI 0), (vI 2)]) (fun _ => by first | (simp [entryFrame, mkF, argsToLocals, Value.category]; done) | rfl) ?_
 intro p e s m below meth c s₁ P hx hby hml hown hnm X0 e0 N0 hlk hret hZ hP
 refine iA X0 hx hby dj65_132_0 rfl ?_
 refine fN X0 hx hby dj65_132_1 (XT.i0_ne_f (by decide : (0 : Int32) = (0 : Int32))) ?_
 refine iA X0 hx hby dj65_132_4 rfl ?_
 refine aA X0 hx hby dj65_132_5 rfl rfl ?_
 have av11 := V1
 obtain ⟨cl11, Ar11, -, Sz11, Nn11, -, -⟩ := av11
 refine Go.by (X0.arraylength hx (by rw [e0]; exact Ar11.1) (State.isArrayOf_alike hZ.alike Ar11.2.1) (g := (mkF m 6 #[(vR a1), (vI 0), (vI 2)] [(.ref a1), (.int 2)])) rfl rfl (hb hby dj65_132_6)) ?_
 rw [len_of Sz11 Nn11]
 show oG p e below P m s₁ 7 #[(vR a1), (vI 0), (vI 2)] [(.int 4), (.int 2)]
 refine cN X0 hx hby dj65_132_7 (XT.ii_eq_f (by decide : ¬ (2 : Int32) = (4 : Int32))) ?_
 refine aA X0 hx hby dj65_132_10 rfl rfl ?_
 refine iA X0 hx hby dj65_132_11 rfl ?_
 refine iA X0 hx hby dj65_132_12 rfl ?_
 refine c_stat 0 X0 hx hby hml hZ hown (tw_118 hw) (tw_119 hw) (tw_116 hw) (tw_120 hw) (rm_corb4_2 l Z a0 hw [] a1 k1 x0 x1 x2 x3 h0 n0 Z0 V1) e0 dj65_132_13 [(.ref a1), (.int 0), (.int 2)] [] (lenOf pd5 rfl) rfl rfl (by rfl) (by decide) ?_
 rintro _ T12 Lc12 ⟨d12, kd12, rfl, N12q, K12, z12, V12⟩ X12
 have N12 := Fr.app N0 N12q
 have f12_0 := Nat.le_trans Z0 K12.1
 have f12_1 := Keep.trans (Keep.refl h0 []) K12 all0
 have f12_2 := Arv.keep V1 K12 nin0
 have g_d12 : n0 ≤ d12 := Nat.le_trans Z0 z12
 have sz_d12 : h0.size ≤ d12 := Nat.le_trans (Keep.refl h0 []).1 z12
 have nea1d12 : a1 ≠ d12 := Nat.ne_of_lt (Nat.lt_of_lt_of_le (V1.lt) z12)
 refine r_val hP hlk hret X12 hx hby dj65_132_16 rfl (Or.inr (Or.inr (Or.inr (Or.inr ⟨rfl, rfl, rfl⟩)))) (by decide) ?_
 exact ⟨d12, kd12, rfl, N12, f12_1, sz_d12, V12⟩
def Q_news4_2 (Z : State) (a1 : Addr) (k1 : ClassId) (x0 x1 x2 x3 : Int32) (h0 : Heap) (n0 : Nat) (v : Option Value) (h : Heap) (L : List Loc) : Prop := ∃ b, v = some (.ref b) ∧ Fr n0 L ∧ Keep h0 h [] ∧ StrV Z h b [x0, x1]
theorem rm_news4_2 (l : Launch) (Z : State) (a0 : Array Value) (hw : oW a0 Z) (ws : List Jvm.Cond) (a1 : Addr) (k1 : ClassId) (x0 x1 x2 x3 : Int32) (h0 : Heap) (n0 : Nat) (Z0 : n0 ≤ h0.size) (V1 : Arv Z h0 a1 k1 .byte (4 : Int32) [(.int x0), (.int x1), (.int x2), (.int x3)] (.int 0)) :
   oM l oY10 j43_47 3 (some (.object "java/lang/String")) ws (own_R 3 2 6 66) #[(.ref a1), (.int 0), (.int 2)] Z h0 (Q_news4_2 Z a1 k1 x0 x1 x2 x3 h0 n0) := by
 refine own_open (n0 := n0) (cn := "java/lang/StringLatin1") rfl (plainFor_of_name pn1) (L0 := #[(vR a1), (vI 0), (vI 2)]) (fun _ => by first | (simp [entryFrame, mkF, argsToLocals, Value.category]; done) | rfl) ?_
 intro p e s m below meth c s₁ P hx hby hml hown hnm X0 e0 N0 hlk hret hZ hP
 refine iA X0 hx hby dj43_47_0 rfl ?_
 refine fY X0 hx hby dj43_47_1 (pc' := 7) (XT.i0_ne_t (by decide : ¬ (2 : Int32) = (0 : Int32))) (by decide) ?_
 obtain ⟨T11, h11, X11, e11, E11, A11, D11, U11, st11⟩ := newO X0 hx hZ hown (tw_113 hw) (tw_7 hw) (tw_8 hw) e0 (g := (mkF m 7 #[(vR a1), (vI 0), (vI 2)] [])) rfl (hb hby dj43_47_7) (by decide) (by decide)
 obtain ⟨b11, g11⟩ : ∃ z, z = h0.size := ⟨_, rfl⟩
 rw [← g11] at A11 D11 U11 st11
 have g_b11 : n0 ≤ b11 := Nat.le_trans Z0 (Nat.le_of_eq g11.symm)
 have sz_b11 : h0.size ≤ b11 := Nat.le_trans (Keep.refl h0 []).1 (Nat.le_of_eq g11.symm)
 have ne_a1_b11 : a1 ≠ b11 := Nat.ne_of_lt (Nat.lt_of_lt_of_le (V1.lt) (Nat.le_of_eq g11.symm))
 have f11_0 := Nat.le_trans Z0 E11.1
 have f11_1 := Keep.ext (Keep.refl h0 []) E11
 have f11_2 := Arv.ext V1 E11
 refine Go.by st11 ?_
 have F11_value : Fld Z h11 b11 "java/lang/String" "value" "[B" .null := D11 (Or.inr (tw_21 hw)) (ty := (.array .byte)) (by decide)
 have F11_coder : Fld Z h11 b11 "java/lang/String" "coder" "B" (.int 0) := D11 (Or.inr (tw_22 hw)) (ty := .byte) (by decide)
 show oG p e below P m T11 10 #[(vR a1), (vI 0), (vI 2)] [(.ref b11)]
 refine dU X11 hx hby dj43_47_10 rfl ?_
 refine aA X11 hx hby dj43_47_11 rfl rfl ?_
 refine iA X11 hx hby dj43_47_12 rfl ?_
 refine iA X11 hx hby dj43_47_13 rfl ?_
 refine iA X11 hx hby dj43_47_14 rfl ?_
 refine iP X11 hx hby dj43_47_15 (v := 2) rfl ?_
 refine c_stat 2 X11 hx hby hml hZ hown (tw_114 hw) (tw_115 hw) (tw_116 hw) (tw_117 hw) (rm_cor4_2 l Z a0 hw [] a1 k1 x0 x1 x2 x3 h11 n0 f11_0 f11_2) e11 dj43_47_16 [(.ref a1), (.int 0), (.int 2)] [(.ref b11), (.ref b11)] (lenOf pd5 rfl) rfl rfl (by rfl) (by decide) ?_
 rintro _ T12 Lc12 ⟨d12, kd12, rfl, N12q, K12, z12, V12⟩ X12
 have N12 := Fr.app N0 N12q
 have f12_0 := Nat.le_trans f11_0 K12.1
 have f12_1 := Keep.trans f11_1 K12 all0
 have f12_2 := Arv.keep f11_2 K12 nin0
 have f12_3 := Exa.keep A11 K12
 have f12_4 := Fld.keep F11_value K12 nin0
 have f12_5 := Fld.keep F11_coder K12 nin0
 have g_d12 : n0 ≤ d12 := Nat.le_trans f11_0 z12
 have sz_d12 : h0.size ≤ d12 := Nat.le_trans f11_1.1 z12
 have nea1d12 : a1 ≠ d12 := Nat.ne_of_lt (Nat.lt_of_lt_of_le (f11_2.lt) z12)
 have neb11d12 : b11 ≠ d12 := Nat.ne_of_lt (Nat.lt_of_lt_of_le (A11.lt) z12)
 refine iC X12 hx hby dj43_47_19 (v := 0) rfl ?_
 obtain ⟨_, _, ⟨T13, L13, k13, n13⟩, -, X13, ⟨Lc13, hQ13, l13, y13, z13⟩, st13⟩ := X12.specialBack hx (y := oY24) rfl hown (mvT hZ (tw_129 hw)) (mvT hZ (tw_130 hw)) (mvT hZ (tw_131 hw)) (by decide) (backOf (W := 1) (rm_siBB l Z a0 hw [] b11 d12 T12.heap n0 f12_0 f12_3 g_b11 f12_5 f12_4) hZ (tw_131 hw) (tw_8 hw) (by decide) (by decide)) (g := (mkF m 20 #[(vR a1), (vI 0), (vI 2)] [(.int 0), (.ref d12), (.ref b11), (.ref b11)])) rfl (by rw [hml]; rfl) (Steps.refl _) (a := b11) (argsL := [(.ref d12), (.int 0)]) (rest := [(.ref b11)]) (lenOf pd15 rfl) rfl (by show 2 * 0 + _ ≤ _; exact Nat.le_of_eq rfl) (hb hby dj43_47_20) (fun _ _ => ⟨rfl, rfl, (by decide : 2 + 0 ≤ _), (by decide : 6 + 0 ≤ _)⟩)
 dsimp only [Pt.U, Pt.locs, Pt.cells, Pt.slots] at X13 l13 y13 z13 st13 hQ13
 subst l13 y13 z13
 obtain ⟨rfl, N13q, K13, G13_0, G13_1⟩ := hQ13
 have N13 := Fr.app N12 N13q
 refine Go.by (fun t k => st13.trans k) ?_
 have f13_0 := Nat.le_trans f12_0 K13.1
 have f13_1 := Keep.trans f12_1 K13 (allS (Or.inr sz_b11) all0)
 have f13_2 := Arv.keep f12_2 K13 (ninS ne_a1_b11 nin0)
 have f13_3 := Exa.keep f12_3 K13
 have f13_4 := Arv.keep V12 K13 (ninS (Ne.symm neb11d12) nin0)
 show oG p e below P m T13 23 #[(vR a1), (vI 0), (vI 2)] [(.ref b11)]
 refine r_val hP hlk hret X13 hx hby dj43_47_23 rfl (Or.inr (Or.inr (Or.inr (Or.inr ⟨rfl, rfl, rfl⟩)))) (by decide) ?_
 exact ⟨b11, rfl, N13, f13_1, ⟨d12, kd12, f13_3, G13_0, G13_1, f13_4⟩⟩
def Q_subs4_2 (Z : State) (a0_ : Addr) (x0 x1 x2 x3 cs : Int32) (fm : Value) (h0 : Heap) (n0 : Nat) (v : Option Value) (h : Heap) (L : List Loc) : Prop := ∃ b, v = some (.ref b) ∧ Fr n0 L ∧ Keep h0 h [] ∧ StrV Z h b [x0, x1]
theorem rm_subs4_2 (l : Launch) (Z : State) (a0 : Array Value) (hw : oW a0 Z) (ws : List Jvm.Cond) (a0_ : Addr) (x0 x1 x2 x3 cs : Int32) (fm : Value) (h0 : Heap) (n0 : Nat) (Z0 : n0 ≤ h0.size) (O0 : Old Z n0 h0) (Scs : Sta Z Z.heap "java/lang/String" "COMPACT_STRINGS" "Z" (.int cs)) (hcs : ¬ cs = (0 : Int32)) (Sfm : Sta Z Z.heap "jdk/internal/util/Preconditions" "SIOOBE_FORMATTER" "Ljava/util/function/BiFunction;" fm) (hfm : fm.isRef = true) (S0 : StrV Z h0 a0_ [x0, x1, x2, x3]) :
   oM l oY1 j42_92 5 (some (.object "java/lang/String")) ws (own_R 4 2 6 82) #[(.ref a0_), (.int 0), (.int 2)] Z h0 (Q_subs4_2 Z a0_ x0 x1 x2 x3 cs fm h0 n0) := by
 refine own_open (n0 := n0) (cn := "java/lang/String") rfl (plainFor_of_name pn0) (L0 := #[(vR a0_), (vI 0), (vI 2), .unset, .unset]) (fun _ => by first | (simp [entryFrame, mkF, argsToLocals, Value.category]; done) | rfl) ?_
 intro p e s m below meth c s₁ P hx hby hml hown hnm X0 e0 N0 hlk hret hZ hP
 obtain ⟨d0, kd0, ES0, CS0, VS0, AS0⟩ := S0
 have AT0 : Arv Z h0 d0 kd0 .byte (4 : Int32) [(.int x0), (.int x1), (.int x2), (.int x3)] (.int 0) := AS0
 show oG p e below P m s₁ 0 #[(vR a0_), (vI 0), (vI 2), .unset, .unset] []
 refine aA X0 hx hby dj42_92_0 rfl rfl ?_
 refine c_virt 0 X0 hx hby hml hZ hown (tw_37 hw) (tw_38 hw) (tw_40 hw) (tw_39 hw) (tw_41 hw) (tw_8 hw) (rm_slen l Z a0 hw [] a0_ d0 kd0 (4 : Int32) [(.int x0), (.int x1), (.int x2), (.int x3)] cs h0 n0 Z0 O0 Scs hcs ES0 CS0 VS0 AT0) e0 ES0 dj42_92_1 [] [] (lenOf pd0 rfl) rfl rfl (by rfl) (by decide) ?_
 rintro _ T11 Lc11 ⟨rfl, N11q, q11⟩ X11
 have N11 := Fr.app N0 N11q
 refine iS X11 hx hby dj42_92_4 (l' := #[(vR a0_), (vI 0), (vI 2), (vI 4), .unset]) rfl ?_
 refine iA X11 hx hby dj42_92_5 rfl ?_
 refine iA X11 hx hby dj42_92_6 rfl ?_
 refine iA X11 hx hby dj42_92_7 rfl ?_
 refine c_stat 0 X11 hx hby hml hZ hown (tw_102 hw) (tw_103 hw) (tw_8 hw) (tw_104 hw) (rm_chkB l Z a0 hw [] (2 : Int32) (4 : Int32) fm h0 n0 Z0 O0 Sfm hfm (by decide) (by decide)) q11 dj42_92_8 [(.int 0), (.int 2), (.int 4)] [] (lenOf pd11 rfl) rfl rfl (by rfl) (by decide) ?_
 rintro _ T12 Lc12 ⟨rfl, N12q, q12⟩ X12
 have N12 := Fr.app N11 N12q
 refine iA X12 hx hby dj42_92_11 rfl ?_
 refine fN X12 hx hby dj42_92_12 (XT.i0_ne_f (by decide : (0 : Int32) = (0 : Int32))) ?_
 refine iA X12 hx hby dj42_92_15 rfl ?_
 refine iA X12 hx hby dj42_92_16 rfl ?_
 refine cY X12 hx hby dj42_92_17 (pc' := 22) (XT.ii_ne_t (by decide : ¬ (2 : Int32) = (4 : Int32))) (by decide) ?_
 refine iA X12 hx hby dj42_92_22 rfl ?_
 refine iA X12 hx hby dj42_92_23 rfl ?_
 refine iM X12 hx hby dj42_92_24 (v := 2) rfl ?_
 refine iT X12 hx hby dj42_92_25 (l' := #[(vR a0_), (vI 0), (vI 2), (vI 4), (vI 2)]) rfl ?_
 refine aA X12 hx hby dj42_92_27 rfl rfl ?_
 refine c_virt 0 X12 hx hby hml hZ hown (tw_59 hw) (tw_60 hw) (tw_62 hw) (tw_61 hw) (tw_63 hw) (tw_8 hw) (rm_isLat l Z a0 hw [] a0_ cs h0 n0 Z0 O0 Scs hcs CS0) q12 ES0 dj42_92_28 [] [] (lenOf pd4 rfl) rfl rfl (by rfl) (by decide) ?_
 rintro _ T13 Lc13 ⟨rfl, N13q, q13⟩ X13
 have N13 := Fr.app N12 N13q
 refine fN X13 hx hby dj42_92_31 (XT.i0_eq_f (by decide : ¬ (1 : Int32) = (0 : Int32))) ?_
 refine aA X13 hx hby dj42_92_34 rfl rfl ?_
 obtain ⟨T14, X14, e14, st14⟩ := getF X13 hx hZ hown (host := "") (Or.inl (tw_25 hw)) Via.refl q13 VS0 (g := (mkF m 35 #[(vR a0_), (vI 0), (vI 2), (vI 4), (vI 2)] [(.ref a0_)])) rfl rfl (hb hby dj42_92_35)
 refine Go.by st14 ?_
 show oG p e below P m T14 38 #[(vR a0_), (vI 0), (vI 2), (vI 4), (vI 2)] [(.ref d0)]
 refine iA X14 hx hby dj42_92_38 rfl ?_
 refine iB X14 hx hby dj42_92_39 rfl ?_
 refine c_stat 0 X14 hx hby hml hZ hown (tw_110 hw) (tw_111 hw) (tw_66 hw) (tw_112 hw) (rm_news4_2 l Z a0 hw [] d0 kd0 x0 x1 x2 x3 h0 n0 Z0 AT0) e14 dj42_92_41 [(.ref d0), (.int 0), (.int 2)] [] (lenOf pd12 rfl) rfl rfl (by rfl) (by decide) ?_
 rintro _ T15 Lc15 ⟨b15, rfl, N15q, K15, S15⟩ X15
 have N15 := Fr.app N13 N15q
 have f15_0 := Nat.le_trans Z0 K15.1
 have f15_1 := Keep.trans (Keep.refl h0 []) K15 all0
 have f15_2 := Old.keep O0 K15 all0
 have f15_3 := Exa.keep ES0 K15
 have f15_4 := Fld.keep CS0 K15 nin0
 have f15_5 := Fld.keep VS0 K15 nin0
 have f15_6 := Arv.keep AT0 K15 nin0
 refine gO X15 hx hby dj42_92_44 (pc' := 57) (by decide) ?_
 refine r_val hP hlk hret X15 hx hby dj42_92_57 rfl (Or.inr (Or.inr (Or.inr (Or.inr ⟨rfl, rfl, rfl⟩)))) (by decide) ?_
 exact ⟨b15, rfl, N15, f15_1, S15⟩
def Q_corb5_1 (Z : State) (a1 : Addr) (k1 : ClassId) (x0 x1 x2 x3 x4 : Int32) (h0 : Heap) (n0 : Nat) (v : Option Value) (h : Heap) (L : List Loc) : Prop := ∃ b k, v = some (.ref b) ∧ Fr n0 L ∧ Keep h0 h [] ∧ h0.size ≤ b ∧ Arv Z h b k .byte (1 : Int32) [(.int x0)] (.int 0)
theorem rm_corb5_1 (l : Launch) (Z : State) (a0 : Array Value) (hw : oW a0 Z) (ws : List Jvm.Cond) (a1 : Addr) (k1 : ClassId) (x0 x1 x2 x3 x4 : Int32) (h0 : Heap) (n0 : Nat) (Z0 : n0 ≤ h0.size) (V1 : Arv Z h0 a1 k1 .byte (5 : Int32) [(.int x0), (.int x1), (.int x2), (.int x3), (.int x4)] (.int 0)) :
   oM l oY12 j65_133 5 (some (.array .byte)) ws (own_R 1 1 1 30) #[(.ref a1), (.int 0), (.int 1)] Z h0 (Q_corb5_1 Z a1 k1 x0 x1 x2 x3 x4 h0 n0) := by
 refine own_open (n0 := n0) (cn := "java/util/Arrays") rfl (plainFor_of_name pn3) (L0 := #[(vR a1), (vI 0), (vI 1), .unset, .unset]) (fun _ => by first | (simp [entryFrame, mkF, argsToLocals, Value.category]; done) | rfl) ?_
 intro p e s m below meth c s₁ P hx hby hml hown hnm X0 e0 N0 hlk hret hZ hP
 refine iA X0 hx hby dj65_133_0 rfl ?_
 refine iA X0 hx hby dj65_133_1 rfl ?_
 refine c_stat 0 X0 hx hby hml hZ hown (tw_121 hw) (tw_122 hw) (tw_116 hw) (tw_123 hw) (rm_chkLen l Z a0 hw [] (1 : Int32) h0 n0 Z0 (by decide)) e0 dj65_133_2 [(.int 0), (.int 1)] [] (lenOf pd10 rfl) rfl rfl (by rfl) (by decide) ?_
 rintro _ T11 Lc11 ⟨rfl, N11q, q11⟩ X11
 have N11 := Fr.app N0 N11q
 refine iA X11 hx hby dj65_133_5 rfl ?_
 refine iA X11 hx hby dj65_133_6 rfl ?_
 refine iM X11 hx hby dj65_133_7 (v := 1) rfl ?_
 refine iS X11 hx hby dj65_133_8 (l' := #[(vR a1), (vI 0), (vI 1), (vI 1), .unset]) rfl ?_
 refine iA X11 hx hby dj65_133_9 rfl ?_
 obtain ⟨T12, h12, k12, X12, e12, E12, A12, st12⟩ := newP X11 hx hZ (aty := .byte) (tw_20 hw) q11 (g := (mkF m 10 #[(vR a1), (vI 0), (vI 1), (vI 1), .unset] [(.int 1)])) rfl (hb hby dj65_133_10) rfl (by decide) (cap := 1) (by decide) (by decide) (by decide) (by decide)
 obtain ⟨b12, g12⟩ : ∃ z, z = h0.size := ⟨_, rfl⟩
 rw [← g12] at A12 st12
 have g_b12 : n0 ≤ b12 := Nat.le_trans Z0 (Nat.le_of_eq g12.symm)
 have sz_b12 : h0.size ≤ b12 := Nat.le_trans (Keep.refl h0 []).1 (Nat.le_of_eq g12.symm)
 have ne_a1_b12 : a1 ≠ b12 := Nat.ne_of_lt (Nat.lt_of_lt_of_le (V1.lt) (Nat.le_of_eq g12.symm))
 have f12_0 := Nat.le_trans Z0 E12.1
 have f12_1 := Keep.ext (Keep.refl h0 []) E12
 have f12_2 := Arv.ext V1 E12
 refine Go.by st12 ?_
 have V12 : Arv Z h12 b12 k12 .byte (1 : Int32) [(.int 0)] (.int 0) := (Arv.new A12 (by decide)).pad (pad_rep [] (.int 0) 1)
 show oG p e below P m T12 12 #[(vR a1), (vI 0), (vI 1), (vI 1), .unset] [(.ref b12)]
 refine aT X12 hx hby dj65_133_12 rfl (l' := #[(vR a1), (vI 0), (vI 1), (vI 1), (vR b12)]) rfl ?_
 refine aA X12 hx hby dj65_133_14 rfl rfl ?_
 refine iA X12 hx hby dj65_133_15 rfl ?_
 refine aB X12 hx hby dj65_133_16 rfl rfl ?_
 refine iC X12 hx hby dj65_133_18 (v := 0) rfl ?_
 refine aA X12 hx hby dj65_133_19 rfl rfl ?_
 have av13 := f12_2
 obtain ⟨cl13, Ar13, -, Sz13, Nn13, -, -⟩ := av13
 refine Go.by (X12.arraylength hx (by rw [e12]; exact Ar13.1) (State.isArrayOf_alike hZ.alike Ar13.2.1) (g := (mkF m 20 #[(vR a1), (vI 0), (vI 1), (vI 1), (vR b12)] [(.ref a1), (.int 0), (.ref b12), (.int 0), (.ref a1)])) rfl rfl (hb hby dj65_133_20)) ?_
 rw [len_of Sz13 Nn13]
 show oG p e below P m T12 21 #[(vR a1), (vI 0), (vI 1), (vI 1), (vR b12)] [(.int 5), (.int 0), (.ref b12), (.int 0), (.ref a1)]
 refine iA X12 hx hby dj65_133_21 rfl ?_
 refine iM X12 hx hby dj65_133_22 (v := 5) rfl ?_
 refine iA X12 hx hby dj65_133_23 rfl ?_
 refine c_stat 4 X12 hx hby hml hZ hown (tw_124 hw) (tw_72 hw) (tw_73 hw) (tw_74 hw) (rm_min l Z a0 hw [] (5 : Int32) (1 : Int32) (1 : Int32) h12 n0 f12_0 (by decide)) e12 dj65_133_24 [(.int 5), (.int 1)] [(.int 0), (.ref b12), (.int 0), (.ref a1)] (lenOf pd1 rfl) rfl rfl (by rfl) (by decide) ?_
 rintro _ T14 Lc14 ⟨rfl, N14q, q14⟩ X14
 have N14 := Fr.app N11 N14q
 obtain ⟨T15, h15, Lc15, X15, e15, N15, K15, V15, st15⟩ := cpA X14 hx hZ hown (tw_125 hw) (tw_128 hw) (tw_126 hw) (tw_127 hw) q14 f12_2 V12 (us := [(.int x0)]) (Or.inl ⟨rfl, rfl⟩) (by decide) (by decide) (by decide) (by decide) (by decide) rfl (by decide) N14 g_b12 (g := (mkF m 27 #[(vR a1), (vI 0), (vI 1), (vI 1), (vR b12)] [(.int 1), (.int 0), (.ref b12), (.int 0), (.ref a1)])) rfl (by rw [hml]; rfl) rfl (hb hby dj65_133_27) (by decide) (W := 0) (by show 2 * 0 + _ ≤ _; exact Nat.le_of_eq rfl) (by decide)
 have V15' : Arv Z h15 b12 k12 .byte (1 : Int32) [(.int x0)] (.int 0) := V15
 have f15_0 := Nat.le_trans f12_0 K15.1
 have f15_1 := Keep.trans f12_1 K15 (allS (Or.inr sz_b12) all0)
 have f15_2 := Arv.keep f12_2 K15 (ninS ne_a1_b12 nin0)
 refine Go.by st15 ?_
 show oG p e below P m T15 30 #[(vR a1), (vI 0), (vI 1), (vI 1), (vR b12)] []
 refine aB X15 hx hby dj65_133_30 rfl rfl ?_
 refine r_val hP hlk hret X15 hx hby dj65_133_32 rfl (Or.inr (Or.inr (Or.inr (Or.inr ⟨rfl, rfl, rfl⟩)))) (by decide) ?_
 rw [e15]
 exact ⟨b12, k12, rfl, N15, f15_1, sz_b12, V15'⟩
def Q_cor5_1 (Z : State) (a1 : Addr) (k1 : ClassId) (x0 x1 x2 x3 x4 : Int32) (h0 : Heap) (n0 : Nat) (v : Option Value) (h : Heap) (L : List Loc) : Prop := ∃ b k, v = some (.ref b) ∧ Fr n0 L ∧ Keep h0 h [] ∧ h0.size ≤ b ∧ Arv Z h b k .byte (1 : Int32) [(.int x0)] (.int 0)
theorem rm_cor5_1 (l : Launch) (Z : State) (a0 : Array Value) (hw : oW a0 Z) (ws : List Jvm.Cond) (a1 : Addr) (k1 : ClassId) (x0 x1 x2 x3 x4 : Int32) (h0 : Heap) (n0 : Nat) (Z0 : n0 ≤ h0.size) (V1 : Arv Z h0 a1 k1 .byte (5 : Int32) [(.int x0), (.int x1), (.int x2), (.int x3), (.int x4)] (.int 0)) :
   oM l oY13 j65_132 3 (some (.array .byte)) ws (own_R 2 1 1 48) #[(.ref a1), (.int 0), (.int 1)] Z h0 (Q_cor5_1 Z a1 k1 x0 x1 x2 x3 x4 h0 n0) := by
 refine own_open (n0 := n0) (cn := "java/util/Arrays") rfl (plainFor_of_name pn3) (L0 := #[(vR a1), (vI 0), (vI 1)]) (fun _ => by first | (simp [entryFrame, mkF, argsToLocals, Value.category]; done) | rfl) ?_
 intro p e s m below meth c s₁ P hx hby hml hown hnm X0 e0 N0 hlk hret hZ hP
 refine iA X0 hx hby dj65_132_0 rfl ?_
 refine fN X0 hx hby dj65_132_1 (XT.i0_ne_f (by decide : (0 : Int32) = (0 : Int32))) ?_
 refine iA X0 hx hby dj65_132_4 rfl ?_
 refine aA X0 hx hby dj65_132_5 rfl rfl ?_
 have av11 := V1
 obtain ⟨cl11, Ar11, -, Sz11, Nn11, -, -⟩ := av11
 refine Go.by (X0.arraylength hx (by rw [e0]; exact Ar11.1) (State.isArrayOf_alike hZ.alike Ar11.2.1) (g := (mkF m 6 #[(vR a1), (vI 0), (vI 1)] [(.ref a1), (.int 1)])) rfl rfl (hb hby dj65_132_6)) ?_
 rw [len_of Sz11 Nn11]
 show oG p e below P m s₁ 7 #[(vR a1), (vI 0), (vI 1)] [(.int 5), (.int 1)]
 refine cN X0 hx hby dj65_132_7 (XT.ii_eq_f (by decide : ¬ (1 : Int32) = (5 : Int32))) ?_
 refine aA X0 hx hby dj65_132_10 rfl rfl ?_
 refine iA X0 hx hby dj65_132_11 rfl ?_
 refine iA X0 hx hby dj65_132_12 rfl ?_
 refine c_stat 0 X0 hx hby hml hZ hown (tw_118 hw) (tw_119 hw) (tw_116 hw) (tw_120 hw) (rm_corb5_1 l Z a0 hw [] a1 k1 x0 x1 x2 x3 x4 h0 n0 Z0 V1) e0 dj65_132_13 [(.ref a1), (.int 0), (.int 1)] [] (lenOf pd5 rfl) rfl rfl (by rfl) (by decide) ?_
 rintro _ T12 Lc12 ⟨d12, kd12, rfl, N12q, K12, z12, V12⟩ X12
 have N12 := Fr.app N0 N12q
 have f12_0 := Nat.le_trans Z0 K12.1
 have f12_1 := Keep.trans (Keep.refl h0 []) K12 all0
 have f12_2 := Arv.keep V1 K12 nin0
 have g_d12 : n0 ≤ d12 := Nat.le_trans Z0 z12
 have sz_d12 : h0.size ≤ d12 := Nat.le_trans (Keep.refl h0 []).1 z12
 have nea1d12 : a1 ≠ d12 := Nat.ne_of_lt (Nat.lt_of_lt_of_le (V1.lt) z12)
 refine r_val hP hlk hret X12 hx hby dj65_132_16 rfl (Or.inr (Or.inr (Or.inr (Or.inr ⟨rfl, rfl, rfl⟩)))) (by decide) ?_
 exact ⟨d12, kd12, rfl, N12, f12_1, sz_d12, V12⟩
def Q_news5_1 (Z : State) (a1 : Addr) (k1 : ClassId) (x0 x1 x2 x3 x4 : Int32) (h0 : Heap) (n0 : Nat) (v : Option Value) (h : Heap) (L : List Loc) : Prop := ∃ b, v = some (.ref b) ∧ Fr n0 L ∧ Keep h0 h [] ∧ StrV Z h b [x0]
theorem rm_news5_1 (l : Launch) (Z : State) (a0 : Array Value) (hw : oW a0 Z) (ws : List Jvm.Cond) (a1 : Addr) (k1 : ClassId) (x0 x1 x2 x3 x4 : Int32) (h0 : Heap) (n0 : Nat) (Z0 : n0 ≤ h0.size) (V1 : Arv Z h0 a1 k1 .byte (5 : Int32) [(.int x0), (.int x1), (.int x2), (.int x3), (.int x4)] (.int 0)) :
   oM l oY10 j43_47 3 (some (.object "java/lang/String")) ws (own_R 3 2 5 66) #[(.ref a1), (.int 0), (.int 1)] Z h0 (Q_news5_1 Z a1 k1 x0 x1 x2 x3 x4 h0 n0) := by
 refine own_open (n0 := n0) (cn := "java/lang/StringLatin1") rfl (plainFor_of_name pn1) (L0 := #[(vR a1), (vI 0), (vI 1)]) (fun _ => by first | (simp [entryFrame, mkF, argsToLocals, Value.category]; done) | rfl) ?_
 intro p e s m below meth c s₁ P hx hby hml hown hnm X0 e0 N0 hlk hret hZ hP
 refine iA X0 hx hby dj43_47_0 rfl ?_
 refine fY X0 hx hby dj43_47_1 (pc' := 7) (XT.i0_ne_t (by decide : ¬ (1 : Int32) = (0 : Int32))) (by decide) ?_
 obtain ⟨T11, h11, X11, e11, E11, A11, D11, U11, st11⟩ := newO X0 hx hZ hown (tw_113 hw) (tw_7 hw) (tw_8 hw) e0 (g := (mkF m 7 #[(vR a1), (vI 0), (vI 1)] [])) rfl (hb hby dj43_47_7) (by decide) (by decide)
 obtain ⟨b11, g11⟩ : ∃ z, z = h0.size := ⟨_, rfl⟩
 rw [← g11] at A11 D11 U11 st11
 have g_b11 : n0 ≤ b11 := Nat.le_trans Z0 (Nat.le_of_eq g11.symm)
 have sz_b11 : h0.size ≤ b11 := Nat.le_trans (Keep.refl h0 []).1 (Nat.le_of_eq g11.symm)
 have ne_a1_b11 : a1 ≠ b11 := Nat.ne_of_lt (Nat.lt_of_lt_of_le (V1.lt) (Nat.le_of_eq g11.symm))
 have f11_0 := Nat.le_trans Z0 E11.1
 have f11_1 := Keep.ext (Keep.refl h0 []) E11
 have f11_2 := Arv.ext V1 E11
 refine Go.by st11 ?_
 have F11_value : Fld Z h11 b11 "java/lang/String" "value" "[B" .null := D11 (Or.inr (tw_21 hw)) (ty := (.array .byte)) (by decide)
 have F11_coder : Fld Z h11 b11 "java/lang/String" "coder" "B" (.int 0) := D11 (Or.inr (tw_22 hw)) (ty := .byte) (by decide)
 show oG p e below P m T11 10 #[(vR a1), (vI 0), (vI 1)] [(.ref b11)]
 refine dU X11 hx hby dj43_47_10 rfl ?_
 refine aA X11 hx hby dj43_47_11 rfl rfl ?_
 refine iA X11 hx hby dj43_47_12 rfl ?_
 refine iA X11 hx hby dj43_47_13 rfl ?_
 refine iA X11 hx hby dj43_47_14 rfl ?_
 refine iP X11 hx hby dj43_47_15 (v := 1) rfl ?_
 refine c_stat 2 X11 hx hby hml hZ hown (tw_114 hw) (tw_115 hw) (tw_116 hw) (tw_117 hw) (rm_cor5_1 l Z a0 hw [] a1 k1 x0 x1 x2 x3 x4 h11 n0 f11_0 f11_2) e11 dj43_47_16 [(.ref a1), (.int 0), (.int 1)] [(.ref b11), (.ref b11)] (lenOf pd5 rfl) rfl rfl (by rfl) (by decide) ?_
 rintro _ T12 Lc12 ⟨d12, kd12, rfl, N12q, K12, z12, V12⟩ X12
 have N12 := Fr.app N0 N12q
 have f12_0 := Nat.le_trans f11_0 K12.1
 have f12_1 := Keep.trans f11_1 K12 all0
 have f12_2 := Arv.keep f11_2 K12 nin0
 have f12_3 := Exa.keep A11 K12
 have f12_4 := Fld.keep F11_value K12 nin0
 have f12_5 := Fld.keep F11_coder K12 nin0
 have g_d12 : n0 ≤ d12 := Nat.le_trans f11_0 z12
 have sz_d12 : h0.size ≤ d12 := Nat.le_trans f11_1.1 z12
 have nea1d12 : a1 ≠ d12 := Nat.ne_of_lt (Nat.lt_of_lt_of_le (f11_2.lt) z12)
 have neb11d12 : b11 ≠ d12 := Nat.ne_of_lt (Nat.lt_of_lt_of_le (A11.lt) z12)
 refine iC X12 hx hby dj43_47_19 (v := 0) rfl ?_
 obtain ⟨_, _, ⟨T13, L13, k13, n13⟩, -, X13, ⟨Lc13, hQ13, l13, y13, z13⟩, st13⟩ := X12.specialBack hx (y := oY24) rfl hown (mvT hZ (tw_129 hw)) (mvT hZ (tw_130 hw)) (mvT hZ (tw_131 hw)) (by decide) (backOf (W := 1) (rm_siBB l Z a0 hw [] b11 d12 T12.heap n0 f12_0 f12_3 g_b11 f12_5 f12_4) hZ (tw_131 hw) (tw_8 hw) (by decide) (by decide)) (g := (mkF m 20 #[(vR a1), (vI 0), (vI 1)] [(.int 0), (.ref d12), (.ref b11), (.ref b11)])) rfl (by rw [hml]; rfl) (Steps.refl _) (a := b11) (argsL := [(.ref d12), (.int 0)]) (rest := [(.ref b11)]) (lenOf pd15 rfl) rfl (by show 2 * 0 + _ ≤ _; exact Nat.le_of_eq rfl) (hb hby dj43_47_20) (fun _ _ => ⟨rfl, rfl, (by decide : 2 + 0 ≤ _), (by decide : 5 + 0 ≤ _)⟩)
 dsimp only [Pt.U, Pt.locs, Pt.cells, Pt.slots] at X13 l13 y13 z13 st13 hQ13
 subst l13 y13 z13
 obtain ⟨rfl, N13q, K13, G13_0, G13_1⟩ := hQ13
 have N13 := Fr.app N12 N13q
 refine Go.by (fun t k => st13.trans k) ?_
 have f13_0 := Nat.le_trans f12_0 K13.1
 have f13_1 := Keep.trans f12_1 K13 (allS (Or.inr sz_b11) all0)
 have f13_2 := Arv.keep f12_2 K13 (ninS ne_a1_b11 nin0)
 have f13_3 := Exa.keep f12_3 K13
 have f13_4 := Arv.keep V12 K13 (ninS (Ne.symm neb11d12) nin0)
 show oG p e below P m T13 23 #[(vR a1), (vI 0), (vI 1)] [(.ref b11)]
 refine r_val hP hlk hret X13 hx hby dj43_47_23 rfl (Or.inr (Or.inr (Or.inr (Or.inr ⟨rfl, rfl, rfl⟩)))) (by decide) ?_
 exact ⟨b11, rfl, N13, f13_1, ⟨d12, kd12, f13_3, G13_0, G13_1, f13_4⟩⟩
def Q_subs5_1 (Z : State) (a0_ : Addr) (x0 x1 x2 x3 x4 cs : Int32) (fm : Value) (h0 : Heap) (n0 : Nat) (v : Option Value) (h : Heap) (L : List Loc) : Prop := ∃ b, v = some (.ref b) ∧ Fr n0 L ∧ Keep h0 h [] ∧ StrV Z h b [x0]
theorem rm_subs5_1 (l : Launch) (Z : State) (a0 : Array Value) (hw : oW a0 Z) (ws : List Jvm.Cond) (a0_ : Addr) (x0 x1 x2 x3 x4 cs : Int32) (fm : Value) (h0 : Heap) (n0 : Nat) (Z0 : n0 ≤ h0.size) (O0 : Old Z n0 h0) (Scs : Sta Z Z.heap "java/lang/String" "COMPACT_STRINGS" "Z" (.int cs)) (hcs : ¬ cs = (0 : Int32)) (Sfm : Sta Z Z.heap "jdk/internal/util/Preconditions" "SIOOBE_FORMATTER" "Ljava/util/function/BiFunction;" fm) (hfm : fm.isRef = true) (S0 : StrV Z h0 a0_ [x0, x1, x2, x3, x4]) :
   oM l oY1 j42_92 5 (some (.object "java/lang/String")) ws (own_R 4 2 5 82) #[(.ref a0_), (.int 0), (.int 1)] Z h0 (Q_subs5_1 Z a0_ x0 x1 x2 x3 x4 cs fm h0 n0) := by
 refine own_open (n0 := n0) (cn := "java/lang/String") rfl (plainFor_of_name pn0) (L0 := #[(vR a0_), (vI 0), (vI 1), .unset, .unset]) (fun _ => by first | (simp [entryFrame, mkF, argsToLocals, Value.category]; done) | rfl) ?_
 intro p e s m below meth c s₁ P hx hby hml hown hnm X0 e0 N0 hlk hret hZ hP
 obtain ⟨d0, kd0, ES0, CS0, VS0, AS0⟩ := S0
 have AT0 : Arv Z h0 d0 kd0 .byte (5 : Int32) [(.int x0), (.int x1), (.int x2), (.int x3), (.int x4)] (.int 0) := AS0
 show oG p e below P m s₁ 0 #[(vR a0_), (vI 0), (vI 1), .unset, .unset] []
 refine aA X0 hx hby dj42_92_0 rfl rfl ?_
 refine c_virt 0 X0 hx hby hml hZ hown (tw_37 hw) (tw_38 hw) (tw_40 hw) (tw_39 hw) (tw_41 hw) (tw_8 hw) (rm_slen l Z a0 hw [] a0_ d0 kd0 (5 : Int32) [(.int x0), (.int x1), (.int x2), (.int x3), (.int x4)] cs h0 n0 Z0 O0 Scs hcs ES0 CS0 VS0 AT0) e0 ES0 dj42_92_1 [] [] (lenOf pd0 rfl) rfl rfl (by rfl) (by decide) ?_
 rintro _ T11 Lc11 ⟨rfl, N11q, q11⟩ X11
 have N11 := Fr.app N0 N11q
 refine iS X11 hx hby dj42_92_4 (l' := #[(vR a0_), (vI 0), (vI 1), (vI 5), .unset]) rfl ?_
 refine iA X11 hx hby dj42_92_5 rfl ?_
 refine iA X11 hx hby dj42_92_6 rfl ?_
 refine iA X11 hx hby dj42_92_7 rfl ?_
 refine c_stat 0 X11 hx hby hml hZ hown (tw_102 hw) (tw_103 hw) (tw_8 hw) (tw_104 hw) (rm_chkB l Z a0 hw [] (1 : Int32) (5 : Int32) fm h0 n0 Z0 O0 Sfm hfm (by decide) (by decide)) q11 dj42_92_8 [(.int 0), (.int 1), (.int 5)] [] (lenOf pd11 rfl) rfl rfl (by rfl) (by decide) ?_
 rintro _ T12 Lc12 ⟨rfl, N12q, q12⟩ X12
 have N12 := Fr.app N11 N12q
 refine iA X12 hx hby dj42_92_11 rfl ?_
 refine fN X12 hx hby dj42_92_12 (XT.i0_ne_f (by decide : (0 : Int32) = (0 : Int32))) ?_
 refine iA X12 hx hby dj42_92_15 rfl ?_
 refine iA X12 hx hby dj42_92_16 rfl ?_
 refine cY X12 hx hby dj42_92_17 (pc' := 22) (XT.ii_ne_t (by decide : ¬ (1 : Int32) = (5 : Int32))) (by decide) ?_
 refine iA X12 hx hby dj42_92_22 rfl ?_
 refine iA X12 hx hby dj42_92_23 rfl ?_
 refine iM X12 hx hby dj42_92_24 (v := 1) rfl ?_
 refine iT X12 hx hby dj42_92_25 (l' := #[(vR a0_), (vI 0), (vI 1), (vI 5), (vI 1)]) rfl ?_
 refine aA X12 hx hby dj42_92_27 rfl rfl ?_
 refine c_virt 0 X12 hx hby hml hZ hown (tw_59 hw) (tw_60 hw) (tw_62 hw) (tw_61 hw) (tw_63 hw) (tw_8 hw) (rm_isLat l Z a0 hw [] a0_ cs h0 n0 Z0 O0 Scs hcs CS0) q12 ES0 dj42_92_28 [] [] (lenOf pd4 rfl) rfl rfl (by rfl) (by decide) ?_
 rintro _ T13 Lc13 ⟨rfl, N13q, q13⟩ X13
 have N13 := Fr.app N12 N13q
 refine fN X13 hx hby dj42_92_31 (XT.i0_eq_f (by decide : ¬ (1 : Int32) = (0 : Int32))) ?_
 refine aA X13 hx hby dj42_92_34 rfl rfl ?_
 obtain ⟨T14, X14, e14, st14⟩ := getF X13 hx hZ hown (host := "") (Or.inl (tw_25 hw)) Via.refl q13 VS0 (g := (mkF m 35 #[(vR a0_), (vI 0), (vI 1), (vI 5), (vI 1)] [(.ref a0_)])) rfl rfl (hb hby dj42_92_35)
 refine Go.by st14 ?_
 show oG p e below P m T14 38 #[(vR a0_), (vI 0), (vI 1), (vI 5), (vI 1)] [(.ref d0)]
 refine iA X14 hx hby dj42_92_38 rfl ?_
 refine iB X14 hx hby dj42_92_39 rfl ?_
 refine c_stat 0 X14 hx hby hml hZ hown (tw_110 hw) (tw_111 hw) (tw_66 hw) (tw_112 hw) (rm_news5_1 l Z a0 hw [] d0 kd0 x0 x1 x2 x3 x4 h0 n0 Z0 AT0) e14 dj42_92_41 [(.ref d0), (.int 0), (.int 1)] [] (lenOf pd12 rfl) rfl rfl (by rfl) (by decide) ?_
 rintro _ T15 Lc15 ⟨b15, rfl, N15q, K15, S15⟩ X15
 have N15 := Fr.app N13 N15q
 have f15_0 := Nat.le_trans Z0 K15.1
 have f15_1 := Keep.trans (Keep.refl h0 []) K15 all0
 have f15_2 := Old.keep O0 K15 all0
 have f15_3 := Exa.keep ES0 K15
 have f15_4 := Fld.keep CS0 K15 nin0
 have f15_5 := Fld.keep VS0 K15 nin0
 have f15_6 := Arv.keep AT0 K15 nin0
 refine gO X15 hx hby dj42_92_44 (pc' := 57) (by decide) ?_
 refine r_val hP hlk hret X15 hx hby dj42_92_57 rfl (Or.inr (Or.inr (Or.inr (Or.inr ⟨rfl, rfl, rfl⟩)))) (by decide) ?_
 exact ⟨b15, rfl, N15, f15_1, S15⟩
def Q_corb5_2 (Z : State) (a1 : Addr) (k1 : ClassId) (x0 x1 x2 x3 x4 : Int32) (h0 : Heap) (n0 : Nat) (v : Option Value) (h : Heap) (L : List Loc) : Prop := ∃ b k, v = some (.ref b) ∧ Fr n0 L ∧ Keep h0 h [] ∧ h0.size ≤ b ∧ Arv Z h b k .byte (2 : Int32) [(.int x0), (.int x1)] (.int 0)
theorem rm_corb5_2 (l : Launch) (Z : State) (a0 : Array Value) (hw : oW a0 Z) (ws : List Jvm.Cond) (a1 : Addr) (k1 : ClassId) (x0 x1 x2 x3 x4 : Int32) (h0 : Heap) (n0 : Nat) (Z0 : n0 ≤ h0.size) (V1 : Arv Z h0 a1 k1 .byte (5 : Int32) [(.int x0), (.int x1), (.int x2), (.int x3), (.int x4)] (.int 0)) :
   oM l oY12 j65_133 5 (some (.array .byte)) ws (own_R 1 1 2 30) #[(.ref a1), (.int 0), (.int 2)] Z h0 (Q_corb5_2 Z a1 k1 x0 x1 x2 x3 x4 h0 n0) := by
 refine own_open (n0 := n0) (cn := "java/util/Arrays") rfl (plainFor_of_name pn3) (L0 := #[(vR a1), (vI 0), (vI 2), .unset, .unset]) (fun _ => by first | (simp [entryFrame, mkF, argsToLocals, Value.category]; done) | rfl) ?_
 intro p e s m below meth c s₁ P hx hby hml hown hnm X0 e0 N0 hlk hret hZ hP
 refine iA X0 hx hby dj65_133_0 rfl ?_
 refine iA X0 hx hby dj65_133_1 rfl ?_
 refine c_stat 0 X0 hx hby hml hZ hown (tw_121 hw) (tw_122 hw) (tw_116 hw) (tw_123 hw) (rm_chkLen l Z a0 hw [] (2 : Int32) h0 n0 Z0 (by decide)) e0 dj65_133_2 [(.int 0), (.int 2)] [] (lenOf pd10 rfl) rfl rfl (by rfl) (by decide) ?_
 rintro _ T11 Lc11 ⟨rfl, N11q, q11⟩ X11
 have N11 := Fr.app N0 N11q
 refine iA X11 hx hby dj65_133_5 rfl ?_
 refine iA X11 hx hby dj65_133_6 rfl ?_
 refine iM X11 hx hby dj65_133_7 (v := 2) rfl ?_
 refine iS X11 hx hby dj65_133_8 (l' := #[(vR a1), (vI 0), (vI 2), (vI 2), .unset]) rfl ?_
 refine iA X11 hx hby dj65_133_9 rfl ?_
 obtain ⟨T12, h12, k12, X12, e12, E12, A12, st12⟩ := newP X11 hx hZ (aty := .byte) (tw_20 hw) q11 (g := (mkF m 10 #[(vR a1), (vI 0), (vI 2), (vI 2), .unset] [(.int 2)])) rfl (hb hby dj65_133_10) rfl (by decide) (cap := 2) (by decide) (by decide) (by decide) (by decide)
 obtain ⟨b12, g12⟩ : ∃ z, z = h0.size := ⟨_, rfl⟩
 rw [← g12] at A12 st12
 have g_b12 : n0 ≤ b12 := Nat.le_trans Z0 (Nat.le_of_eq g12.symm)
 have sz_b12 : h0.size ≤ b12 := Nat.le_trans (Keep.refl h0 []).1 (Nat.le_of_eq g12.symm)
 have ne_a1_b12 : a1 ≠ b12 := Nat.ne_of_lt (Nat.lt_of_lt_of_le (V1.lt) (Nat.le_of_eq g12.symm))
 have f12_0 := Nat.le_trans Z0 E12.1
 have f12_1 := Keep.ext (Keep.refl h0 []) E12
 have f12_2 := Arv.ext V1 E12
 refine Go.by st12 ?_
 have V12 : Arv Z h12 b12 k12 .byte (2 : Int32) [(.int 0), (.int 0)] (.int 0) := (Arv.new A12 (by decide)).pad (pad_rep [] (.int 0) 2)
 show oG p e below P m T12 12 #[(vR a1), (vI 0), (vI 2), (vI 2), .unset] [(.ref b12)]
 refine aT X12 hx hby dj65_133_12 rfl (l' := #[(vR a1), (vI 0), (vI 2), (vI 2), (vR b12)]) rfl ?_
 refine aA X12 hx hby dj65_133_14 rfl rfl ?_
 refine iA X12 hx hby dj65_133_15 rfl ?_
 refine aB X12 hx hby dj65_133_16 rfl rfl ?_
 refine iC X12 hx hby dj65_133_18 (v := 0) rfl ?_
 refine aA X12 hx hby dj65_133_19 rfl rfl ?_
 have av13 := f12_2
 obtain ⟨cl13, Ar13, -, Sz13, Nn13, -, -⟩ := av13
 refine Go.by (X12.arraylength hx (by rw [e12]; exact Ar13.1) (State.isArrayOf_alike hZ.alike Ar13.2.1) (g := (mkF m 20 #[(vR a1), (vI 0), (vI 2), (vI 2), (vR b12)] [(.ref a1), (.int 0), (.ref b12), (.int 0), (.ref a1)])) rfl rfl (hb hby dj65_133_20)) ?_
 rw [len_of Sz13 Nn13]
 show oG p e below P m T12 21 #[(vR a1), (vI 0), (vI 2), (vI 2), (vR b12)] [(.int 5), (.int 0), (.ref b12), (.int 0), (.ref a1)]
 refine iA X12 hx hby dj65_133_21 rfl ?_
 refine iM X12 hx hby dj65_133_22 (v := 5) rfl ?_
 refine iA X12 hx hby dj65_133_23 rfl ?_
 refine c_stat 4 X12 hx hby hml hZ hown (tw_124 hw) (tw_72 hw) (tw_73 hw) (tw_74 hw) (rm_min l Z a0 hw [] (5 : Int32) (2 : Int32) (2 : Int32) h12 n0 f12_0 (by decide)) e12 dj65_133_24 [(.int 5), (.int 2)] [(.int 0), (.ref b12), (.int 0), (.ref a1)] (lenOf pd1 rfl) rfl rfl (by rfl) (by decide) ?_
 rintro _ T14 Lc14 ⟨rfl, N14q, q14⟩ X14
 have N14 := Fr.app N11 N14q
 obtain ⟨T15, h15, Lc15, X15, e15, N15, K15, V15, st15⟩ := cpA X14 hx hZ hown (tw_125 hw) (tw_128 hw) (tw_126 hw) (tw_127 hw) q14 f12_2 V12 (us := [(.int x0), (.int x1)]) (Or.inl ⟨rfl, rfl⟩) (by decide) (by decide) (by decide) (by decide) (by decide) rfl (by decide) N14 g_b12 (g := (mkF m 27 #[(vR a1), (vI 0), (vI 2), (vI 2), (vR b12)] [(.int 2), (.int 0), (.ref b12), (.int 0), (.ref a1)])) rfl (by rw [hml]; rfl) rfl (hb hby dj65_133_27) (by decide) (W := 0) (by show 2 * 0 + _ ≤ _; exact Nat.le_of_eq rfl) (by decide)
 have V15' : Arv Z h15 b12 k12 .byte (2 : Int32) [(.int x0), (.int x1)] (.int 0) := V15
 have f15_0 := Nat.le_trans f12_0 K15.1
 have f15_1 := Keep.trans f12_1 K15 (allS (Or.inr sz_b12) all0)
 have f15_2 := Arv.keep f12_2 K15 (ninS ne_a1_b12 nin0)
 refine Go.by st15 ?_
 show oG p e below P m T15 30 #[(vR a1), (vI 0), (vI 2), (vI 2), (vR b12)] []
 refine aB X15 hx hby dj65_133_30 rfl rfl ?_
 refine r_val hP hlk hret X15 hx hby dj65_133_32 rfl (Or.inr (Or.inr (Or.inr (Or.inr ⟨rfl, rfl, rfl⟩)))) (by decide) ?_
 rw [e15]
 exact ⟨b12, k12, rfl, N15, f15_1, sz_b12, V15'⟩
def Q_cor5_2 (Z : State) (a1 : Addr) (k1 : ClassId) (x0 x1 x2 x3 x4 : Int32) (h0 : Heap) (n0 : Nat) (v : Option Value) (h : Heap) (L : List Loc) : Prop := ∃ b k, v = some (.ref b) ∧ Fr n0 L ∧ Keep h0 h [] ∧ h0.size ≤ b ∧ Arv Z h b k .byte (2 : Int32) [(.int x0), (.int x1)] (.int 0)
theorem rm_cor5_2 (l : Launch) (Z : State) (a0 : Array Value) (hw : oW a0 Z) (ws : List Jvm.Cond) (a1 : Addr) (k1 : ClassId) (x0 x1 x2 x3 x4 : Int32) (h0 : Heap) (n0 : Nat) (Z0 : n0 ≤ h0.size) (V1 : Arv Z h0 a1 k1 .byte (5 : Int32) [(.int x0), (.int x1), (.int x2), (.int x3), (.int x4)] (.int 0)) :
   oM l oY13 j65_132 3 (some (.array .byte)) ws (own_R 2 1 2 48) #[(.ref a1), (.int 0), (.int 2)] Z h0 (Q_cor5_2 Z a1 k1 x0 x1 x2 x3 x4 h0 n0) := by
 refine own_open (n0 := n0) (cn := "java/util/Arrays") rfl (plainFor_of_name pn3) (L0 := #[(vR a1), (vI 0), (vI 2)]) (fun _ => by first | (simp [entryFrame, mkF, argsToLocals, Value.category]; done) | rfl) ?_
 intro p e s m below meth c s₁ P hx hby hml hown hnm X0 e0 N0 hlk hret hZ hP
 refine iA X0 hx hby dj65_132_0 rfl ?_
 refine fN X0 hx hby dj65_132_1 (XT.i0_ne_f (by decide : (0 : Int32) = (0 : Int32))) ?_
 refine iA X0 hx hby dj65_132_4 rfl ?_
 refine aA X0 hx hby dj65_132_5 rfl rfl ?_
 have av11 := V1
 obtain ⟨cl11, Ar11, -, Sz11, Nn11, -, -⟩ := av11
 refine Go.by (X0.arraylength hx (by rw [e0]; exact Ar11.1) (State.isArrayOf_alike hZ.alike Ar11.2.1) (g := (mkF m 6 #[(vR a1), (vI 0), (vI 2)] [(.ref a1), (.int 2)])) rfl rfl (hb hby dj65_132_6)) ?_
 rw [len_of Sz11 Nn11]
 show oG p e below P m s₁ 7 #[(vR a1), (vI 0), (vI 2)] [(.int 5), (.int 2)]
 refine cN X0 hx hby dj65_132_7 (XT.ii_eq_f (by decide : ¬ (2 : Int32) = (5 : Int32))) ?_
 refine aA X0 hx hby dj65_132_10 rfl rfl ?_
 refine iA X0 hx hby dj65_132_11 rfl ?_
 refine iA X0 hx hby dj65_132_12 rfl ?_
 refine c_stat 0 X0 hx hby hml hZ hown (tw_118 hw) (tw_119 hw) (tw_116 hw) (tw_120 hw) (rm_corb5_2 l Z a0 hw [] a1 k1 x0 x1 x2 x3 x4 h0 n0 Z0 V1) e0 dj65_132_13 [(.ref a1), (.int 0), (.int 2)] [] (lenOf pd5 rfl) rfl rfl (by rfl) (by decide) ?_
 rintro _ T12 Lc12 ⟨d12, kd12, rfl, N12q, K12, z12, V12⟩ X12
 have N12 := Fr.app N0 N12q
 have f12_0 := Nat.le_trans Z0 K12.1
 have f12_1 := Keep.trans (Keep.refl h0 []) K12 all0
 have f12_2 := Arv.keep V1 K12 nin0
 have g_d12 : n0 ≤ d12 := Nat.le_trans Z0 z12
 have sz_d12 : h0.size ≤ d12 := Nat.le_trans (Keep.refl h0 []).1 z12
 have nea1d12 : a1 ≠ d12 := Nat.ne_of_lt (Nat.lt_of_lt_of_le (V1.lt) z12)
 refine r_val hP hlk hret X12 hx hby dj65_132_16 rfl (Or.inr (Or.inr (Or.inr (Or.inr ⟨rfl, rfl, rfl⟩)))) (by decide) ?_
 exact ⟨d12, kd12, rfl, N12, f12_1, sz_d12, V12⟩
def Q_news5_2 (Z : State) (a1 : Addr) (k1 : ClassId) (x0 x1 x2 x3 x4 : Int32) (h0 : Heap) (n0 : Nat) (v : Option Value) (h : Heap) (L : List Loc) : Prop := ∃ b, v = some (.ref b) ∧ Fr n0 L ∧ Keep h0 h [] ∧ StrV Z h b [x0, x1]
theorem rm_news5_2 (l : Launch) (Z : State) (a0 : Array Value) (hw : oW a0 Z) (ws : List Jvm.Cond) (a1 : Addr) (k1 : ClassId) (x0 x1 x2 x3 x4 : Int32) (h0 : Heap) (n0 : Nat) (Z0 : n0 ≤ h0.size) (V1 : Arv Z h0 a1 k1 .byte (5 : Int32) [(.int x0), (.int x1), (.int x2), (.int x3), (.int x4)] (.int 0)) :
   oM l oY10 j43_47 3 (some (.object "java/lang/String")) ws (own_R 3 2 6 66) #[(.ref a1), (.int 0), (.int 2)] Z h0 (Q_news5_2 Z a1 k1 x0 x1 x2 x3 x4 h0 n0) := by
 refine own_open (n0 := n0) (cn := "java/lang/StringLatin1") rfl (plainFor_of_name pn1) (L0 := #[(vR a1), (vI 0), (vI 2)]) (fun _ => by first | (simp [entryFrame, mkF, argsToLocals, Value.category]; done) | rfl) ?_
 intro p e s m below meth c s₁ P hx hby hml hown hnm X0 e0 N0 hlk hret hZ hP
 refine iA X0 hx hby dj43_47_0 rfl ?_
 refine fY X0 hx hby dj43_47_1 (pc' := 7) (XT.i0_ne_t (by decide : ¬ (2 : Int32) = (0 : Int32))) (by decide) ?_
 obtain ⟨T11, h11, X11, e11, E11, A11, D11, U11, st11⟩ := newO X0 hx hZ hown (tw_113 hw) (tw_7 hw) (tw_8 hw) e0 (g := (mkF m 7 #[(vR a1), (vI 0), (vI 2)] [])) rfl (hb hby dj43_47_7) (by decide) (by decide)
 obtain ⟨b11, g11⟩ : ∃ z, z = h0.size := ⟨_, rfl⟩
 rw [← g11] at A11 D11 U11 st11
 have g_b11 : n0 ≤ b11 := Nat.le_trans Z0 (Nat.le_of_eq g11.symm)
 have sz_b11 : h0.size ≤ b11 := Nat.le_trans (Keep.refl h0 []).1 (Nat.le_of_eq g11.symm)
 have ne_a1_b11 : a1 ≠ b11 := Nat.ne_of_lt (Nat.lt_of_lt_of_le (V1.lt) (Nat.le_of_eq g11.symm))
 have f11_0 := Nat.le_trans Z0 E11.1
 have f11_1 := Keep.ext (Keep.refl h0 []) E11
 have f11_2 := Arv.ext V1 E11
 refine Go.by st11 ?_
 have F11_value : Fld Z h11 b11 "java/lang/String" "value" "[B" .null := D11 (Or.inr (tw_21 hw)) (ty := (.array .byte)) (by decide)
 have F11_coder : Fld Z h11 b11 "java/lang/String" "coder" "B" (.int 0) := D11 (Or.inr (tw_22 hw)) (ty := .byte) (by decide)
 show oG p e below P m T11 10 #[(vR a1), (vI 0), (vI 2)] [(.ref b11)]
 refine dU X11 hx hby dj43_47_10 rfl ?_
 refine aA X11 hx hby dj43_47_11 rfl rfl ?_
 refine iA X11 hx hby dj43_47_12 rfl ?_
 refine iA X11 hx hby dj43_47_13 rfl ?_
 refine iA X11 hx hby dj43_47_14 rfl ?_
 refine iP X11 hx hby dj43_47_15 (v := 2) rfl ?_
 refine c_stat 2 X11 hx hby hml hZ hown (tw_114 hw) (tw_115 hw) (tw_116 hw) (tw_117 hw) (rm_cor5_2 l Z a0 hw [] a1 k1 x0 x1 x2 x3 x4 h11 n0 f11_0 f11_2) e11 dj43_47_16 [(.ref a1), (.int 0), (.int 2)] [(.ref b11), (.ref b11)] (lenOf pd5 rfl) rfl rfl (by rfl) (by decide) ?_
 rintro _ T12 Lc12 ⟨d12, kd12, rfl, N12q, K12, z12, V12⟩ X12
 have N12 := Fr.app N0 N12q
 have f12_0 := Nat.le_trans f11_0 K12.1
 have f12_1 := Keep.trans f11_1 K12 all0
 have f12_2 := Arv.keep f11_2 K12 nin0
 have f12_3 := Exa.keep A11 K12
 have f12_4 := Fld.keep F11_value K12 nin0
 have f12_5 := Fld.keep F11_coder K12 nin0
 have g_d12 : n0 ≤ d12 := Nat.le_trans f11_0 z12
 have sz_d12 : h0.size ≤ d12 := Nat.le_trans f11_1.1 z12
 have nea1d12 : a1 ≠ d12 := Nat.ne_of_lt (Nat.lt_of_lt_of_le (f11_2.lt) z12)
 have neb11d12 : b11 ≠ d12 := Nat.ne_of_lt (Nat.lt_of_lt_of_le (A11.lt) z12)
 refine iC X12 hx hby dj43_47_19 (v := 0) rfl ?_
 obtain ⟨_, _, ⟨T13, L13, k13, n13⟩, -, X13, ⟨Lc13, hQ13, l13, y13, z13⟩, st13⟩ := X12.specialBack hx (y := oY24) rfl hown (mvT hZ (tw_129 hw)) (mvT hZ (tw_130 hw)) (mvT hZ (tw_131 hw)) (by decide) (backOf (W := 1) (rm_siBB l Z a0 hw [] b11 d12 T12.heap n0 f12_0 f12_3 g_b11 f12_5 f12_4) hZ (tw_131 hw) (tw_8 hw) (by decide) (by decide)) (g := (mkF m 20 #[(vR a1), (vI 0), (vI 2)] [(.int 0), (.ref d12), (.ref b11), (.ref b11)])) rfl (by rw [hml]; rfl) (Steps.refl _) (a := b11) (argsL := [(.ref d12), (.int 0)]) (rest := [(.ref b11)]) (lenOf pd15 rfl) rfl (by show 2 * 0 + _ ≤ _; exact Nat.le_of_eq rfl) (hb hby dj43_47_20) (fun _ _ => ⟨rfl, rfl, (by decide : 2 + 0 ≤ _), (by decide : 6 + 0 ≤ _)⟩)
 dsimp only [Pt.U, Pt.locs, Pt.cells, Pt.slots] at X13 l13 y13 z13 st13 hQ13
 subst l13 y13 z13
 obtain ⟨rfl, N13q, K13, G13_0, G13_1⟩ := hQ13
 have N13 := Fr.app N12 N13q
 refine Go.by (fun t k => st13.trans k) ?_
 have f13_0 := Nat.le_trans f12_0 K13.1
 have f13_1 := Keep.trans f12_1 K13 (allS (Or.inr sz_b11) all0)
 have f13_2 := Arv.keep f12_2 K13 (ninS ne_a1_b11 nin0)
 have f13_3 := Exa.keep f12_3 K13
 have f13_4 := Arv.keep V12 K13 (ninS (Ne.symm neb11d12) nin0)
 show oG p e below P m T13 23 #[(vR a1), (vI 0), (vI 2)] [(.ref b11)]
 refine r_val hP hlk hret X13 hx hby dj43_47_23 rfl (Or.inr (Or.inr (Or.inr (Or.inr ⟨rfl, rfl, rfl⟩)))) (by decide) ?_
 exact ⟨b11, rfl, N13, f13_1, ⟨d12, kd12, f13_3, G13_0, G13_1, f13_4⟩⟩
def Q_subs5_2 (Z : State) (a0_ : Addr) (x0 x1 x2 x3 x4 cs : Int32) (fm : Value) (h0 : Heap) (n0 : Nat) (v : Option Value) (h : Heap) (L : List Loc) : Prop := ∃ b, v = some (.ref b) ∧ Fr n0 L ∧ Keep h0 h [] ∧ StrV Z h b [x0, x1]
theorem rm_subs5_2 (l : Launch) (Z : State) (a0 : Array Value) (hw : oW a0 Z) (ws : List Jvm.Cond) (a0_ : Addr) (x0 x1 x2 x3 x4 cs : Int32) (fm : Value) (h0 : Heap) (n0 : Nat) (Z0 : n0 ≤ h0.size) (O0 : Old Z n0 h0) (Scs : Sta Z Z.heap "java/lang/String" "COMPACT_STRINGS" "Z" (.int cs)) (hcs : ¬ cs = (0 : Int32)) (Sfm : Sta Z Z.heap "jdk/internal/util/Preconditions" "SIOOBE_FORMATTER" "Ljava/util/function/BiFunction;" fm) (hfm : fm.isRef = true) (S0 : StrV Z h0 a0_ [x0, x1, x2, x3, x4]) :
   oM l oY1 j42_92 5 (some (.object "java/lang/String")) ws (own_R 4 2 6 82) #[(.ref a0_), (.int 0), (.int 2)] Z h0 (Q_subs5_2 Z a0_ x0 x1 x2 x3 x4 cs fm h0 n0) := by
 refine own_open (n0 := n0) (cn := "java/lang/String") rfl (plainFor_of_name pn0) (L0 := #[(vR a0_), (vI 0), (vI 2), .unset, .unset]) (fun _ => by first | (simp [entryFrame, mkF, argsToLocals, Value.category]; done) | rfl) ?_
 intro p e s m below meth c s₁ P hx hby hml hown hnm X0 e0 N0 hlk hret hZ hP
 obtain ⟨d0, kd0, ES0, CS0, VS0, AS0⟩ := S0
 have AT0 : Arv Z h0 d0 kd0 .byte (5 : Int32) [(.int x0), (.int x1), (.int x2), (.int x3), (.int x4)] (.int 0) := AS0
 show oG p e below P m s₁ 0 #[(vR a0_), (vI 0), (vI 2), .unset, .unset] []
 refine aA X0 hx hby dj42_92_0 rfl rfl ?_
 refine c_virt 0 X0 hx hby hml hZ hown (tw_37 hw) (tw_38 hw) (tw_40 hw) (tw_39 hw) (tw_41 hw) (tw_8 hw) (rm_slen l Z a0 hw [] a0_ d0 kd0 (5 : Int32) [(.int x0), (.int x1), (.int x2), (.int x3), (.int x4)] cs h0 n0 Z0 O0 Scs hcs ES0 CS0 VS0 AT0) e0 ES0 dj42_92_1 [] [] (lenOf pd0 rfl) rfl rfl (by rfl) (by decide) ?_
 rintro _ T11 Lc11 ⟨rfl, N11q, q11⟩ X11
 have N11 := Fr.app N0 N11q
 refine iS X11 hx hby dj42_92_4 (l' := #[(vR a0_), (vI 0), (vI 2), (vI 5), .unset]) rfl ?_
 refine iA X11 hx hby dj42_92_5 rfl ?_
 refine iA X11 hx hby dj42_92_6 rfl ?_
 refine iA X11 hx hby dj42_92_7 rfl ?_
 refine c_stat 0 X11 hx hby hml hZ hown (tw_102 hw) (tw_103 hw) (tw_8 hw) (tw_104 hw) (rm_chkB l Z a0 hw [] (2 : Int32) (5 : Int32) fm h0 n0 Z0 O0 Sfm hfm (by decide) (by decide)) q11 dj42_92_8 [(.int 0), (.int 2), (.int 5)] [] (lenOf pd11 rfl) rfl rfl (by rfl) (by decide) ?_
 rintro _ T12 Lc12 ⟨rfl, N12q, q12⟩ X12
 have N12 := Fr.app N11 N12q
 refine iA X12 hx hby dj42_92_11 rfl ?_
 refine fN X12 hx hby dj42_92_12 (XT.i0_ne_f (by decide : (0 : Int32) = (0 : Int32))) ?_
 refine iA X12 hx hby dj42_92_15 rfl ?_
 refine iA X12 hx hby dj42_92_16 rfl ?_
 refine cY X12 hx hby dj42_92_17 (pc' := 22) (XT.ii_ne_t (by decide : ¬ (2 : Int32) = (5 : Int32))) (by decide) ?_
 refine iA X12 hx hby dj42_92_22 rfl ?_
 refine iA X12 hx hby dj42_92_23 rfl ?_
 refine iM X12 hx hby dj42_92_24 (v := 2) rfl ?_
 refine iT X12 hx hby dj42_92_25 (l' := #[(vR a0_), (vI 0), (vI 2), (vI 5), (vI 2)]) rfl ?_
 refine aA X12 hx hby dj42_92_27 rfl rfl ?_
 refine c_virt 0 X12 hx hby hml hZ hown (tw_59 hw) (tw_60 hw) (tw_62 hw) (tw_61 hw) (tw_63 hw) (tw_8 hw) (rm_isLat l Z a0 hw [] a0_ cs h0 n0 Z0 O0 Scs hcs CS0) q12 ES0 dj42_92_28 [] [] (lenOf pd4 rfl) rfl rfl (by rfl) (by decide) ?_
 rintro _ T13 Lc13 ⟨rfl, N13q, q13⟩ X13
 have N13 := Fr.app N12 N13q
 refine fN X13 hx hby dj42_92_31 (XT.i0_eq_f (by decide : ¬ (1 : Int32) = (0 : Int32))) ?_
 refine aA X13 hx hby dj42_92_34 rfl rfl ?_
 obtain ⟨T14, X14, e14, st14⟩ := getF X13 hx hZ hown (host := "") (Or.inl (tw_25 hw)) Via.refl q13 VS0 (g := (mkF m 35 #[(vR a0_), (vI 0), (vI 2), (vI 5), (vI 2)] [(.ref a0_)])) rfl rfl (hb hby dj42_92_35)
 refine Go.by st14 ?_
 show oG p e below P m T14 38 #[(vR a0_), (vI 0), (vI 2), (vI 5), (vI 2)] [(.ref d0)]
 refine iA X14 hx hby dj42_92_38 rfl ?_
 refine iB X14 hx hby dj42_92_39 rfl ?_
 refine c_stat 0 X14 hx hby hml hZ hown (tw_110 hw) (tw_111 hw) (tw_66 hw) (tw_112 hw) (rm_news5_2 l Z a0 hw [] d0 kd0 x0 x1 x2 x3 x4 h0 n0 Z0 AT0) e14 dj42_92_41 [(.ref d0), (.int 0), (.int 2)] [] (lenOf pd12 rfl) rfl rfl (by rfl) (by decide) ?_
 rintro _ T15 Lc15 ⟨b15, rfl, N15q, K15, S15⟩ X15
 have N15 := Fr.app N13 N15q
 have f15_0 := Nat.le_trans Z0 K15.1
 have f15_1 := Keep.trans (Keep.refl h0 []) K15 all0
 have f15_2 := Old.keep O0 K15 all0
 have f15_3 := Exa.keep ES0 K15
 have f15_4 := Fld.keep CS0 K15 nin0
 have f15_5 := Fld.keep VS0 K15 nin0
 have f15_6 := Arv.keep AT0 K15 nin0
 refine gO X15 hx hby dj42_92_44 (pc' := 57) (by decide) ?_
 refine r_val hP hlk hret X15 hx hby dj42_92_57 rfl (Or.inr (Or.inr (Or.inr (Or.inr ⟨rfl, rfl, rfl⟩)))) (by decide) ?_
 exact ⟨b15, rfl, N15, f15_1, S15⟩
def Q_corb5_3 (Z : State) (a1 : Addr) (k1 : ClassId) (x0 x1 x2 x3 x4 : Int32) (h0 : Heap) (n0 : Nat) (v : Option Value) (h : Heap) (L : List Loc) : Prop := ∃ b k, v = some (.ref b) ∧ Fr n0 L ∧ Keep h0 h [] ∧ h0.size ≤ b ∧ Arv Z h b k .byte (3 : Int32) [(.int x0), (.int x1), (.int x2)] (.int 0)
theorem rm_corb5_3 (l : Launch) (Z : State) (a0 : Array Value) (hw : oW a0 Z) (ws : List Jvm.Cond) (a1 : Addr) (k1 : ClassId) (x0 x1 x2 x3 x4 : Int32) (h0 : Heap) (n0 : Nat) (Z0 : n0 ≤ h0.size) (V1 : Arv Z h0 a1 k1 .byte (5 : Int32) [(.int x0), (.int x1), (.int x2), (.int x3), (.int x4)] (.int 0)) :
   oM l oY12 j65_133 5 (some (.array .byte)) ws (own_R 1 1 3 30) #[(.ref a1), (.int 0), (.int 3)] Z h0 (Q_corb5_3 Z a1 k1 x0 x1 x2 x3 x4 h0 n0) := by
 refine own_open (n0 := n0) (cn := "java/util/Arrays") rfl (plainFor_of_name pn3) (L0 := #[(vR a1), (vI 0), (vI 3), .unset, .unset]) (fun _ => by first | (simp [entryFrame, mkF, argsToLocals, Value.category]; done) | rfl) ?_
 intro p e s m below meth c s₁ P hx hby hml hown hnm X0 e0 N0 hlk hret hZ hP
 refine iA X0 hx hby dj65_133_0 rfl ?_
 refine iA X0 hx hby dj65_133_1 rfl ?_
 refine c_stat 0 X0 hx hby hml hZ hown (tw_121 hw) (tw_122 hw) (tw_116 hw) (tw_123 hw) (rm_chkLen l Z a0 hw [] (3 : Int32) h0 n0 Z0 (by decide)) e0 dj65_133_2 [(.int 0), (.int 3)] [] (lenOf pd10 rfl) rfl rfl (by rfl) (by decide) ?_
 rintro _ T11 Lc11 ⟨rfl, N11q, q11⟩ X11
 have N11 := Fr.app N0 N11q
 refine iA X11 hx hby dj65_133_5 rfl ?_
 refine iA X11 hx hby dj65_133_6 rfl ?_
 refine iM X11 hx hby dj65_133_7 (v := 3) rfl ?_
 refine iS X11 hx hby dj65_133_8 (l' := #[(vR a1), (vI 0), (vI 3), (vI 3), .unset]) rfl ?_
 refine iA X11 hx hby dj65_133_9 rfl ?_
 obtain ⟨T12, h12, k12, X12, e12, E12, A12, st12⟩ := newP X11 hx hZ (aty := .byte) (tw_20 hw) q11 (g := (mkF m 10 #[(vR a1), (vI 0), (vI 3), (vI 3), .unset] [(.int 3)])) rfl (hb hby dj65_133_10) rfl (by decide) (cap := 3) (by decide) (by decide) (by decide) (by decide)
 obtain ⟨b12, g12⟩ : ∃ z, z = h0.size := ⟨_, rfl⟩
 rw [← g12] at A12 st12
 have g_b12 : n0 ≤ b12 := Nat.le_trans Z0 (Nat.le_of_eq g12.symm)
 have sz_b12 : h0.size ≤ b12 := Nat.le_trans (Keep.refl h0 []).1 (Nat.le_of_eq g12.symm)
 have ne_a1_b12 : a1 ≠ b12 := Nat.ne_of_lt (Nat.lt_of_lt_of_le (V1.lt) (Nat.le_of_eq g12.symm))
 have f12_0 := Nat.le_trans Z0 E12.1
 have f12_1 := Keep.ext (Keep.refl h0 []) E12
 have f12_2 := Arv.ext V1 E12
 refine Go.by st12 ?_
 have V12 : Arv Z h12 b12 k12 .byte (3 : Int32) [(.int 0), (.int 0), (.int 0)] (.int 0) := (Arv.new A12 (by decide)).pad (pad_rep [] (.int 0) 3)
 show oG p e below P m T12 12 #[(vR a1), (vI 0), (vI 3), (vI 3), .unset] [(.ref b12)]
 refine aT X12 hx hby dj65_133_12 rfl (l' := #[(vR a1), (vI 0), (vI 3), (vI 3), (vR b12)]) rfl ?_
 refine aA X12 hx hby dj65_133_14 rfl rfl ?_
 refine iA X12 hx hby dj65_133_15 rfl ?_
 refine aB X12 hx hby dj65_133_16 rfl rfl ?_
 refine iC X12 hx hby dj65_133_18 (v := 0) rfl ?_
 refine aA X12 hx hby dj65_133_19 rfl rfl ?_
 have av13 := f12_2
 obtain ⟨cl13, Ar13, -, Sz13, Nn13, -, -⟩ := av13
 refine Go.by (X12.arraylength hx (by rw [e12]; exact Ar13.1) (State.isArrayOf_alike hZ.alike Ar13.2.1) (g := (mkF m 20 #[(vR a1), (vI 0), (vI 3), (vI 3), (vR b12)] [(.ref a1), (.int 0), (.ref b12), (.int 0), (.ref a1)])) rfl rfl (hb hby dj65_133_20)) ?_
 rw [len_of Sz13 Nn13]
 show oG p e below P m T12 21 #[(vR a1), (vI 0), (vI 3), (vI 3), (vR b12)] [(.int 5), (.int 0), (.ref b12), (.int 0), (.ref a1)]
 refine iA X12 hx hby dj65_133_21 rfl ?_
 refine iM X12 hx hby dj65_133_22 (v := 5) rfl ?_
 refine iA X12 hx hby dj65_133_23 rfl ?_
 refine c_stat 4 X12 hx hby hml hZ hown (tw_124 hw) (tw_72 hw) (tw_73 hw) (tw_74 hw) (rm_min l Z a0 hw [] (5 : Int32) (3 : Int32) (3 : Int32) h12 n0 f12_0 (by decide)) e12 dj65_133_24 [(.int 5), (.int 3)] [(.int 0), (.ref b12), (.int 0), (.ref a1)] (lenOf pd1 rfl) rfl rfl (by rfl) (by decide) ?_
 rintro _ T14 Lc14 ⟨rfl, N14q, q14⟩ X14
 have N14 := Fr.app N11 N14q
 obtain ⟨T15, h15, Lc15, X15, e15, N15, K15, V15, st15⟩ := cpA X14 hx hZ hown (tw_125 hw) (tw_128 hw) (tw_126 hw) (tw_127 hw) q14 f12_2 V12 (us := [(.int x0), (.int x1), (.int x2)]) (Or.inl ⟨rfl, rfl⟩) (by decide) (by decide) (by decide) (by decide) (by decide) rfl (by decide) N14 g_b12 (g := (mkF m 27 #[(vR a1), (vI 0), (vI 3), (vI 3), (vR b12)] [(.int 3), (.int 0), (.ref b12), (.int 0), (.ref a1)])) rfl (by rw [hml]; rfl) rfl (hb hby dj65_133_27) (by decide) (W := 0) (by show 2 * 0 + _ ≤ _; exact Nat.le_of_eq rfl) (by decide)
 have V15' : Arv Z h15 b12 k12 .byte (3 : Int32) [(.int x0), (.int x1), (.int x2)] (.int 0) := V15
 have f15_0 := Nat.le_trans f12_0 K15.1
 have f15_1 := Keep.trans f12_1 K15 (allS (Or.inr sz_b12) all0)
 have f15_2 := Arv.keep f12_2 K15 (ninS ne_a1_b12 nin0)
 refine Go.by st15 ?_
 show oG p e below P m T15 30 #[(vR a1), (vI 0), (vI 3), (vI 3), (vR b12)] []
 refine aB X15 hx hby dj65_133_30 rfl rfl ?_
 refine r_val hP hlk hret X15 hx hby dj65_133_32 rfl (Or.inr (Or.inr (Or.inr (Or.inr ⟨rfl, rfl, rfl⟩)))) (by decide) ?_
 rw [e15]
 exact ⟨b12, k12, rfl, N15, f15_1, sz_b12, V15'⟩
def Q_cor5_3 (Z : State) (a1 : Addr) (k1 : ClassId) (x0 x1 x2 x3 x4 : Int32) (h0 : Heap) (n0 : Nat) (v : Option Value) (h : Heap) (L : List Loc) : Prop := ∃ b k, v = some (.ref b) ∧ Fr n0 L ∧ Keep h0 h [] ∧ h0.size ≤ b ∧ Arv Z h b k .byte (3 : Int32) [(.int x0), (.int x1), (.int x2)] (.int 0)
theorem rm_cor5_3 (l : Launch) (Z : State) (a0 : Array Value) (hw : oW a0 Z) (ws : List Jvm.Cond) (a1 : Addr) (k1 : ClassId) (x0 x1 x2 x3 x4 : Int32) (h0 : Heap) (n0 : Nat) (Z0 : n0 ≤ h0.size) (V1 : Arv Z h0 a1 k1 .byte (5 : Int32) [(.int x0), (.int x1), (.int x2), (.int x3), (.int x4)] (.int 0)) :
   oM l oY13 j65_132 3 (some (.array .byte)) ws (own_R 2 1 3 48) #[(.ref a1), (.int 0), (.int 3)] Z h0 (Q_cor5_3 Z a1 k1 x0 x1 x2 x3 x4 h0 n0) := by
 refine own_open (n0 := n0) (cn := "java/util/Arrays") rfl (plainFor_of_name pn3) (L0 := #[(vR a1), (vI 0), (vI 3)]) (fun _ => by first | (simp [entryFrame, mkF, argsToLocals, Value.category]; done) | rfl) ?_
 intro p e s m below meth c s₁ P hx hby hml hown hnm X0 e0 N0 hlk hret hZ hP
 refine iA X0 hx hby dj65_132_0 rfl ?_
 refine fN X0 hx hby dj65_132_1 (XT.i0_ne_f (by decide : (0 : Int32) = (0 : Int32))) ?_
 refine iA X0 hx hby dj65_132_4 rfl ?_
 refine aA X0 hx hby dj65_132_5 rfl rfl ?_
 have av11 := V1
 obtain ⟨cl11, Ar11, -, Sz11, Nn11, -, -⟩ := av11
 refine Go.by (X0.arraylength hx (by rw [e0]; exact Ar11.1) (State.isArrayOf_alike hZ.alike Ar11.2.1) (g := (mkF m 6 #[(vR a1), (vI 0), (vI 3)] [(.ref a1), (.int 3)])) rfl rfl (hb hby dj65_132_6)) ?_
 rw [len_of Sz11 Nn11]
 show oG p e below P m s₁ 7 #[(vR a1), (vI 0), (vI 3)] [(.int 5), (.int 3)]
 refine cN X0 hx hby dj65_132_7 (XT.ii_eq_f (by decide : ¬ (3 : Int32) = (5 : Int32))) ?_
 refine aA X0 hx hby dj65_132_10 rfl rfl ?_
 refine iA X0 hx hby dj65_132_11 rfl ?_
 refine iA X0 hx hby dj65_132_12 rfl ?_
 refine c_stat 0 X0 hx hby hml hZ hown (tw_118 hw) (tw_119 hw) (tw_116 hw) (tw_120 hw) (rm_corb5_3 l Z a0 hw [] a1 k1 x0 x1 x2 x3 x4 h0 n0 Z0 V1) e0 dj65_132_13 [(.ref a1), (.int 0), (.int 3)] [] (lenOf pd5 rfl) rfl rfl (by rfl) (by decide) ?_
 rintro _ T12 Lc12 ⟨d12, kd12, rfl, N12q, K12, z12, V12⟩ X12
 have N12 := Fr.app N0 N12q
 have f12_0 := Nat.le_trans Z0 K12.1
 have f12_1 := Keep.trans (Keep.refl h0 []) K12 all0
 have f12_2 := Arv.keep V1 K12 nin0
 have g_d12 : n0 ≤ d12 := Nat.le_trans Z0 z12
 have sz_d12 : h0.size ≤ d12 := Nat.le_trans (Keep.refl h0 []).1 z12
 have nea1d12 : a1 ≠ d12 := Nat.ne_of_lt (Nat.lt_of_lt_of_le (V1.lt) z12)
 refine r_val hP hlk hret X12 hx hby dj65_132_16 rfl (Or.inr (Or.inr (Or.inr (Or.inr ⟨rfl, rfl, rfl⟩)))) (by decide) ?_
 exact ⟨d12, kd12, rfl, N12, f12_1, sz_d12, V12⟩
def Q_news5_3 (Z : State) (a1 : Addr) (k1 : ClassId) (x0 x1 x2 x3 x4 : Int32) (h0 : Heap) (n0 : Nat) (v : Option Value) (h : Heap) (L : List Loc) : Prop := ∃ b, v = some (.ref b) ∧ Fr n0 L ∧ Keep h0 h [] ∧ StrV Z h b [x0, x1, x2]
theorem rm_news5_3 (l : Launch) (Z : State) (a0 : Array Value) (hw : oW a0 Z) (ws : List Jvm.Cond) (a1 : Addr) (k1 : ClassId) (x0 x1 x2 x3 x4 : Int32) (h0 : Heap) (n0 : Nat) (Z0 : n0 ≤ h0.size) (V1 : Arv Z h0 a1 k1 .byte (5 : Int32) [(.int x0), (.int x1), (.int x2), (.int x3), (.int x4)] (.int 0)) :
   oM l oY10 j43_47 3 (some (.object "java/lang/String")) ws (own_R 3 2 7 66) #[(.ref a1), (.int 0), (.int 3)] Z h0 (Q_news5_3 Z a1 k1 x0 x1 x2 x3 x4 h0 n0) := by
 refine own_open (n0 := n0) (cn := "java/lang/StringLatin1") rfl (plainFor_of_name pn1) (L0 := #[(vR a1), (vI 0), (vI 3)]) (fun _ => by first | (simp [entryFrame, mkF, argsToLocals, Value.category]; done) | rfl) ?_
 intro p e s m below meth c s₁ P hx hby hml hown hnm X0 e0 N0 hlk hret hZ hP
 refine iA X0 hx hby dj43_47_0 rfl ?_
 refine fY X0 hx hby dj43_47_1 (pc' := 7) (XT.i0_ne_t (by decide : ¬ (3 : Int32) = (0 : Int32))) (by decide) ?_
 obtain ⟨T11, h11, X11, e11, E11, A11, D11, U11, st11⟩ := newO X0 hx hZ hown (tw_113 hw) (tw_7 hw) (tw_8 hw) e0 (g := (mkF m 7 #[(vR a1), (vI 0), (vI 3)] [])) rfl (hb hby dj43_47_7) (by decide) (by decide)
 obtain ⟨b11, g11⟩ : ∃ z, z = h0.size := ⟨_, rfl⟩
 rw [← g11] at A11 D11 U11 st11
 have g_b11 : n0 ≤ b11 := Nat.le_trans Z0 (Nat.le_of_eq g11.symm)
 have sz_b11 : h0.size ≤ b11 := Nat.le_trans (Keep.refl h0 []).1 (Nat.le_of_eq g11.symm)
 have ne_a1_b11 : a1 ≠ b11 := Nat.ne_of_lt (Nat.lt_of_lt_of_le (V1.lt) (Nat.le_of_eq g11.symm))
 have f11_0 := Nat.le_trans Z0 E11.1
 have f11_1 := Keep.ext (Keep.refl h0 []) E11
 have f11_2 := Arv.ext V1 E11
 refine Go.by st11 ?_
 have F11_value : Fld Z h11 b11 "java/lang/String" "value" "[B" .null := D11 (Or.inr (tw_21 hw)) (ty := (.array .byte)) (by decide)
 have F11_coder : Fld Z h11 b11 "java/lang/String" "coder" "B" (.int 0) := D11 (Or.inr (tw_22 hw)) (ty := .byte) (by decide)
 show oG p e below P m T11 10 #[(vR a1), (vI 0), (vI 3)] [(.ref b11)]
 refine dU X11 hx hby dj43_47_10 rfl ?_
 refine aA X11 hx hby dj43_47_11 rfl rfl ?_
 refine iA X11 hx hby dj43_47_12 rfl ?_
 refine iA X11 hx hby dj43_47_13 rfl ?_
 refine iA X11 hx hby dj43_47_14 rfl ?_
 refine iP X11 hx hby dj43_47_15 (v := 3) rfl ?_
 refine c_stat 2 X11 hx hby hml hZ hown (tw_114 hw) (tw_115 hw) (tw_116 hw) (tw_117 hw) (rm_cor5_3 l Z a0 hw [] a1 k1 x0 x1 x2 x3 x4 h11 n0 f11_0 f11_2) e11 dj43_47_16 [(.ref a1), (.int 0), (.int 3)] [(.ref b11), (.ref b11)] (lenOf pd5 rfl) rfl rfl (by rfl) (by decide) ?_
 rintro _ T12 Lc12 ⟨d12, kd12, rfl, N12q, K12, z12, V12⟩ X12
 have N12 := Fr.app N0 N12q
 have f12_0 := Nat.le_trans f11_0 K12.1
 have f12_1 := Keep.trans f11_1 K12 all0
 have f12_2 := Arv.keep f11_2 K12 nin0
 have f12_3 := Exa.keep A11 K12
 have f12_4 := Fld.keep F11_value K12 nin0
 have f12_5 := Fld.keep F11_coder K12 nin0
 have g_d12 : n0 ≤ d12 := Nat.le_trans f11_0 z12
 have sz_d12 : h0.size ≤ d12 := Nat.le_trans f11_1.1 z12
 have nea1d12 : a1 ≠ d12 := Nat.ne_of_lt (Nat.lt_of_lt_of_le (f11_2.lt) z12)
 have neb11d12 : b11 ≠ d12 := Nat.ne_of_lt (Nat.lt_of_lt_of_le (A11.lt) z12)
 refine iC X12 hx hby dj43_47_19 (v := 0) rfl ?_
 obtain ⟨_, _, ⟨T13, L13, k13, n13⟩, -, X13, ⟨Lc13, hQ13, l13, y13, z13⟩, st13⟩ := X12.specialBack hx (y := oY24) rfl hown (mvT hZ (tw_129 hw)) (mvT hZ (tw_130 hw)) (mvT hZ (tw_131 hw)) (by decide) (backOf (W := 1) (rm_siBB l Z a0 hw [] b11 d12 T12.heap n0 f12_0 f12_3 g_b11 f12_5 f12_4) hZ (tw_131 hw) (tw_8 hw) (by decide) (by decide)) (g := (mkF m 20 #[(vR a1), (vI 0), (vI 3)] [(.int 0), (.ref d12), (.ref b11), (.ref b11)])) rfl (by rw [hml]; rfl) (Steps.refl _) (a := b11) (argsL := [(.ref d12), (.int 0)]) (rest := [(.ref b11)]) (lenOf pd15 rfl) rfl (by show 2 * 0 + _ ≤ _; exact Nat.le_of_eq rfl) (hb hby dj43_47_20) (fun _ _ => ⟨rfl, rfl, (by decide : 2 + 0 ≤ _), (by decide : 7 + 0 ≤ _)⟩)
 dsimp only [Pt.U, Pt.locs, Pt.cells, Pt.slots] at X13 l13 y13 z13 st13 hQ13
 subst l13 y13 z13
 obtain ⟨rfl, N13q, K13, G13_0, G13_1⟩ := hQ13
 have N13 := Fr.app N12 N13q
 refine Go.by (fun t k => st13.trans k) ?_
 have f13_0 := Nat.le_trans f12_0 K13.1
 have f13_1 := Keep.trans f12_1 K13 (allS (Or.inr sz_b11) all0)
 have f13_2 := Arv.keep f12_2 K13 (ninS ne_a1_b11 nin0)
 have f13_3 := Exa.keep f12_3 K13
 have f13_4 := Arv.keep V12 K13 (ninS (Ne.symm neb11d12) nin0)
 show oG p e below P m T13 23 #[(vR a1), (vI 0), (vI 3)] [(.ref b11)]
 refine r_val hP hlk hret X13 hx hby dj43_47_23 rfl (Or.inr (Or.inr (Or.inr (Or.inr ⟨rfl, rfl, rfl⟩)))) (by decide) ?_
 exact ⟨b11, rfl, N13, f13_1, ⟨d12, kd12, f13_3, G13_0, G13_1, f13_4⟩⟩
def Q_subs5_3 (Z : State) (a0_ : Addr) (x0 x1 x2 x3 x4 cs : Int32) (fm : Value) (h0 : Heap) (n0 : Nat) (v : Option Value) (h : Heap) (L : List Loc) : Prop := ∃ b, v = some (.ref b) ∧ Fr n0 L ∧ Keep h0 h [] ∧ StrV Z h b [x0, x1, x2]
theorem rm_subs5_3 (l : Launch) (Z : State) (a0 : Array Value) (hw : oW a0 Z) (ws : List Jvm.Cond) (a0_ : Addr) (x0 x1 x2 x3 x4 cs : Int32) (fm : Value) (h0 : Heap) (n0 : Nat) (Z0 : n0 ≤ h0.size) (O0 : Old Z n0 h0) (Scs : Sta Z Z.heap "java/lang/String" "COMPACT_STRINGS" "Z" (.int cs)) (hcs : ¬ cs = (0 : Int32)) (Sfm : Sta Z Z.heap "jdk/internal/util/Preconditions" "SIOOBE_FORMATTER" "Ljava/util/function/BiFunction;" fm) (hfm : fm.isRef = true) (S0 : StrV Z h0 a0_ [x0, x1, x2, x3, x4]) :
   oM l oY1 j42_92 5 (some (.object "java/lang/String")) ws (own_R 4 2 7 82) #[(.ref a0_), (.int 0), (.int 3)] Z h0 (Q_subs5_3 Z a0_ x0 x1 x2 x3 x4 cs fm h0 n0) := by
 refine own_open (n0 := n0) (cn := "java/lang/String") rfl (plainFor_of_name pn0) (L0 := #[(vR a0_), (vI 0), (vI 3), .unset, .unset]) (fun _ => by first | (simp [entryFrame, mkF, argsToLocals, Value.category]; done) | rfl) ?_
 intro p e s m below meth c s₁ P hx hby hml hown hnm X0 e0 N0 hlk hret hZ hP
 obtain ⟨d0, kd0, ES0, CS0, VS0, AS0⟩ := S0
 have AT0 : Arv Z h0 d0 kd0 .byte (5 : Int32) [(.int x0), (.int x1), (.int x2), (.int x3), (.int x4)] (.int 0) := AS0
 show oG p e below P m s₁ 0 #[(vR a0_), (vI 0), (vI 3), .unset, .unset] []
 refine aA X0 hx hby dj42_92_0 rfl rfl ?_
 refine c_virt 0 X0 hx hby hml hZ hown (tw_37 hw) (tw_38 hw) (tw_40 hw) (tw_39 hw) (tw_41 hw) (tw_8 hw) (rm_slen l Z a0 hw [] a0_ d0 kd0 (5 : Int32) [(.int x0), (.int x1), (.int x2), (.int x3), (.int x4)] cs h0 n0 Z0 O0 Scs hcs ES0 CS0 VS0 AT0) e0 ES0 dj42_92_1 [] [] (lenOf pd0 rfl) rfl rfl (by rfl) (by decide) ?_
 rintro _ T11 Lc11 ⟨rfl, N11q, q11⟩ X11
 have N11 := Fr.app N0 N11q
 refine iS X11 hx hby dj42_92_4 (l' := #[(vR a0_), (vI 0), (vI 3), (vI 5), .unset]) rfl ?_
 refine iA X11 hx hby dj42_92_5 rfl ?_
 refine iA X11 hx hby dj42_92_6 rfl ?_
 refine iA X11 hx hby dj42_92_7 rfl ?_
 refine c_stat 0 X11 hx hby hml hZ hown (tw_102 hw) (tw_103 hw) (tw_8 hw) (tw_104 hw) (rm_chkB l Z a0 hw [] (3 : Int32) (5 : Int32) fm h0 n0 Z0 O0 Sfm hfm (by decide) (by decide)) q11 dj42_92_8 [(.int 0), (.int 3), (.int 5)] [] (lenOf pd11 rfl) rfl rfl (by rfl) (by decide) ?_
 rintro _ T12 Lc12 ⟨rfl, N12q, q12⟩ X12
 have N12 := Fr.app N11 N12q
 refine iA X12 hx hby dj42_92_11 rfl ?_
 refine fN X12 hx hby dj42_92_12 (XT.i0_ne_f (by decide : (0 : Int32) = (0 : Int32))) ?_
 refine iA X12 hx hby dj42_92_15 rfl ?_
 refine iA X12 hx hby dj42_92_16 rfl ?_
 refine cY X12 hx hby dj42_92_17 (pc' := 22) (XT.ii_ne_t (by decide : ¬ (3 : Int32) = (5 : Int32))) (by decide) ?_
 refine iA X12 hx hby dj42_92_22 rfl ?_
 refine iA X12 hx hby dj42_92_23 rfl ?_
 refine iM X12 hx hby dj42_92_24 (v := 3) rfl ?_
 refine iT X12 hx hby dj42_92_25 (l' := #[(vR a0_), (vI 0), (vI 3), (vI 5), (vI 3)]) rfl ?_
 refine aA X12 hx hby dj42_92_27 rfl rfl ?_
 refine c_virt 0 X12 hx hby hml hZ hown (tw_59 hw) (tw_60 hw) (tw_62 hw) (tw_61 hw) (tw_63 hw) (tw_8 hw) (rm_isLat l Z a0 hw [] a0_ cs h0 n0 Z0 O0 Scs hcs CS0) q12 ES0 dj42_92_28 [] [] (lenOf pd4 rfl) rfl rfl (by rfl) (by decide) ?_
 rintro _ T13 Lc13 ⟨rfl, N13q, q13⟩ X13
 have N13 := Fr.app N12 N13q
 refine fN X13 hx hby dj42_92_31 (XT.i0_eq_f (by decide : ¬ (1 : Int32) = (0 : Int32))) ?_
 refine aA X13 hx hby dj42_92_34 rfl rfl ?_
 obtain ⟨T14, X14, e14, st14⟩ := getF X13 hx hZ hown (host := "") (Or.inl (tw_25 hw)) Via.refl q13 VS0 (g := (mkF m 35 #[(vR a0_), (vI 0), (vI 3), (vI 5), (vI 3)] [(.ref a0_)])) rfl rfl (hb hby dj42_92_35)
 refine Go.by st14 ?_
 show oG p e below P m T14 38 #[(vR a0_), (vI 0), (vI 3), (vI 5), (vI 3)] [(.ref d0)]
 refine iA X14 hx hby dj42_92_38 rfl ?_
 refine iB X14 hx hby dj42_92_39 rfl ?_
 refine c_stat 0 X14 hx hby hml hZ hown (tw_110 hw) (tw_111 hw) (tw_66 hw) (tw_112 hw) (rm_news5_3 l Z a0 hw [] d0 kd0 x0 x1 x2 x3 x4 h0 n0 Z0 AT0) e14 dj42_92_41 [(.ref d0), (.int 0), (.int 3)] [] (lenOf pd12 rfl) rfl rfl (by rfl) (by decide) ?_
 rintro _ T15 Lc15 ⟨b15, rfl, N15q, K15, S15⟩ X15
 have N15 := Fr.app N13 N15q
 have f15_0 := Nat.le_trans Z0 K15.1
 have f15_1 := Keep.trans (Keep.refl h0 []) K15 all0
 have f15_2 := Old.keep O0 K15 all0
 have f15_3 := Exa.keep ES0 K15
 have f15_4 := Fld.keep CS0 K15 nin0
 have f15_5 := Fld.keep VS0 K15 nin0
 have f15_6 := Arv.keep AT0 K15 nin0
 refine gO X15 hx hby dj42_92_44 (pc' := 57) (by decide) ?_
 refine r_val hP hlk hret X15 hx hby dj42_92_57 rfl (Or.inr (Or.inr (Or.inr (Or.inr ⟨rfl, rfl, rfl⟩)))) (by decide) ?_
 exact ⟨b15, rfl, N15, f15_1, S15⟩
def Q_news0 (Z : State) (a1 : Addr) (h0 : Heap) (n0 : Nat) (v : Option Value) (h : Heap) (L : List Loc) : Prop := ∃ b, v = some (.ref b) ∧ Fr n0 L ∧ Keep h0 h [] ∧ StrV Z h b []
theorem ef_news0 (m : MethodId) (a1 : Addr) : entryFrame m #[(.ref a1), (.int 0), (.int 0)] 3 = mkF m 0 #[(vR a1), (vI 0), (vI 0)] [] := by first | (simp [entryFrame, mkF, argsToLocals, Value.category]; done) | rfl
theorem rm_news0 (l : Launch) (Z : State) (a0 : Array Value) (hw : oW a0 Z) (hEL : EW Z a0 own_EL) (ws : List Jvm.Cond) (a1 : Addr) (h0 : Heap) (n0 : Nat) (Z0 : n0 ≤ h0.size) :
   MetFree l oY10 (head1 (Jvm.Cond.code oY10 j43_47 3 (some (.object "java/lang/String")) :: ws) (own_R 0 2 4 0)) (fun a U => a = #[(.ref a1), (.int 0), (.int 0)] ∧ Z.Warmed39 U.vm ∧ U.heap = h0 ∧ CHv Z own_EL U.vm h0 ∧ ∀ x ∈ ([] : List Addr), Safe Z own_EL U.vm h0 x) (fun _ _ _ _ _ => True) (fun _ U o U' => ∃ v L, o = .returned v ∧ Q_news0 Z a1 h0 n0 v U'.heap L ∧ CHr Z own_EL U.vm U.heap U'.vm U'.heap ∧ ReturnedEndW U o U' L (own_R 0 2 4 0).cells (own_R 0 2 4 0).slots) := by
 refine MetFree.of_bodySF (plainFor_of_name pn1) hisR ?_
 intro p e s m args below meth c s₁ Bd hml0 hP hK
 obtain ⟨rfl, hZ, hh, hCH, hSf⟩ := hP
 have hx := Bd.exec
 have hby := Bd.bytes
 have hml : c.maxLocals = 3 := hml0
 have hown : s.vm.findClass "java/lang/StringLatin1" = some m.cls := findClass_of_methodNamed Bd.named
 have hnm := (name_of_methodNamed Bd.named Bd.method).1
 have X0 : Stand p l e (own_R 0 2 4 0) (s.setVm s.vm) m #[(.ref a1), (.int 0), (.int 0)] below meth c s₁ [] 0 0 := Stand.of_body Bd
 have e0 : s₁.heap = h0 := by rw [← hh, Bd.state]; rfl
 have N0 := Fr.nil n0
 have hZs := hZ
 have wS := own_wS hw
 have hS0 : s.Since s.vm s.heap.size := (State.WarmedH.refl s).since _
 have hk0 : s.heap.size ≤ h0.size := Nat.le_of_eq (congrArg Array.size hh)
 have hlk : meth.locks = false := Bd.notSynchronized
 obtain ⟨P, hP⟩ : ∃ P : Outcome → State → Prop, P = PQW s Z own_EL (Q_news0 Z a1 h0 n0) (own_R 0 2 4 0).cells (own_R 0 2 4 0).slots := ⟨_, rfl⟩
 suffices hgo : Go p e below P (s₁.setTop (mkF m 0 #[(vR a1), (vI 0), (vI 0)] [])) by
   rw [hP] at hgo
   exact Go.by (fun t k => castTop (ef_news0 m a1) k) hgo
 show oG p e below P m s₁ 0 #[(vR a1), (vI 0), (vI 0)] []
 refine iA X0 hx hby dj43_47_0 rfl ?_
 refine fN X0 hx hby dj43_47_1 (XT.i0_ne_f (by decide : (0 : Int32) = (0 : Int32))) ?_
 obtain ⟨b11, T11, h11, k111, d11, kd11, X11, e11, E11, hS11, hk11, hZ11, hown11, Eb11, Fc11, Fv11, Vd11, lb11, ld11, C11, Lt11, Sf11, st11⟩ := ldcCH X0 hx hZ hown (tw_146 hw) wS e0 hS0 hk0 hEL (by decide) (CHr.refl hCH).1 (vs := []) (z := (0 : Int32)) ⟨by decide, by decide⟩ (by decide) (by decide) (g := (mkF m 4 #[(vR a1), (vI 0), (vI 0)] [])) rfl (hb hby dj43_47_4) (n := 0) (by decide) (by decide) (by decide) (by decide)
 have f11_0 := Nat.le_trans Z0 E11.1
 have f11_1 := CHr.trans (CHr.refl hCH) C11
 have f11_2 : k111 ≤ h11.size := hk11
 have f11_3 := Keep.ext (Keep.refl h0 []) E11
 refine Go.by st11 ?_
 show oG p e below P m T11 6 #[(vR a1), (vI 0), (vI 0)] [(.ref b11)]
 refine own_finW hP hlk hEL hh X11 (v := some (.ref b11)) (fun h => by rw [Bd.returns] at h; cases h) (by decide) (by decide) e11 hS11 f11_2 hZ11 f11_1 ?_ (fun fs hr => retOut X11 hx Bd.returns rfl (Or.inr (Or.inr (Or.inr (Or.inr ⟨rfl, rfl, rfl⟩)))) (hb hby dj43_47_6) hr)
 exact ⟨b11, rfl, N0, f11_3, ⟨d11, kd11, Eb11, Fc11, Fv11, Vd11⟩⟩
def Q_subs0 (Z : State) (a0_ d : Addr) (kd : ClassId) (z : Int32) (vs : List Value) (cs : Int32) (fm : Value) (h0 : Heap) (n0 : Nat) (v : Option Value) (h : Heap) (L : List Loc) : Prop := ∃ b, v = some (.ref b) ∧ Fr n0 L ∧ Keep h0 h [] ∧ StrV Z h b []
theorem ef_subs0 (m : MethodId) (a0_ d : Addr) (kd : ClassId) (z : Int32) (vs : List Value) (cs : Int32) (fm : Value) : entryFrame m #[(.ref a0_), (.int 0), (.int 0)] 5 = mkF m 0 #[(vR a0_), (vI 0), (vI 0), .unset, .unset] [] := by first | (simp [entryFrame, mkF, argsToLocals, Value.category]; done) | rfl
theorem rm_subs0 (l : Launch) (Z : State) (a0 : Array Value) (hw : oW a0 Z) (hEL : EW Z a0 own_EL) (ws : List Jvm.Cond) (a0_ d : Addr) (kd : ClassId) (z : Int32) (vs : List Value) (cs : Int32) (fm : Value) (h0 : Heap) (n0 : Nat) (Z0 : n0 ≤ h0.size) (O0 : Old Z n0 h0) (Scs : Sta Z Z.heap "java/lang/String" "COMPACT_STRINGS" "Z" (.int cs)) (hcs : ¬ cs = (0 : Int32)) (Sfm : Sta Z Z.heap "jdk/internal/util/Preconditions" "SIOOBE_FORMATTER" "Ljava/util/function/BiFunction;" fm) (hfm : fm.isRef = true) (E0 : Exa Z h0 a0_ "java/lang/String") (FC : Fld Z h0 a0_ "java/lang/String" "coder" "B" (.int 0)) (FV : Fld Z h0 a0_ "java/lang/String" "value" "[B" (.ref d)) (V0 : Arv Z h0 d kd .byte z vs (.int 0)) (hz : ¬ z < (0 : Int32)) (hz0 : ¬ (0 : Int32) = z) :
   MetFree l oY1 (head1 (Jvm.Cond.code oY1 j42_92 5 (some (.object "java/lang/String")) :: ws) (own_R 3 2 4 60)) (fun a U => a = #[(.ref a0_), (.int 0), (.int 0)] ∧ Z.Warmed39 U.vm ∧ U.heap = h0 ∧ CHv Z own_EL U.vm h0 ∧ ∀ x ∈ ([] : List Addr), Safe Z own_EL U.vm h0 x) (fun _ _ _ _ _ => True) (fun _ U o U' => ∃ v L, o = .returned v ∧ Q_subs0 Z a0_ d kd z vs cs fm h0 n0 v U'.heap L ∧ CHr Z own_EL U.vm U.heap U'.vm U'.heap ∧ ReturnedEndW U o U' L (own_R 3 2 4 60).cells (own_R 3 2 4 60).slots) := by
 refine MetFree.of_bodySF (plainFor_of_name pn0) hisR ?_
 intro p e s m args below meth c s₁ Bd hml0 hP hK
 obtain ⟨rfl, hZ, hh, hCH, hSf⟩ := hP
 have hx := Bd.exec
 have hby := Bd.bytes
 have hml : c.maxLocals = 5 := hml0
 have hown : s.vm.findClass "java/lang/String" = some m.cls := findClass_of_methodNamed Bd.named
 have hnm := (name_of_methodNamed Bd.named Bd.method).1
 have X0 : Stand p l e (own_R 3 2 4 60) (s.setVm s.vm) m #[(.ref a0_), (.int 0), (.int 0)] below meth c s₁ [] 0 0 := Stand.of_body Bd
 have e0 : s₁.heap = h0 := by rw [← hh, Bd.state]; rfl
 have N0 := Fr.nil n0
 have hZs := hZ
 have wS := own_wS hw
 have hS0 : s.Since s.vm s.heap.size := (State.WarmedH.refl s).since _
 have hk0 : s.heap.size ≤ h0.size := Nat.le_of_eq (congrArg Array.size hh)
 have hlk : meth.locks = false := Bd.notSynchronized
 obtain ⟨P, hP⟩ : ∃ P : Outcome → State → Prop, P = PQW s Z own_EL (Q_subs0 Z a0_ d kd z vs cs fm h0 n0) (own_R 3 2 4 60).cells (own_R 3 2 4 60).slots := ⟨_, rfl⟩
 suffices hgo : Go p e below P (s₁.setTop (mkF m 0 #[(vR a0_), (vI 0), (vI 0), .unset, .unset] [])) by
   rw [hP] at hgo
   exact Go.by (fun t k => castTop (ef_subs0 m a0_ d kd z vs cs fm) k) hgo
 show oG p e below P m s₁ 0 #[(vR a0_), (vI 0), (vI 0), .unset, .unset] []
 refine aA X0 hx hby dj42_92_0 rfl rfl ?_
 refine c_virt 0 X0 hx hby hml hZ hown (tw_37 hw) (tw_38 hw) (tw_40 hw) (tw_39 hw) (tw_41 hw) (tw_8 hw) (rm_slen l Z a0 hw [] a0_ d kd z vs cs h0 n0 Z0 O0 Scs hcs E0 FC FV V0) e0 E0 dj42_92_1 [] [] (lenOf pd0 rfl) rfl rfl (by rfl) (by decide) ?_
 rintro _ T11 Lc11 ⟨rfl, N11q, q11⟩ X11
 have N11 := Fr.app N0 N11q
 refine iS X11 hx hby dj42_92_4 (l' := #[(vR a0_), (vI 0), (vI 0), (vI z), .unset]) rfl ?_
 refine iA X11 hx hby dj42_92_5 rfl ?_
 refine iA X11 hx hby dj42_92_6 rfl ?_
 refine iA X11 hx hby dj42_92_7 rfl ?_
 refine c_stat 0 X11 hx hby hml hZ hown (tw_102 hw) (tw_103 hw) (tw_8 hw) (tw_104 hw) (rm_chkB l Z a0 hw [] (0 : Int32) z fm h0 n0 Z0 O0 Sfm hfm (by decide) hz) q11 dj42_92_8 [(.int 0), (.int 0), (.int z)] [] (lenOf pd11 rfl) rfl rfl (by rfl) (by decide) ?_
 rintro _ T12 Lc12 ⟨rfl, N12q, q12⟩ X12
 have N12 := Fr.app N11 N12q
 refine iA X12 hx hby dj42_92_11 rfl ?_
 refine fN X12 hx hby dj42_92_12 (XT.i0_ne_f (by decide : (0 : Int32) = (0 : Int32))) ?_
 refine iA X12 hx hby dj42_92_15 rfl ?_
 refine iA X12 hx hby dj42_92_16 rfl ?_
 refine cY X12 hx hby dj42_92_17 (pc' := 22) (XT.ii_ne_t hz0) (by decide) ?_
 refine iA X12 hx hby dj42_92_22 rfl ?_
 refine iA X12 hx hby dj42_92_23 rfl ?_
 refine iM X12 hx hby dj42_92_24 (v := 0) rfl ?_
 refine iT X12 hx hby dj42_92_25 (l' := #[(vR a0_), (vI 0), (vI 0), (vI z), (vI 0)]) rfl ?_
 refine aA X12 hx hby dj42_92_27 rfl rfl ?_
 refine c_virt 0 X12 hx hby hml hZ hown (tw_59 hw) (tw_60 hw) (tw_62 hw) (tw_61 hw) (tw_63 hw) (tw_8 hw) (rm_isLat l Z a0 hw [] a0_ cs h0 n0 Z0 O0 Scs hcs FC) q12 E0 dj42_92_28 [] [] (lenOf pd4 rfl) rfl rfl (by rfl) (by decide) ?_
 rintro _ T13 Lc13 ⟨rfl, N13q, q13⟩ X13
 have N13 := Fr.app N12 N13q
 refine fN X13 hx hby dj42_92_31 (XT.i0_eq_f (by decide : ¬ (1 : Int32) = (0 : Int32))) ?_
 refine aA X13 hx hby dj42_92_34 rfl rfl ?_
 obtain ⟨T14, X14, e14, st14⟩ := getF X13 hx hZ hown (host := "") (Or.inl (tw_25 hw)) Via.refl q13 FV (g := (mkF m 35 #[(vR a0_), (vI 0), (vI 0), (vI z), (vI 0)] [(.ref a0_)])) rfl rfl (hb hby dj42_92_35)
 refine Go.by st14 ?_
 show oG p e below P m T14 38 #[(vR a0_), (vI 0), (vI 0), (vI z), (vI 0)] [(.ref d)]
 refine iA X14 hx hby dj42_92_38 rfl ?_
 refine iB X14 hx hby dj42_92_39 rfl ?_
 obtain ⟨_, _, ⟨T15, L15, k15, n15⟩, -, X15', hS15', hg15, ⟨Lc15, hQ15, l15, y15, z15, C15⟩, st15⟩ := Jvm.RoadKit.callSS X14 hx (y := oY10) hown (mvT hZ (tw_110 hw)) (mvT hZ (tw_111 hw)) (mvT hZ (tw_66 hw)) (mvT hZ (tw_112 hw)) (by decide) (own_backC (W := 0) (rm_news0 l Z a0 hw hEL [] d h0 n0 Z0 ) hZ (tw_112 hw) (tw_66 hw) (by decide) (by decide) hEL (CHr.refl hCH).1 own_ss0) (g := (mkF m 41 #[(vR a0_), (vI 0), (vI 0), (vI z), (vI 0)] [(.int 0), (.int 0), (.ref d)])) rfl (by rw [hml]; rfl) (argsL := [(.ref d), (.int 0), (.int 0)]) (rest := []) (lenOf pd12 rfl) rfl (by show 2 * 0 + _ ≤ _; exact Nat.le_of_eq rfl) (hb hby dj42_92_41) (fun _ _ => ⟨rfl, e14, (by decide : 0 + 2 ≤ _), (by decide : 0 + 4 ≤ _)⟩)
 dsimp only [Pt.U, Pt.locs, Pt.cells, Pt.slots] at X15' hS15' hg15 l15 y15 z15 st15 hQ15 C15
 subst l15 y15 z15
 obtain ⟨X15, hS15, hZ15, hown15⟩ := rebS hS0 (hk0) X15' hS15' (by have q := hg15; rw [e14] at q; exact q) hZ hown
 have hk15 : T15.heap.size ≤ T15.heap.size := Nat.le_refl _
 obtain ⟨b15, rfl, N15q, K15, S15⟩ := hQ15
 have N15 := Fr.app N13 N15q
 refine Go.by (fun t k => st15.trans k) ?_
 have f15_0 := Nat.le_trans Z0 K15.1
 have f15_1 := CHr.trans (CHr.refl hCH) C15
 have f15_2 : T15.heap.size ≤ T15.heap.size := hk15
 have f15_3 := Keep.trans (Keep.refl h0 []) K15 all0
 have f15_4 := Old.keep O0 K15 all0
 have f15_5 := Exa.keep E0 K15
 have f15_6 := Fld.keep FC K15 nin0
 have f15_7 := Fld.keep FV K15 nin0
 have f15_8 := Arv.keep V0 K15 nin0
 show oG p e below P m T15 44 #[(vR a0_), (vI 0), (vI 0), (vI z), (vI 0)] [(.ref b15)]
 refine gO X15 hx hby dj42_92_44 (pc' := 57) (by decide) ?_
 refine own_finW hP hlk hEL hh X15 (v := some (.ref b15)) (fun h => by rw [Bd.returns] at h; cases h) (by decide) (by decide) rfl hS15 f15_2 hZ15 f15_1 ?_ (fun fs hr => retOut X15 hx Bd.returns rfl (Or.inr (Or.inr (Or.inr (Or.inr ⟨rfl, rfl, rfl⟩)))) (hb hby dj42_92_57) hr)
 exact ⟨b15, rfl, N15, f15_3, S15⟩
def Q_dirOf0 (Z : State) (a0_ : Addr) (cs : Int32) (fm : Value) (h0 : Heap) (n0 : Nat) (v : Option Value) (h : Heap) (L : List Loc) : Prop := ∃ r, v = some (.ref r) ∧ Fr n0 L ∧ Keep h0 h [] ∧ StrV Z h r []
theorem ef_dirOf0 (m : MethodId) (a0_ : Addr) (cs : Int32) (fm : Value) : entryFrame m #[(.ref a0_)] 3 = mkF m 0 #[(vR a0_), .unset, .unset] [] := by first | (simp [entryFrame, mkF, argsToLocals, Value.category]; done) | rfl
theorem rm_dirOf0 (l : Launch) (Z : State) (a0 : Array Value) (hw : oW a0 Z) (hEL : EW Z a0 own_EL) (ws : List Jvm.Cond) (a0_ : Addr) (cs : Int32) (fm : Value) (h0 : Heap) (n0 : Nat) (Z0 : n0 ≤ h0.size) (O0 : Old Z n0 h0) (Scs : Sta Z Z.heap "java/lang/String" "COMPACT_STRINGS" "Z" (.int cs)) (hcs : ¬ cs = (0 : Int32)) (Sfm : Sta Z Z.heap "jdk/internal/util/Preconditions" "SIOOBE_FORMATTER" "Ljava/util/function/BiFunction;" fm) (hfm : fm.isRef = true) (S0 : StrV Z h0 a0_ []) :
   MetFree l oY14 (head1 (Jvm.Cond.code oY14 p42_9 3 (some (.object "java/lang/String")) :: ws) (own_R 5 4 16 100)) (fun a U => a = #[(.ref a0_)] ∧ Z.Warmed39 U.vm ∧ U.heap = h0 ∧ CHv Z own_EL U.vm h0 ∧ ∀ x ∈ ([] : List Addr), Safe Z own_EL U.vm h0 x) (fun _ _ _ _ _ => True) (fun _ U o U' => ∃ v L, o = .returned v ∧ Q_dirOf0 Z a0_ cs fm h0 n0 v U'.heap L ∧ CHr Z own_EL U.vm U.heap U'.vm U'.heap ∧ ReturnedEndW U o U' L (own_R 5 4 16 100).cells (own_R 5 4 16 100).slots) := by
 refine MetFree.of_bodySF (plainFor_of_name pn5) hisR ?_
 intro p e s m args below meth c s₁ Bd hml0 hP hK
 obtain ⟨rfl, hZ, hh, hCH, hSf⟩ := hP
 have hx := Bd.exec
 have hby := Bd.bytes
 have hml : c.maxLocals = 3 := hml0
 have hown : s.vm.findClass "jarkeep/source/Source" = some m.cls := findClass_of_methodNamed Bd.named
 have hnm := (name_of_methodNamed Bd.named Bd.method).1
 have X0 : Stand p l e (own_R 5 4 16 100) (s.setVm s.vm) m #[(.ref a0_)] below meth c s₁ [] 0 0 := Stand.of_body Bd
 have e0 : s₁.heap = h0 := by rw [← hh, Bd.state]; rfl
 have N0 := Fr.nil n0
 have hZs := hZ
 have wS := own_wS hw
 have hS0 : s.Since s.vm s.heap.size := (State.WarmedH.refl s).since _
 have hk0 : s.heap.size ≤ h0.size := Nat.le_of_eq (congrArg Array.size hh)
 have hlk : meth.locks = false := Bd.notSynchronized
 obtain ⟨P, hP⟩ : ∃ P : Outcome → State → Prop, P = PQW s Z own_EL (Q_dirOf0 Z a0_ cs fm h0 n0) (own_R 5 4 16 100).cells (own_R 5 4 16 100).slots := ⟨_, rfl⟩
 suffices hgo : Go p e below P (s₁.setTop (mkF m 0 #[(vR a0_), .unset, .unset] [])) by
   rw [hP] at hgo
   exact Go.by (fun t k => castTop (ef_dirOf0 m a0_ cs fm) k) hgo
 obtain ⟨d0, kd0, ES0, CS0, VS0, AS0⟩ := S0
 have AT0 : Arv Z h0 d0 kd0 .byte (0 : Int32) [] (.int 0) := AS0
 show oG p e below P m s₁ 0 #[(vR a0_), .unset, .unset] []
 refine aA X0 hx hby dp42_9_0 rfl rfl ?_
 obtain ⟨b11, T11, h11, k111, d11, kd11, X11, e11, E11, hS11, hk11, hZ11, hown11, Eb11, Fc11, Fv11, Vd11, lb11, ld11, C11, Lt11, Sf11, st11⟩ := ldcCH X0 hx hZ hown (tw_31 hw) wS e0 hS0 hk0 hEL (by decide) (CHr.refl hCH).1 (vs := [(.int 47)]) (z := (1 : Int32)) ⟨by decide, by decide⟩ (by decide) (by decide) (g := (mkF m 1 #[(vR a0_), .unset, .unset] [(.ref a0_)])) rfl (hb hby dp42_9_1) (n := 4) (by decide) (by decide) (by decide) (by decide)
 have f11_0 := Nat.le_trans Z0 E11.1
 have f11_1 := CHr.trans (CHr.refl hCH) C11
 have f11_2 : k111 ≤ h11.size := hk11
 have f11_3 := Keep.ext (Keep.refl h0 []) E11
 have f11_4 := Old.ext O0 E11
 have f11_5 := Exa.ext E11 ES0
 have f11_6 := Fld.ext E11 CS0
 have f11_7 := Fld.ext E11 VS0
 have f11_8 := Arv.ext AT0 E11
 refine Go.by st11 ?_
 refine c_virt 0 X11 hx hby hml hZ11 hown11 (tw_32 hw) (tw_33 hw) (tw_35 hw) (tw_34 hw) (tw_36 hw) (tw_8 hw) (rm_endsW0 l Z a0 hw [] a0_ b11 cs h11 n0 f11_0 f11_4 Scs hcs ⟨d0, kd0, f11_5, f11_6, f11_7, f11_8⟩ ⟨d11, kd11, Eb11, Fc11, Fv11, Vd11⟩) e11 f11_5 dp42_9_3 [(.ref b11)] [] (lenOf pd16 rfl) rfl rfl (by rfl) (by decide) ?_
 rintro _ T12 Lc12 ⟨rfl, N12q, q12⟩ X12
 have N12 := Fr.app N0 N12q
 refine fY X12 hx hby dp42_9_6 (pc' := 18) (XT.i0_eq_t (by decide : (0 : Int32) = (0 : Int32))) (by decide) ?_
 refine aA X12 hx hby dp42_9_18 rfl rfl ?_
 refine c_virt 0 X12 hx hby hml hZ11 hown11 (tw_53 hw) (tw_38 hw) (tw_40 hw) (tw_39 hw) (tw_41 hw) (tw_8 hw) (rm_slen l Z a0 hw [] a0_ d0 kd0 (0 : Int32) [] cs h11 n0 f11_0 f11_4 Scs hcs f11_5 f11_6 f11_7 f11_8) q12 f11_5 dp42_9_19 [] [] (lenOf pd0 rfl) rfl rfl (by rfl) (by decide) ?_
 rintro _ T13 Lc13 ⟨rfl, N13q, q13⟩ X13
 have N13 := Fr.app N12 N13q
 refine iS X13 hx hby dp42_9_22 (l' := #[(vR a0_), (vI 0), .unset]) rfl ?_
 refine aA X13 hx hby dp42_9_23 rfl rfl ?_
 refine bC X13 hx hby dp42_9_24 (v := 47) rfl ?_
 refine iA X13 hx hby dp42_9_26 rfl ?_
 refine iC X13 hx hby dp42_9_27 (v := 1) rfl ?_
 refine iM X13 hx hby dp42_9_28 (v := (-1)) rfl ?_
 refine c_virt 0 X13 hx hby hml hZ11 hown11 (tw_54 hw) (tw_55 hw) (tw_57 hw) (tw_56 hw) (tw_58 hw) (tw_8 hw) (rm_slast0_0 l Z a0 hw [] a0_ cs h11 n0 f11_0 f11_4 Scs hcs ⟨d0, kd0, f11_5, f11_6, f11_7, f11_8⟩) q13 f11_5 dp42_9_29 [(.int 47), (.int (-1))] [] (lenOf pd1 rfl) rfl rfl (by rfl) (by decide) ?_
 rintro _ T14 Lc14 ⟨rfl, N14q, q14⟩ X14
 have N14 := Fr.app N13 N14q
 refine iS X14 hx hby dp42_9_32 (l' := #[(vR a0_), (vI 0), (vI (-1))]) rfl ?_
 refine iA X14 hx hby dp42_9_33 rfl ?_
 refine fN X14 hx hby dp42_9_34 (XT.i0_ge_f (by decide : (-1 : Int32) < (0 : Int32))) ?_
 obtain ⟨b15, T15, h15, k115, d15, kd15, X15, e15, E15, hS15, hk15, hZ15, hown15, Eb15, Fc15, Fv15, Vd15, lb15, ld15, C15, Lt15, Sf15, st15⟩ := ldcCH X14 hx hZ11 hown11 (tw_75 hw) wS q14 hS11 f11_2 hEL (by decide) f11_1.1 (vs := []) (z := (0 : Int32)) ⟨by decide, by decide⟩ (by decide) (by decide) (g := (mkF m 37 #[(vR a0_), (vI 0), (vI (-1))] [])) rfl (hb hby dp42_9_37) (n := 0) (by decide) (by decide) (by decide) (by decide)
 have f15_0 := Nat.le_trans f11_0 E15.1
 have f15_1 := CHr.trans f11_1 C15
 have f15_2 : k115 ≤ h15.size := hk15
 have f15_3 := Keep.ext f11_3 E15
 have f15_4 := Old.ext f11_4 E15
 have f15_5 := Exa.ext E15 f11_5
 have f15_6 := Fld.ext E15 f11_6
 have f15_7 := Fld.ext E15 f11_7
 have f15_8 := Arv.ext f11_8 E15
 have f15_9 := Exa.ext E15 Eb11
 have f15_10 := Fld.ext E15 Fc11
 have f15_11 := Fld.ext E15 Fv11
 have f15_12 := Arv.ext Vd11 E15
 refine Go.by st15 ?_
 show oG p e below P m T15 39 #[(vR a0_), (vI 0), (vI (-1))] [(.ref b15)]
 refine gO X15 hx hby dp42_9_39 (pc' := 48) (by decide) ?_
 refine own_finW hP hlk hEL hh X15 (v := some (.ref b15)) (fun h => by rw [Bd.returns] at h; cases h) (by decide) (by decide) e15 hS15 f15_2 hZ15 f15_1 ?_ (fun fs hr => retOut X15 hx Bd.returns rfl (Or.inr (Or.inr (Or.inr (Or.inr ⟨rfl, rfl, rfl⟩)))) (hb hby dp42_9_48) hr)
 exact ⟨b15, rfl, N14, f15_3, ⟨d15, kd15, Eb15, Fc15, Fv15, Vd15⟩⟩
def Q_dirOf1 (Z : State) (a0_ : Addr) (x0 cs : Int32) (fm : Value) (h0 : Heap) (n0 : Nat) (v : Option Value) (h : Heap) (L : List Loc) : Prop := ∃ r, v = some (.ref r) ∧ Fr n0 L ∧ Keep h0 h [] ∧ StrV Z h r []
theorem ef_dirOf1 (m : MethodId) (a0_ : Addr) (x0 cs : Int32) (fm : Value) : entryFrame m #[(.ref a0_)] 3 = mkF m 0 #[(vR a0_), .unset, .unset] [] := by first | (simp [entryFrame, mkF, argsToLocals, Value.category]; done) | rfl
theorem rm_dirOf1 (l : Launch) (Z : State) (a0 : Array Value) (hw : oW a0 Z) (hEL : EW Z a0 own_EL) (ws : List Jvm.Cond) (a0_ : Addr) (x0 cs : Int32) (fm : Value) (h0 : Heap) (n0 : Nat) (Z0 : n0 ≤ h0.size) (O0 : Old Z n0 h0) (Scs : Sta Z Z.heap "java/lang/String" "COMPACT_STRINGS" "Z" (.int cs)) (hcs : ¬ cs = (0 : Int32)) (Sfm : Sta Z Z.heap "jdk/internal/util/Preconditions" "SIOOBE_FORMATTER" "Ljava/util/function/BiFunction;" fm) (hfm : fm.isRef = true) (S0 : StrV Z h0 a0_ [x0]) :
   MetFree l oY14 (head1 (Jvm.Cond.code oY14 p42_9 3 (some (.object "java/lang/String")) :: ws) (own_R 5 4 16 100)) (fun a U => a = #[(.ref a0_)] ∧ Z.Warmed39 U.vm ∧ U.heap = h0 ∧ CHv Z own_EL U.vm h0 ∧ ∀ x ∈ ([] : List Addr), Safe Z own_EL U.vm h0 x) (fun _ _ _ _ _ => True) (fun _ U o U' => ∃ v L, o = .returned v ∧ Q_dirOf1 Z a0_ x0 cs fm h0 n0 v U'.heap L ∧ CHr Z own_EL U.vm U.heap U'.vm U'.heap ∧ ReturnedEndW U o U' L (own_R 5 4 16 100).cells (own_R 5 4 16 100).slots) := by
 refine MetFree.of_bodySF (plainFor_of_name pn5) hisR ?_
 intro p e s m args below meth c s₁ Bd hml0 hP hK
 obtain ⟨rfl, hZ, hh, hCH, hSf⟩ := hP
 have hx := Bd.exec
 have hby := Bd.bytes
 have hml : c.maxLocals = 3 := hml0
 have hown : s.vm.findClass "jarkeep/source/Source" = some m.cls := findClass_of_methodNamed Bd.named
 have hnm := (name_of_methodNamed Bd.named Bd.method).1
 have X0 : Stand p l e (own_R 5 4 16 100) (s.setVm s.vm) m #[(.ref a0_)] below meth c s₁ [] 0 0 := Stand.of_body Bd
 have e0 : s₁.heap = h0 := by rw [← hh, Bd.state]; rfl
 have N0 := Fr.nil n0
 have hZs := hZ
 have wS := own_wS hw
 have hS0 : s.Since s.vm s.heap.size := (State.WarmedH.refl s).since _
 have hk0 : s.heap.size ≤ h0.size := Nat.le_of_eq (congrArg Array.size hh)
 have hlk : meth.locks = false := Bd.notSynchronized
 obtain ⟨P, hP⟩ : ∃ P : Outcome → State → Prop, P = PQW s Z own_EL (Q_dirOf1 Z a0_ x0 cs fm h0 n0) (own_R 5 4 16 100).cells (own_R 5 4 16 100).slots := ⟨_, rfl⟩
 suffices hgo : Go p e below P (s₁.setTop (mkF m 0 #[(vR a0_), .unset, .unset] [])) by
   rw [hP] at hgo
   exact Go.by (fun t k => castTop (ef_dirOf1 m a0_ x0 cs fm) k) hgo
 obtain ⟨d0, kd0, ES0, CS0, VS0, AS0⟩ := S0
 have AT0 : Arv Z h0 d0 kd0 .byte (1 : Int32) [(.int x0)] (.int 0) := AS0
 show oG p e below P m s₁ 0 #[(vR a0_), .unset, .unset] []
 refine aA X0 hx hby dp42_9_0 rfl rfl ?_
 obtain ⟨b11, T11, h11, k111, d11, kd11, X11, e11, E11, hS11, hk11, hZ11, hown11, Eb11, Fc11, Fv11, Vd11, lb11, ld11, C11, Lt11, Sf11, st11⟩ := ldcCH X0 hx hZ hown (tw_31 hw) wS e0 hS0 hk0 hEL (by decide) (CHr.refl hCH).1 (vs := [(.int 47)]) (z := (1 : Int32)) ⟨by decide, by decide⟩ (by decide) (by decide) (g := (mkF m 1 #[(vR a0_), .unset, .unset] [(.ref a0_)])) rfl (hb hby dp42_9_1) (n := 4) (by decide) (by decide) (by decide) (by decide)
 have f11_0 := Nat.le_trans Z0 E11.1
 have f11_1 := CHr.trans (CHr.refl hCH) C11
 have f11_2 : k111 ≤ h11.size := hk11
 have f11_3 := Keep.ext (Keep.refl h0 []) E11
 have f11_4 := Old.ext O0 E11
 have f11_5 := Exa.ext E11 ES0
 have f11_6 := Fld.ext E11 CS0
 have f11_7 := Fld.ext E11 VS0
 have f11_8 := Arv.ext AT0 E11
 refine Go.by st11 ?_
 refine c_virt 0 X11 hx hby hml hZ11 hown11 (tw_32 hw) (tw_33 hw) (tw_35 hw) (tw_34 hw) (tw_36 hw) (tw_8 hw) (rm_endsW1 l Z a0 hw [] a0_ b11 x0 cs h11 n0 f11_0 f11_4 Scs hcs ⟨d0, kd0, f11_5, f11_6, f11_7, f11_8⟩ ⟨d11, kd11, Eb11, Fc11, Fv11, Vd11⟩) e11 f11_5 dp42_9_3 [(.ref b11)] [] (lenOf pd16 rfl) rfl rfl (by rfl) (by decide) ?_
 rintro _ T12 Lc12 ⟨rfl, N12q, q12⟩ X12
 have N12 := Fr.app N0 N12q
 show oG p e below P m T12 6 #[(vR a0_), .unset, .unset] [(.int (if x0 = (47 : Int32) then (1 : Int32) else 0))]
 by_cases hq : x0 = (47 : Int32)
 · rw [if_pos hq]
   show oG p e below P m T12 6 #[(vR a0_), .unset, .unset] [(.int 1)]
   refine fN X12 hx hby dp42_9_6 (XT.i0_eq_f (by decide : ¬ (1 : Int32) = (0 : Int32))) ?_
   refine aA X12 hx hby dp42_9_9 rfl rfl ?_
   refine c_virt 0 X12 hx hby hml hZ11 hown11 (tw_53 hw) (tw_38 hw) (tw_40 hw) (tw_39 hw) (tw_41 hw) (tw_8 hw) (rm_slen l Z a0 hw [] a0_ d0 kd0 (1 : Int32) [(.int x0)] cs h11 n0 f11_0 f11_4 Scs hcs f11_5 f11_6 f11_7 f11_8) q12 f11_5 dp42_9_10 [] [] (lenOf pd0 rfl) rfl rfl (by rfl) (by decide) ?_
   rintro _ T13 Lc13 ⟨rfl, N13q, q13⟩ X13
   have N13 := Fr.app N12 N13q
   refine iC X13 hx hby dp42_9_13 (v := 1) rfl ?_
   refine iM X13 hx hby dp42_9_14 (v := 0) rfl ?_
   refine gO X13 hx hby dp42_9_15 (pc' := 22) (by decide) ?_
   refine iS X13 hx hby dp42_9_22 (l' := #[(vR a0_), (vI 0), .unset]) rfl ?_
   refine aA X13 hx hby dp42_9_23 rfl rfl ?_
   refine bC X13 hx hby dp42_9_24 (v := 47) rfl ?_
   refine iA X13 hx hby dp42_9_26 rfl ?_
   refine iC X13 hx hby dp42_9_27 (v := 1) rfl ?_
   refine iM X13 hx hby dp42_9_28 (v := (-1)) rfl ?_
   refine c_virt 0 X13 hx hby hml hZ11 hown11 (tw_54 hw) (tw_55 hw) (tw_57 hw) (tw_56 hw) (tw_58 hw) (tw_8 hw) (rm_slast1_0 l Z a0 hw [] a0_ x0 cs h11 n0 f11_0 f11_4 Scs hcs ⟨d0, kd0, f11_5, f11_6, f11_7, f11_8⟩) q13 f11_5 dp42_9_29 [(.int 47), (.int (-1))] [] (lenOf pd1 rfl) rfl rfl (by rfl) (by decide) ?_
   rintro _ T14 Lc14 ⟨rfl, N14q, q14⟩ X14
   have N14 := Fr.app N13 N14q
   show oG p e below P m T14 32 #[(vR a0_), (vI 0), .unset] [(.int (-1))]
   show oG p e below P m T14 32 #[(vR a0_), (vI 0), .unset] [(.int (-1))]
   refine iS X14 hx hby dp42_9_32 (l' := #[(vR a0_), (vI 0), (vI (-1))]) rfl ?_
   refine iA X14 hx hby dp42_9_33 rfl ?_
   refine fN X14 hx hby dp42_9_34 (XT.i0_ge_f (by decide : (-1 : Int32) < (0 : Int32))) ?_
   obtain ⟨b15, T15, h15, k115, d15, kd15, X15, e15, E15, hS15, hk15, hZ15, hown15, Eb15, Fc15, Fv15, Vd15, lb15, ld15, C15, Lt15, Sf15, st15⟩ := ldcCH X14 hx hZ11 hown11 (tw_75 hw) wS q14 hS11 f11_2 hEL (by decide) f11_1.1 (vs := []) (z := (0 : Int32)) ⟨by decide, by decide⟩ (by decide) (by decide) (g := (mkF m 37 #[(vR a0_), (vI 0), (vI (-1))] [])) rfl (hb hby dp42_9_37) (n := 0) (by decide) (by decide) (by decide) (by decide)
   have f15_0 := Nat.le_trans f11_0 E15.1
   have f15_1 := CHr.trans f11_1 C15
   have f15_2 : k115 ≤ h15.size := hk15
   have f15_3 := Keep.ext f11_3 E15
   have f15_4 := Old.ext f11_4 E15
   have f15_5 := Exa.ext E15 f11_5
   have f15_6 := Fld.ext E15 f11_6
   have f15_7 := Fld.ext E15 f11_7
   have f15_8 := Arv.ext f11_8 E15
   have f15_9 := Exa.ext E15 Eb11
   have f15_10 := Fld.ext E15 Fc11
   have f15_11 := Fld.ext E15 Fv11
   have f15_12 := Arv.ext Vd11 E15
   refine Go.by st15 ?_
   show oG p e below P m T15 39 #[(vR a0_), (vI 0), (vI (-1))] [(.ref b15)]
   refine gO X15 hx hby dp42_9_39 (pc' := 48) (by decide) ?_
   refine own_finW hP hlk hEL hh X15 (v := some (.ref b15)) (fun h => by rw [Bd.returns] at h; cases h) (by decide) (by decide) e15 hS15 f15_2 hZ15 f15_1 ?_ (fun fs hr => retOut X15 hx Bd.returns rfl (Or.inr (Or.inr (Or.inr (Or.inr ⟨rfl, rfl, rfl⟩)))) (hb hby dp42_9_48) hr)
   exact ⟨b15, rfl, N14, f15_3, ⟨d15, kd15, Eb15, Fc15, Fv15, Vd15⟩⟩
 · rw [if_neg hq]
   show oG p e below P m T12 6 #[(vR a0_), .unset, .unset] [(.int 0)]
   refine fY X12 hx hby dp42_9_6 (pc' := 18) (XT.i0_eq_t (by decide : (0 : Int32) = (0 : Int32))) (by decide) ?_
   refine aA X12 hx hby dp42_9_18 rfl rfl ?_
   refine c_virt 0 X12 hx hby hml hZ11 hown11 (tw_53 hw) (tw_38 hw) (tw_40 hw) (tw_39 hw) (tw_41 hw) (tw_8 hw) (rm_slen l Z a0 hw [] a0_ d0 kd0 (1 : Int32) [(.int x0)] cs h11 n0 f11_0 f11_4 Scs hcs f11_5 f11_6 f11_7 f11_8) q12 f11_5 dp42_9_19 [] [] (lenOf pd0 rfl) rfl rfl (by rfl) (by decide) ?_
   rintro _ T16 Lc16 ⟨rfl, N16q, q16⟩ X16
   have N16 := Fr.app N12 N16q
   refine iS X16 hx hby dp42_9_22 (l' := #[(vR a0_), (vI 1), .unset]) rfl ?_
   refine aA X16 hx hby dp42_9_23 rfl rfl ?_
   refine bC X16 hx hby dp42_9_24 (v := 47) rfl ?_
   refine iA X16 hx hby dp42_9_26 rfl ?_
   refine iC X16 hx hby dp42_9_27 (v := 1) rfl ?_
   refine iM X16 hx hby dp42_9_28 (v := 0) rfl ?_
   refine c_virt 0 X16 hx hby hml hZ11 hown11 (tw_54 hw) (tw_55 hw) (tw_57 hw) (tw_56 hw) (tw_58 hw) (tw_8 hw) (rm_slast1_1 l Z a0 hw [] a0_ x0 cs h11 n0 f11_0 f11_4 Scs hcs ⟨d0, kd0, f11_5, f11_6, f11_7, f11_8⟩) q16 f11_5 dp42_9_29 [(.int 47), (.int 0)] [] (lenOf pd1 rfl) rfl rfl (by rfl) (by decide) ?_
   rintro _ T17 Lc17 ⟨rfl, N17q, q17⟩ X17
   have N17 := Fr.app N16 N17q
   show oG p e below P m T17 32 #[(vR a0_), (vI 1), .unset] [(.int (own_l1 x0))]
   rw [show (own_l1 x0) = (-1 : Int32) from if_neg hq]
   show oG p e below P m T17 32 #[(vR a0_), (vI 1), .unset] [(.int (-1))]
   refine iS X17 hx hby dp42_9_32 (l' := #[(vR a0_), (vI 1), (vI (-1))]) rfl ?_
   refine iA X17 hx hby dp42_9_33 rfl ?_
   refine fN X17 hx hby dp42_9_34 (XT.i0_ge_f (by decide : (-1 : Int32) < (0 : Int32))) ?_
   obtain ⟨b18, T18, h18, k118, d18, kd18, X18, e18, E18, hS18, hk18, hZ18, hown18, Eb18, Fc18, Fv18, Vd18, lb18, ld18, C18, Lt18, Sf18, st18⟩ := ldcCH X17 hx hZ11 hown11 (tw_75 hw) wS q17 hS11 f11_2 hEL (by decide) f11_1.1 (vs := []) (z := (0 : Int32)) ⟨by decide, by decide⟩ (by decide) (by decide) (g := (mkF m 37 #[(vR a0_), (vI 1), (vI (-1))] [])) rfl (hb hby dp42_9_37) (n := 0) (by decide) (by decide) (by decide) (by decide)
   have f18_0 := Nat.le_trans f11_0 E18.1
   have f18_1 := CHr.trans f11_1 C18
   have f18_2 : k118 ≤ h18.size := hk18
   have f18_3 := Keep.ext f11_3 E18
   have f18_4 := Old.ext f11_4 E18
   have f18_5 := Exa.ext E18 f11_5
   have f18_6 := Fld.ext E18 f11_6
   have f18_7 := Fld.ext E18 f11_7
   have f18_8 := Arv.ext f11_8 E18
   have f18_9 := Exa.ext E18 Eb11
   have f18_10 := Fld.ext E18 Fc11
   have f18_11 := Fld.ext E18 Fv11
   have f18_12 := Arv.ext Vd11 E18
   refine Go.by st18 ?_
   show oG p e below P m T18 39 #[(vR a0_), (vI 1), (vI (-1))] [(.ref b18)]
   refine gO X18 hx hby dp42_9_39 (pc' := 48) (by decide) ?_
   refine own_finW hP hlk hEL hh X18 (v := some (.ref b18)) (fun h => by rw [Bd.returns] at h; cases h) (by decide) (by decide) e18 hS18 f18_2 hZ18 f18_1 ?_ (fun fs hr => retOut X18 hx Bd.returns rfl (Or.inr (Or.inr (Or.inr (Or.inr ⟨rfl, rfl, rfl⟩)))) (hb hby dp42_9_48) hr)
   exact ⟨b18, rfl, N17, f18_3, ⟨d18, kd18, Eb18, Fc18, Fv18, Vd18⟩⟩
def Q_dirOf2 (Z : State) (a0_ : Addr) (x0 x1 cs : Int32) (fm : Value) (h0 : Heap) (n0 : Nat) (v : Option Value) (h : Heap) (L : List Loc) : Prop := ∃ r, v = some (.ref r) ∧ Fr n0 L ∧ Keep h0 h [] ∧ (((own_l1 x0) = (-1 : Int32) ∧ StrV Z h r []) ∨ ((own_l1 x0) = (0 : Int32) ∧ StrV Z h r []))
theorem ef_dirOf2 (m : MethodId) (a0_ : Addr) (x0 x1 cs : Int32) (fm : Value) : entryFrame m #[(.ref a0_)] 3 = mkF m 0 #[(vR a0_), .unset, .unset] [] := by first | (simp [entryFrame, mkF, argsToLocals, Value.category]; done) | rfl
theorem rm_dirOf2 (l : Launch) (Z : State) (a0 : Array Value) (hw : oW a0 Z) (hEL : EW Z a0 own_EL) (ws : List Jvm.Cond) (a0_ : Addr) (x0 x1 cs : Int32) (fm : Value) (h0 : Heap) (n0 : Nat) (Z0 : n0 ≤ h0.size) (O0 : Old Z n0 h0) (Scs : Sta Z Z.heap "java/lang/String" "COMPACT_STRINGS" "Z" (.int cs)) (hcs : ¬ cs = (0 : Int32)) (Sfm : Sta Z Z.heap "jdk/internal/util/Preconditions" "SIOOBE_FORMATTER" "Ljava/util/function/BiFunction;" fm) (hfm : fm.isRef = true) (S0 : StrV Z h0 a0_ [x0, x1]) :
   MetFree l oY14 (head1 (Jvm.Cond.code oY14 p42_9 3 (some (.object "java/lang/String")) :: ws) (own_R 5 4 16 100)) (fun a U => a = #[(.ref a0_)] ∧ Z.Warmed39 U.vm ∧ U.heap = h0 ∧ CHv Z own_EL U.vm h0 ∧ ∀ x ∈ ([] : List Addr), Safe Z own_EL U.vm h0 x) (fun _ _ _ _ _ => True) (fun _ U o U' => ∃ v L, o = .returned v ∧ Q_dirOf2 Z a0_ x0 x1 cs fm h0 n0 v U'.heap L ∧ CHr Z own_EL U.vm U.heap U'.vm U'.heap ∧ ReturnedEndW U o U' L (own_R 5 4 16 100).cells (own_R 5 4 16 100).slots) := by
 refine MetFree.of_bodySF (plainFor_of_name pn5) hisR ?_
 intro p e s m args below meth c s₁ Bd hml0 hP hK
 obtain ⟨rfl, hZ, hh, hCH, hSf⟩ := hP
 have hx := Bd.exec
 have hby := Bd.bytes
 have hml : c.maxLocals = 3 := hml0
 have hown : s.vm.findClass "jarkeep/source/Source" = some m.cls := findClass_of_methodNamed Bd.named
 have hnm := (name_of_methodNamed Bd.named Bd.method).1
 have X0 : Stand p l e (own_R 5 4 16 100) (s.setVm s.vm) m #[(.ref a0_)] below meth c s₁ [] 0 0 := Stand.of_body Bd
 have e0 : s₁.heap = h0 := by rw [← hh, Bd.state]; rfl
 have N0 := Fr.nil n0
 have hZs := hZ
 have wS := own_wS hw
 have hS0 : s.Since s.vm s.heap.size := (State.WarmedH.refl s).since _
 have hk0 : s.heap.size ≤ h0.size := Nat.le_of_eq (congrArg Array.size hh)
 have hlk : meth.locks = false := Bd.notSynchronized
 obtain ⟨P, hP⟩ : ∃ P : Outcome → State → Prop, P = PQW s Z own_EL (Q_dirOf2 Z a0_ x0 x1 cs fm h0 n0) (own_R 5 4 16 100).cells (own_R 5 4 16 100).slots := ⟨_, rfl⟩
 suffices hgo : Go p e below P (s₁.setTop (mkF m 0 #[(vR a0_), .unset, .unset] [])) by
   rw [hP] at hgo
   exact Go.by (fun t k => castTop (ef_dirOf2 m a0_ x0 x1 cs fm) k) hgo
 obtain ⟨d0, kd0, ES0, CS0, VS0, AS0⟩ := S0
 have AT0 : Arv Z h0 d0 kd0 .byte (2 : Int32) [(.int x0), (.int x1)] (.int 0) := AS0
 show oG p e below P m s₁ 0 #[(vR a0_), .unset, .unset] []
 refine aA X0 hx hby dp42_9_0 rfl rfl ?_
 obtain ⟨b11, T11, h11, k111, d11, kd11, X11, e11, E11, hS11, hk11, hZ11, hown11, Eb11, Fc11, Fv11, Vd11, lb11, ld11, C11, Lt11, Sf11, st11⟩ := ldcCH X0 hx hZ hown (tw_31 hw) wS e0 hS0 hk0 hEL (by decide) (CHr.refl hCH).1 (vs := [(.int 47)]) (z := (1 : Int32)) ⟨by decide, by decide⟩ (by decide) (by decide) (g := (mkF m 1 #[(vR a0_), .unset, .unset] [(.ref a0_)])) rfl (hb hby dp42_9_1) (n := 4) (by decide) (by decide) (by decide) (by decide)
 have f11_0 := Nat.le_trans Z0 E11.1
 have f11_1 := CHr.trans (CHr.refl hCH) C11
 have f11_2 : k111 ≤ h11.size := hk11
 have f11_3 := Keep.ext (Keep.refl h0 []) E11
 have f11_4 := Old.ext O0 E11
 have f11_5 := Exa.ext E11 ES0
 have f11_6 := Fld.ext E11 CS0
 have f11_7 := Fld.ext E11 VS0
 have f11_8 := Arv.ext AT0 E11
 refine Go.by st11 ?_
 refine c_virt 0 X11 hx hby hml hZ11 hown11 (tw_32 hw) (tw_33 hw) (tw_35 hw) (tw_34 hw) (tw_36 hw) (tw_8 hw) (rm_endsW2 l Z a0 hw [] a0_ b11 x0 x1 cs h11 n0 f11_0 f11_4 Scs hcs ⟨d0, kd0, f11_5, f11_6, f11_7, f11_8⟩ ⟨d11, kd11, Eb11, Fc11, Fv11, Vd11⟩) e11 f11_5 dp42_9_3 [(.ref b11)] [] (lenOf pd16 rfl) rfl rfl (by rfl) (by decide) ?_
 rintro _ T12 Lc12 ⟨rfl, N12q, q12⟩ X12
 have N12 := Fr.app N0 N12q
 show oG p e below P m T12 6 #[(vR a0_), .unset, .unset] [(.int (if x1 = (47 : Int32) then (1 : Int32) else 0))]
 by_cases hq : x1 = (47 : Int32)
 · rw [if_pos hq]
   show oG p e below P m T12 6 #[(vR a0_), .unset, .unset] [(.int 1)]
   refine fN X12 hx hby dp42_9_6 (XT.i0_eq_f (by decide : ¬ (1 : Int32) = (0 : Int32))) ?_
   refine aA X12 hx hby dp42_9_9 rfl rfl ?_
   refine c_virt 0 X12 hx hby hml hZ11 hown11 (tw_53 hw) (tw_38 hw) (tw_40 hw) (tw_39 hw) (tw_41 hw) (tw_8 hw) (rm_slen l Z a0 hw [] a0_ d0 kd0 (2 : Int32) [(.int x0), (.int x1)] cs h11 n0 f11_0 f11_4 Scs hcs f11_5 f11_6 f11_7 f11_8) q12 f11_5 dp42_9_10 [] [] (lenOf pd0 rfl) rfl rfl (by rfl) (by decide) ?_
   rintro _ T13 Lc13 ⟨rfl, N13q, q13⟩ X13
   have N13 := Fr.app N12 N13q
   refine iC X13 hx hby dp42_9_13 (v := 1) rfl ?_
   refine iM X13 hx hby dp42_9_14 (v := 1) rfl ?_
   refine gO X13 hx hby dp42_9_15 (pc' := 22) (by decide) ?_
   refine iS X13 hx hby dp42_9_22 (l' := #[(vR a0_), (vI 1), .unset]) rfl ?_
   refine aA X13 hx hby dp42_9_23 rfl rfl ?_
   refine bC X13 hx hby dp42_9_24 (v := 47) rfl ?_
   refine iA X13 hx hby dp42_9_26 rfl ?_
   refine iC X13 hx hby dp42_9_27 (v := 1) rfl ?_
   refine iM X13 hx hby dp42_9_28 (v := 0) rfl ?_
   refine c_virt 0 X13 hx hby hml hZ11 hown11 (tw_54 hw) (tw_55 hw) (tw_57 hw) (tw_56 hw) (tw_58 hw) (tw_8 hw) (rm_slast2_1 l Z a0 hw [] a0_ x0 x1 cs h11 n0 f11_0 f11_4 Scs hcs ⟨d0, kd0, f11_5, f11_6, f11_7, f11_8⟩) q13 f11_5 dp42_9_29 [(.int 47), (.int 0)] [] (lenOf pd1 rfl) rfl rfl (by rfl) (by decide) ?_
   rintro _ T14 Lc14 ⟨rfl, N14q, q14⟩ X14
   have N14 := Fr.app N13 N14q
   show oG p e below P m T14 32 #[(vR a0_), (vI 1), .unset] [(.int (own_l1 x0))]
   rcases own_c1 x0 with hk | hk
   · rw [hk]
     show oG p e below P m T14 32 #[(vR a0_), (vI 1), .unset] [(.int (-1))]
     refine iS X14 hx hby dp42_9_32 (l' := #[(vR a0_), (vI 1), (vI (-1))]) rfl ?_
     refine iA X14 hx hby dp42_9_33 rfl ?_
     refine fN X14 hx hby dp42_9_34 (XT.i0_ge_f (by decide : (-1 : Int32) < (0 : Int32))) ?_
     obtain ⟨b15, T15, h15, k115, d15, kd15, X15, e15, E15, hS15, hk15, hZ15, hown15, Eb15, Fc15, Fv15, Vd15, lb15, ld15, C15, Lt15, Sf15, st15⟩ := ldcCH X14 hx hZ11 hown11 (tw_75 hw) wS q14 hS11 f11_2 hEL (by decide) f11_1.1 (vs := []) (z := (0 : Int32)) ⟨by decide, by decide⟩ (by decide) (by decide) (g := (mkF m 37 #[(vR a0_), (vI 1), (vI (-1))] [])) rfl (hb hby dp42_9_37) (n := 0) (by decide) (by decide) (by decide) (by decide)
     have f15_0 := Nat.le_trans f11_0 E15.1
     have f15_1 := CHr.trans f11_1 C15
     have f15_2 : k115 ≤ h15.size := hk15
     have f15_3 := Keep.ext f11_3 E15
     have f15_4 := Old.ext f11_4 E15
     have f15_5 := Exa.ext E15 f11_5
     have f15_6 := Fld.ext E15 f11_6
     have f15_7 := Fld.ext E15 f11_7
     have f15_8 := Arv.ext f11_8 E15
     have f15_9 := Exa.ext E15 Eb11
     have f15_10 := Fld.ext E15 Fc11
     have f15_11 := Fld.ext E15 Fv11
     have f15_12 := Arv.ext Vd11 E15
     refine Go.by st15 ?_
     show oG p e below P m T15 39 #[(vR a0_), (vI 1), (vI (-1))] [(.ref b15)]
     refine gO X15 hx hby dp42_9_39 (pc' := 48) (by decide) ?_
     refine own_finW hP hlk hEL hh X15 (v := some (.ref b15)) (fun h => by rw [Bd.returns] at h; cases h) (by decide) (by decide) e15 hS15 f15_2 hZ15 f15_1 ?_ (fun fs hr => retOut X15 hx Bd.returns rfl (Or.inr (Or.inr (Or.inr (Or.inr ⟨rfl, rfl, rfl⟩)))) (hb hby dp42_9_48) hr)
     exact ⟨b15, rfl, N14, f15_3, Or.inl ⟨hk, ⟨d15, kd15, Eb15, Fc15, Fv15, Vd15⟩⟩⟩
   · rw [hk]
     show oG p e below P m T14 32 #[(vR a0_), (vI 1), .unset] [(.int 0)]
     refine iS X14 hx hby dp42_9_32 (l' := #[(vR a0_), (vI 1), (vI 0)]) rfl ?_
     refine iA X14 hx hby dp42_9_33 rfl ?_
     refine fY X14 hx hby dp42_9_34 (pc' := 42) (XT.i0_ge_t (by decide : ¬ (0 : Int32) < (0 : Int32))) (by decide) ?_
     refine aA X14 hx hby dp42_9_42 rfl rfl ?_
     refine iC X14 hx hby dp42_9_43 (v := 0) rfl ?_
     refine iA X14 hx hby dp42_9_44 rfl ?_
     obtain ⟨cq16, kq16, q16a, q16b, q16c⟩ := isOf hZ11 q14 f11_5
     obtain ⟨_, _, ⟨T16, L16, k16, n16⟩, -, X16', hS16', hg16, ⟨Lc16, hQ16, l16, y16, z16, C16⟩, st16⟩ := X14.virtualBackS hx (y := oY1) (z := oY1) hown11 (mvT hZ11 (tw_97 hw)) (mvT hZ11 (tw_98 hw)) (notFace_of_selects (args := #[]) (mvT hZ11 (tw_100 hw))) (mvT hZ11 (tw_100 hw)) (mvT hZ11 (tw_99 hw)) (by decide) (own_backC (W := 0) (rm_subs0 l Z a0 hw hEL [] a0_ d0 kd0 (2 : Int32) [(.int x0), (.int x1)] cs fm h11 n0 f11_0 f11_4 Scs hcs Sfm hfm f11_5 f11_6 f11_7 f11_8 (by decide) (by decide)) hZ11 (tw_101 hw) (tw_8 hw) (by decide) (by decide) hEL f11_1.1 own_ss0) q16a q16c (g := (mkF m 45 #[(vR a0_), (vI 1), (vI 0)] [(.int 0), (.int 0), (.ref a0_)])) rfl (by rw [hml]; rfl) (Steps.refl _) (argsL := [(.int 0), (.int 0)]) (rest := []) (lenOf pd2 rfl) rfl (by show 2 * 0 + _ ≤ _; exact Nat.le_of_eq rfl) (hb hby dp42_9_45) (fun _ _ => ⟨rfl, q14, (by decide : 2 + 2 ≤ _), (by decide : 8 + 4 ≤ _)⟩)
     dsimp only [Pt.U, Pt.locs, Pt.cells, Pt.slots] at X16' hS16' hg16 l16 y16 z16 st16 hQ16 C16
     subst l16 y16 z16
     obtain ⟨X16, hS16, hZ16, hown16⟩ := rebS hS11 (f11_2) X16' hS16' (by have q := hg16; rw [q14] at q; exact q) hZ11 hown11
     have hk16 : T16.heap.size ≤ T16.heap.size := Nat.le_refl _
     obtain ⟨b16, rfl, N16q, K16, S16⟩ := hQ16
     have N16 := Fr.app N14 N16q
     refine Go.by (fun t k => st16.trans k) ?_
     have f16_0 := Nat.le_trans f11_0 K16.1
     have f16_1 := CHr.trans f11_1 C16
     have f16_2 : T16.heap.size ≤ T16.heap.size := hk16
     have f16_3 := Keep.trans f11_3 K16 all0
     have f16_4 := Old.keep f11_4 K16 all0
     have f16_5 := Exa.keep f11_5 K16
     have f16_6 := Fld.keep f11_6 K16 nin0
     have f16_7 := Fld.keep f11_7 K16 nin0
     have f16_8 := Arv.keep f11_8 K16 nin0
     have f16_9 := Exa.keep Eb11 K16
     have f16_10 := Fld.keep Fc11 K16 nin0
     have f16_11 := Fld.keep Fv11 K16 nin0
     have f16_12 := Arv.keep Vd11 K16 nin0
     show oG p e below P m T16 48 #[(vR a0_), (vI 1), (vI 0)] [(.ref b16)]
     refine own_finW hP hlk hEL hh X16 (v := some (.ref b16)) (fun h => by rw [Bd.returns] at h; cases h) (by decide) (by decide) rfl hS16 f16_2 hZ16 f16_1 ?_ (fun fs hr => retOut X16 hx Bd.returns rfl (Or.inr (Or.inr (Or.inr (Or.inr ⟨rfl, rfl, rfl⟩)))) (hb hby dp42_9_48) hr)
     exact ⟨b16, rfl, N16, f16_3, Or.inr (⟨hk, S16⟩)⟩
 · rw [if_neg hq]
   show oG p e below P m T12 6 #[(vR a0_), .unset, .unset] [(.int 0)]
   refine fY X12 hx hby dp42_9_6 (pc' := 18) (XT.i0_eq_t (by decide : (0 : Int32) = (0 : Int32))) (by decide) ?_
   refine aA X12 hx hby dp42_9_18 rfl rfl ?_
   refine c_virt 0 X12 hx hby hml hZ11 hown11 (tw_53 hw) (tw_38 hw) (tw_40 hw) (tw_39 hw) (tw_41 hw) (tw_8 hw) (rm_slen l Z a0 hw [] a0_ d0 kd0 (2 : Int32) [(.int x0), (.int x1)] cs h11 n0 f11_0 f11_4 Scs hcs f11_5 f11_6 f11_7 f11_8) q12 f11_5 dp42_9_19 [] [] (lenOf pd0 rfl) rfl rfl (by rfl) (by decide) ?_
   rintro _ T17 Lc17 ⟨rfl, N17q, q17⟩ X17
   have N17 := Fr.app N12 N17q
   refine iS X17 hx hby dp42_9_22 (l' := #[(vR a0_), (vI 2), .unset]) rfl ?_
   refine aA X17 hx hby dp42_9_23 rfl rfl ?_
   refine bC X17 hx hby dp42_9_24 (v := 47) rfl ?_
   refine iA X17 hx hby dp42_9_26 rfl ?_
   refine iC X17 hx hby dp42_9_27 (v := 1) rfl ?_
   refine iM X17 hx hby dp42_9_28 (v := 1) rfl ?_
   refine c_virt 0 X17 hx hby hml hZ11 hown11 (tw_54 hw) (tw_55 hw) (tw_57 hw) (tw_56 hw) (tw_58 hw) (tw_8 hw) (rm_slast2_2 l Z a0 hw [] a0_ x0 x1 cs h11 n0 f11_0 f11_4 Scs hcs ⟨d0, kd0, f11_5, f11_6, f11_7, f11_8⟩) q17 f11_5 dp42_9_29 [(.int 47), (.int 1)] [] (lenOf pd1 rfl) rfl rfl (by rfl) (by decide) ?_
   rintro _ T18 Lc18 ⟨rfl, N18q, q18⟩ X18
   have N18 := Fr.app N17 N18q
   show oG p e below P m T18 32 #[(vR a0_), (vI 2), .unset] [(.int (own_l2 x0 x1))]
   rw [show (own_l2 x0 x1) = (own_l1 x0) from if_neg hq]
   rcases own_c1 x0 with hk | hk
   · rw [hk]
     show oG p e below P m T18 32 #[(vR a0_), (vI 2), .unset] [(.int (-1))]
     refine iS X18 hx hby dp42_9_32 (l' := #[(vR a0_), (vI 2), (vI (-1))]) rfl ?_
     refine iA X18 hx hby dp42_9_33 rfl ?_
     refine fN X18 hx hby dp42_9_34 (XT.i0_ge_f (by decide : (-1 : Int32) < (0 : Int32))) ?_
     obtain ⟨b19, T19, h19, k119, d19, kd19, X19, e19, E19, hS19, hk19, hZ19, hown19, Eb19, Fc19, Fv19, Vd19, lb19, ld19, C19, Lt19, Sf19, st19⟩ := ldcCH X18 hx hZ11 hown11 (tw_75 hw) wS q18 hS11 f11_2 hEL (by decide) f11_1.1 (vs := []) (z := (0 : Int32)) ⟨by decide, by decide⟩ (by decide) (by decide) (g := (mkF m 37 #[(vR a0_), (vI 2), (vI (-1))] [])) rfl (hb hby dp42_9_37) (n := 0) (by decide) (by decide) (by decide) (by decide)
     have f19_0 := Nat.le_trans f11_0 E19.1
     have f19_1 := CHr.trans f11_1 C19
     have f19_2 : k119 ≤ h19.size := hk19
     have f19_3 := Keep.ext f11_3 E19
     have f19_4 := Old.ext f11_4 E19
     have f19_5 := Exa.ext E19 f11_5
     have f19_6 := Fld.ext E19 f11_6
     have f19_7 := Fld.ext E19 f11_7
     have f19_8 := Arv.ext f11_8 E19
     have f19_9 := Exa.ext E19 Eb11
     have f19_10 := Fld.ext E19 Fc11
     have f19_11 := Fld.ext E19 Fv11
     have f19_12 := Arv.ext Vd11 E19
     refine Go.by st19 ?_
     show oG p e below P m T19 39 #[(vR a0_), (vI 2), (vI (-1))] [(.ref b19)]
     refine gO X19 hx hby dp42_9_39 (pc' := 48) (by decide) ?_
     refine own_finW hP hlk hEL hh X19 (v := some (.ref b19)) (fun h => by rw [Bd.returns] at h; cases h) (by decide) (by decide) e19 hS19 f19_2 hZ19 f19_1 ?_ (fun fs hr => retOut X19 hx Bd.returns rfl (Or.inr (Or.inr (Or.inr (Or.inr ⟨rfl, rfl, rfl⟩)))) (hb hby dp42_9_48) hr)
     exact ⟨b19, rfl, N18, f19_3, Or.inl ⟨hk, ⟨d19, kd19, Eb19, Fc19, Fv19, Vd19⟩⟩⟩
   · rw [hk]
     show oG p e below P m T18 32 #[(vR a0_), (vI 2), .unset] [(.int 0)]
     refine iS X18 hx hby dp42_9_32 (l' := #[(vR a0_), (vI 2), (vI 0)]) rfl ?_
     refine iA X18 hx hby dp42_9_33 rfl ?_
     refine fY X18 hx hby dp42_9_34 (pc' := 42) (XT.i0_ge_t (by decide : ¬ (0 : Int32) < (0 : Int32))) (by decide) ?_
     refine aA X18 hx hby dp42_9_42 rfl rfl ?_
     refine iC X18 hx hby dp42_9_43 (v := 0) rfl ?_
     refine iA X18 hx hby dp42_9_44 rfl ?_
     obtain ⟨cq20, kq20, q20a, q20b, q20c⟩ := isOf hZ11 q18 f11_5
     obtain ⟨_, _, ⟨T20, L20, k20, n20⟩, -, X20', hS20', hg20, ⟨Lc20, hQ20, l20, y20, z20, C20⟩, st20⟩ := X18.virtualBackS hx (y := oY1) (z := oY1) hown11 (mvT hZ11 (tw_97 hw)) (mvT hZ11 (tw_98 hw)) (notFace_of_selects (args := #[]) (mvT hZ11 (tw_100 hw))) (mvT hZ11 (tw_100 hw)) (mvT hZ11 (tw_99 hw)) (by decide) (own_backC (W := 0) (rm_subs0 l Z a0 hw hEL [] a0_ d0 kd0 (2 : Int32) [(.int x0), (.int x1)] cs fm h11 n0 f11_0 f11_4 Scs hcs Sfm hfm f11_5 f11_6 f11_7 f11_8 (by decide) (by decide)) hZ11 (tw_101 hw) (tw_8 hw) (by decide) (by decide) hEL f11_1.1 own_ss0) q20a q20c (g := (mkF m 45 #[(vR a0_), (vI 2), (vI 0)] [(.int 0), (.int 0), (.ref a0_)])) rfl (by rw [hml]; rfl) (Steps.refl _) (argsL := [(.int 0), (.int 0)]) (rest := []) (lenOf pd2 rfl) rfl (by show 2 * 0 + _ ≤ _; exact Nat.le_of_eq rfl) (hb hby dp42_9_45) (fun _ _ => ⟨rfl, q18, (by decide : 2 + 2 ≤ _), (by decide : 8 + 4 ≤ _)⟩)
     dsimp only [Pt.U, Pt.locs, Pt.cells, Pt.slots] at X20' hS20' hg20 l20 y20 z20 st20 hQ20 C20
     subst l20 y20 z20
     obtain ⟨X20, hS20, hZ20, hown20⟩ := rebS hS11 (f11_2) X20' hS20' (by have q := hg20; rw [q18] at q; exact q) hZ11 hown11
     have hk20 : T20.heap.size ≤ T20.heap.size := Nat.le_refl _
     obtain ⟨b20, rfl, N20q, K20, S20⟩ := hQ20
     have N20 := Fr.app N18 N20q
     refine Go.by (fun t k => st20.trans k) ?_
     have f20_0 := Nat.le_trans f11_0 K20.1
     have f20_1 := CHr.trans f11_1 C20
     have f20_2 : T20.heap.size ≤ T20.heap.size := hk20
     have f20_3 := Keep.trans f11_3 K20 all0
     have f20_4 := Old.keep f11_4 K20 all0
     have f20_5 := Exa.keep f11_5 K20
     have f20_6 := Fld.keep f11_6 K20 nin0
     have f20_7 := Fld.keep f11_7 K20 nin0
     have f20_8 := Arv.keep f11_8 K20 nin0
     have f20_9 := Exa.keep Eb11 K20
     have f20_10 := Fld.keep Fc11 K20 nin0
     have f20_11 := Fld.keep Fv11 K20 nin0
     have f20_12 := Arv.keep Vd11 K20 nin0
     show oG p e below P m T20 48 #[(vR a0_), (vI 2), (vI 0)] [(.ref b20)]
     refine own_finW hP hlk hEL hh X20 (v := some (.ref b20)) (fun h => by rw [Bd.returns] at h; cases h) (by decide) (by decide) rfl hS20 f20_2 hZ20 f20_1 ?_ (fun fs hr => retOut X20 hx Bd.returns rfl (Or.inr (Or.inr (Or.inr (Or.inr ⟨rfl, rfl, rfl⟩)))) (hb hby dp42_9_48) hr)
     exact ⟨b20, rfl, N20, f20_3, Or.inr (⟨hk, S20⟩)⟩
def Q_dirOf3 (Z : State) (a0_ : Addr) (x0 x1 x2 cs : Int32) (fm : Value) (h0 : Heap) (n0 : Nat) (v : Option Value) (h : Heap) (L : List Loc) : Prop := ∃ r, v = some (.ref r) ∧ Fr n0 L ∧ Keep h0 h [] ∧ (((own_l2 x0 x1) = (-1 : Int32) ∧ StrV Z h r []) ∨ ((own_l2 x0 x1) = (0 : Int32) ∧ StrV Z h r []) ∨ ((own_l2 x0 x1) = (1 : Int32) ∧ StrV Z h r [x0]))
theorem ef_dirOf3 (m : MethodId) (a0_ : Addr) (x0 x1 x2 cs : Int32) (fm : Value) : entryFrame m #[(.ref a0_)] 3 = mkF m 0 #[(vR a0_), .unset, .unset] [] := by first | (simp [entryFrame, mkF, argsToLocals, Value.category]; done) | rfl
theorem rm_dirOf3 (l : Launch) (Z : State) (a0 : Array Value) (hw : oW a0 Z) (hEL : EW Z a0 own_EL) (ws : List Jvm.Cond) (a0_ : Addr) (x0 x1 x2 cs : Int32) (fm : Value) (h0 : Heap) (n0 : Nat) (Z0 : n0 ≤ h0.size) (O0 : Old Z n0 h0) (Scs : Sta Z Z.heap "java/lang/String" "COMPACT_STRINGS" "Z" (.int cs)) (hcs : ¬ cs = (0 : Int32)) (Sfm : Sta Z Z.heap "jdk/internal/util/Preconditions" "SIOOBE_FORMATTER" "Ljava/util/function/BiFunction;" fm) (hfm : fm.isRef = true) (S0 : StrV Z h0 a0_ [x0, x1, x2]) :
   MetFree l oY14 (head1 (Jvm.Cond.code oY14 p42_9 3 (some (.object "java/lang/String")) :: ws) (own_R 5 4 16 100)) (fun a U => a = #[(.ref a0_)] ∧ Z.Warmed39 U.vm ∧ U.heap = h0 ∧ CHv Z own_EL U.vm h0 ∧ ∀ x ∈ ([] : List Addr), Safe Z own_EL U.vm h0 x) (fun _ _ _ _ _ => True) (fun _ U o U' => ∃ v L, o = .returned v ∧ Q_dirOf3 Z a0_ x0 x1 x2 cs fm h0 n0 v U'.heap L ∧ CHr Z own_EL U.vm U.heap U'.vm U'.heap ∧ ReturnedEndW U o U' L (own_R 5 4 16 100).cells (own_R 5 4 16 100).slots) := by
 refine MetFree.of_bodySF (plainFor_of_name pn5) hisR ?_
 intro p e s m args below meth c s₁ Bd hml0 hP hK
 obtain ⟨rfl, hZ, hh, hCH, hSf⟩ := hP
 have hx := Bd.exec
 have hby := Bd.bytes
 have hml : c.maxLocals = 3 := hml0
 have hown : s.vm.findClass "jarkeep/source/Source" = some m.cls := findClass_of_methodNamed Bd.named
 have hnm := (name_of_methodNamed Bd.named Bd.method).1
 have X0 : Stand p l e (own_R 5 4 16 100) (s.setVm s.vm) m #[(.ref a0_)] below meth c s₁ [] 0 0 := Stand.of_body Bd
 have e0 : s₁.heap = h0 := by rw [← hh, Bd.state]; rfl
 have N0 := Fr.nil n0
 have hZs := hZ
 have wS := own_wS hw
 have hS0 : s.Since s.vm s.heap.size := (State.WarmedH.refl s).since _
 have hk0 : s.heap.size ≤ h0.size := Nat.le_of_eq (congrArg Array.size hh)
 have hlk : meth.locks = false := Bd.notSynchronized
 obtain ⟨P, hP⟩ : ∃ P : Outcome → State → Prop, P = PQW s Z own_EL (Q_dirOf3 Z a0_ x0 x1 x2 cs fm h0 n0) (own_R 5 4 16 100).cells (own_R 5 4 16 100).slots := ⟨_, rfl⟩
 suffices hgo : Go p e below P (s₁.setTop (mkF m 0 #[(vR a0_), .unset, .unset] [])) by
   rw [hP] at hgo
   exact Go.by (fun t k => castTop (ef_dirOf3 m a0_ x0 x1 x2 cs fm) k) hgo
 obtain ⟨d0, kd0, ES0, CS0, VS0, AS0⟩ := S0
 have AT0 : Arv Z h0 d0 kd0 .byte (3 : Int32) [(.int x0), (.int x1), (.int x2)] (.int 0) := AS0
 show oG p e below P m s₁ 0 #[(vR a0_), .unset, .unset] []
 refine aA X0 hx hby dp42_9_0 rfl rfl ?_
 obtain ⟨b11, T11, h11, k111, d11, kd11, X11, e11, E11, hS11, hk11, hZ11, hown11, Eb11, Fc11, Fv11, Vd11, lb11, ld11, C11, Lt11, Sf11, st11⟩ := ldcCH X0 hx hZ hown (tw_31 hw) wS e0 hS0 hk0 hEL (by decide) (CHr.refl hCH).1 (vs := [(.int 47)]) (z := (1 : Int32)) ⟨by decide, by decide⟩ (by decide) (by decide) (g := (mkF m 1 #[(vR a0_), .unset, .unset] [(.ref a0_)])) rfl (hb hby dp42_9_1) (n := 4) (by decide) (by decide) (by decide) (by decide)
 have f11_0 := Nat.le_trans Z0 E11.1
 have f11_1 := CHr.trans (CHr.refl hCH) C11
 have f11_2 : k111 ≤ h11.size := hk11
 have f11_3 := Keep.ext (Keep.refl h0 []) E11
 have f11_4 := Old.ext O0 E11
 have f11_5 := Exa.ext E11 ES0
 have f11_6 := Fld.ext E11 CS0
 have f11_7 := Fld.ext E11 VS0
 have f11_8 := Arv.ext AT0 E11
 refine Go.by st11 ?_
 refine c_virt 0 X11 hx hby hml hZ11 hown11 (tw_32 hw) (tw_33 hw) (tw_35 hw) (tw_34 hw) (tw_36 hw) (tw_8 hw) (rm_endsW3 l Z a0 hw [] a0_ b11 x0 x1 x2 cs h11 n0 f11_0 f11_4 Scs hcs ⟨d0, kd0, f11_5, f11_6, f11_7, f11_8⟩ ⟨d11, kd11, Eb11, Fc11, Fv11, Vd11⟩) e11 f11_5 dp42_9_3 [(.ref b11)] [] (lenOf pd16 rfl) rfl rfl (by rfl) (by decide) ?_
 rintro _ T12 Lc12 ⟨rfl, N12q, q12⟩ X12
 have N12 := Fr.app N0 N12q
 show oG p e below P m T12 6 #[(vR a0_), .unset, .unset] [(.int (if x2 = (47 : Int32) then (1 : Int32) else 0))]
 by_cases hq : x2 = (47 : Int32)
 · rw [if_pos hq]
   show oG p e below P m T12 6 #[(vR a0_), .unset, .unset] [(.int 1)]
   refine fN X12 hx hby dp42_9_6 (XT.i0_eq_f (by decide : ¬ (1 : Int32) = (0 : Int32))) ?_
   refine aA X12 hx hby dp42_9_9 rfl rfl ?_
   refine c_virt 0 X12 hx hby hml hZ11 hown11 (tw_53 hw) (tw_38 hw) (tw_40 hw) (tw_39 hw) (tw_41 hw) (tw_8 hw) (rm_slen l Z a0 hw [] a0_ d0 kd0 (3 : Int32) [(.int x0), (.int x1), (.int x2)] cs h11 n0 f11_0 f11_4 Scs hcs f11_5 f11_6 f11_7 f11_8) q12 f11_5 dp42_9_10 [] [] (lenOf pd0 rfl) rfl rfl (by rfl) (by decide) ?_
   rintro _ T13 Lc13 ⟨rfl, N13q, q13⟩ X13
   have N13 := Fr.app N12 N13q
   refine iC X13 hx hby dp42_9_13 (v := 1) rfl ?_
   refine iM X13 hx hby dp42_9_14 (v := 2) rfl ?_
   refine gO X13 hx hby dp42_9_15 (pc' := 22) (by decide) ?_
   refine iS X13 hx hby dp42_9_22 (l' := #[(vR a0_), (vI 2), .unset]) rfl ?_
   refine aA X13 hx hby dp42_9_23 rfl rfl ?_
   refine bC X13 hx hby dp42_9_24 (v := 47) rfl ?_
   refine iA X13 hx hby dp42_9_26 rfl ?_
   refine iC X13 hx hby dp42_9_27 (v := 1) rfl ?_
   refine iM X13 hx hby dp42_9_28 (v := 1) rfl ?_
   refine c_virt 0 X13 hx hby hml hZ11 hown11 (tw_54 hw) (tw_55 hw) (tw_57 hw) (tw_56 hw) (tw_58 hw) (tw_8 hw) (rm_slast3_2 l Z a0 hw [] a0_ x0 x1 x2 cs h11 n0 f11_0 f11_4 Scs hcs ⟨d0, kd0, f11_5, f11_6, f11_7, f11_8⟩) q13 f11_5 dp42_9_29 [(.int 47), (.int 1)] [] (lenOf pd1 rfl) rfl rfl (by rfl) (by decide) ?_
   rintro _ T14 Lc14 ⟨rfl, N14q, q14⟩ X14
   have N14 := Fr.app N13 N14q
   show oG p e below P m T14 32 #[(vR a0_), (vI 2), .unset] [(.int (own_l2 x0 x1))]
   rcases own_c2 x0 x1 with hk | hk | hk
   · rw [hk]
     show oG p e below P m T14 32 #[(vR a0_), (vI 2), .unset] [(.int (-1))]
     refine iS X14 hx hby dp42_9_32 (l' := #[(vR a0_), (vI 2), (vI (-1))]) rfl ?_
     refine iA X14 hx hby dp42_9_33 rfl ?_
     refine fN X14 hx hby dp42_9_34 (XT.i0_ge_f (by decide : (-1 : Int32) < (0 : Int32))) ?_
     obtain ⟨b15, T15, h15, k115, d15, kd15, X15, e15, E15, hS15, hk15, hZ15, hown15, Eb15, Fc15, Fv15, Vd15, lb15, ld15, C15, Lt15, Sf15, st15⟩ := ldcCH X14 hx hZ11 hown11 (tw_75 hw) wS q14 hS11 f11_2 hEL (by decide) f11_1.1 (vs := []) (z := (0 : Int32)) ⟨by decide, by decide⟩ (by decide) (by decide) (g := (mkF m 37 #[(vR a0_), (vI 2), (vI (-1))] [])) rfl (hb hby dp42_9_37) (n := 0) (by decide) (by decide) (by decide) (by decide)
     have f15_0 := Nat.le_trans f11_0 E15.1
     have f15_1 := CHr.trans f11_1 C15
     have f15_2 : k115 ≤ h15.size := hk15
     have f15_3 := Keep.ext f11_3 E15
     have f15_4 := Old.ext f11_4 E15
     have f15_5 := Exa.ext E15 f11_5
     have f15_6 := Fld.ext E15 f11_6
     have f15_7 := Fld.ext E15 f11_7
     have f15_8 := Arv.ext f11_8 E15
     have f15_9 := Exa.ext E15 Eb11
     have f15_10 := Fld.ext E15 Fc11
     have f15_11 := Fld.ext E15 Fv11
     have f15_12 := Arv.ext Vd11 E15
     refine Go.by st15 ?_
     show oG p e below P m T15 39 #[(vR a0_), (vI 2), (vI (-1))] [(.ref b15)]
     refine gO X15 hx hby dp42_9_39 (pc' := 48) (by decide) ?_
     refine own_finW hP hlk hEL hh X15 (v := some (.ref b15)) (fun h => by rw [Bd.returns] at h; cases h) (by decide) (by decide) e15 hS15 f15_2 hZ15 f15_1 ?_ (fun fs hr => retOut X15 hx Bd.returns rfl (Or.inr (Or.inr (Or.inr (Or.inr ⟨rfl, rfl, rfl⟩)))) (hb hby dp42_9_48) hr)
     exact ⟨b15, rfl, N14, f15_3, Or.inl ⟨hk, ⟨d15, kd15, Eb15, Fc15, Fv15, Vd15⟩⟩⟩
   · rw [hk]
     show oG p e below P m T14 32 #[(vR a0_), (vI 2), .unset] [(.int 0)]
     refine iS X14 hx hby dp42_9_32 (l' := #[(vR a0_), (vI 2), (vI 0)]) rfl ?_
     refine iA X14 hx hby dp42_9_33 rfl ?_
     refine fY X14 hx hby dp42_9_34 (pc' := 42) (XT.i0_ge_t (by decide : ¬ (0 : Int32) < (0 : Int32))) (by decide) ?_
     refine aA X14 hx hby dp42_9_42 rfl rfl ?_
     refine iC X14 hx hby dp42_9_43 (v := 0) rfl ?_
     refine iA X14 hx hby dp42_9_44 rfl ?_
     obtain ⟨cq16, kq16, q16a, q16b, q16c⟩ := isOf hZ11 q14 f11_5
     obtain ⟨_, _, ⟨T16, L16, k16, n16⟩, -, X16', hS16', hg16, ⟨Lc16, hQ16, l16, y16, z16, C16⟩, st16⟩ := X14.virtualBackS hx (y := oY1) (z := oY1) hown11 (mvT hZ11 (tw_97 hw)) (mvT hZ11 (tw_98 hw)) (notFace_of_selects (args := #[]) (mvT hZ11 (tw_100 hw))) (mvT hZ11 (tw_100 hw)) (mvT hZ11 (tw_99 hw)) (by decide) (own_backC (W := 0) (rm_subs0 l Z a0 hw hEL [] a0_ d0 kd0 (3 : Int32) [(.int x0), (.int x1), (.int x2)] cs fm h11 n0 f11_0 f11_4 Scs hcs Sfm hfm f11_5 f11_6 f11_7 f11_8 (by decide) (by decide)) hZ11 (tw_101 hw) (tw_8 hw) (by decide) (by decide) hEL f11_1.1 own_ss0) q16a q16c (g := (mkF m 45 #[(vR a0_), (vI 2), (vI 0)] [(.int 0), (.int 0), (.ref a0_)])) rfl (by rw [hml]; rfl) (Steps.refl _) (argsL := [(.int 0), (.int 0)]) (rest := []) (lenOf pd2 rfl) rfl (by show 2 * 0 + _ ≤ _; exact Nat.le_of_eq rfl) (hb hby dp42_9_45) (fun _ _ => ⟨rfl, q14, (by decide : 2 + 2 ≤ _), (by decide : 8 + 4 ≤ _)⟩)
     dsimp only [Pt.U, Pt.locs, Pt.cells, Pt.slots] at X16' hS16' hg16 l16 y16 z16 st16 hQ16 C16
     subst l16 y16 z16
     obtain ⟨X16, hS16, hZ16, hown16⟩ := rebS hS11 (f11_2) X16' hS16' (by have q := hg16; rw [q14] at q; exact q) hZ11 hown11
     have hk16 : T16.heap.size ≤ T16.heap.size := Nat.le_refl _
     obtain ⟨b16, rfl, N16q, K16, S16⟩ := hQ16
     have N16 := Fr.app N14 N16q
     refine Go.by (fun t k => st16.trans k) ?_
     have f16_0 := Nat.le_trans f11_0 K16.1
     have f16_1 := CHr.trans f11_1 C16
     have f16_2 : T16.heap.size ≤ T16.heap.size := hk16
     have f16_3 := Keep.trans f11_3 K16 all0
     have f16_4 := Old.keep f11_4 K16 all0
     have f16_5 := Exa.keep f11_5 K16
     have f16_6 := Fld.keep f11_6 K16 nin0
     have f16_7 := Fld.keep f11_7 K16 nin0
     have f16_8 := Arv.keep f11_8 K16 nin0
     have f16_9 := Exa.keep Eb11 K16
     have f16_10 := Fld.keep Fc11 K16 nin0
     have f16_11 := Fld.keep Fv11 K16 nin0
     have f16_12 := Arv.keep Vd11 K16 nin0
     show oG p e below P m T16 48 #[(vR a0_), (vI 2), (vI 0)] [(.ref b16)]
     refine own_finW hP hlk hEL hh X16 (v := some (.ref b16)) (fun h => by rw [Bd.returns] at h; cases h) (by decide) (by decide) rfl hS16 f16_2 hZ16 f16_1 ?_ (fun fs hr => retOut X16 hx Bd.returns rfl (Or.inr (Or.inr (Or.inr (Or.inr ⟨rfl, rfl, rfl⟩)))) (hb hby dp42_9_48) hr)
     exact ⟨b16, rfl, N16, f16_3, Or.inr (Or.inl ⟨hk, S16⟩)⟩
   · rw [hk]
     show oG p e below P m T14 32 #[(vR a0_), (vI 2), .unset] [(.int 1)]
     refine iS X14 hx hby dp42_9_32 (l' := #[(vR a0_), (vI 2), (vI 1)]) rfl ?_
     refine iA X14 hx hby dp42_9_33 rfl ?_
     refine fY X14 hx hby dp42_9_34 (pc' := 42) (XT.i0_ge_t (by decide : ¬ (1 : Int32) < (0 : Int32))) (by decide) ?_
     refine aA X14 hx hby dp42_9_42 rfl rfl ?_
     refine iC X14 hx hby dp42_9_43 (v := 0) rfl ?_
     refine iA X14 hx hby dp42_9_44 rfl ?_
     refine c_virt 0 X14 hx hby hml hZ11 hown11 (tw_97 hw) (tw_98 hw) (tw_100 hw) (tw_99 hw) (tw_101 hw) (tw_8 hw) (rm_subs3_1 l Z a0 hw [] a0_ x0 x1 x2 cs fm h11 n0 f11_0 f11_4 Scs hcs Sfm hfm ⟨d0, kd0, f11_5, f11_6, f11_7, f11_8⟩) q14 f11_5 dp42_9_45 [(.int 0), (.int 1)] [] (lenOf pd2 rfl) rfl rfl (by rfl) (by decide) ?_
     rintro _ T17 Lc17 ⟨b17, rfl, N17q, K17, S17⟩ X17
     have N17 := Fr.app N14 N17q
     have f17_0 := Nat.le_trans f11_0 K17.1
     have f17_1 := CHr.trans f11_1 (CHr.keep K17 sf0 f11_1.1)
     have f17_2 := Nat.le_trans f11_2 K17.1
     have f17_3 := Keep.trans f11_3 K17 all0
     have f17_4 := Old.keep f11_4 K17 all0
     have f17_5 := Exa.keep f11_5 K17
     have f17_6 := Fld.keep f11_6 K17 nin0
     have f17_7 := Fld.keep f11_7 K17 nin0
     have f17_8 := Arv.keep f11_8 K17 nin0
     have f17_9 := Exa.keep Eb11 K17
     have f17_10 := Fld.keep Fc11 K17 nin0
     have f17_11 := Fld.keep Fv11 K17 nin0
     have f17_12 := Arv.keep Vd11 K17 nin0
     show oG p e below P m T17 48 #[(vR a0_), (vI 2), (vI 1)] [(.ref b17)]
     refine own_finW hP hlk hEL hh X17 (v := some (.ref b17)) (fun h => by rw [Bd.returns] at h; cases h) (by decide) (by decide) rfl hS11 f17_2 hZ11 f17_1 ?_ (fun fs hr => retOut X17 hx Bd.returns rfl (Or.inr (Or.inr (Or.inr (Or.inr ⟨rfl, rfl, rfl⟩)))) (hb hby dp42_9_48) hr)
     exact ⟨b17, rfl, N17, f17_3, Or.inr (Or.inr (⟨hk, S17⟩))⟩
 · rw [if_neg hq]
   show oG p e below P m T12 6 #[(vR a0_), .unset, .unset] [(.int 0)]
   refine fY X12 hx hby dp42_9_6 (pc' := 18) (XT.i0_eq_t (by decide : (0 : Int32) = (0 : Int32))) (by decide) ?_
   refine aA X12 hx hby dp42_9_18 rfl rfl ?_
   refine c_virt 0 X12 hx hby hml hZ11 hown11 (tw_53 hw) (tw_38 hw) (tw_40 hw) (tw_39 hw) (tw_41 hw) (tw_8 hw) (rm_slen l Z a0 hw [] a0_ d0 kd0 (3 : Int32) [(.int x0), (.int x1), (.int x2)] cs h11 n0 f11_0 f11_4 Scs hcs f11_5 f11_6 f11_7 f11_8) q12 f11_5 dp42_9_19 [] [] (lenOf pd0 rfl) rfl rfl (by rfl) (by decide) ?_
   rintro _ T18 Lc18 ⟨rfl, N18q, q18⟩ X18
   have N18 := Fr.app N12 N18q
   refine iS X18 hx hby dp42_9_22 (l' := #[(vR a0_), (vI 3), .unset]) rfl ?_
   refine aA X18 hx hby dp42_9_23 rfl rfl ?_
   refine bC X18 hx hby dp42_9_24 (v := 47) rfl ?_
   refine iA X18 hx hby dp42_9_26 rfl ?_
   refine iC X18 hx hby dp42_9_27 (v := 1) rfl ?_
   refine iM X18 hx hby dp42_9_28 (v := 2) rfl ?_
   refine c_virt 0 X18 hx hby hml hZ11 hown11 (tw_54 hw) (tw_55 hw) (tw_57 hw) (tw_56 hw) (tw_58 hw) (tw_8 hw) (rm_slast3_3 l Z a0 hw [] a0_ x0 x1 x2 cs h11 n0 f11_0 f11_4 Scs hcs ⟨d0, kd0, f11_5, f11_6, f11_7, f11_8⟩) q18 f11_5 dp42_9_29 [(.int 47), (.int 2)] [] (lenOf pd1 rfl) rfl rfl (by rfl) (by decide) ?_
   rintro _ T19 Lc19 ⟨rfl, N19q, q19⟩ X19
   have N19 := Fr.app N18 N19q
   show oG p e below P m T19 32 #[(vR a0_), (vI 3), .unset] [(.int (own_l3 x0 x1 x2))]
   rw [show (own_l3 x0 x1 x2) = (own_l2 x0 x1) from if_neg hq]
   rcases own_c2 x0 x1 with hk | hk | hk
   · rw [hk]
     show oG p e below P m T19 32 #[(vR a0_), (vI 3), .unset] [(.int (-1))]
     refine iS X19 hx hby dp42_9_32 (l' := #[(vR a0_), (vI 3), (vI (-1))]) rfl ?_
     refine iA X19 hx hby dp42_9_33 rfl ?_
     refine fN X19 hx hby dp42_9_34 (XT.i0_ge_f (by decide : (-1 : Int32) < (0 : Int32))) ?_
     obtain ⟨b20, T20, h20, k120, d20, kd20, X20, e20, E20, hS20, hk20, hZ20, hown20, Eb20, Fc20, Fv20, Vd20, lb20, ld20, C20, Lt20, Sf20, st20⟩ := ldcCH X19 hx hZ11 hown11 (tw_75 hw) wS q19 hS11 f11_2 hEL (by decide) f11_1.1 (vs := []) (z := (0 : Int32)) ⟨by decide, by decide⟩ (by decide) (by decide) (g := (mkF m 37 #[(vR a0_), (vI 3), (vI (-1))] [])) rfl (hb hby dp42_9_37) (n := 0) (by decide) (by decide) (by decide) (by decide)
     have f20_0 := Nat.le_trans f11_0 E20.1
     have f20_1 := CHr.trans f11_1 C20
     have f20_2 : k120 ≤ h20.size := hk20
     have f20_3 := Keep.ext f11_3 E20
     have f20_4 := Old.ext f11_4 E20
     have f20_5 := Exa.ext E20 f11_5
     have f20_6 := Fld.ext E20 f11_6
     have f20_7 := Fld.ext E20 f11_7
     have f20_8 := Arv.ext f11_8 E20
     have f20_9 := Exa.ext E20 Eb11
     have f20_10 := Fld.ext E20 Fc11
     have f20_11 := Fld.ext E20 Fv11
     have f20_12 := Arv.ext Vd11 E20
     refine Go.by st20 ?_
     show oG p e below P m T20 39 #[(vR a0_), (vI 3), (vI (-1))] [(.ref b20)]
     refine gO X20 hx hby dp42_9_39 (pc' := 48) (by decide) ?_
     refine own_finW hP hlk hEL hh X20 (v := some (.ref b20)) (fun h => by rw [Bd.returns] at h; cases h) (by decide) (by decide) e20 hS20 f20_2 hZ20 f20_1 ?_ (fun fs hr => retOut X20 hx Bd.returns rfl (Or.inr (Or.inr (Or.inr (Or.inr ⟨rfl, rfl, rfl⟩)))) (hb hby dp42_9_48) hr)
     exact ⟨b20, rfl, N19, f20_3, Or.inl ⟨hk, ⟨d20, kd20, Eb20, Fc20, Fv20, Vd20⟩⟩⟩
   · rw [hk]
     show oG p e below P m T19 32 #[(vR a0_), (vI 3), .unset] [(.int 0)]
     refine iS X19 hx hby dp42_9_32 (l' := #[(vR a0_), (vI 3), (vI 0)]) rfl ?_
     refine iA X19 hx hby dp42_9_33 rfl ?_
     refine fY X19 hx hby dp42_9_34 (pc' := 42) (XT.i0_ge_t (by decide : ¬ (0 : Int32) < (0 : Int32))) (by decide) ?_
     refine aA X19 hx hby dp42_9_42 rfl rfl ?_
     refine iC X19 hx hby dp42_9_43 (v := 0) rfl ?_
     refine iA X19 hx hby dp42_9_44 rfl ?_
     obtain ⟨cq21, kq21, q21a, q21b, q21c⟩ := isOf hZ11 q19 f11_5
     obtain ⟨_, _, ⟨T21, L21, k21, n21⟩, -, X21', hS21', hg21, ⟨Lc21, hQ21, l21, y21, z21, C21⟩, st21⟩ := X19.virtualBackS hx (y := oY1) (z := oY1) hown11 (mvT hZ11 (tw_97 hw)) (mvT hZ11 (tw_98 hw)) (notFace_of_selects (args := #[]) (mvT hZ11 (tw_100 hw))) (mvT hZ11 (tw_100 hw)) (mvT hZ11 (tw_99 hw)) (by decide) (own_backC (W := 0) (rm_subs0 l Z a0 hw hEL [] a0_ d0 kd0 (3 : Int32) [(.int x0), (.int x1), (.int x2)] cs fm h11 n0 f11_0 f11_4 Scs hcs Sfm hfm f11_5 f11_6 f11_7 f11_8 (by decide) (by decide)) hZ11 (tw_101 hw) (tw_8 hw) (by decide) (by decide) hEL f11_1.1 own_ss0) q21a q21c (g := (mkF m 45 #[(vR a0_), (vI 3), (vI 0)] [(.int 0), (.int 0), (.ref a0_)])) rfl (by rw [hml]; rfl) (Steps.refl _) (argsL := [(.int 0), (.int 0)]) (rest := []) (lenOf pd2 rfl) rfl (by show 2 * 0 + _ ≤ _; exact Nat.le_of_eq rfl) (hb hby dp42_9_45) (fun _ _ => ⟨rfl, q19, (by decide : 2 + 2 ≤ _), (by decide : 8 + 4 ≤ _)⟩)
     dsimp only [Pt.U, Pt.locs, Pt.cells, Pt.slots] at X21' hS21' hg21 l21 y21 z21 st21 hQ21 C21
     subst l21 y21 z21
     obtain ⟨X21, hS21, hZ21, hown21⟩ := rebS hS11 (f11_2) X21' hS21' (by have q := hg21; rw [q19] at q; exact q) hZ11 hown11
     have hk21 : T21.heap.size ≤ T21.heap.size := Nat.le_refl _
     obtain ⟨b21, rfl, N21q, K21, S21⟩ := hQ21
     have N21 := Fr.app N19 N21q
     refine Go.by (fun t k => st21.trans k) ?_
     have f21_0 := Nat.le_trans f11_0 K21.1
     have f21_1 := CHr.trans f11_1 C21
     have f21_2 : T21.heap.size ≤ T21.heap.size := hk21
     have f21_3 := Keep.trans f11_3 K21 all0
     have f21_4 := Old.keep f11_4 K21 all0
     have f21_5 := Exa.keep f11_5 K21
     have f21_6 := Fld.keep f11_6 K21 nin0
     have f21_7 := Fld.keep f11_7 K21 nin0
     have f21_8 := Arv.keep f11_8 K21 nin0
     have f21_9 := Exa.keep Eb11 K21
     have f21_10 := Fld.keep Fc11 K21 nin0
     have f21_11 := Fld.keep Fv11 K21 nin0
     have f21_12 := Arv.keep Vd11 K21 nin0
     show oG p e below P m T21 48 #[(vR a0_), (vI 3), (vI 0)] [(.ref b21)]
     refine own_finW hP hlk hEL hh X21 (v := some (.ref b21)) (fun h => by rw [Bd.returns] at h; cases h) (by decide) (by decide) rfl hS21 f21_2 hZ21 f21_1 ?_ (fun fs hr => retOut X21 hx Bd.returns rfl (Or.inr (Or.inr (Or.inr (Or.inr ⟨rfl, rfl, rfl⟩)))) (hb hby dp42_9_48) hr)
     exact ⟨b21, rfl, N21, f21_3, Or.inr (Or.inl ⟨hk, S21⟩)⟩
   · rw [hk]
     show oG p e below P m T19 32 #[(vR a0_), (vI 3), .unset] [(.int 1)]
     refine iS X19 hx hby dp42_9_32 (l' := #[(vR a0_), (vI 3), (vI 1)]) rfl ?_
     refine iA X19 hx hby dp42_9_33 rfl ?_
     refine fY X19 hx hby dp42_9_34 (pc' := 42) (XT.i0_ge_t (by decide : ¬ (1 : Int32) < (0 : Int32))) (by decide) ?_
     refine aA X19 hx hby dp42_9_42 rfl rfl ?_
     refine iC X19 hx hby dp42_9_43 (v := 0) rfl ?_
     refine iA X19 hx hby dp42_9_44 rfl ?_
     refine c_virt 0 X19 hx hby hml hZ11 hown11 (tw_97 hw) (tw_98 hw) (tw_100 hw) (tw_99 hw) (tw_101 hw) (tw_8 hw) (rm_subs3_1 l Z a0 hw [] a0_ x0 x1 x2 cs fm h11 n0 f11_0 f11_4 Scs hcs Sfm hfm ⟨d0, kd0, f11_5, f11_6, f11_7, f11_8⟩) q19 f11_5 dp42_9_45 [(.int 0), (.int 1)] [] (lenOf pd2 rfl) rfl rfl (by rfl) (by decide) ?_
     rintro _ T22 Lc22 ⟨b22, rfl, N22q, K22, S22⟩ X22
     have N22 := Fr.app N19 N22q
     have f22_0 := Nat.le_trans f11_0 K22.1
     have f22_1 := CHr.trans f11_1 (CHr.keep K22 sf0 f11_1.1)
     have f22_2 := Nat.le_trans f11_2 K22.1
     have f22_3 := Keep.trans f11_3 K22 all0
     have f22_4 := Old.keep f11_4 K22 all0
     have f22_5 := Exa.keep f11_5 K22
     have f22_6 := Fld.keep f11_6 K22 nin0
     have f22_7 := Fld.keep f11_7 K22 nin0
     have f22_8 := Arv.keep f11_8 K22 nin0
     have f22_9 := Exa.keep Eb11 K22
     have f22_10 := Fld.keep Fc11 K22 nin0
     have f22_11 := Fld.keep Fv11 K22 nin0
     have f22_12 := Arv.keep Vd11 K22 nin0
     show oG p e below P m T22 48 #[(vR a0_), (vI 3), (vI 1)] [(.ref b22)]
     refine own_finW hP hlk hEL hh X22 (v := some (.ref b22)) (fun h => by rw [Bd.returns] at h; cases h) (by decide) (by decide) rfl hS11 f22_2 hZ11 f22_1 ?_ (fun fs hr => retOut X22 hx Bd.returns rfl (Or.inr (Or.inr (Or.inr (Or.inr ⟨rfl, rfl, rfl⟩)))) (hb hby dp42_9_48) hr)
     exact ⟨b22, rfl, N22, f22_3, Or.inr (Or.inr (⟨hk, S22⟩))⟩
def Q_dirOf4 (Z : State) (a0_ : Addr) (x0 x1 x2 x3 cs : Int32) (fm : Value) (h0 : Heap) (n0 : Nat) (v : Option Value) (h : Heap) (L : List Loc) : Prop := ∃ r, v = some (.ref r) ∧ Fr n0 L ∧ Keep h0 h [] ∧ (((own_l3 x0 x1 x2) = (-1 : Int32) ∧ StrV Z h r []) ∨ ((own_l3 x0 x1 x2) = (0 : Int32) ∧ StrV Z h r []) ∨ ((own_l3 x0 x1 x2) = (1 : Int32) ∧ StrV Z h r [x0]) ∨ ((own_l3 x0 x1 x2) = (2 : Int32) ∧ StrV Z h r [x0, x1]))
theorem ef_dirOf4 (m : MethodId) (a0_ : Addr) (x0 x1 x2 x3 cs : Int32) (fm : Value) : entryFrame m #[(.ref a0_)] 3 = mkF m 0 #[(vR a0_), .unset, .unset] [] := by first | (simp [entryFrame, mkF, argsToLocals, Value.category]; done) | rfl
theorem rm_dirOf4 (l : Launch) (Z : State) (a0 : Array Value) (hw : oW a0 Z) (hEL : EW Z a0 own_EL) (ws : List Jvm.Cond) (a0_ : Addr) (x0 x1 x2 x3 cs : Int32) (fm : Value) (h0 : Heap) (n0 : Nat) (Z0 : n0 ≤ h0.size) (O0 : Old Z n0 h0) (Scs : Sta Z Z.heap "java/lang/String" "COMPACT_STRINGS" "Z" (.int cs)) (hcs : ¬ cs = (0 : Int32)) (Sfm : Sta Z Z.heap "jdk/internal/util/Preconditions" "SIOOBE_FORMATTER" "Ljava/util/function/BiFunction;" fm) (hfm : fm.isRef = true) (S0 : StrV Z h0 a0_ [x0, x1, x2, x3]) :
   MetFree l oY14 (head1 (Jvm.Cond.code oY14 p42_9 3 (some (.object "java/lang/String")) :: ws) (own_R 5 4 16 100)) (fun a U => a = #[(.ref a0_)] ∧ Z.Warmed39 U.vm ∧ U.heap = h0 ∧ CHv Z own_EL U.vm h0 ∧ ∀ x ∈ ([] : List Addr), Safe Z own_EL U.vm h0 x) (fun _ _ _ _ _ => True) (fun _ U o U' => ∃ v L, o = .returned v ∧ Q_dirOf4 Z a0_ x0 x1 x2 x3 cs fm h0 n0 v U'.heap L ∧ CHr Z own_EL U.vm U.heap U'.vm U'.heap ∧ ReturnedEndW U o U' L (own_R 5 4 16 100).cells (own_R 5 4 16 100).slots) := by
 refine MetFree.of_bodySF (plainFor_of_name pn5) hisR ?_
 intro p e s m args below meth c s₁ Bd hml0 hP hK
 obtain ⟨rfl, hZ, hh, hCH, hSf⟩ := hP
 have hx := Bd.exec
 have hby := Bd.bytes
 have hml : c.maxLocals = 3 := hml0
 have hown : s.vm.findClass "jarkeep/source/Source" = some m.cls := findClass_of_methodNamed Bd.named
 have hnm := (name_of_methodNamed Bd.named Bd.method).1
 have X0 : Stand p l e (own_R 5 4 16 100) (s.setVm s.vm) m #[(.ref a0_)] below meth c s₁ [] 0 0 := Stand.of_body Bd
 have e0 : s₁.heap = h0 := by rw [← hh, Bd.state]; rfl
 have N0 := Fr.nil n0
 have hZs := hZ
 have wS := own_wS hw
 have hS0 : s.Since s.vm s.heap.size := (State.WarmedH.refl s).since _
 have hk0 : s.heap.size ≤ h0.size := Nat.le_of_eq (congrArg Array.size hh)
 have hlk : meth.locks = false := Bd.notSynchronized
 obtain ⟨P, hP⟩ : ∃ P : Outcome → State → Prop, P = PQW s Z own_EL (Q_dirOf4 Z a0_ x0 x1 x2 x3 cs fm h0 n0) (own_R 5 4 16 100).cells (own_R 5 4 16 100).slots := ⟨_, rfl⟩
 suffices hgo : Go p e below P (s₁.setTop (mkF m 0 #[(vR a0_), .unset, .unset] [])) by
   rw [hP] at hgo
   exact Go.by (fun t k => castTop (ef_dirOf4 m a0_ x0 x1 x2 x3 cs fm) k) hgo
 obtain ⟨d0, kd0, ES0, CS0, VS0, AS0⟩ := S0
 have AT0 : Arv Z h0 d0 kd0 .byte (4 : Int32) [(.int x0), (.int x1), (.int x2), (.int x3)] (.int 0) := AS0
 show oG p e below P m s₁ 0 #[(vR a0_), .unset, .unset] []
 refine aA X0 hx hby dp42_9_0 rfl rfl ?_
 obtain ⟨b11, T11, h11, k111, d11, kd11, X11, e11, E11, hS11, hk11, hZ11, hown11, Eb11, Fc11, Fv11, Vd11, lb11, ld11, C11, Lt11, Sf11, st11⟩ := ldcCH X0 hx hZ hown (tw_31 hw) wS e0 hS0 hk0 hEL (by decide) (CHr.refl hCH).1 (vs := [(.int 47)]) (z := (1 : Int32)) ⟨by decide, by decide⟩ (by decide) (by decide) (g := (mkF m 1 #[(vR a0_), .unset, .unset] [(.ref a0_)])) rfl (hb hby dp42_9_1) (n := 4) (by decide) (by decide) (by decide) (by decide)
 have f11_0 := Nat.le_trans Z0 E11.1
 have f11_1 := CHr.trans (CHr.refl hCH) C11
 have f11_2 : k111 ≤ h11.size := hk11
 have f11_3 := Keep.ext (Keep.refl h0 []) E11
 have f11_4 := Old.ext O0 E11
 have f11_5 := Exa.ext E11 ES0
 have f11_6 := Fld.ext E11 CS0
 have f11_7 := Fld.ext E11 VS0
 have f11_8 := Arv.ext AT0 E11
 refine Go.by st11 ?_
 refine c_virt 0 X11 hx hby hml hZ11 hown11 (tw_32 hw) (tw_33 hw) (tw_35 hw) (tw_34 hw) (tw_36 hw) (tw_8 hw) (rm_endsW4 l Z a0 hw [] a0_ b11 x0 x1 x2 x3 cs h11 n0 f11_0 f11_4 Scs hcs ⟨d0, kd0, f11_5, f11_6, f11_7, f11_8⟩ ⟨d11, kd11, Eb11, Fc11, Fv11, Vd11⟩) e11 f11_5 dp42_9_3 [(.ref b11)] [] (lenOf pd16 rfl) rfl rfl (by rfl) (by decide) ?_
 rintro _ T12 Lc12 ⟨rfl, N12q, q12⟩ X12
 have N12 := Fr.app N0 N12q
 show oG p e below P m T12 6 #[(vR a0_), .unset, .unset] [(.int (if x3 = (47 : Int32) then (1 : Int32) else 0))]
 by_cases hq : x3 = (47 : Int32)
 · rw [if_pos hq]
   show oG p e below P m T12 6 #[(vR a0_), .unset, .unset] [(.int 1)]
   refine fN X12 hx hby dp42_9_6 (XT.i0_eq_f (by decide : ¬ (1 : Int32) = (0 : Int32))) ?_
   refine aA X12 hx hby dp42_9_9 rfl rfl ?_
   refine c_virt 0 X12 hx hby hml hZ11 hown11 (tw_53 hw) (tw_38 hw) (tw_40 hw) (tw_39 hw) (tw_41 hw) (tw_8 hw) (rm_slen l Z a0 hw [] a0_ d0 kd0 (4 : Int32) [(.int x0), (.int x1), (.int x2), (.int x3)] cs h11 n0 f11_0 f11_4 Scs hcs f11_5 f11_6 f11_7 f11_8) q12 f11_5 dp42_9_10 [] [] (lenOf pd0 rfl) rfl rfl (by rfl) (by decide) ?_
   rintro _ T13 Lc13 ⟨rfl, N13q, q13⟩ X13
   have N13 := Fr.app N12 N13q
   refine iC X13 hx hby dp42_9_13 (v := 1) rfl ?_
   refine iM X13 hx hby dp42_9_14 (v := 3) rfl ?_
   refine gO X13 hx hby dp42_9_15 (pc' := 22) (by decide) ?_
   refine iS X13 hx hby dp42_9_22 (l' := #[(vR a0_), (vI 3), .unset]) rfl ?_
   refine aA X13 hx hby dp42_9_23 rfl rfl ?_
   refine bC X13 hx hby dp42_9_24 (v := 47) rfl ?_
   refine iA X13 hx hby dp42_9_26 rfl ?_
   refine iC X13 hx hby dp42_9_27 (v := 1) rfl ?_
   refine iM X13 hx hby dp42_9_28 (v := 2) rfl ?_
   refine c_virt 0 X13 hx hby hml hZ11 hown11 (tw_54 hw) (tw_55 hw) (tw_57 hw) (tw_56 hw) (tw_58 hw) (tw_8 hw) (rm_slast4_3 l Z a0 hw [] a0_ x0 x1 x2 x3 cs h11 n0 f11_0 f11_4 Scs hcs ⟨d0, kd0, f11_5, f11_6, f11_7, f11_8⟩) q13 f11_5 dp42_9_29 [(.int 47), (.int 2)] [] (lenOf pd1 rfl) rfl rfl (by rfl) (by decide) ?_
   rintro _ T14 Lc14 ⟨rfl, N14q, q14⟩ X14
   have N14 := Fr.app N13 N14q
   show oG p e below P m T14 32 #[(vR a0_), (vI 3), .unset] [(.int (own_l3 x0 x1 x2))]
   rcases own_c3 x0 x1 x2 with hk | hk | hk | hk
   · rw [hk]
     show oG p e below P m T14 32 #[(vR a0_), (vI 3), .unset] [(.int (-1))]
     refine iS X14 hx hby dp42_9_32 (l' := #[(vR a0_), (vI 3), (vI (-1))]) rfl ?_
     refine iA X14 hx hby dp42_9_33 rfl ?_
     refine fN X14 hx hby dp42_9_34 (XT.i0_ge_f (by decide : (-1 : Int32) < (0 : Int32))) ?_
     obtain ⟨b15, T15, h15, k115, d15, kd15, X15, e15, E15, hS15, hk15, hZ15, hown15, Eb15, Fc15, Fv15, Vd15, lb15, ld15, C15, Lt15, Sf15, st15⟩ := ldcCH X14 hx hZ11 hown11 (tw_75 hw) wS q14 hS11 f11_2 hEL (by decide) f11_1.1 (vs := []) (z := (0 : Int32)) ⟨by decide, by decide⟩ (by decide) (by decide) (g := (mkF m 37 #[(vR a0_), (vI 3), (vI (-1))] [])) rfl (hb hby dp42_9_37) (n := 0) (by decide) (by decide) (by decide) (by decide)
     have f15_0 := Nat.le_trans f11_0 E15.1
     have f15_1 := CHr.trans f11_1 C15
     have f15_2 : k115 ≤ h15.size := hk15
     have f15_3 := Keep.ext f11_3 E15
     have f15_4 := Old.ext f11_4 E15
     have f15_5 := Exa.ext E15 f11_5
     have f15_6 := Fld.ext E15 f11_6
     have f15_7 := Fld.ext E15 f11_7
     have f15_8 := Arv.ext f11_8 E15
     have f15_9 := Exa.ext E15 Eb11
     have f15_10 := Fld.ext E15 Fc11
     have f15_11 := Fld.ext E15 Fv11
     have f15_12 := Arv.ext Vd11 E15
     refine Go.by st15 ?_
     show oG p e below P m T15 39 #[(vR a0_), (vI 3), (vI (-1))] [(.ref b15)]
     refine gO X15 hx hby dp42_9_39 (pc' := 48) (by decide) ?_
     refine own_finW hP hlk hEL hh X15 (v := some (.ref b15)) (fun h => by rw [Bd.returns] at h; cases h) (by decide) (by decide) e15 hS15 f15_2 hZ15 f15_1 ?_ (fun fs hr => retOut X15 hx Bd.returns rfl (Or.inr (Or.inr (Or.inr (Or.inr ⟨rfl, rfl, rfl⟩)))) (hb hby dp42_9_48) hr)
     exact ⟨b15, rfl, N14, f15_3, Or.inl ⟨hk, ⟨d15, kd15, Eb15, Fc15, Fv15, Vd15⟩⟩⟩
   · rw [hk]
     show oG p e below P m T14 32 #[(vR a0_), (vI 3), .unset] [(.int 0)]
     refine iS X14 hx hby dp42_9_32 (l' := #[(vR a0_), (vI 3), (vI 0)]) rfl ?_
     refine iA X14 hx hby dp42_9_33 rfl ?_
     refine fY X14 hx hby dp42_9_34 (pc' := 42) (XT.i0_ge_t (by decide : ¬ (0 : Int32) < (0 : Int32))) (by decide) ?_
     refine aA X14 hx hby dp42_9_42 rfl rfl ?_
     refine iC X14 hx hby dp42_9_43 (v := 0) rfl ?_
     refine iA X14 hx hby dp42_9_44 rfl ?_
     obtain ⟨cq16, kq16, q16a, q16b, q16c⟩ := isOf hZ11 q14 f11_5
     obtain ⟨_, _, ⟨T16, L16, k16, n16⟩, -, X16', hS16', hg16, ⟨Lc16, hQ16, l16, y16, z16, C16⟩, st16⟩ := X14.virtualBackS hx (y := oY1) (z := oY1) hown11 (mvT hZ11 (tw_97 hw)) (mvT hZ11 (tw_98 hw)) (notFace_of_selects (args := #[]) (mvT hZ11 (tw_100 hw))) (mvT hZ11 (tw_100 hw)) (mvT hZ11 (tw_99 hw)) (by decide) (own_backC (W := 0) (rm_subs0 l Z a0 hw hEL [] a0_ d0 kd0 (4 : Int32) [(.int x0), (.int x1), (.int x2), (.int x3)] cs fm h11 n0 f11_0 f11_4 Scs hcs Sfm hfm f11_5 f11_6 f11_7 f11_8 (by decide) (by decide)) hZ11 (tw_101 hw) (tw_8 hw) (by decide) (by decide) hEL f11_1.1 own_ss0) q16a q16c (g := (mkF m 45 #[(vR a0_), (vI 3), (vI 0)] [(.int 0), (.int 0), (.ref a0_)])) rfl (by rw [hml]; rfl) (Steps.refl _) (argsL := [(.int 0), (.int 0)]) (rest := []) (lenOf pd2 rfl) rfl (by show 2 * 0 + _ ≤ _; exact Nat.le_of_eq rfl) (hb hby dp42_9_45) (fun _ _ => ⟨rfl, q14, (by decide : 2 + 2 ≤ _), (by decide : 8 + 4 ≤ _)⟩)
     dsimp only [Pt.U, Pt.locs, Pt.cells, Pt.slots] at X16' hS16' hg16 l16 y16 z16 st16 hQ16 C16
     subst l16 y16 z16
     obtain ⟨X16, hS16, hZ16, hown16⟩ := rebS hS11 (f11_2) X16' hS16' (by have q := hg16; rw [q14] at q; exact q) hZ11 hown11
     have hk16 : T16.heap.size ≤ T16.heap.size := Nat.le_refl _
     obtain ⟨b16, rfl, N16q, K16, S16⟩ := hQ16
     have N16 := Fr.app N14 N16q
     refine Go.by (fun t k => st16.trans k) ?_
     have f16_0 := Nat.le_trans f11_0 K16.1
     have f16_1 := CHr.trans f11_1 C16
     have f16_2 : T16.heap.size ≤ T16.heap.size := hk16
     have f16_3 := Keep.trans f11_3 K16 all0
     have f16_4 := Old.keep f11_4 K16 all0
     have f16_5 := Exa.keep f11_5 K16
     have f16_6 := Fld.keep f11_6 K16 nin0
     have f16_7 := Fld.keep f11_7 K16 nin0
     have f16_8 := Arv.keep f11_8 K16 nin0
     have f16_9 := Exa.keep Eb11 K16
     have f16_10 := Fld.keep Fc11 K16 nin0
     have f16_11 := Fld.keep Fv11 K16 nin0
     have f16_12 := Arv.keep Vd11 K16 nin0
     show oG p e below P m T16 48 #[(vR a0_), (vI 3), (vI 0)] [(.ref b16)]
     refine own_finW hP hlk hEL hh X16 (v := some (.ref b16)) (fun h => by rw [Bd.returns] at h; cases h) (by decide) (by decide) rfl hS16 f16_2 hZ16 f16_1 ?_ (fun fs hr => retOut X16 hx Bd.returns rfl (Or.inr (Or.inr (Or.inr (Or.inr ⟨rfl, rfl, rfl⟩)))) (hb hby dp42_9_48) hr)
     exact ⟨b16, rfl, N16, f16_3, Or.inr (Or.inl ⟨hk, S16⟩)⟩
   · rw [hk]
     show oG p e below P m T14 32 #[(vR a0_), (vI 3), .unset] [(.int 1)]
     refine iS X14 hx hby dp42_9_32 (l' := #[(vR a0_), (vI 3), (vI 1)]) rfl ?_
     refine iA X14 hx hby dp42_9_33 rfl ?_
     refine fY X14 hx hby dp42_9_34 (pc' := 42) (XT.i0_ge_t (by decide : ¬ (1 : Int32) < (0 : Int32))) (by decide) ?_
     refine aA X14 hx hby dp42_9_42 rfl rfl ?_
     refine iC X14 hx hby dp42_9_43 (v := 0) rfl ?_
     refine iA X14 hx hby dp42_9_44 rfl ?_
     refine c_virt 0 X14 hx hby hml hZ11 hown11 (tw_97 hw) (tw_98 hw) (tw_100 hw) (tw_99 hw) (tw_101 hw) (tw_8 hw) (rm_subs4_1 l Z a0 hw [] a0_ x0 x1 x2 x3 cs fm h11 n0 f11_0 f11_4 Scs hcs Sfm hfm ⟨d0, kd0, f11_5, f11_6, f11_7, f11_8⟩) q14 f11_5 dp42_9_45 [(.int 0), (.int 1)] [] (lenOf pd2 rfl) rfl rfl (by rfl) (by decide) ?_
     rintro _ T17 Lc17 ⟨b17, rfl, N17q, K17, S17⟩ X17
     have N17 := Fr.app N14 N17q
     have f17_0 := Nat.le_trans f11_0 K17.1
     have f17_1 := CHr.trans f11_1 (CHr.keep K17 sf0 f11_1.1)
     have f17_2 := Nat.le_trans f11_2 K17.1
     have f17_3 := Keep.trans f11_3 K17 all0
     have f17_4 := Old.keep f11_4 K17 all0
     have f17_5 := Exa.keep f11_5 K17
     have f17_6 := Fld.keep f11_6 K17 nin0
     have f17_7 := Fld.keep f11_7 K17 nin0
     have f17_8 := Arv.keep f11_8 K17 nin0
     have f17_9 := Exa.keep Eb11 K17
     have f17_10 := Fld.keep Fc11 K17 nin0
     have f17_11 := Fld.keep Fv11 K17 nin0
     have f17_12 := Arv.keep Vd11 K17 nin0
     show oG p e below P m T17 48 #[(vR a0_), (vI 3), (vI 1)] [(.ref b17)]
     refine own_finW hP hlk hEL hh X17 (v := some (.ref b17)) (fun h => by rw [Bd.returns] at h; cases h) (by decide) (by decide) rfl hS11 f17_2 hZ11 f17_1 ?_ (fun fs hr => retOut X17 hx Bd.returns rfl (Or.inr (Or.inr (Or.inr (Or.inr ⟨rfl, rfl, rfl⟩)))) (hb hby dp42_9_48) hr)
     exact ⟨b17, rfl, N17, f17_3, Or.inr (Or.inr (Or.inl ⟨hk, S17⟩))⟩
   · rw [hk]
     show oG p e below P m T14 32 #[(vR a0_), (vI 3), .unset] [(.int 2)]
     refine iS X14 hx hby dp42_9_32 (l' := #[(vR a0_), (vI 3), (vI 2)]) rfl ?_
     refine iA X14 hx hby dp42_9_33 rfl ?_
     refine fY X14 hx hby dp42_9_34 (pc' := 42) (XT.i0_ge_t (by decide : ¬ (2 : Int32) < (0 : Int32))) (by decide) ?_
     refine aA X14 hx hby dp42_9_42 rfl rfl ?_
     refine iC X14 hx hby dp42_9_43 (v := 0) rfl ?_
     refine iA X14 hx hby dp42_9_44 rfl ?_
     refine c_virt 0 X14 hx hby hml hZ11 hown11 (tw_97 hw) (tw_98 hw) (tw_100 hw) (tw_99 hw) (tw_101 hw) (tw_8 hw) (rm_subs4_2 l Z a0 hw [] a0_ x0 x1 x2 x3 cs fm h11 n0 f11_0 f11_4 Scs hcs Sfm hfm ⟨d0, kd0, f11_5, f11_6, f11_7, f11_8⟩) q14 f11_5 dp42_9_45 [(.int 0), (.int 2)] [] (lenOf pd2 rfl) rfl rfl (by rfl) (by decide) ?_
     rintro _ T18 Lc18 ⟨b18, rfl, N18q, K18, S18⟩ X18
     have N18 := Fr.app N14 N18q
     have f18_0 := Nat.le_trans f11_0 K18.1
     have f18_1 := CHr.trans f11_1 (CHr.keep K18 sf0 f11_1.1)
     have f18_2 := Nat.le_trans f11_2 K18.1
     have f18_3 := Keep.trans f11_3 K18 all0
     have f18_4 := Old.keep f11_4 K18 all0
     have f18_5 := Exa.keep f11_5 K18
     have f18_6 := Fld.keep f11_6 K18 nin0
     have f18_7 := Fld.keep f11_7 K18 nin0
     have f18_8 := Arv.keep f11_8 K18 nin0
     have f18_9 := Exa.keep Eb11 K18
     have f18_10 := Fld.keep Fc11 K18 nin0
     have f18_11 := Fld.keep Fv11 K18 nin0
     have f18_12 := Arv.keep Vd11 K18 nin0
     show oG p e below P m T18 48 #[(vR a0_), (vI 3), (vI 2)] [(.ref b18)]
     refine own_finW hP hlk hEL hh X18 (v := some (.ref b18)) (fun h => by rw [Bd.returns] at h; cases h) (by decide) (by decide) rfl hS11 f18_2 hZ11 f18_1 ?_ (fun fs hr => retOut X18 hx Bd.returns rfl (Or.inr (Or.inr (Or.inr (Or.inr ⟨rfl, rfl, rfl⟩)))) (hb hby dp42_9_48) hr)
     exact ⟨b18, rfl, N18, f18_3, Or.inr (Or.inr (Or.inr (⟨hk, S18⟩)))⟩
 · rw [if_neg hq]
   show oG p e below P m T12 6 #[(vR a0_), .unset, .unset] [(.int 0)]
   refine fY X12 hx hby dp42_9_6 (pc' := 18) (XT.i0_eq_t (by decide : (0 : Int32) = (0 : Int32))) (by decide) ?_
   refine aA X12 hx hby dp42_9_18 rfl rfl ?_
   refine c_virt 0 X12 hx hby hml hZ11 hown11 (tw_53 hw) (tw_38 hw) (tw_40 hw) (tw_39 hw) (tw_41 hw) (tw_8 hw) (rm_slen l Z a0 hw [] a0_ d0 kd0 (4 : Int32) [(.int x0), (.int x1), (.int x2), (.int x3)] cs h11 n0 f11_0 f11_4 Scs hcs f11_5 f11_6 f11_7 f11_8) q12 f11_5 dp42_9_19 [] [] (lenOf pd0 rfl) rfl rfl (by rfl) (by decide) ?_
   rintro _ T19 Lc19 ⟨rfl, N19q, q19⟩ X19
   have N19 := Fr.app N12 N19q
   refine iS X19 hx hby dp42_9_22 (l' := #[(vR a0_), (vI 4), .unset]) rfl ?_
   refine aA X19 hx hby dp42_9_23 rfl rfl ?_
   refine bC X19 hx hby dp42_9_24 (v := 47) rfl ?_
   refine iA X19 hx hby dp42_9_26 rfl ?_
   refine iC X19 hx hby dp42_9_27 (v := 1) rfl ?_
   refine iM X19 hx hby dp42_9_28 (v := 3) rfl ?_
   refine c_virt 0 X19 hx hby hml hZ11 hown11 (tw_54 hw) (tw_55 hw) (tw_57 hw) (tw_56 hw) (tw_58 hw) (tw_8 hw) (rm_slast4_4 l Z a0 hw [] a0_ x0 x1 x2 x3 cs h11 n0 f11_0 f11_4 Scs hcs ⟨d0, kd0, f11_5, f11_6, f11_7, f11_8⟩) q19 f11_5 dp42_9_29 [(.int 47), (.int 3)] [] (lenOf pd1 rfl) rfl rfl (by rfl) (by decide) ?_
   rintro _ T20 Lc20 ⟨rfl, N20q, q20⟩ X20
   have N20 := Fr.app N19 N20q
   show oG p e below P m T20 32 #[(vR a0_), (vI 4), .unset] [(.int (own_l4 x0 x1 x2 x3))]
   rw [show (own_l4 x0 x1 x2 x3) = (own_l3 x0 x1 x2) from if_neg hq]
   rcases own_c3 x0 x1 x2 with hk | hk | hk | hk
   · rw [hk]
     show oG p e below P m T20 32 #[(vR a0_), (vI 4), .unset] [(.int (-1))]
     refine iS X20 hx hby dp42_9_32 (l' := #[(vR a0_), (vI 4), (vI (-1))]) rfl ?_
     refine iA X20 hx hby dp42_9_33 rfl ?_
     refine fN X20 hx hby dp42_9_34 (XT.i0_ge_f (by decide : (-1 : Int32) < (0 : Int32))) ?_
     obtain ⟨b21, T21, h21, k121, d21, kd21, X21, e21, E21, hS21, hk21, hZ21, hown21, Eb21, Fc21, Fv21, Vd21, lb21, ld21, C21, Lt21, Sf21, st21⟩ := ldcCH X20 hx hZ11 hown11 (tw_75 hw) wS q20 hS11 f11_2 hEL (by decide) f11_1.1 (vs := []) (z := (0 : Int32)) ⟨by decide, by decide⟩ (by decide) (by decide) (g := (mkF m 37 #[(vR a0_), (vI 4), (vI (-1))] [])) rfl (hb hby dp42_9_37) (n := 0) (by decide) (by decide) (by decide) (by decide)
     have f21_0 := Nat.le_trans f11_0 E21.1
     have f21_1 := CHr.trans f11_1 C21
     have f21_2 : k121 ≤ h21.size := hk21
     have f21_3 := Keep.ext f11_3 E21
     have f21_4 := Old.ext f11_4 E21
     have f21_5 := Exa.ext E21 f11_5
     have f21_6 := Fld.ext E21 f11_6
     have f21_7 := Fld.ext E21 f11_7
     have f21_8 := Arv.ext f11_8 E21
     have f21_9 := Exa.ext E21 Eb11
     have f21_10 := Fld.ext E21 Fc11
     have f21_11 := Fld.ext E21 Fv11
     have f21_12 := Arv.ext Vd11 E21
     refine Go.by st21 ?_
     show oG p e below P m T21 39 #[(vR a0_), (vI 4), (vI (-1))] [(.ref b21)]
     refine gO X21 hx hby dp42_9_39 (pc' := 48) (by decide) ?_
     refine own_finW hP hlk hEL hh X21 (v := some (.ref b21)) (fun h => by rw [Bd.returns] at h; cases h) (by decide) (by decide) e21 hS21 f21_2 hZ21 f21_1 ?_ (fun fs hr => retOut X21 hx Bd.returns rfl (Or.inr (Or.inr (Or.inr (Or.inr ⟨rfl, rfl, rfl⟩)))) (hb hby dp42_9_48) hr)
     exact ⟨b21, rfl, N20, f21_3, Or.inl ⟨hk, ⟨d21, kd21, Eb21, Fc21, Fv21, Vd21⟩⟩⟩
   · rw [hk]
     show oG p e below P m T20 32 #[(vR a0_), (vI 4), .unset] [(.int 0)]
     refine iS X20 hx hby dp42_9_32 (l' := #[(vR a0_), (vI 4), (vI 0)]) rfl ?_
     refine iA X20 hx hby dp42_9_33 rfl ?_
     refine fY X20 hx hby dp42_9_34 (pc' := 42) (XT.i0_ge_t (by decide : ¬ (0 : Int32) < (0 : Int32))) (by decide) ?_
     refine aA X20 hx hby dp42_9_42 rfl rfl ?_
     refine iC X20 hx hby dp42_9_43 (v := 0) rfl ?_
     refine iA X20 hx hby dp42_9_44 rfl ?_
     obtain ⟨cq22, kq22, q22a, q22b, q22c⟩ := isOf hZ11 q20 f11_5
     obtain ⟨_, _, ⟨T22, L22, k22, n22⟩, -, X22', hS22', hg22, ⟨Lc22, hQ22, l22, y22, z22, C22⟩, st22⟩ := X20.virtualBackS hx (y := oY1) (z := oY1) hown11 (mvT hZ11 (tw_97 hw)) (mvT hZ11 (tw_98 hw)) (notFace_of_selects (args := #[]) (mvT hZ11 (tw_100 hw))) (mvT hZ11 (tw_100 hw)) (mvT hZ11 (tw_99 hw)) (by decide) (own_backC (W := 0) (rm_subs0 l Z a0 hw hEL [] a0_ d0 kd0 (4 : Int32) [(.int x0), (.int x1), (.int x2), (.int x3)] cs fm h11 n0 f11_0 f11_4 Scs hcs Sfm hfm f11_5 f11_6 f11_7 f11_8 (by decide) (by decide)) hZ11 (tw_101 hw) (tw_8 hw) (by decide) (by decide) hEL f11_1.1 own_ss0) q22a q22c (g := (mkF m 45 #[(vR a0_), (vI 4), (vI 0)] [(.int 0), (.int 0), (.ref a0_)])) rfl (by rw [hml]; rfl) (Steps.refl _) (argsL := [(.int 0), (.int 0)]) (rest := []) (lenOf pd2 rfl) rfl (by show 2 * 0 + _ ≤ _; exact Nat.le_of_eq rfl) (hb hby dp42_9_45) (fun _ _ => ⟨rfl, q20, (by decide : 2 + 2 ≤ _), (by decide : 8 + 4 ≤ _)⟩)
     dsimp only [Pt.U, Pt.locs, Pt.cells, Pt.slots] at X22' hS22' hg22 l22 y22 z22 st22 hQ22 C22
     subst l22 y22 z22
     obtain ⟨X22, hS22, hZ22, hown22⟩ := rebS hS11 (f11_2) X22' hS22' (by have q := hg22; rw [q20] at q; exact q) hZ11 hown11
     have hk22 : T22.heap.size ≤ T22.heap.size := Nat.le_refl _
     obtain ⟨b22, rfl, N22q, K22, S22⟩ := hQ22
     have N22 := Fr.app N20 N22q
     refine Go.by (fun t k => st22.trans k) ?_
     have f22_0 := Nat.le_trans f11_0 K22.1
     have f22_1 := CHr.trans f11_1 C22
     have f22_2 : T22.heap.size ≤ T22.heap.size := hk22
     have f22_3 := Keep.trans f11_3 K22 all0
     have f22_4 := Old.keep f11_4 K22 all0
     have f22_5 := Exa.keep f11_5 K22
     have f22_6 := Fld.keep f11_6 K22 nin0
     have f22_7 := Fld.keep f11_7 K22 nin0
     have f22_8 := Arv.keep f11_8 K22 nin0
     have f22_9 := Exa.keep Eb11 K22
     have f22_10 := Fld.keep Fc11 K22 nin0
     have f22_11 := Fld.keep Fv11 K22 nin0
     have f22_12 := Arv.keep Vd11 K22 nin0
     show oG p e below P m T22 48 #[(vR a0_), (vI 4), (vI 0)] [(.ref b22)]
     refine own_finW hP hlk hEL hh X22 (v := some (.ref b22)) (fun h => by rw [Bd.returns] at h; cases h) (by decide) (by decide) rfl hS22 f22_2 hZ22 f22_1 ?_ (fun fs hr => retOut X22 hx Bd.returns rfl (Or.inr (Or.inr (Or.inr (Or.inr ⟨rfl, rfl, rfl⟩)))) (hb hby dp42_9_48) hr)
     exact ⟨b22, rfl, N22, f22_3, Or.inr (Or.inl ⟨hk, S22⟩)⟩
   · rw [hk]
     show oG p e below P m T20 32 #[(vR a0_), (vI 4), .unset] [(.int 1)]
     refine iS X20 hx hby dp42_9_32 (l' := #[(vR a0_), (vI 4), (vI 1)]) rfl ?_
     refine iA X20 hx hby dp42_9_33 rfl ?_
     refine fY X20 hx hby dp42_9_34 (pc' := 42) (XT.i0_ge_t (by decide : ¬ (1 : Int32) < (0 : Int32))) (by decide) ?_
     refine aA X20 hx hby dp42_9_42 rfl rfl ?_
     refine iC X20 hx hby dp42_9_43 (v := 0) rfl ?_
     refine iA X20 hx hby dp42_9_44 rfl ?_
     refine c_virt 0 X20 hx hby hml hZ11 hown11 (tw_97 hw) (tw_98 hw) (tw_100 hw) (tw_99 hw) (tw_101 hw) (tw_8 hw) (rm_subs4_1 l Z a0 hw [] a0_ x0 x1 x2 x3 cs fm h11 n0 f11_0 f11_4 Scs hcs Sfm hfm ⟨d0, kd0, f11_5, f11_6, f11_7, f11_8⟩) q20 f11_5 dp42_9_45 [(.int 0), (.int 1)] [] (lenOf pd2 rfl) rfl rfl (by rfl) (by decide) ?_
     rintro _ T23 Lc23 ⟨b23, rfl, N23q, K23, S23⟩ X23
     have N23 := Fr.app N20 N23q
     have f23_0 := Nat.le_trans f11_0 K23.1
     have f23_1 := CHr.trans f11_1 (CHr.keep K23 sf0 f11_1.1)
     have f23_2 := Nat.le_trans f11_2 K23.1
     have f23_3 := Keep.trans f11_3 K23 all0
     have f23_4 := Old.keep f11_4 K23 all0
     have f23_5 := Exa.keep f11_5 K23
     have f23_6 := Fld.keep f11_6 K23 nin0
     have f23_7 := Fld.keep f11_7 K23 nin0
     have f23_8 := Arv.keep f11_8 K23 nin0
     have f23_9 := Exa.keep Eb11 K23
     have f23_10 := Fld.keep Fc11 K23 nin0
     have f23_11 := Fld.keep Fv11 K23 nin0
     have f23_12 := Arv.keep Vd11 K23 nin0
     show oG p e below P m T23 48 #[(vR a0_), (vI 4), (vI 1)] [(.ref b23)]
     refine own_finW hP hlk hEL hh X23 (v := some (.ref b23)) (fun h => by rw [Bd.returns] at h; cases h) (by decide) (by decide) rfl hS11 f23_2 hZ11 f23_1 ?_ (fun fs hr => retOut X23 hx Bd.returns rfl (Or.inr (Or.inr (Or.inr (Or.inr ⟨rfl, rfl, rfl⟩)))) (hb hby dp42_9_48) hr)
     exact ⟨b23, rfl, N23, f23_3, Or.inr (Or.inr (Or.inl ⟨hk, S23⟩))⟩
   · rw [hk]
     show oG p e below P m T20 32 #[(vR a0_), (vI 4), .unset] [(.int 2)]
     refine iS X20 hx hby dp42_9_32 (l' := #[(vR a0_), (vI 4), (vI 2)]) rfl ?_
     refine iA X20 hx hby dp42_9_33 rfl ?_
     refine fY X20 hx hby dp42_9_34 (pc' := 42) (XT.i0_ge_t (by decide : ¬ (2 : Int32) < (0 : Int32))) (by decide) ?_
     refine aA X20 hx hby dp42_9_42 rfl rfl ?_
     refine iC X20 hx hby dp42_9_43 (v := 0) rfl ?_
     refine iA X20 hx hby dp42_9_44 rfl ?_
     refine c_virt 0 X20 hx hby hml hZ11 hown11 (tw_97 hw) (tw_98 hw) (tw_100 hw) (tw_99 hw) (tw_101 hw) (tw_8 hw) (rm_subs4_2 l Z a0 hw [] a0_ x0 x1 x2 x3 cs fm h11 n0 f11_0 f11_4 Scs hcs Sfm hfm ⟨d0, kd0, f11_5, f11_6, f11_7, f11_8⟩) q20 f11_5 dp42_9_45 [(.int 0), (.int 2)] [] (lenOf pd2 rfl) rfl rfl (by rfl) (by decide) ?_
     rintro _ T24 Lc24 ⟨b24, rfl, N24q, K24, S24⟩ X24
     have N24 := Fr.app N20 N24q
     have f24_0 := Nat.le_trans f11_0 K24.1
     have f24_1 := CHr.trans f11_1 (CHr.keep K24 sf0 f11_1.1)
     have f24_2 := Nat.le_trans f11_2 K24.1
     have f24_3 := Keep.trans f11_3 K24 all0
     have f24_4 := Old.keep f11_4 K24 all0
     have f24_5 := Exa.keep f11_5 K24
     have f24_6 := Fld.keep f11_6 K24 nin0
     have f24_7 := Fld.keep f11_7 K24 nin0
     have f24_8 := Arv.keep f11_8 K24 nin0
     have f24_9 := Exa.keep Eb11 K24
     have f24_10 := Fld.keep Fc11 K24 nin0
     have f24_11 := Fld.keep Fv11 K24 nin0
     have f24_12 := Arv.keep Vd11 K24 nin0
     show oG p e below P m T24 48 #[(vR a0_), (vI 4), (vI 2)] [(.ref b24)]
     refine own_finW hP hlk hEL hh X24 (v := some (.ref b24)) (fun h => by rw [Bd.returns] at h; cases h) (by decide) (by decide) rfl hS11 f24_2 hZ11 f24_1 ?_ (fun fs hr => retOut X24 hx Bd.returns rfl (Or.inr (Or.inr (Or.inr (Or.inr ⟨rfl, rfl, rfl⟩)))) (hb hby dp42_9_48) hr)
     exact ⟨b24, rfl, N24, f24_3, Or.inr (Or.inr (Or.inr (⟨hk, S24⟩)))⟩
def Q_dirOf5 (Z : State) (a0_ : Addr) (x0 x1 x2 x3 x4 cs : Int32) (fm : Value) (h0 : Heap) (n0 : Nat) (v : Option Value) (h : Heap) (L : List Loc) : Prop := ∃ r, v = some (.ref r) ∧ Fr n0 L ∧ Keep h0 h [] ∧ (((own_l4 x0 x1 x2 x3) = (-1 : Int32) ∧ StrV Z h r []) ∨ ((own_l4 x0 x1 x2 x3) = (0 : Int32) ∧ StrV Z h r []) ∨ ((own_l4 x0 x1 x2 x3) = (1 : Int32) ∧ StrV Z h r [x0]) ∨ ((own_l4 x0 x1 x2 x3) = (2 : Int32) ∧ StrV Z h r [x0, x1]) ∨ ((own_l4 x0 x1 x2 x3) = (3 : Int32) ∧ StrV Z h r [x0, x1, x2]))
theorem ef_dirOf5 (m : MethodId) (a0_ : Addr) (x0 x1 x2 x3 x4 cs : Int32) (fm : Value) : entryFrame m #[(.ref a0_)] 3 = mkF m 0 #[(vR a0_), .unset, .unset] [] := by first | (simp [entryFrame, mkF, argsToLocals, Value.category]; done) | rfl
theorem rm_dirOf5 (l : Launch) (Z : State) (a0 : Array Value) (hw : oW a0 Z) (hEL : EW Z a0 own_EL) (ws : List Jvm.Cond) (a0_ : Addr) (x0 x1 x2 x3 x4 cs : Int32) (fm : Value) (h0 : Heap) (n0 : Nat) (Z0 : n0 ≤ h0.size) (O0 : Old Z n0 h0) (Scs : Sta Z Z.heap "java/lang/String" "COMPACT_STRINGS" "Z" (.int cs)) (hcs : ¬ cs = (0 : Int32)) (Sfm : Sta Z Z.heap "jdk/internal/util/Preconditions" "SIOOBE_FORMATTER" "Ljava/util/function/BiFunction;" fm) (hfm : fm.isRef = true) (S0 : StrV Z h0 a0_ [x0, x1, x2, x3, x4]) :
   MetFree l oY14 (head1 (Jvm.Cond.code oY14 p42_9 3 (some (.object "java/lang/String")) :: ws) (own_R 5 4 16 100)) (fun a U => a = #[(.ref a0_)] ∧ Z.Warmed39 U.vm ∧ U.heap = h0 ∧ CHv Z own_EL U.vm h0 ∧ ∀ x ∈ ([] : List Addr), Safe Z own_EL U.vm h0 x) (fun _ _ _ _ _ => True) (fun _ U o U' => ∃ v L, o = .returned v ∧ Q_dirOf5 Z a0_ x0 x1 x2 x3 x4 cs fm h0 n0 v U'.heap L ∧ CHr Z own_EL U.vm U.heap U'.vm U'.heap ∧ ReturnedEndW U o U' L (own_R 5 4 16 100).cells (own_R 5 4 16 100).slots) := by
 refine MetFree.of_bodySF (plainFor_of_name pn5) hisR ?_
 intro p e s m args below meth c s₁ Bd hml0 hP hK
 obtain ⟨rfl, hZ, hh, hCH, hSf⟩ := hP
 have hx := Bd.exec
 have hby := Bd.bytes
 have hml : c.maxLocals = 3 := hml0
 have hown : s.vm.findClass "jarkeep/source/Source" = some m.cls := findClass_of_methodNamed Bd.named
 have hnm := (name_of_methodNamed Bd.named Bd.method).1
 have X0 : Stand p l e (own_R 5 4 16 100) (s.setVm s.vm) m #[(.ref a0_)] below meth c s₁ [] 0 0 := Stand.of_body Bd
 have e0 : s₁.heap = h0 := by rw [← hh, Bd.state]; rfl
 have N0 := Fr.nil n0
 have hZs := hZ
 have wS := own_wS hw
 have hS0 : s.Since s.vm s.heap.size := (State.WarmedH.refl s).since _
 have hk0 : s.heap.size ≤ h0.size := Nat.le_of_eq (congrArg Array.size hh)
 have hlk : meth.locks = false := Bd.notSynchronized
 obtain ⟨P, hP⟩ : ∃ P : Outcome → State → Prop, P = PQW s Z own_EL (Q_dirOf5 Z a0_ x0 x1 x2 x3 x4 cs fm h0 n0) (own_R 5 4 16 100).cells (own_R 5 4 16 100).slots := ⟨_, rfl⟩
 suffices hgo : Go p e below P (s₁.setTop (mkF m 0 #[(vR a0_), .unset, .unset] [])) by
   rw [hP] at hgo
   exact Go.by (fun t k => castTop (ef_dirOf5 m a0_ x0 x1 x2 x3 x4 cs fm) k) hgo
 obtain ⟨d0, kd0, ES0, CS0, VS0, AS0⟩ := S0
 have AT0 : Arv Z h0 d0 kd0 .byte (5 : Int32) [(.int x0), (.int x1), (.int x2), (.int x3), (.int x4)] (.int 0) := AS0
 show oG p e below P m s₁ 0 #[(vR a0_), .unset, .unset] []
 refine aA X0 hx hby dp42_9_0 rfl rfl ?_
 obtain ⟨b11, T11, h11, k111, d11, kd11, X11, e11, E11, hS11, hk11, hZ11, hown11, Eb11, Fc11, Fv11, Vd11, lb11, ld11, C11, Lt11, Sf11, st11⟩ := ldcCH X0 hx hZ hown (tw_31 hw) wS e0 hS0 hk0 hEL (by decide) (CHr.refl hCH).1 (vs := [(.int 47)]) (z := (1 : Int32)) ⟨by decide, by decide⟩ (by decide) (by decide) (g := (mkF m 1 #[(vR a0_), .unset, .unset] [(.ref a0_)])) rfl (hb hby dp42_9_1) (n := 4) (by decide) (by decide) (by decide) (by decide)
 have f11_0 := Nat.le_trans Z0 E11.1
 have f11_1 := CHr.trans (CHr.refl hCH) C11
 have f11_2 : k111 ≤ h11.size := hk11
 have f11_3 := Keep.ext (Keep.refl h0 []) E11
 have f11_4 := Old.ext O0 E11
 have f11_5 := Exa.ext E11 ES0
 have f11_6 := Fld.ext E11 CS0
 have f11_7 := Fld.ext E11 VS0
 have f11_8 := Arv.ext AT0 E11
 refine Go.by st11 ?_
 refine c_virt 0 X11 hx hby hml hZ11 hown11 (tw_32 hw) (tw_33 hw) (tw_35 hw) (tw_34 hw) (tw_36 hw) (tw_8 hw) (rm_endsW5 l Z a0 hw [] a0_ b11 x0 x1 x2 x3 x4 cs h11 n0 f11_0 f11_4 Scs hcs ⟨d0, kd0, f11_5, f11_6, f11_7, f11_8⟩ ⟨d11, kd11, Eb11, Fc11, Fv11, Vd11⟩) e11 f11_5 dp42_9_3 [(.ref b11)] [] (lenOf pd16 rfl) rfl rfl (by rfl) (by decide) ?_
 rintro _ T12 Lc12 ⟨rfl, N12q, q12⟩ X12
 have N12 := Fr.app N0 N12q
 show oG p e below P m T12 6 #[(vR a0_), .unset, .unset] [(.int (if x4 = (47 : Int32) then (1 : Int32) else 0))]
 by_cases hq : x4 = (47 : Int32)
 · rw [if_pos hq]
   show oG p e below P m T12 6 #[(vR a0_), .unset, .unset] [(.int 1)]
   refine fN X12 hx hby dp42_9_6 (XT.i0_eq_f (by decide : ¬ (1 : Int32) = (0 : Int32))) ?_
   refine aA X12 hx hby dp42_9_9 rfl rfl ?_
   refine c_virt 0 X12 hx hby hml hZ11 hown11 (tw_53 hw) (tw_38 hw) (tw_40 hw) (tw_39 hw) (tw_41 hw) (tw_8 hw) (rm_slen l Z a0 hw [] a0_ d0 kd0 (5 : Int32) [(.int x0), (.int x1), (.int x2), (.int x3), (.int x4)] cs h11 n0 f11_0 f11_4 Scs hcs f11_5 f11_6 f11_7 f11_8) q12 f11_5 dp42_9_10 [] [] (lenOf pd0 rfl) rfl rfl (by rfl) (by decide) ?_
   rintro _ T13 Lc13 ⟨rfl, N13q, q13⟩ X13
   have N13 := Fr.app N12 N13q
   refine iC X13 hx hby dp42_9_13 (v := 1) rfl ?_
   refine iM X13 hx hby dp42_9_14 (v := 4) rfl ?_
   refine gO X13 hx hby dp42_9_15 (pc' := 22) (by decide) ?_
   refine iS X13 hx hby dp42_9_22 (l' := #[(vR a0_), (vI 4), .unset]) rfl ?_
   refine aA X13 hx hby dp42_9_23 rfl rfl ?_
   refine bC X13 hx hby dp42_9_24 (v := 47) rfl ?_
   refine iA X13 hx hby dp42_9_26 rfl ?_
   refine iC X13 hx hby dp42_9_27 (v := 1) rfl ?_
   refine iM X13 hx hby dp42_9_28 (v := 3) rfl ?_
   refine c_virt 0 X13 hx hby hml hZ11 hown11 (tw_54 hw) (tw_55 hw) (tw_57 hw) (tw_56 hw) (tw_58 hw) (tw_8 hw) (rm_slast5_4 l Z a0 hw [] a0_ x0 x1 x2 x3 x4 cs h11 n0 f11_0 f11_4 Scs hcs ⟨d0, kd0, f11_5, f11_6, f11_7, f11_8⟩) q13 f11_5 dp42_9_29 [(.int 47), (.int 3)] [] (lenOf pd1 rfl) rfl rfl (by rfl) (by decide) ?_
   rintro _ T14 Lc14 ⟨rfl, N14q, q14⟩ X14
   have N14 := Fr.app N13 N14q
   show oG p e below P m T14 32 #[(vR a0_), (vI 4), .unset] [(.int (own_l4 x0 x1 x2 x3))]
   rcases own_c4 x0 x1 x2 x3 with hk | hk | hk | hk | hk
   · rw [hk]
     show oG p e below P m T14 32 #[(vR a0_), (vI 4), .unset] [(.int (-1))]
     refine iS X14 hx hby dp42_9_32 (l' := #[(vR a0_), (vI 4), (vI (-1))]) rfl ?_
     refine iA X14 hx hby dp42_9_33 rfl ?_
     refine fN X14 hx hby dp42_9_34 (XT.i0_ge_f (by decide : (-1 : Int32) < (0 : Int32))) ?_
     obtain ⟨b15, T15, h15, k115, d15, kd15, X15, e15, E15, hS15, hk15, hZ15, hown15, Eb15, Fc15, Fv15, Vd15, lb15, ld15, C15, Lt15, Sf15, st15⟩ := ldcCH X14 hx hZ11 hown11 (tw_75 hw) wS q14 hS11 f11_2 hEL (by decide) f11_1.1 (vs := []) (z := (0 : Int32)) ⟨by decide, by decide⟩ (by decide) (by decide) (g := (mkF m 37 #[(vR a0_), (vI 4), (vI (-1))] [])) rfl (hb hby dp42_9_37) (n := 0) (by decide) (by decide) (by decide) (by decide)
     have f15_0 := Nat.le_trans f11_0 E15.1
     have f15_1 := CHr.trans f11_1 C15
     have f15_2 : k115 ≤ h15.size := hk15
     have f15_3 := Keep.ext f11_3 E15
     have f15_4 := Old.ext f11_4 E15
     have f15_5 := Exa.ext E15 f11_5
     have f15_6 := Fld.ext E15 f11_6
     have f15_7 := Fld.ext E15 f11_7
     have f15_8 := Arv.ext f11_8 E15
     have f15_9 := Exa.ext E15 Eb11
     have f15_10 := Fld.ext E15 Fc11
     have f15_11 := Fld.ext E15 Fv11
     have f15_12 := Arv.ext Vd11 E15
     refine Go.by st15 ?_
     show oG p e below P m T15 39 #[(vR a0_), (vI 4), (vI (-1))] [(.ref b15)]
     refine gO X15 hx hby dp42_9_39 (pc' := 48) (by decide) ?_
     refine own_finW hP hlk hEL hh X15 (v := some (.ref b15)) (fun h => by rw [Bd.returns] at h; cases h) (by decide) (by decide) e15 hS15 f15_2 hZ15 f15_1 ?_ (fun fs hr => retOut X15 hx Bd.returns rfl (Or.inr (Or.inr (Or.inr (Or.inr ⟨rfl, rfl, rfl⟩)))) (hb hby dp42_9_48) hr)
     exact ⟨b15, rfl, N14, f15_3, Or.inl ⟨hk, ⟨d15, kd15, Eb15, Fc15, Fv15, Vd15⟩⟩⟩
   · rw [hk]
     show oG p e below P m T14 32 #[(vR a0_), (vI 4), .unset] [(.int 0)]
     refine iS X14 hx hby dp42_9_32 (l' := #[(vR a0_), (vI 4), (vI 0)]) rfl ?_
     refine iA X14 hx hby dp42_9_33 rfl ?_
     refine fY X14 hx hby dp42_9_34 (pc' := 42) (XT.i0_ge_t (by decide : ¬ (0 : Int32) < (0 : Int32))) (by decide) ?_
     refine aA X14 hx hby dp42_9_42 rfl rfl ?_
     refine iC X14 hx hby dp42_9_43 (v := 0) rfl ?_
     refine iA X14 hx hby dp42_9_44 rfl ?_
     obtain ⟨cq16, kq16, q16a, q16b, q16c⟩ := isOf hZ11 q14 f11_5
     obtain ⟨_, _, ⟨T16, L16, k16, n16⟩, -, X16', hS16', hg16, ⟨Lc16, hQ16, l16, y16, z16, C16⟩, st16⟩ := X14.virtualBackS hx (y := oY1) (z := oY1) hown11 (mvT hZ11 (tw_97 hw)) (mvT hZ11 (tw_98 hw)) (notFace_of_selects (args := #[]) (mvT hZ11 (tw_100 hw))) (mvT hZ11 (tw_100 hw)) (mvT hZ11 (tw_99 hw)) (by decide) (own_backC (W := 0) (rm_subs0 l Z a0 hw hEL [] a0_ d0 kd0 (5 : Int32) [(.int x0), (.int x1), (.int x2), (.int x3), (.int x4)] cs fm h11 n0 f11_0 f11_4 Scs hcs Sfm hfm f11_5 f11_6 f11_7 f11_8 (by decide) (by decide)) hZ11 (tw_101 hw) (tw_8 hw) (by decide) (by decide) hEL f11_1.1 own_ss0) q16a q16c (g := (mkF m 45 #[(vR a0_), (vI 4), (vI 0)] [(.int 0), (.int 0), (.ref a0_)])) rfl (by rw [hml]; rfl) (Steps.refl _) (argsL := [(.int 0), (.int 0)]) (rest := []) (lenOf pd2 rfl) rfl (by show 2 * 0 + _ ≤ _; exact Nat.le_of_eq rfl) (hb hby dp42_9_45) (fun _ _ => ⟨rfl, q14, (by decide : 2 + 2 ≤ _), (by decide : 8 + 4 ≤ _)⟩)
     dsimp only [Pt.U, Pt.locs, Pt.cells, Pt.slots] at X16' hS16' hg16 l16 y16 z16 st16 hQ16 C16
     subst l16 y16 z16
     obtain ⟨X16, hS16, hZ16, hown16⟩ := rebS hS11 (f11_2) X16' hS16' (by have q := hg16; rw [q14] at q; exact q) hZ11 hown11
     have hk16 : T16.heap.size ≤ T16.heap.size := Nat.le_refl _
     obtain ⟨b16, rfl, N16q, K16, S16⟩ := hQ16
     have N16 := Fr.app N14 N16q
     refine Go.by (fun t k => st16.trans k) ?_
     have f16_0 := Nat.le_trans f11_0 K16.1
     have f16_1 := CHr.trans f11_1 C16
     have f16_2 : T16.heap.size ≤ T16.heap.size := hk16
     have f16_3 := Keep.trans f11_3 K16 all0
     have f16_4 := Old.keep f11_4 K16 all0
     have f16_5 := Exa.keep f11_5 K16
     have f16_6 := Fld.keep f11_6 K16 nin0
     have f16_7 := Fld.keep f11_7 K16 nin0
     have f16_8 := Arv.keep f11_8 K16 nin0
     have f16_9 := Exa.keep Eb11 K16
     have f16_10 := Fld.keep Fc11 K16 nin0
     have f16_11 := Fld.keep Fv11 K16 nin0
     have f16_12 := Arv.keep Vd11 K16 nin0
     show oG p e below P m T16 48 #[(vR a0_), (vI 4), (vI 0)] [(.ref b16)]
     refine own_finW hP hlk hEL hh X16 (v := some (.ref b16)) (fun h => by rw [Bd.returns] at h; cases h) (by decide) (by decide) rfl hS16 f16_2 hZ16 f16_1 ?_ (fun fs hr => retOut X16 hx Bd.returns rfl (Or.inr (Or.inr (Or.inr (Or.inr ⟨rfl, rfl, rfl⟩)))) (hb hby dp42_9_48) hr)
     exact ⟨b16, rfl, N16, f16_3, Or.inr (Or.inl ⟨hk, S16⟩)⟩
   · rw [hk]
     show oG p e below P m T14 32 #[(vR a0_), (vI 4), .unset] [(.int 1)]
     refine iS X14 hx hby dp42_9_32 (l' := #[(vR a0_), (vI 4), (vI 1)]) rfl ?_
     refine iA X14 hx hby dp42_9_33 rfl ?_
     refine fY X14 hx hby dp42_9_34 (pc' := 42) (XT.i0_ge_t (by decide : ¬ (1 : Int32) < (0 : Int32))) (by decide) ?_
     refine aA X14 hx hby dp42_9_42 rfl rfl ?_
     refine iC X14 hx hby dp42_9_43 (v := 0) rfl ?_
     refine iA X14 hx hby dp42_9_44 rfl ?_
     refine c_virt 0 X14 hx hby hml hZ11 hown11 (tw_97 hw) (tw_98 hw) (tw_100 hw) (tw_99 hw) (tw_101 hw) (tw_8 hw) (rm_subs5_1 l Z a0 hw [] a0_ x0 x1 x2 x3 x4 cs fm h11 n0 f11_0 f11_4 Scs hcs Sfm hfm ⟨d0, kd0, f11_5, f11_6, f11_7, f11_8⟩) q14 f11_5 dp42_9_45 [(.int 0), (.int 1)] [] (lenOf pd2 rfl) rfl rfl (by rfl) (by decide) ?_
     rintro _ T17 Lc17 ⟨b17, rfl, N17q, K17, S17⟩ X17
     have N17 := Fr.app N14 N17q
     have f17_0 := Nat.le_trans f11_0 K17.1
     have f17_1 := CHr.trans f11_1 (CHr.keep K17 sf0 f11_1.1)
     have f17_2 := Nat.le_trans f11_2 K17.1
     have f17_3 := Keep.trans f11_3 K17 all0
     have f17_4 := Old.keep f11_4 K17 all0
     have f17_5 := Exa.keep f11_5 K17
     have f17_6 := Fld.keep f11_6 K17 nin0
     have f17_7 := Fld.keep f11_7 K17 nin0
     have f17_8 := Arv.keep f11_8 K17 nin0
     have f17_9 := Exa.keep Eb11 K17
     have f17_10 := Fld.keep Fc11 K17 nin0
     have f17_11 := Fld.keep Fv11 K17 nin0
     have f17_12 := Arv.keep Vd11 K17 nin0
     show oG p e below P m T17 48 #[(vR a0_), (vI 4), (vI 1)] [(.ref b17)]
     refine own_finW hP hlk hEL hh X17 (v := some (.ref b17)) (fun h => by rw [Bd.returns] at h; cases h) (by decide) (by decide) rfl hS11 f17_2 hZ11 f17_1 ?_ (fun fs hr => retOut X17 hx Bd.returns rfl (Or.inr (Or.inr (Or.inr (Or.inr ⟨rfl, rfl, rfl⟩)))) (hb hby dp42_9_48) hr)
     exact ⟨b17, rfl, N17, f17_3, Or.inr (Or.inr (Or.inl ⟨hk, S17⟩))⟩
   · rw [hk]
     show oG p e below P m T14 32 #[(vR a0_), (vI 4), .unset] [(.int 2)]
     refine iS X14 hx hby dp42_9_32 (l' := #[(vR a0_), (vI 4), (vI 2)]) rfl ?_
     refine iA X14 hx hby dp42_9_33 rfl ?_
     refine fY X14 hx hby dp42_9_34 (pc' := 42) (XT.i0_ge_t (by decide : ¬ (2 : Int32) < (0 : Int32))) (by decide) ?_
     refine aA X14 hx hby dp42_9_42 rfl rfl ?_
     refine iC X14 hx hby dp42_9_43 (v := 0) rfl ?_
     refine iA X14 hx hby dp42_9_44 rfl ?_
     refine c_virt 0 X14 hx hby hml hZ11 hown11 (tw_97 hw) (tw_98 hw) (tw_100 hw) (tw_99 hw) (tw_101 hw) (tw_8 hw) (rm_subs5_2 l Z a0 hw [] a0_ x0 x1 x2 x3 x4 cs fm h11 n0 f11_0 f11_4 Scs hcs Sfm hfm ⟨d0, kd0, f11_5, f11_6, f11_7, f11_8⟩) q14 f11_5 dp42_9_45 [(.int 0), (.int 2)] [] (lenOf pd2 rfl) rfl rfl (by rfl) (by decide) ?_
     rintro _ T18 Lc18 ⟨b18, rfl, N18q, K18, S18⟩ X18
     have N18 := Fr.app N14 N18q
     have f18_0 := Nat.le_trans f11_0 K18.1
     have f18_1 := CHr.trans f11_1 (CHr.keep K18 sf0 f11_1.1)
     have f18_2 := Nat.le_trans f11_2 K18.1
     have f18_3 := Keep.trans f11_3 K18 all0
     have f18_4 := Old.keep f11_4 K18 all0
     have f18_5 := Exa.keep f11_5 K18
     have f18_6 := Fld.keep f11_6 K18 nin0
     have f18_7 := Fld.keep f11_7 K18 nin0
     have f18_8 := Arv.keep f11_8 K18 nin0
     have f18_9 := Exa.keep Eb11 K18
     have f18_10 := Fld.keep Fc11 K18 nin0
     have f18_11 := Fld.keep Fv11 K18 nin0
     have f18_12 := Arv.keep Vd11 K18 nin0
     show oG p e below P m T18 48 #[(vR a0_), (vI 4), (vI 2)] [(.ref b18)]
     refine own_finW hP hlk hEL hh X18 (v := some (.ref b18)) (fun h => by rw [Bd.returns] at h; cases h) (by decide) (by decide) rfl hS11 f18_2 hZ11 f18_1 ?_ (fun fs hr => retOut X18 hx Bd.returns rfl (Or.inr (Or.inr (Or.inr (Or.inr ⟨rfl, rfl, rfl⟩)))) (hb hby dp42_9_48) hr)
     exact ⟨b18, rfl, N18, f18_3, Or.inr (Or.inr (Or.inr (Or.inl ⟨hk, S18⟩)))⟩
   · rw [hk]
     show oG p e below P m T14 32 #[(vR a0_), (vI 4), .unset] [(.int 3)]
     refine iS X14 hx hby dp42_9_32 (l' := #[(vR a0_), (vI 4), (vI 3)]) rfl ?_
     refine iA X14 hx hby dp42_9_33 rfl ?_
     refine fY X14 hx hby dp42_9_34 (pc' := 42) (XT.i0_ge_t (by decide : ¬ (3 : Int32) < (0 : Int32))) (by decide) ?_
     refine aA X14 hx hby dp42_9_42 rfl rfl ?_
     refine iC X14 hx hby dp42_9_43 (v := 0) rfl ?_
     refine iA X14 hx hby dp42_9_44 rfl ?_
     refine c_virt 0 X14 hx hby hml hZ11 hown11 (tw_97 hw) (tw_98 hw) (tw_100 hw) (tw_99 hw) (tw_101 hw) (tw_8 hw) (rm_subs5_3 l Z a0 hw [] a0_ x0 x1 x2 x3 x4 cs fm h11 n0 f11_0 f11_4 Scs hcs Sfm hfm ⟨d0, kd0, f11_5, f11_6, f11_7, f11_8⟩) q14 f11_5 dp42_9_45 [(.int 0), (.int 3)] [] (lenOf pd2 rfl) rfl rfl (by rfl) (by decide) ?_
     rintro _ T19 Lc19 ⟨b19, rfl, N19q, K19, S19⟩ X19
     have N19 := Fr.app N14 N19q
     have f19_0 := Nat.le_trans f11_0 K19.1
     have f19_1 := CHr.trans f11_1 (CHr.keep K19 sf0 f11_1.1)
     have f19_2 := Nat.le_trans f11_2 K19.1
     have f19_3 := Keep.trans f11_3 K19 all0
     have f19_4 := Old.keep f11_4 K19 all0
     have f19_5 := Exa.keep f11_5 K19
     have f19_6 := Fld.keep f11_6 K19 nin0
     have f19_7 := Fld.keep f11_7 K19 nin0
     have f19_8 := Arv.keep f11_8 K19 nin0
     have f19_9 := Exa.keep Eb11 K19
     have f19_10 := Fld.keep Fc11 K19 nin0
     have f19_11 := Fld.keep Fv11 K19 nin0
     have f19_12 := Arv.keep Vd11 K19 nin0
     show oG p e below P m T19 48 #[(vR a0_), (vI 4), (vI 3)] [(.ref b19)]
     refine own_finW hP hlk hEL hh X19 (v := some (.ref b19)) (fun h => by rw [Bd.returns] at h; cases h) (by decide) (by decide) rfl hS11 f19_2 hZ11 f19_1 ?_ (fun fs hr => retOut X19 hx Bd.returns rfl (Or.inr (Or.inr (Or.inr (Or.inr ⟨rfl, rfl, rfl⟩)))) (hb hby dp42_9_48) hr)
     exact ⟨b19, rfl, N19, f19_3, Or.inr (Or.inr (Or.inr (Or.inr (⟨hk, S19⟩))))⟩
 · rw [if_neg hq]
   show oG p e below P m T12 6 #[(vR a0_), .unset, .unset] [(.int 0)]
   refine fY X12 hx hby dp42_9_6 (pc' := 18) (XT.i0_eq_t (by decide : (0 : Int32) = (0 : Int32))) (by decide) ?_
   refine aA X12 hx hby dp42_9_18 rfl rfl ?_
   refine c_virt 0 X12 hx hby hml hZ11 hown11 (tw_53 hw) (tw_38 hw) (tw_40 hw) (tw_39 hw) (tw_41 hw) (tw_8 hw) (rm_slen l Z a0 hw [] a0_ d0 kd0 (5 : Int32) [(.int x0), (.int x1), (.int x2), (.int x3), (.int x4)] cs h11 n0 f11_0 f11_4 Scs hcs f11_5 f11_6 f11_7 f11_8) q12 f11_5 dp42_9_19 [] [] (lenOf pd0 rfl) rfl rfl (by rfl) (by decide) ?_
   rintro _ T20 Lc20 ⟨rfl, N20q, q20⟩ X20
   have N20 := Fr.app N12 N20q
   refine iS X20 hx hby dp42_9_22 (l' := #[(vR a0_), (vI 5), .unset]) rfl ?_
   refine aA X20 hx hby dp42_9_23 rfl rfl ?_
   refine bC X20 hx hby dp42_9_24 (v := 47) rfl ?_
   refine iA X20 hx hby dp42_9_26 rfl ?_
   refine iC X20 hx hby dp42_9_27 (v := 1) rfl ?_
   refine iM X20 hx hby dp42_9_28 (v := 4) rfl ?_
   refine c_virt 0 X20 hx hby hml hZ11 hown11 (tw_54 hw) (tw_55 hw) (tw_57 hw) (tw_56 hw) (tw_58 hw) (tw_8 hw) (rm_slast5_5 l Z a0 hw [] a0_ x0 x1 x2 x3 x4 cs h11 n0 f11_0 f11_4 Scs hcs ⟨d0, kd0, f11_5, f11_6, f11_7, f11_8⟩) q20 f11_5 dp42_9_29 [(.int 47), (.int 4)] [] (lenOf pd1 rfl) rfl rfl (by rfl) (by decide) ?_
   rintro _ T21 Lc21 ⟨rfl, N21q, q21⟩ X21
   have N21 := Fr.app N20 N21q
   show oG p e below P m T21 32 #[(vR a0_), (vI 5), .unset] [(.int (own_l5 x0 x1 x2 x3 x4))]
   rw [show (own_l5 x0 x1 x2 x3 x4) = (own_l4 x0 x1 x2 x3) from if_neg hq]
   rcases own_c4 x0 x1 x2 x3 with hk | hk | hk | hk | hk
   · rw [hk]
     show oG p e below P m T21 32 #[(vR a0_), (vI 5), .unset] [(.int (-1))]
     refine iS X21 hx hby dp42_9_32 (l' := #[(vR a0_), (vI 5), (vI (-1))]) rfl ?_
     refine iA X21 hx hby dp42_9_33 rfl ?_
     refine fN X21 hx hby dp42_9_34 (XT.i0_ge_f (by decide : (-1 : Int32) < (0 : Int32))) ?_
     obtain ⟨b22, T22, h22, k122, d22, kd22, X22, e22, E22, hS22, hk22, hZ22, hown22, Eb22, Fc22, Fv22, Vd22, lb22, ld22, C22, Lt22, Sf22, st22⟩ := ldcCH X21 hx hZ11 hown11 (tw_75 hw) wS q21 hS11 f11_2 hEL (by decide) f11_1.1 (vs := []) (z := (0 : Int32)) ⟨by decide, by decide⟩ (by decide) (by decide) (g := (mkF m 37 #[(vR a0_), (vI 5), (vI (-1))] [])) rfl (hb hby dp42_9_37) (n := 0) (by decide) (by decide) (by decide) (by decide)
     have f22_0 := Nat.le_trans f11_0 E22.1
     have f22_1 := CHr.trans f11_1 C22
     have f22_2 : k122 ≤ h22.size := hk22
     have f22_3 := Keep.ext f11_3 E22
     have f22_4 := Old.ext f11_4 E22
     have f22_5 := Exa.ext E22 f11_5
     have f22_6 := Fld.ext E22 f11_6
     have f22_7 := Fld.ext E22 f11_7
     have f22_8 := Arv.ext f11_8 E22
     have f22_9 := Exa.ext E22 Eb11
     have f22_10 := Fld.ext E22 Fc11
     have f22_11 := Fld.ext E22 Fv11
     have f22_12 := Arv.ext Vd11 E22
     refine Go.by st22 ?_
     show oG p e below P m T22 39 #[(vR a0_), (vI 5), (vI (-1))] [(.ref b22)]
     refine gO X22 hx hby dp42_9_39 (pc' := 48) (by decide) ?_
     refine own_finW hP hlk hEL hh X22 (v := some (.ref b22)) (fun h => by rw [Bd.returns] at h; cases h) (by decide) (by decide) e22 hS22 f22_2 hZ22 f22_1 ?_ (fun fs hr => retOut X22 hx Bd.returns rfl (Or.inr (Or.inr (Or.inr (Or.inr ⟨rfl, rfl, rfl⟩)))) (hb hby dp42_9_48) hr)
     exact ⟨b22, rfl, N21, f22_3, Or.inl ⟨hk, ⟨d22, kd22, Eb22, Fc22, Fv22, Vd22⟩⟩⟩
   · rw [hk]
     show oG p e below P m T21 32 #[(vR a0_), (vI 5), .unset] [(.int 0)]
     refine iS X21 hx hby dp42_9_32 (l' := #[(vR a0_), (vI 5), (vI 0)]) rfl ?_
     refine iA X21 hx hby dp42_9_33 rfl ?_
     refine fY X21 hx hby dp42_9_34 (pc' := 42) (XT.i0_ge_t (by decide : ¬ (0 : Int32) < (0 : Int32))) (by decide) ?_
     refine aA X21 hx hby dp42_9_42 rfl rfl ?_
     refine iC X21 hx hby dp42_9_43 (v := 0) rfl ?_
     refine iA X21 hx hby dp42_9_44 rfl ?_
     obtain ⟨cq23, kq23, q23a, q23b, q23c⟩ := isOf hZ11 q21 f11_5
     obtain ⟨_, _, ⟨T23, L23, k23, n23⟩, -, X23', hS23', hg23, ⟨Lc23, hQ23, l23, y23, z23, C23⟩, st23⟩ := X21.virtualBackS hx (y := oY1) (z := oY1) hown11 (mvT hZ11 (tw_97 hw)) (mvT hZ11 (tw_98 hw)) (notFace_of_selects (args := #[]) (mvT hZ11 (tw_100 hw))) (mvT hZ11 (tw_100 hw)) (mvT hZ11 (tw_99 hw)) (by decide) (own_backC (W := 0) (rm_subs0 l Z a0 hw hEL [] a0_ d0 kd0 (5 : Int32) [(.int x0), (.int x1), (.int x2), (.int x3), (.int x4)] cs fm h11 n0 f11_0 f11_4 Scs hcs Sfm hfm f11_5 f11_6 f11_7 f11_8 (by decide) (by decide)) hZ11 (tw_101 hw) (tw_8 hw) (by decide) (by decide) hEL f11_1.1 own_ss0) q23a q23c (g := (mkF m 45 #[(vR a0_), (vI 5), (vI 0)] [(.int 0), (.int 0), (.ref a0_)])) rfl (by rw [hml]; rfl) (Steps.refl _) (argsL := [(.int 0), (.int 0)]) (rest := []) (lenOf pd2 rfl) rfl (by show 2 * 0 + _ ≤ _; exact Nat.le_of_eq rfl) (hb hby dp42_9_45) (fun _ _ => ⟨rfl, q21, (by decide : 2 + 2 ≤ _), (by decide : 8 + 4 ≤ _)⟩)
     dsimp only [Pt.U, Pt.locs, Pt.cells, Pt.slots] at X23' hS23' hg23 l23 y23 z23 st23 hQ23 C23
     subst l23 y23 z23
     obtain ⟨X23, hS23, hZ23, hown23⟩ := rebS hS11 (f11_2) X23' hS23' (by have q := hg23; rw [q21] at q; exact q) hZ11 hown11
     have hk23 : T23.heap.size ≤ T23.heap.size := Nat.le_refl _
     obtain ⟨b23, rfl, N23q, K23, S23⟩ := hQ23
     have N23 := Fr.app N21 N23q
     refine Go.by (fun t k => st23.trans k) ?_
     have f23_0 := Nat.le_trans f11_0 K23.1
     have f23_1 := CHr.trans f11_1 C23
     have f23_2 : T23.heap.size ≤ T23.heap.size := hk23
     have f23_3 := Keep.trans f11_3 K23 all0
     have f23_4 := Old.keep f11_4 K23 all0
     have f23_5 := Exa.keep f11_5 K23
     have f23_6 := Fld.keep f11_6 K23 nin0
     have f23_7 := Fld.keep f11_7 K23 nin0
     have f23_8 := Arv.keep f11_8 K23 nin0
     have f23_9 := Exa.keep Eb11 K23
     have f23_10 := Fld.keep Fc11 K23 nin0
     have f23_11 := Fld.keep Fv11 K23 nin0
     have f23_12 := Arv.keep Vd11 K23 nin0
     show oG p e below P m T23 48 #[(vR a0_), (vI 5), (vI 0)] [(.ref b23)]
     refine own_finW hP hlk hEL hh X23 (v := some (.ref b23)) (fun h => by rw [Bd.returns] at h; cases h) (by decide) (by decide) rfl hS23 f23_2 hZ23 f23_1 ?_ (fun fs hr => retOut X23 hx Bd.returns rfl (Or.inr (Or.inr (Or.inr (Or.inr ⟨rfl, rfl, rfl⟩)))) (hb hby dp42_9_48) hr)
     exact ⟨b23, rfl, N23, f23_3, Or.inr (Or.inl ⟨hk, S23⟩)⟩
   · rw [hk]
     show oG p e below P m T21 32 #[(vR a0_), (vI 5), .unset] [(.int 1)]
     refine iS X21 hx hby dp42_9_32 (l' := #[(vR a0_), (vI 5), (vI 1)]) rfl ?_
     refine iA X21 hx hby dp42_9_33 rfl ?_
     refine fY X21 hx hby dp42_9_34 (pc' := 42) (XT.i0_ge_t (by decide : ¬ (1 : Int32) < (0 : Int32))) (by decide) ?_
     refine aA X21 hx hby dp42_9_42 rfl rfl ?_
     refine iC X21 hx hby dp42_9_43 (v := 0) rfl ?_
     refine iA X21 hx hby dp42_9_44 rfl ?_
     refine c_virt 0 X21 hx hby hml hZ11 hown11 (tw_97 hw) (tw_98 hw) (tw_100 hw) (tw_99 hw) (tw_101 hw) (tw_8 hw) (rm_subs5_1 l Z a0 hw [] a0_ x0 x1 x2 x3 x4 cs fm h11 n0 f11_0 f11_4 Scs hcs Sfm hfm ⟨d0, kd0, f11_5, f11_6, f11_7, f11_8⟩) q21 f11_5 dp42_9_45 [(.int 0), (.int 1)] [] (lenOf pd2 rfl) rfl rfl (by rfl) (by decide) ?_
     rintro _ T24 Lc24 ⟨b24, rfl, N24q, K24, S24⟩ X24
     have N24 := Fr.app N21 N24q
     have f24_0 := Nat.le_trans f11_0 K24.1
     have f24_1 := CHr.trans f11_1 (CHr.keep K24 sf0 f11_1.1)
     have f24_2 := Nat.le_trans f11_2 K24.1
     have f24_3 := Keep.trans f11_3 K24 all0
     have f24_4 := Old.keep f11_4 K24 all0
     have f24_5 := Exa.keep f11_5 K24
     have f24_6 := Fld.keep f11_6 K24 nin0
     have f24_7 := Fld.keep f11_7 K24 nin0
     have f24_8 := Arv.keep f11_8 K24 nin0
     have f24_9 := Exa.keep Eb11 K24
     have f24_10 := Fld.keep Fc11 K24 nin0
     have f24_11 := Fld.keep Fv11 K24 nin0
     have f24_12 := Arv.keep Vd11 K24 nin0
     show oG p e below P m T24 48 #[(vR a0_), (vI 5), (vI 1)] [(.ref b24)]
     refine own_finW hP hlk hEL hh X24 (v := some (.ref b24)) (fun h => by rw [Bd.returns] at h; cases h) (by decide) (by decide) rfl hS11 f24_2 hZ11 f24_1 ?_ (fun fs hr => retOut X24 hx Bd.returns rfl (Or.inr (Or.inr (Or.inr (Or.inr ⟨rfl, rfl, rfl⟩)))) (hb hby dp42_9_48) hr)
     exact ⟨b24, rfl, N24, f24_3, Or.inr (Or.inr (Or.inl ⟨hk, S24⟩))⟩
   · rw [hk]
     show oG p e below P m T21 32 #[(vR a0_), (vI 5), .unset] [(.int 2)]
     refine iS X21 hx hby dp42_9_32 (l' := #[(vR a0_), (vI 5), (vI 2)]) rfl ?_
     refine iA X21 hx hby dp42_9_33 rfl ?_
     refine fY X21 hx hby dp42_9_34 (pc' := 42) (XT.i0_ge_t (by decide : ¬ (2 : Int32) < (0 : Int32))) (by decide) ?_
     refine aA X21 hx hby dp42_9_42 rfl rfl ?_
     refine iC X21 hx hby dp42_9_43 (v := 0) rfl ?_
     refine iA X21 hx hby dp42_9_44 rfl ?_
     refine c_virt 0 X21 hx hby hml hZ11 hown11 (tw_97 hw) (tw_98 hw) (tw_100 hw) (tw_99 hw) (tw_101 hw) (tw_8 hw) (rm_subs5_2 l Z a0 hw [] a0_ x0 x1 x2 x3 x4 cs fm h11 n0 f11_0 f11_4 Scs hcs Sfm hfm ⟨d0, kd0, f11_5, f11_6, f11_7, f11_8⟩) q21 f11_5 dp42_9_45 [(.int 0), (.int 2)] [] (lenOf pd2 rfl) rfl rfl (by rfl) (by decide) ?_
     rintro _ T25 Lc25 ⟨b25, rfl, N25q, K25, S25⟩ X25
     have N25 := Fr.app N21 N25q
     have f25_0 := Nat.le_trans f11_0 K25.1
     have f25_1 := CHr.trans f11_1 (CHr.keep K25 sf0 f11_1.1)
     have f25_2 := Nat.le_trans f11_2 K25.1
     have f25_3 := Keep.trans f11_3 K25 all0
     have f25_4 := Old.keep f11_4 K25 all0
     have f25_5 := Exa.keep f11_5 K25
     have f25_6 := Fld.keep f11_6 K25 nin0
     have f25_7 := Fld.keep f11_7 K25 nin0
     have f25_8 := Arv.keep f11_8 K25 nin0
     have f25_9 := Exa.keep Eb11 K25
     have f25_10 := Fld.keep Fc11 K25 nin0
     have f25_11 := Fld.keep Fv11 K25 nin0
     have f25_12 := Arv.keep Vd11 K25 nin0
     show oG p e below P m T25 48 #[(vR a0_), (vI 5), (vI 2)] [(.ref b25)]
     refine own_finW hP hlk hEL hh X25 (v := some (.ref b25)) (fun h => by rw [Bd.returns] at h; cases h) (by decide) (by decide) rfl hS11 f25_2 hZ11 f25_1 ?_ (fun fs hr => retOut X25 hx Bd.returns rfl (Or.inr (Or.inr (Or.inr (Or.inr ⟨rfl, rfl, rfl⟩)))) (hb hby dp42_9_48) hr)
     exact ⟨b25, rfl, N25, f25_3, Or.inr (Or.inr (Or.inr (Or.inl ⟨hk, S25⟩)))⟩
   · rw [hk]
     show oG p e below P m T21 32 #[(vR a0_), (vI 5), .unset] [(.int 3)]
     refine iS X21 hx hby dp42_9_32 (l' := #[(vR a0_), (vI 5), (vI 3)]) rfl ?_
     refine iA X21 hx hby dp42_9_33 rfl ?_
     refine fY X21 hx hby dp42_9_34 (pc' := 42) (XT.i0_ge_t (by decide : ¬ (3 : Int32) < (0 : Int32))) (by decide) ?_
     refine aA X21 hx hby dp42_9_42 rfl rfl ?_
     refine iC X21 hx hby dp42_9_43 (v := 0) rfl ?_
     refine iA X21 hx hby dp42_9_44 rfl ?_
     refine c_virt 0 X21 hx hby hml hZ11 hown11 (tw_97 hw) (tw_98 hw) (tw_100 hw) (tw_99 hw) (tw_101 hw) (tw_8 hw) (rm_subs5_3 l Z a0 hw [] a0_ x0 x1 x2 x3 x4 cs fm h11 n0 f11_0 f11_4 Scs hcs Sfm hfm ⟨d0, kd0, f11_5, f11_6, f11_7, f11_8⟩) q21 f11_5 dp42_9_45 [(.int 0), (.int 3)] [] (lenOf pd2 rfl) rfl rfl (by rfl) (by decide) ?_
     rintro _ T26 Lc26 ⟨b26, rfl, N26q, K26, S26⟩ X26
     have N26 := Fr.app N21 N26q
     have f26_0 := Nat.le_trans f11_0 K26.1
     have f26_1 := CHr.trans f11_1 (CHr.keep K26 sf0 f11_1.1)
     have f26_2 := Nat.le_trans f11_2 K26.1
     have f26_3 := Keep.trans f11_3 K26 all0
     have f26_4 := Old.keep f11_4 K26 all0
     have f26_5 := Exa.keep f11_5 K26
     have f26_6 := Fld.keep f11_6 K26 nin0
     have f26_7 := Fld.keep f11_7 K26 nin0
     have f26_8 := Arv.keep f11_8 K26 nin0
     have f26_9 := Exa.keep Eb11 K26
     have f26_10 := Fld.keep Fc11 K26 nin0
     have f26_11 := Fld.keep Fv11 K26 nin0
     have f26_12 := Arv.keep Vd11 K26 nin0
     show oG p e below P m T26 48 #[(vR a0_), (vI 5), (vI 3)] [(.ref b26)]
     refine own_finW hP hlk hEL hh X26 (v := some (.ref b26)) (fun h => by rw [Bd.returns] at h; cases h) (by decide) (by decide) rfl hS11 f26_2 hZ11 f26_1 ?_ (fun fs hr => retOut X26 hx Bd.returns rfl (Or.inr (Or.inr (Or.inr (Or.inr ⟨rfl, rfl, rfl⟩)))) (hb hby dp42_9_48) hr)
     exact ⟨b26, rfl, N26, f26_3, Or.inr (Or.inr (Or.inr (Or.inr (⟨hk, S26⟩))))⟩
def Q_ei4 (Z : State) (a0_ a1 : Addr) (k1 : ClassId) (h0 : Heap) (n0 : Nat) (v : Option Value) (h : Heap) (L : List Loc) : Prop := v = none ∧ Fr n0 L ∧ Keep h0 h [a0_] ∧ StrV Z h a0_ []
theorem ef_ei4 (m : MethodId) (a0_ a1 : Addr) (k1 : ClassId) : entryFrame m #[(.ref a0_), (.ref a1), (.int 0), (.int 0), .null] 6 = mkF m 0 #[(vR a0_), (vR a1), (vI 0), (vI 0), .val .null, .unset] [] := by first | (simp [entryFrame, mkF, argsToLocals, Value.category]; done) | rfl
theorem rm_ei4 (l : Launch) (Z : State) (a0 : Array Value) (hw : oW a0 Z) (hEL : EW Z a0 own_EL) (ws : List Jvm.Cond) (a0_ a1 : Addr) (k1 : ClassId) (h0 : Heap) (n0 : Nat) (Z0 : n0 ≤ h0.size) (E0 : Exa Z h0 a0_ "java/lang/String") (g_a0_ : n0 ≤ a0_) (F0c : Fld Z h0 a0_ "java/lang/String" "coder" "B" (.int 0)) (F0v : Fld Z h0 a0_ "java/lang/String" "value" "[B" .null) (V1 : Arv Z h0 a1 k1 .char (0 : Int32) [] (.int 0)) :
   MetFree l oY15 (head1 (Jvm.Cond.code oY15 j42_149 6 none :: ws) (own_R 1 4 8 12)) (fun a U => a = #[(.ref a0_), (.ref a1), (.int 0), (.int 0), .null] ∧ Z.Warmed39 U.vm ∧ U.heap = h0 ∧ CHv Z own_EL U.vm h0 ∧ ∀ x ∈ ([a0_] : List Addr), Safe Z own_EL U.vm h0 x) (fun _ _ _ _ _ => True) (fun _ U o U' => ∃ v L, o = .returned v ∧ Q_ei4 Z a0_ a1 k1 h0 n0 v U'.heap L ∧ CHr Z own_EL U.vm U.heap U'.vm U'.heap ∧ ReturnedEndW U o U' L (own_R 1 4 8 12).cells (own_R 1 4 8 12).slots) := by
 refine MetFree.of_bodySF (plainFor_of_name pn0) hisR ?_
 intro p e s m args below meth c s₁ Bd hml0 hP hK
 obtain ⟨rfl, hZ, hh, hCH, hSf⟩ := hP
 have hx := Bd.exec
 have hby := Bd.bytes
 have hml : c.maxLocals = 6 := hml0
 have hown : s.vm.findClass "java/lang/String" = some m.cls := findClass_of_methodNamed Bd.named
 have hnm := (name_of_methodNamed Bd.named Bd.method).1
 have X0 : Stand p l e (own_R 1 4 8 12) (s.setVm s.vm) m #[(.ref a0_), (.ref a1), (.int 0), (.int 0), .null] below meth c s₁ [] 0 0 := Stand.of_body Bd
 have e0 : s₁.heap = h0 := by rw [← hh, Bd.state]; rfl
 have N0 := Fr.nil n0
 have hZs := hZ
 have wS := own_wS hw
 have hS0 : s.Since s.vm s.heap.size := (State.WarmedH.refl s).since _
 have hk0 : s.heap.size ≤ h0.size := Nat.le_of_eq (congrArg Array.size hh)
 have hlk : meth.locks = false := Bd.notSynchronized
 obtain ⟨P, hP⟩ : ∃ P : Outcome → State → Prop, P = PQW s Z own_EL (Q_ei4 Z a0_ a1 k1 h0 n0) (own_R 1 4 8 12).cells (own_R 1 4 8 12).slots := ⟨_, rfl⟩
 suffices hgo : Go p e below P (s₁.setTop (mkF m 0 #[(vR a0_), (vR a1), (vI 0), (vI 0), .val .null, .unset] [])) by
   rw [hP] at hgo
   exact Go.by (fun t k => castTop (ef_ei4 m a0_ a1 k1) k) hgo
 have ne01 : a0_ ≠ a1 := fun q => by obtain ⟨c, Ar, -⟩ := V1; exact ne_arr E0 (tw_7 hw) Ar q
 show oG p e below P m s₁ 0 #[(vR a0_), (vR a1), (vI 0), (vI 0), .val .null, .unset] []
 refine aA X0 hx hby dj42_149_0 rfl rfl ?_
 obtain ⟨T11, X11, e11, st11⟩ := initO X0 hx hZ hown (tw_16 hw) (tw_17 hw) (tw_18 hw) e0 (g := (mkF m 1 #[(vR a0_), (vR a1), (vI 0), (vI 0), .val .null, .unset] [(.ref a0_)])) rfl (by rw [hml]; rfl) rfl (hb hby dj42_149_1) (by decide) (W := 0) (by show 2 * 0 + _ ≤ _; exact Nat.le_of_eq rfl) (by decide)
 refine Go.by st11 ?_
 show oG p e below P m T11 4 #[(vR a0_), (vR a1), (vI 0), (vI 0), .val .null, .unset] []
 refine iA X11 hx hby dj42_149_4 rfl ?_
 refine fN X11 hx hby dj42_149_5 (XT.i0_ne_f (by decide : (0 : Int32) = (0 : Int32))) ?_
 refine aA X11 hx hby dj42_149_8 rfl rfl ?_
 obtain ⟨b12, T12, h12, k112, d12, kd12, X12, e12, E12, hS12, hk12, hZ12, hown12, Eb12, Fc12, Fv12, Vd12, lb12, ld12, C12, Lt12, Sf12, st12⟩ := ldcCH X11 hx hZ hown (tw_19 hw) wS e11 hS0 hk0 hEL (by decide) (CHr.refl hCH).1 (vs := []) (z := (0 : Int32)) ⟨by decide, by decide⟩ (by decide) (by decide) (g := (mkF m 9 #[(vR a0_), (vR a1), (vI 0), (vI 0), .val .null, .unset] [(.ref a0_)])) rfl (hb hby dj42_149_9) (n := 0) (by decide) (by decide) (by decide) (by decide)
 have f12_0 := Nat.le_trans Z0 E12.1
 have f12_1 := CHr.trans (CHr.refl hCH) C12
 have f12_2 : k112 ≤ h12.size := hk12
 have f12_3 := CHr.safe C12 (E0.lt) (hSf a0_ (List.mem_of_getElem? (i := 0) rfl))
 have f12_4 := Keep.ext (Keep.refl h0 [a0_]) E12
 have f12_5 := Exa.ext E12 E0
 have f12_6 := Fld.ext E12 F0c
 have f12_7 := Fld.ext E12 F0v
 have f12_8 := Arv.ext V1 E12
 refine Go.by st12 ?_
 obtain ⟨T13, X13, e13, st13⟩ := getF X12 hx hZ12 hown12 (host := "") (Or.inl (tw_25 hw)) Via.refl e12 Fv12 (g := (mkF m 11 #[(vR a0_), (vR a1), (vI 0), (vI 0), .val .null, .unset] [(.ref b12), (.ref a0_)])) rfl rfl (hb hby dj42_149_11)
 refine Go.by st13 ?_
 obtain ⟨T14, h14, X14, e14, W14, st14⟩ := putF X13 hx hZ12 hown12 (host := "") (Or.inl (tw_25 hw)) Via.refl e13 f12_7 f12_5 (Or.inr ⟨(tw_21 hw), rfl, hnm⟩) (tw_7 hw) (ty := (.array .byte)) (by decide) rfl rfl (g := (mkF m 14 #[(vR a0_), (vR a1), (vI 0), (vI 0), .val .null, .unset] [(.ref d12), (.ref a0_)])) rfl rfl (hb hby dj42_149_14)
 refine Go.by st14 ?_
 have N14 := Fr.snoc X14 N0 g_a0_
 have f14_0 := Nat.le_trans f12_0 (Keep.of_wr W14).1
 have f14_1 := CHr.trans f12_1 (CHr.wr W14 f12_3 f12_1.1)
 have f14_2 := Nat.le_trans f12_2 (Keep.of_wr W14).1
 have f14_3 := Safe.wr W14 f12_3 f12_1.1 f12_3
 have f14_4 := Keep.wr f12_4 W14 (Or.inl (List.mem_of_getElem? (i := 0) rfl))
 have f14_5 := Exa.wr W14 f12_5
 have f14_6 := Fld.other W14 f12_6 (Or.inr (slot_ne (Or.inr (tw_22 hw)) (Or.inr (tw_21 hw)) (by decide) (t := .byte) (t' := (.array .byte)) (by decide) (by decide)))
 have f14_7 := Fld.same W14 f12_7
 have f14_8 := Arv.other f12_8 W14 (Ne.symm ne01)
 have f14_9 := Exa.wr W14 Eb12
 have f14_10 := Fld.other W14 Fc12 (Or.inl (Ne.symm (Sf12 _ f12_3).1))
 have f14_11 := Fld.other W14 Fv12 (Or.inl (Ne.symm (Sf12 _ f12_3).1))
 have f14_12 := Arv.other Vd12 W14 (Ne.symm (Sf12 _ f12_3).2)
 show oG p e below P m T14 17 #[(vR a0_), (vR a1), (vI 0), (vI 0), .val .null, .unset] []
 refine aA X14 hx hby dj42_149_17 rfl rfl ?_
 obtain ⟨b15, T15, h15, k115, d15, kd15, X15, e15, E15, hS15, hk15, hZ15, hown15, Eb15, Fc15, Fv15, Vd15, lb15, ld15, C15, Lt15, Sf15, st15⟩ := ldcCH X14 hx hZ12 hown12 (tw_19 hw) wS e14 hS12 f14_2 hEL (by decide) f14_1.1 (vs := []) (z := (0 : Int32)) ⟨by decide, by decide⟩ (by decide) (by decide) (g := (mkF m 18 #[(vR a0_), (vR a1), (vI 0), (vI 0), .val .null, .unset] [(.ref a0_)])) rfl (hb hby dj42_149_18) (n := 0) (by decide) (by decide) (by decide) (by decide)
 have f15_0 := Nat.le_trans f14_0 E15.1
 have f15_1 := CHr.trans f14_1 C15
 have f15_2 : k115 ≤ h15.size := hk15
 have f15_3 := CHr.safe C15 (f14_5.lt) f14_3
 have f15_4 := Keep.ext f14_4 E15
 have f15_5 := Exa.ext E15 f14_5
 have f15_6 := Fld.ext E15 f14_6
 have f15_7 := Fld.ext E15 f14_7
 have f15_8 := Arv.ext f14_8 E15
 have f15_9 := Exa.ext E15 f14_9
 have f15_10 := Fld.ext E15 f14_10
 have f15_11 := Fld.ext E15 f14_11
 have f15_12 := Arv.ext f14_12 E15
 refine Go.by st15 ?_
 obtain ⟨T16, X16, e16, st16⟩ := getF X15 hx hZ15 hown15 (host := "") (Or.inl (tw_26 hw)) Via.refl e15 Fc15 (g := (mkF m 20 #[(vR a0_), (vR a1), (vI 0), (vI 0), .val .null, .unset] [(.ref b15), (.ref a0_)])) rfl rfl (hb hby dj42_149_20)
 refine Go.by st16 ?_
 obtain ⟨T17, h17, X17, e17, W17, st17⟩ := putFN X16 hx hZ15 hown15 (tw_26 hw) Via.refl e16 f15_6 f15_5 (Or.inr ⟨(tw_22 hw), rfl, hnm⟩) (tw_7 hw) (ty := .byte) (v' := (.int 0)) (by decide) rfl rfl (g := (mkF m 23 #[(vR a0_), (vR a1), (vI 0), (vI 0), .val .null, .unset] [(.int 0), (.ref a0_)])) rfl rfl (hb hby dj42_149_23)
 refine Go.by st17 ?_
 have N17 := Fr.snoc X17 N14 g_a0_
 have f17_0 := Nat.le_trans f15_0 (Keep.of_wr W17).1
 have f17_1 := CHr.trans f15_1 (CHr.wr W17 f15_3 f15_1.1)
 have f17_2 := Nat.le_trans f15_2 (Keep.of_wr W17).1
 have f17_3 := Safe.wr W17 f15_3 f15_1.1 f15_3
 have f17_4 := Keep.wr f15_4 W17 (Or.inl (List.mem_of_getElem? (i := 0) rfl))
 have f17_5 := Exa.wr W17 f15_5
 have f17_6 := Fld.same W17 f15_6
 have f17_7 := Fld.other W17 f15_7 (Or.inr (slot_ne (Or.inr (tw_21 hw)) (Or.inr (tw_22 hw)) (by decide) (t := (.array .byte)) (t' := .byte) (by decide) (by decide)))
 have f17_8 := Arv.other f15_8 W17 (Ne.symm ne01)
 have f17_9 := Exa.wr W17 f15_9
 have f17_10 := Fld.other W17 f15_10 (Or.inl (Ne.symm (Sf12 _ f12_3).1))
 have f17_11 := Fld.other W17 f15_11 (Or.inl (Ne.symm (Sf12 _ f12_3).1))
 have f17_12 := Arv.other f15_12 W17 (Ne.symm (Sf12 _ f12_3).2)
 have f17_13 := Exa.wr W17 Eb15
 have f17_14 := Fld.other W17 Fc15 (Or.inl (Ne.symm (Sf15 _ f15_3).1))
 have f17_15 := Fld.other W17 Fv15 (Or.inl (Ne.symm (Sf15 _ f15_3).1))
 have f17_16 := Arv.other Vd15 W17 (Ne.symm (Sf15 _ f15_3).2)
 show oG p e below P m T17 26 #[(vR a0_), (vR a1), (vI 0), (vI 0), .val .null, .unset] []
 refine own_finW hP hlk hEL hh X17 (v := none) (fun _ => rfl) (by decide) (by decide) e17 hS15 f17_2 hZ15 f17_1 ?_ (fun fs hr => X17.returnOut hx Bd.returns (hb hby dj42_149_26) hr)
 exact ⟨rfl, N17, f17_4, ⟨d12, kd12, f17_5, f17_6, f17_7, f17_12⟩⟩
def Q_ei1 (Z : State) (a0_ a1 : Addr) (k1 : ClassId) (h0 : Heap) (n0 : Nat) (v : Option Value) (h : Heap) (L : List Loc) : Prop := v = none ∧ Fr n0 L ∧ Keep h0 h [a0_] ∧ StrV Z h a0_ []
theorem ef_ei1 (m : MethodId) (a0_ a1 : Addr) (k1 : ClassId) : entryFrame m #[(.ref a0_), (.ref a1)] 2 = mkF m 0 #[(vR a0_), (vR a1)] [] := by first | (simp [entryFrame, mkF, argsToLocals, Value.category]; done) | rfl
theorem rm_ei1 (l : Launch) (Z : State) (a0 : Array Value) (hw : oW a0 Z) (hEL : EW Z a0 own_EL) (ws : List Jvm.Cond) (a0_ a1 : Addr) (k1 : ClassId) (h0 : Heap) (n0 : Nat) (Z0 : n0 ≤ h0.size) (E0 : Exa Z h0 a0_ "java/lang/String") (g_a0_ : n0 ≤ a0_) (F0c : Fld Z h0 a0_ "java/lang/String" "coder" "B" (.int 0)) (F0v : Fld Z h0 a0_ "java/lang/String" "value" "[B" .null) (V1 : Arv Z h0 a1 k1 .char (0 : Int32) [] (.int 0)) :
   MetFree l oY16 (head1 (Jvm.Cond.code oY16 j42_3 2 none :: ws) (own_R 2 4 8 40)) (fun a U => a = #[(.ref a0_), (.ref a1)] ∧ Z.Warmed39 U.vm ∧ U.heap = h0 ∧ CHv Z own_EL U.vm h0 ∧ ∀ x ∈ ([a0_] : List Addr), Safe Z own_EL U.vm h0 x) (fun _ _ _ _ _ => True) (fun _ U o U' => ∃ v L, o = .returned v ∧ Q_ei1 Z a0_ a1 k1 h0 n0 v U'.heap L ∧ CHr Z own_EL U.vm U.heap U'.vm U'.heap ∧ ReturnedEndW U o U' L (own_R 2 4 8 40).cells (own_R 2 4 8 40).slots) := by
 refine MetFree.of_bodySF (plainFor_of_name pn0) hisR ?_
 intro p e s m args below meth c s₁ Bd hml0 hP hK
 obtain ⟨rfl, hZ, hh, hCH, hSf⟩ := hP
 have hx := Bd.exec
 have hby := Bd.bytes
 have hml : c.maxLocals = 2 := hml0
 have hown : s.vm.findClass "java/lang/String" = some m.cls := findClass_of_methodNamed Bd.named
 have hnm := (name_of_methodNamed Bd.named Bd.method).1
 have X0 : Stand p l e (own_R 2 4 8 40) (s.setVm s.vm) m #[(.ref a0_), (.ref a1)] below meth c s₁ [] 0 0 := Stand.of_body Bd
 have e0 : s₁.heap = h0 := by rw [← hh, Bd.state]; rfl
 have N0 := Fr.nil n0
 have hZs := hZ
 have wS := own_wS hw
 have hS0 : s.Since s.vm s.heap.size := (State.WarmedH.refl s).since _
 have hk0 : s.heap.size ≤ h0.size := Nat.le_of_eq (congrArg Array.size hh)
 have hlk : meth.locks = false := Bd.notSynchronized
 obtain ⟨P, hP⟩ : ∃ P : Outcome → State → Prop, P = PQW s Z own_EL (Q_ei1 Z a0_ a1 k1 h0 n0) (own_R 2 4 8 40).cells (own_R 2 4 8 40).slots := ⟨_, rfl⟩
 suffices hgo : Go p e below P (s₁.setTop (mkF m 0 #[(vR a0_), (vR a1)] [])) by
   rw [hP] at hgo
   exact Go.by (fun t k => castTop (ef_ei1 m a0_ a1 k1) k) hgo
 have ne01 : a0_ ≠ a1 := fun q => by obtain ⟨c, Ar, -⟩ := V1; exact ne_arr E0 (tw_7 hw) Ar q
 show oG p e below P m s₁ 0 #[(vR a0_), (vR a1)] []
 refine aA X0 hx hby dj42_3_0 rfl rfl ?_
 refine aA X0 hx hby dj42_3_1 rfl rfl ?_
 refine iC X0 hx hby dj42_3_2 (v := 0) rfl ?_
 refine aA X0 hx hby dj42_3_3 rfl rfl ?_
 have av11 := V1
 obtain ⟨cl11, Ar11, -, Sz11, Nn11, -, -⟩ := av11
 refine Go.by (X0.arraylength hx (by rw [e0]; exact Ar11.1) (State.isArrayOf_alike hZ.alike Ar11.2.1) (g := (mkF m 4 #[(vR a0_), (vR a1)] [(.ref a1), (.int 0), (.ref a1), (.ref a0_)])) rfl rfl (hb hby dj42_3_4)) ?_
 rw [len_of Sz11 Nn11]
 show oG p e below P m s₁ 5 #[(vR a0_), (vR a1)] [(.int 0), (.int 0), (.ref a1), (.ref a0_)]
 refine w_aconstNull X0 hx hby dj42_3_5 ?_
 obtain ⟨_, _, ⟨T12, L12, k12, n12⟩, -, X12', hS12', hg12, ⟨Lc12, hQ12, l12, y12, z12, C12⟩, st12⟩ := X0.specialBackS hx (y := oY15) rfl hown (mvT hZ (tw_12 hw)) (mvT hZ (tw_13 hw)) (mvT hZ (tw_15 hw)) (by decide) (own_backC (W := 0) (rm_ei4 l Z a0 hw hEL [] a0_ a1 k1 h0 n0 Z0 E0 g_a0_ F0c F0v V1) hZ (tw_15 hw) (tw_8 hw) (by decide) (by decide) hEL (CHr.refl hCH).1 (own_ssS (hSf a0_ (List.mem_of_getElem? (i := 0) rfl)) (E0.lt) own_ss0)) (g := (mkF m 6 #[(vR a0_), (vR a1)] [.null, (.int 0), (.int 0), (.ref a1), (.ref a0_)])) rfl (by rw [hml]; rfl) (Steps.refl _) (a := a0_) (argsL := [(.ref a1), (.int 0), (.int 0), .null]) (rest := []) (lenOf pd17 rfl) rfl (by show 2 * 0 + _ ≤ _; exact Nat.le_of_eq rfl) (hb hby dj42_3_6) (fun _ _ => ⟨rfl, e0, (by decide : 0 + 4 ≤ _), (by decide : 0 + 8 ≤ _)⟩)
 dsimp only [Pt.U, Pt.locs, Pt.cells, Pt.slots] at X12' hS12' hg12 l12 y12 z12 st12 hQ12 C12
 subst l12 y12 z12
 obtain ⟨X12, hS12, hZ12, hown12⟩ := rebS hS0 (hk0) X12' hS12' (by have q := hg12; rw [e0] at q; exact q) hZ hown
 have hk12 : T12.heap.size ≤ T12.heap.size := Nat.le_refl _
 obtain ⟨rfl, N12q, K12, S12⟩ := hQ12
 have N12 := Fr.app N0 N12q
 refine Go.by (fun t k => st12.trans k) ?_
 have f12_0 := Nat.le_trans Z0 K12.1
 have f12_1 := CHr.trans (CHr.refl hCH) C12
 have f12_2 : T12.heap.size ≤ T12.heap.size := hk12
 have f12_3 := CHr.safe C12 (E0.lt) (hSf a0_ (List.mem_of_getElem? (i := 0) rfl))
 have f12_4 := Keep.trans (Keep.refl h0 [a0_]) K12 (allS (Or.inl (List.mem_of_getElem? (i := 0) rfl)) all0)
 have f12_5 := Exa.keep E0 K12
 have f12_6 := Arv.keep V1 K12 (ninS (Ne.symm ne01) nin0)
 show oG p e below P m T12 9 #[(vR a0_), (vR a1)] []
 refine own_finW hP hlk hEL hh X12 (v := none) (fun _ => rfl) (by decide) (by decide) rfl hS12 f12_2 hZ12 f12_1 ?_ (fun fs hr => X12.returnOut hx Bd.returns (hb hby dj42_3_9) hr)
 exact ⟨rfl, N12, f12_4, S12⟩
def Q_cmp5_1 (Z : State) (a1 : Addr) (k1 : ClassId) (a2 : Addr) (k2 : ClassId) (x0 : Int32) (h0 : Heap) (n0 : Nat) (v : Option Value) (h : Heap) (L : List Loc) : Prop := v = some (.int 1) ∧ Fr n0 L ∧ Keep h0 h [a2] ∧ Arv Z h a2 k2 .byte (1 : Int32) [(.int (x0.toInt8.toInt32))] (.int 0)
theorem rm_cmp5_1 (l : Launch) (Z : State) (a0 : Array Value) (hw : oW a0 Z) (ws : List Jvm.Cond) (a1 : Addr) (k1 : ClassId) (a2 : Addr) (k2 : ClassId) (x0 : Int32) (h0 : Heap) (n0 : Nat) (Z0 : n0 ≤ h0.size) (V1 : Arv Z h0 a1 k1 .char (1 : Int32) [(.int x0)] (.int 0)) (V2 : Arv Z h0 a2 k2 .byte (1 : Int32) [(.int 0)] (.int 0)) (ne12 : a1 ≠ a2) (g_a2 : n0 ≤ a2) (hx0a : ¬ x0 < 0) (hx0b : ¬ (255 : Int32) < x0) :
   oM l oY18 j52_21 7 (some .int) ws (own_R 0 0 0 0) #[(.ref a1), (.int 0), (.ref a2), (.int 0), (.int 1)] Z h0 (Q_cmp5_1 Z a1 k1 a2 k2 x0 h0 n0) := by
 refine own_open (n0 := n0) (cn := "java/lang/StringUTF16") rfl (plainFor_of_name pn2) (L0 := #[(vR a1), (vI 0), (vR a2), (vI 0), (vI 1), .unset, .unset]) (fun _ => by first | (simp [entryFrame, mkF, argsToLocals, Value.category]; done) | rfl) ?_
 intro p e s m below meth c s₁ P hx hby hml hown hnm X0 e0 N0 hlk hret hZ hP
 refine iC X0 hx hby dj52_21_0 (v := 0) rfl ?_
 refine iT X0 hx hby dj52_21_1 (l' := #[(vR a1), (vI 0), (vR a2), (vI 0), (vI 1), (vI 0), .unset]) rfl ?_
 refine iB X0 hx hby dj52_21_3 rfl ?_
 refine iB X0 hx hby dj52_21_5 rfl ?_
 refine cN X0 hx hby dj52_21_7 (XT.ii_ge_f (by decide : (0 : Int32) < (1 : Int32))) ?_
 refine aA X0 hx hby dj52_21_10 rfl rfl ?_
 refine iA X0 hx hby dj52_21_11 rfl ?_
 have av11 := V1
 obtain ⟨cl11, Ar11, -, Sz11, Nn11, Ha11, Gf11⟩ := av11
 have hin11 : ¬ ((0 : Int32) < 0 ∨ cl11.slots.size ≤ ((0 : Int32)).toNatClampNeg) := inb_of Sz11 ⟨by decide, by decide⟩
 have hat11 : cl11.slots[((0 : Int32)).toNatClampNeg]? = some (.int x0) := Ha11.at hin11 rfl
 refine Go.by (X0.caload hx (j := (0 : Int32)) (v := (.int x0)) (by rw [e0]; exact Ar11.1) (State.isArrayOf_alike hZ.alike Ar11.2.1) Ar11.2.2 hin11 hat11 (g := (mkF m 12 #[(vR a1), (vI 0), (vR a2), (vI 0), (vI 1), (vI 0), .unset] [(.int 0), (.ref a1)])) rfl rfl (hb hby dj52_21_12)) ?_
 show oG p e below P m s₁ 13 #[(vR a1), (vI 0), (vR a2), (vI 0), (vI 1), (vI 0), .unset] [(.int x0)]
 refine iT X0 hx hby dj52_21_13 (l' := #[(vR a1), (vI 0), (vR a2), (vI 0), (vI 1), (vI 0), (vI x0)]) rfl ?_
 refine iB X0 hx hby dj52_21_15 rfl ?_
 refine sC X0 hx hby dj52_21_17 (v := 255) rfl ?_
 refine cY X0 hx hby dj52_21_20 (pc' := 26) (XT.ii_le_t hx0b) (by decide) ?_
 refine aA X0 hx hby dj52_21_26 rfl rfl ?_
 refine iA X0 hx hby dj52_21_27 rfl ?_
 refine iB X0 hx hby dj52_21_28 rfl ?_
 refine Go.by (fun _ => XS.i2b X0.here hx rfl (hb hby dj52_21_30) rfl) ?_
 have av12 := V2
 obtain ⟨cl12, Ar12, q12, Sz12, Nn12, Ha12, Gf12⟩ := av12
 have hin12 : ¬ ((0 : Int32) < 0 ∨ cl12.slots.size ≤ ((0 : Int32)).toNatClampNeg) := inb_of Sz12 ⟨by decide, by decide⟩
 obtain ⟨T13, h13, X13, e13, W13, st13⟩ := stB X0 hx hZ e0 Ar12 (j := (0 : Int32)) hin12 (g := (mkF m 31 #[(vR a1), (vI 0), (vR a2), (vI 0), (vI 1), (vI 0), (vI x0)] [(.int (x0.toInt8.toInt32)), (.int 0), (.ref a2)])) rfl rfl (hb hby dj52_21_31)
 have W13' : Wr h0 h13 a2 ((0 : Int32)).toNatClampNeg (.int (x0.toInt8.toInt32)) := (by have q : Wr h0 h13 a2 ((0 : Int32)).toNatClampNeg (.int ((x0.toInt8.toInt32)).toInt8.toInt32) := W13; rw [own_bb] at q; exact q)
 have V13 : Arv Z h13 a2 k2 .byte (1 : Int32) [(.int (x0.toInt8.toInt32))] (.int 0) := Arv.set Ar12 q12 Sz12 Nn12 Ha12 Gf12 (fits_nar_byte _) W13' 0 rfl (Nat.le_of_ble_eq_true rfl)
 have N13 := Fr.snoc X13 N0 g_a2
 have f13_0 := Nat.le_trans Z0 (Keep.of_wr W13).1
 have f13_1 := Keep.wr (Keep.refl h0 [a2]) W13 (Or.inl (List.mem_of_getElem? (i := 0) rfl))
 have f13_2 := Arv.other V1 W13 ne12
 refine Go.by st13 ?_
 show oG p e below P m T13 32 #[(vR a1), (vI 0), (vR a2), (vI 0), (vI 1), (vI 0), (vI x0)] []
 refine iI X13 hx hby dj52_21_32 rfl (l' := #[(vR a1), (vI 1), (vR a2), (vI 0), (vI 1), (vI 0), (vI x0)]) rfl ?_
 refine iI X13 hx hby dj52_21_35 rfl (l' := #[(vR a1), (vI 1), (vR a2), (vI 1), (vI 1), (vI 0), (vI x0)]) rfl ?_
 refine iI X13 hx hby dj52_21_38 rfl (l' := #[(vR a1), (vI 1), (vR a2), (vI 1), (vI 1), (vI 1), (vI x0)]) rfl ?_
 refine gO X13 hx hby dj52_21_41 (pc' := 3) (by decide) ?_
 refine iB X13 hx hby dj52_21_3 rfl ?_
 refine iB X13 hx hby dj52_21_5 rfl ?_
 refine cY X13 hx hby dj52_21_7 (pc' := 44) (XT.ii_ge_t (by decide : ¬ (1 : Int32) < (1 : Int32))) (by decide) ?_
 refine iB X13 hx hby dj52_21_44 rfl ?_
 refine r_val hP hlk hret X13 hx hby dj52_21_46 rfl (Or.inl ⟨rfl, Or.inl rfl, _, rfl⟩) (by decide) ?_
 rw [e13]
 exact ⟨rfl, N13, f13_1, V13⟩
def Q_cmp3_1 (Z : State) (a1 : Addr) (k1 : ClassId) (x0 : Int32) (h0 : Heap) (n0 : Nat) (v : Option Value) (h : Heap) (L : List Loc) : Prop := ∃ d k, v = some (.ref d) ∧ Fr n0 L ∧ Keep h0 h [] ∧ h0.size ≤ d ∧ Arv Z h d k .byte (1 : Int32) [(.int (x0.toInt8.toInt32))] (.int 0)
theorem rm_cmp3_1 (l : Launch) (Z : State) (a0 : Array Value) (hw : oW a0 Z) (ws : List Jvm.Cond) (a1 : Addr) (k1 : ClassId) (x0 : Int32) (h0 : Heap) (n0 : Nat) (Z0 : n0 ≤ h0.size) (V1 : Arv Z h0 a1 k1 .char (1 : Int32) [(.int x0)] (.int 0)) (hx0a : ¬ x0 < 0) (hx0b : ¬ (255 : Int32) < x0) :
   oM l oY19 j52_16 6 (some (.array .byte)) ws (own_R 1 1 1 30) #[(.ref a1), (.int 0), (.int 1)] Z h0 (Q_cmp3_1 Z a1 k1 x0 h0 n0) := by
 refine own_open (n0 := n0) (cn := "java/lang/StringUTF16") rfl (plainFor_of_name pn2) (L0 := #[(vR a1), (vI 0), (vI 1), .unset, .unset, .unset]) (fun _ => by first | (simp [entryFrame, mkF, argsToLocals, Value.category]; done) | rfl) ?_
 intro p e s m below meth c s₁ P hx hby hml hown hnm X0 e0 N0 hlk hret hZ hP
 refine iA X0 hx hby dj52_16_0 rfl ?_
 obtain ⟨T11, h11, k11, X11, e11, E11, A11, st11⟩ := newP X0 hx hZ (aty := .byte) (tw_20 hw) e0 (g := (mkF m 1 #[(vR a1), (vI 0), (vI 1), .unset, .unset, .unset] [(.int 1)])) rfl (hb hby dj52_16_1) rfl (by decide) (cap := 1) (by decide) (by decide) (by decide) (by decide)
 obtain ⟨b11, g11⟩ : ∃ z, z = h0.size := ⟨_, rfl⟩
 rw [← g11] at A11 st11
 have g_b11 : n0 ≤ b11 := Nat.le_trans Z0 (Nat.le_of_eq g11.symm)
 have sz_b11 : h0.size ≤ b11 := Nat.le_trans (Keep.refl h0 []).1 (Nat.le_of_eq g11.symm)
 have ne_a1_b11 : a1 ≠ b11 := Nat.ne_of_lt (Nat.lt_of_lt_of_le (V1.lt) (Nat.le_of_eq g11.symm))
 have f11_0 := Nat.le_trans Z0 E11.1
 have f11_1 := Keep.ext (Keep.refl h0 []) E11
 have f11_2 := Arv.ext V1 E11
 refine Go.by st11 ?_
 have V11 : Arv Z h11 b11 k11 .byte (1 : Int32) [(.int 0)] (.int 0) := (Arv.new A11 (by decide)).pad (pad_rep [] (.int 0) 1)
 show oG p e below P m T11 3 #[(vR a1), (vI 0), (vI 1), .unset, .unset, .unset] [(.ref b11)]
 refine aS X11 hx hby dj52_16_3 rfl (l' := #[(vR a1), (vI 0), (vI 1), (vR b11), .unset, .unset]) rfl ?_
 refine aA X11 hx hby dj52_16_4 rfl rfl ?_
 refine iA X11 hx hby dj52_16_5 rfl ?_
 refine aA X11 hx hby dj52_16_6 rfl rfl ?_
 refine iC X11 hx hby dj52_16_7 (v := 0) rfl ?_
 refine iA X11 hx hby dj52_16_8 rfl ?_
 refine c_stat 0 X11 hx hby hml hZ hown (tw_87 hw) (tw_88 hw) (tw_85 hw) (tw_89 hw) (rm_cmp5_1 l Z a0 hw [] a1 k1 b11 k11 x0 h11 n0 f11_0 f11_2 V11 ne_a1_b11 g_b11 hx0a hx0b) e11 dj52_16_9 [(.ref a1), (.int 0), (.ref b11), (.int 0), (.int 1)] [] (lenOf pd21 rfl) rfl rfl (by rfl) (by decide) ?_
 rintro _ T12 Lc12 ⟨rfl, N12q, K12, V12⟩ X12
 have N12 := Fr.app N0 N12q
 have f12_0 := Nat.le_trans f11_0 K12.1
 have f12_1 := Keep.trans f11_1 K12 (allS (Or.inr sz_b11) all0)
 have f12_2 := Arv.keep f11_2 K12 (ninS ne_a1_b11 nin0)
 refine iT X12 hx hby dj52_16_12 (l' := #[(vR a1), (vI 0), (vI 1), (vR b11), (vI 1), .unset]) rfl ?_
 refine iB X12 hx hby dj52_16_14 rfl ?_
 refine iA X12 hx hby dj52_16_16 rfl ?_
 refine cY X12 hx hby dj52_16_17 (pc' := 57) (XT.ii_eq_t (by decide : (1 : Int32) = (1 : Int32))) (by decide) ?_
 refine aA X12 hx hby dj52_16_57 rfl rfl ?_
 refine r_val hP hlk hret X12 hx hby dj52_16_58 rfl (Or.inr (Or.inr (Or.inr (Or.inr ⟨rfl, rfl, rfl⟩)))) (by decide) ?_
 exact ⟨b11, k11, rfl, N12, f12_1, sz_b11, V12⟩
def Q_cfal_1 (Z : State) (a1 : Addr) (k1 : ClassId) (x0 : Int32) (h0 : Heap) (n0 : Nat) (v : Option Value) (h : Heap) (L : List Loc) : Prop := v = some (.int 0) ∧ Fr n0 L ∧ h = h0
theorem rm_cfal_1 (l : Launch) (Z : State) (a0 : Array Value) (hw : oW a0 Z) (ws : List Jvm.Cond) (a1 : Addr) (k1 : ClassId) (x0 : Int32) (h0 : Heap) (n0 : Nat) (Z0 : n0 ≤ h0.size) (V1 : Arv Z h0 a1 k1 .byte (1 : Int32) [(.int (x0.toInt8.toInt32))] (.int 0)) :
   oM l oY20 j52_15 2 (some .byte) ws (own_R 0 0 0 0) #[(.ref a1), (.int 1)] Z h0 (Q_cfal_1 Z a1 k1 x0 h0 n0) := by
 refine own_open (n0 := n0) (cn := "java/lang/StringUTF16") rfl (plainFor_of_name pn2) (L0 := #[(vR a1), (vI 1)]) (fun _ => by first | (simp [entryFrame, mkF, argsToLocals, Value.category]; done) | rfl) ?_
 intro p e s m below meth c s₁ P hx hby hml hown hnm X0 e0 N0 hlk hret hZ hP
 refine iA X0 hx hby dj52_15_0 rfl ?_
 refine aA X0 hx hby dj52_15_1 rfl rfl ?_
 have av11 := V1
 obtain ⟨cl11, Ar11, -, Sz11, Nn11, -, -⟩ := av11
 refine Go.by (X0.arraylength hx (by rw [e0]; exact Ar11.1) (State.isArrayOf_alike hZ.alike Ar11.2.1) (g := (mkF m 2 #[(vR a1), (vI 1)] [(.ref a1), (.int 1)])) rfl rfl (hb hby dj52_15_2)) ?_
 rw [len_of Sz11 Nn11]
 show oG p e below P m s₁ 3 #[(vR a1), (vI 1)] [(.int 1), (.int 1)]
 refine iM X0 hx hby dj52_15_3 (v := 0) rfl ?_
 refine bC X0 hx hby dj52_15_4 (v := 31) rfl ?_
 refine Go.by (fun _ => XS.iushr X0.here hx rfl (hb hby dj52_15_6) rfl) ?_
 show oG p e below P m s₁ 7 #[(vR a1), (vI 1)] [(.int (((0 : Int32).toUInt32 >>> ((31 : Int32) &&& 31).toUInt32).toInt32))]
 refine Go.by (fun _ => XS.i2b X0.here hx rfl (hb hby dj52_15_7) rfl) ?_
 show oG p e below P m s₁ 8 #[(vR a1), (vI 1)] [(.int ((((0 : Int32).toUInt32 >>> ((31 : Int32) &&& 31).toUInt32).toInt32).toInt8.toInt32))]
 show oG p e below P m s₁ 8 #[(vR a1), (vI 1)] [(.int 0)]
 refine r_val hP hlk hret X0 hx hby dj52_15_8 rfl (Or.inl ⟨rfl, Or.inr (Or.inr (Or.inl rfl)), _, rfl⟩) (by decide) ?_
 rw [e0]
 exact ⟨rfl, N0, rfl⟩
def Q_si4_1 (Z : State) (a0_ a1 : Addr) (k1 : ClassId) (x0 cs : Int32) (h0 : Heap) (n0 : Nat) (v : Option Value) (h : Heap) (L : List Loc) : Prop := v = none ∧ Fr n0 L ∧ Keep h0 h [a0_] ∧ Fld Z h a0_ "java/lang/String" "coder" "B" (.int 0) ∧ ∃ d k, h0.size ≤ d ∧ Fld Z h a0_ "java/lang/String" "value" "[B" (.ref d) ∧ Arv Z h d k .byte (1 : Int32) [(.int (x0.toInt8.toInt32))] (.int 0)
theorem rm_si4_1 (l : Launch) (Z : State) (a0 : Array Value) (hw : oW a0 Z) (ws : List Jvm.Cond) (a0_ a1 : Addr) (k1 : ClassId) (x0 cs : Int32) (h0 : Heap) (n0 : Nat) (Z0 : n0 ≤ h0.size) (O0 : Old Z n0 h0) (Scs : Sta Z Z.heap "java/lang/String" "COMPACT_STRINGS" "Z" (.int cs)) (hcs : ¬ cs = (0 : Int32)) (E0 : Exa Z h0 a0_ "java/lang/String") (g_a0_ : n0 ≤ a0_) (F0c : Fld Z h0 a0_ "java/lang/String" "coder" "B" (.int 0)) (F0v : Fld Z h0 a0_ "java/lang/String" "value" "[B" .null) (V1 : Arv Z h0 a1 k1 .char (1 : Int32) [(.int x0)] (.int 0)) (hx0a : ¬ x0 < 0) (hx0b : ¬ (255 : Int32) < x0) :
   oM l oY15 j42_149 6 none ws (own_R 2 1 1 50) #[(.ref a0_), (.ref a1), (.int 0), (.int 1), .null] Z h0 (Q_si4_1 Z a0_ a1 k1 x0 cs h0 n0) := by
 refine own_open (n0 := n0) (cn := "java/lang/String") rfl (plainFor_of_name pn0) (L0 := #[(vR a0_), (vR a1), (vI 0), (vI 1), .val .null, .unset]) (fun _ => by first | (simp [entryFrame, mkF, argsToLocals, Value.category]; done) | rfl) ?_
 intro p e s m below meth c s₁ P hx hby hml hown hnm X0 e0 N0 hlk hret hZ hP
 have ne01 : a0_ ≠ a1 := fun q => by obtain ⟨c, Ar, -⟩ := V1; exact ne_arr E0 (tw_7 hw) Ar q
 show oG p e below P m s₁ 0 #[(vR a0_), (vR a1), (vI 0), (vI 1), .val .null, .unset] []
 refine aA X0 hx hby dj42_149_0 rfl rfl ?_
 obtain ⟨T11, X11, e11, st11⟩ := initO X0 hx hZ hown (tw_16 hw) (tw_17 hw) (tw_18 hw) e0 (g := (mkF m 1 #[(vR a0_), (vR a1), (vI 0), (vI 1), .val .null, .unset] [(.ref a0_)])) rfl (by rw [hml]; rfl) rfl (hb hby dj42_149_1) (by decide) (W := 0) (by show 2 * 0 + _ ≤ _; exact Nat.le_of_eq rfl) (by decide)
 refine Go.by st11 ?_
 show oG p e below P m T11 4 #[(vR a0_), (vR a1), (vI 0), (vI 1), .val .null, .unset] []
 refine iA X11 hx hby dj42_149_4 rfl ?_
 refine fY X11 hx hby dj42_149_5 (pc' := 27) (XT.i0_ne_t (by decide : ¬ (1 : Int32) = (0 : Int32))) (by decide) ?_
 obtain ⟨T12, X12, e12, st12⟩ := getS2 X11 hx hZ hown (host := "") (Or.inl (tw_47 hw)) Via.refl e11 (Scs.ext O0.2) (g := (mkF m 27 #[(vR a0_), (vR a1), (vI 0), (vI 1), .val .null, .unset] [])) rfl (hb hby dj42_149_27)
 refine Go.by st12 ?_
 show oG p e below P m T12 30 #[(vR a0_), (vR a1), (vI 0), (vI 1), .val .null, .unset] [(.int cs)]
 refine fN X12 hx hby dj42_149_30 (XT.i0_eq_f hcs) ?_
 refine aA X12 hx hby dj42_149_33 rfl rfl ?_
 refine iA X12 hx hby dj42_149_34 rfl ?_
 refine iA X12 hx hby dj42_149_35 rfl ?_
 refine c_stat 0 X12 hx hby hml hZ hown (tw_83 hw) (tw_84 hw) (tw_85 hw) (tw_86 hw) (rm_cmp3_1 l Z a0 hw [] a1 k1 x0 h0 n0 Z0 V1 hx0a hx0b) e12 dj42_149_36 [(.ref a1), (.int 0), (.int 1)] [] (lenOf pd22 rfl) rfl rfl (by rfl) (by decide) ?_
 rintro _ T13 Lc13 ⟨d13, kd13, rfl, N13q, K13, z13, V13⟩ X13
 have N13 := Fr.app N0 N13q
 have f13_0 := Nat.le_trans Z0 K13.1
 have f13_1 := Keep.trans (Keep.refl h0 [a0_]) K13 all0
 have f13_2 := Old.keep O0 K13 all0
 have f13_3 := Exa.keep E0 K13
 have f13_4 := Fld.keep F0c K13 nin0
 have f13_5 := Fld.keep F0v K13 nin0
 have f13_6 := Arv.keep V1 K13 nin0
 have g_d13 : n0 ≤ d13 := Nat.le_trans Z0 z13
 have sz_d13 : h0.size ≤ d13 := z13
 have ne0d13 : a0_ ≠ d13 := Nat.ne_of_lt (Nat.lt_of_lt_of_le E0.lt z13)
 refine aT X13 hx hby dj42_149_39 rfl (l' := #[(vR a0_), (vR a1), (vI 0), (vI 1), .val .null, (vR d13)]) rfl ?_
 refine aA X13 hx hby dj42_149_41 rfl rfl ?_
 refine aB X13 hx hby dj42_149_42 rfl rfl ?_
 refine iA X13 hx hby dj42_149_44 rfl ?_
 refine c_stat 1 X13 hx hby hml hZ hown (tw_90 hw) (tw_91 hw) (tw_85 hw) (tw_92 hw) (rm_cfal_1 l Z a0 hw [] d13 kd13 x0 T13.heap n0 f13_0 V13) rfl dj42_149_45 [(.ref d13), (.int 1)] [(.ref a0_)] (lenOf pd23 rfl) rfl rfl (by rfl) (by decide) ?_
 rintro _ T14 Lc14 ⟨rfl, N14q, q14⟩ X14
 have N14 := Fr.app N13 N14q
 obtain ⟨T15, h15, X15, e15, W15, st15⟩ := putFN X14 hx hZ hown (tw_26 hw) Via.refl q14 f13_4 f13_3 (Or.inr ⟨(tw_22 hw), rfl, hnm⟩) (tw_7 hw) (ty := .byte) (v' := (.int 0)) (by decide) rfl rfl (g := (mkF m 48 #[(vR a0_), (vR a1), (vI 0), (vI 1), .val .null, (vR d13)] [(.int 0), (.ref a0_)])) rfl rfl (hb hby dj42_149_48)
 refine Go.by st15 ?_
 have N15 := Fr.snoc X15 N14 g_a0_
 have f15_0 := Nat.le_trans f13_0 (Keep.of_wr W15).1
 have f15_1 := Keep.wr f13_1 W15 (Or.inl (List.mem_of_getElem? (i := 0) rfl))
 have f15_2 := Old.wr f13_2 W15 g_a0_
 have f15_3 := Exa.wr W15 f13_3
 have f15_4 := Fld.same W15 f13_4
 have f15_5 := Fld.other W15 f13_5 (Or.inr (slot_ne (Or.inr (tw_21 hw)) (Or.inr (tw_22 hw)) (by decide) (t := (.array .byte)) (t' := .byte) (by decide) (by decide)))
 have f15_6 := Arv.other f13_6 W15 (Ne.symm ne01)
 have f15_7 := Arv.other V13 W15 (Ne.symm ne0d13)
 show oG p e below P m T15 51 #[(vR a0_), (vR a1), (vI 0), (vI 1), .val .null, (vR d13)] []
 refine aA X15 hx hby dj42_149_51 rfl rfl ?_
 refine aB X15 hx hby dj42_149_52 rfl rfl ?_
 obtain ⟨T16, h16, X16, e16, W16, st16⟩ := putF X15 hx hZ hown (host := "") (Or.inl (tw_25 hw)) Via.refl e15 f15_5 f15_3 (Or.inr ⟨(tw_21 hw), rfl, hnm⟩) (tw_7 hw) (ty := (.array .byte)) (by decide) rfl rfl (g := (mkF m 54 #[(vR a0_), (vR a1), (vI 0), (vI 1), .val .null, (vR d13)] [(.ref d13), (.ref a0_)])) rfl rfl (hb hby dj42_149_54)
 refine Go.by st16 ?_
 have N16 := Fr.snoc X16 N15 g_a0_
 have f16_0 := Nat.le_trans f15_0 (Keep.of_wr W16).1
 have f16_1 := Keep.wr f15_1 W16 (Or.inl (List.mem_of_getElem? (i := 0) rfl))
 have f16_2 := Old.wr f15_2 W16 g_a0_
 have f16_3 := Exa.wr W16 f15_3
 have f16_4 := Fld.other W16 f15_4 (Or.inr (slot_ne (Or.inr (tw_22 hw)) (Or.inr (tw_21 hw)) (by decide) (t := .byte) (t' := (.array .byte)) (by decide) (by decide)))
 have f16_5 := Fld.same W16 f15_5
 have f16_6 := Arv.other f15_6 W16 (Ne.symm ne01)
 have f16_7 := Arv.other f15_7 W16 (Ne.symm ne0d13)
 show oG p e below P m T16 57 #[(vR a0_), (vR a1), (vI 0), (vI 1), .val .null, (vR d13)] []
 refine own_fin hP hlk X16 (v := none) (fun _ => rfl) (by decide) (by decide) ?_ (fun fs hr => X16.returnOut hx hret (hb hby dj42_149_57) hr)
 rw [e16]
 exact ⟨rfl, N16, f16_1, f16_4, d13, kd13, sz_d13, f16_5, f16_7⟩
def Q_si1_1 (Z : State) (a0_ a1 : Addr) (k1 : ClassId) (x0 cs : Int32) (h0 : Heap) (n0 : Nat) (v : Option Value) (h : Heap) (L : List Loc) : Prop := v = none ∧ Fr n0 L ∧ Keep h0 h [a0_] ∧ Fld Z h a0_ "java/lang/String" "coder" "B" (.int 0) ∧ ∃ d k, h0.size ≤ d ∧ Fld Z h a0_ "java/lang/String" "value" "[B" (.ref d) ∧ Arv Z h d k .byte (1 : Int32) [(.int (x0.toInt8.toInt32))] (.int 0)
theorem rm_si1_1 (l : Launch) (Z : State) (a0 : Array Value) (hw : oW a0 Z) (ws : List Jvm.Cond) (a0_ a1 : Addr) (k1 : ClassId) (x0 cs : Int32) (h0 : Heap) (n0 : Nat) (Z0 : n0 ≤ h0.size) (O0 : Old Z n0 h0) (Scs : Sta Z Z.heap "java/lang/String" "COMPACT_STRINGS" "Z" (.int cs)) (hcs : ¬ cs = (0 : Int32)) (E0 : Exa Z h0 a0_ "java/lang/String") (g_a0_ : n0 ≤ a0_) (F0c : Fld Z h0 a0_ "java/lang/String" "coder" "B" (.int 0)) (F0v : Fld Z h0 a0_ "java/lang/String" "value" "[B" .null) (V1 : Arv Z h0 a1 k1 .char (1 : Int32) [(.int x0)] (.int 0)) (hx0a : ¬ x0 < 0) (hx0b : ¬ (255 : Int32) < x0) :
   oM l oY16 j42_3 2 none ws (own_R 3 1 1 75) #[(.ref a0_), (.ref a1)] Z h0 (Q_si1_1 Z a0_ a1 k1 x0 cs h0 n0) := by
 refine own_open (n0 := n0) (cn := "java/lang/String") rfl (plainFor_of_name pn0) (L0 := #[(vR a0_), (vR a1)]) (fun _ => by first | (simp [entryFrame, mkF, argsToLocals, Value.category]; done) | rfl) ?_
 intro p e s m below meth c s₁ P hx hby hml hown hnm X0 e0 N0 hlk hret hZ hP
 have ne01 : a0_ ≠ a1 := fun q => by obtain ⟨c, Ar, -⟩ := V1; exact ne_arr E0 (tw_7 hw) Ar q
 show oG p e below P m s₁ 0 #[(vR a0_), (vR a1)] []
 refine aA X0 hx hby dj42_3_0 rfl rfl ?_
 refine aA X0 hx hby dj42_3_1 rfl rfl ?_
 refine iC X0 hx hby dj42_3_2 (v := 0) rfl ?_
 refine aA X0 hx hby dj42_3_3 rfl rfl ?_
 have av2 := V1
 obtain ⟨cl2, Ar2, -, Sz2, Nn2, -, -⟩ := av2
 refine Go.by (X0.arraylength hx (by rw [e0]; exact Ar2.1) (State.isArrayOf_alike hZ.alike Ar2.2.1) (g := (mkF m 4 #[(vR a0_), (vR a1)] [(.ref a1), (.int 0), (.ref a1), (.ref a0_)])) rfl rfl (hb hby dj42_3_4)) ?_
 rw [len_of Sz2 Nn2]
 show oG p e below P m s₁ 5 #[(vR a0_), (vR a1)] [(.int 1), (.int 0), (.ref a1), (.ref a0_)]
 refine w_aconstNull X0 hx hby dj42_3_5 ?_
 obtain ⟨_, _, ⟨T3, L3, k3, n3⟩, -, X3, ⟨Lc3, hQ3, l3, y3, z3⟩, st3⟩ := X0.specialBack hx (y := oY15) rfl hown (mvT hZ (tw_12 hw)) (mvT hZ (tw_13 hw)) (mvT hZ (tw_15 hw)) (by decide) (backOf (W := 0) (rm_si4_1 l Z a0 hw [] a0_ a1 k1 x0 cs h0 n0 Z0 O0 Scs hcs E0 g_a0_ F0c F0v V1 hx0a hx0b) hZ (tw_15 hw) (tw_8 hw) (by decide) (by decide)) (g := (mkF m 6 #[(vR a0_), (vR a1)] [.null, (.int 1), (.int 0), (.ref a1), (.ref a0_)])) rfl (by rw [hml]; rfl) (Steps.refl _) (a := a0_) (argsL := [(.ref a1), (.int 0), (.int 1), .null]) (rest := []) (lenOf pd17 rfl) rfl (by show 2 * 0 + _ ≤ _; exact Nat.le_of_eq rfl) (hb hby dj42_3_6) (fun _ _ => ⟨rfl, e0, (by decide : 0 + 1 ≤ _), (by decide : 0 + 1 ≤ _)⟩)
 dsimp only [Pt.U, Pt.locs, Pt.cells, Pt.slots] at X3 l3 y3 z3 st3 hQ3
 subst l3 y3 z3
 obtain ⟨rfl, N3q, K3, Gc3, d3, kd3, z3, Gv3, V3⟩ := hQ3
 have N3 := Fr.app N0 N3q
 refine Go.by (fun t k => st3.trans k) ?_
 have f3_0 := Nat.le_trans Z0 K3.1
 have f3_1 := Keep.trans (Keep.refl h0 [a0_]) K3 (allS (Or.inl (List.mem_of_getElem? (i := 0) rfl)) all0)
 have f3_2 := Old.keep O0 K3 (allS g_a0_ all0)
 have f3_3 := Exa.keep E0 K3
 have f3_4 := Arv.keep V1 K3 (ninS (Ne.symm ne01) nin0)
 show oG p e below P m T3 9 #[(vR a0_), (vR a1)] []
 refine own_fin hP hlk X3 (v := none) (fun _ => rfl) (by decide) (by decide) ?_ (fun fs hr => X3.returnOut hx hret (hb hby dj42_3_9) hr)
 exact ⟨rfl, N3, f3_1, Gc3, d3, kd3, z3, Gv3, V3⟩
def Q_cmp5_2 (Z : State) (a1 : Addr) (k1 : ClassId) (a2 : Addr) (k2 : ClassId) (x0 x1 : Int32) (h0 : Heap) (n0 : Nat) (v : Option Value) (h : Heap) (L : List Loc) : Prop := v = some (.int 2) ∧ Fr n0 L ∧ Keep h0 h [a2] ∧ Arv Z h a2 k2 .byte (2 : Int32) [(.int (x0.toInt8.toInt32)), (.int (x1.toInt8.toInt32))] (.int 0)
theorem rm_cmp5_2 (l : Launch) (Z : State) (a0 : Array Value) (hw : oW a0 Z) (ws : List Jvm.Cond) (a1 : Addr) (k1 : ClassId) (a2 : Addr) (k2 : ClassId) (x0 x1 : Int32) (h0 : Heap) (n0 : Nat) (Z0 : n0 ≤ h0.size) (V1 : Arv Z h0 a1 k1 .char (2 : Int32) [(.int x0), (.int x1)] (.int 0)) (V2 : Arv Z h0 a2 k2 .byte (2 : Int32) [(.int 0), (.int 0)] (.int 0)) (ne12 : a1 ≠ a2) (g_a2 : n0 ≤ a2) (hx0a : ¬ x0 < 0) (hx0b : ¬ (255 : Int32) < x0) (hx1a : ¬ x1 < 0) (hx1b : ¬ (255 : Int32) < x1) :
   oM l oY18 j52_21 7 (some .int) ws (own_R 0 0 0 0) #[(.ref a1), (.int 0), (.ref a2), (.int 0), (.int 2)] Z h0 (Q_cmp5_2 Z a1 k1 a2 k2 x0 x1 h0 n0) := by
 refine own_open (n0 := n0) (cn := "java/lang/StringUTF16") rfl (plainFor_of_name pn2) (L0 := #[(vR a1), (vI 0), (vR a2), (vI 0), (vI 2), .unset, .unset]) (fun _ => by first | (simp [entryFrame, mkF, argsToLocals, Value.category]; done) | rfl) ?_
 intro p e s m below meth c s₁ P hx hby hml hown hnm X0 e0 N0 hlk hret hZ hP
 refine iC X0 hx hby dj52_21_0 (v := 0) rfl ?_
 refine iT X0 hx hby dj52_21_1 (l' := #[(vR a1), (vI 0), (vR a2), (vI 0), (vI 2), (vI 0), .unset]) rfl ?_
 refine iB X0 hx hby dj52_21_3 rfl ?_
 refine iB X0 hx hby dj52_21_5 rfl ?_
 refine cN X0 hx hby dj52_21_7 (XT.ii_ge_f (by decide : (0 : Int32) < (2 : Int32))) ?_
 refine aA X0 hx hby dj52_21_10 rfl rfl ?_
 refine iA X0 hx hby dj52_21_11 rfl ?_
 have av11 := V1
 obtain ⟨cl11, Ar11, -, Sz11, Nn11, Ha11, Gf11⟩ := av11
 have hin11 : ¬ ((0 : Int32) < 0 ∨ cl11.slots.size ≤ ((0 : Int32)).toNatClampNeg) := inb_of Sz11 ⟨by decide, by decide⟩
 have hat11 : cl11.slots[((0 : Int32)).toNatClampNeg]? = some (.int x0) := Ha11.at hin11 rfl
 refine Go.by (X0.caload hx (j := (0 : Int32)) (v := (.int x0)) (by rw [e0]; exact Ar11.1) (State.isArrayOf_alike hZ.alike Ar11.2.1) Ar11.2.2 hin11 hat11 (g := (mkF m 12 #[(vR a1), (vI 0), (vR a2), (vI 0), (vI 2), (vI 0), .unset] [(.int 0), (.ref a1)])) rfl rfl (hb hby dj52_21_12)) ?_
 show oG p e below P m s₁ 13 #[(vR a1), (vI 0), (vR a2), (vI 0), (vI 2), (vI 0), .unset] [(.int x0)]
 refine iT X0 hx hby dj52_21_13 (l' := #[(vR a1), (vI 0), (vR a2), (vI 0), (vI 2), (vI 0), (vI x0)]) rfl ?_
 refine iB X0 hx hby dj52_21_15 rfl ?_
 refine sC X0 hx hby dj52_21_17 (v := 255) rfl ?_
 refine cY X0 hx hby dj52_21_20 (pc' := 26) (XT.ii_le_t hx0b) (by decide) ?_
 refine aA X0 hx hby dj52_21_26 rfl rfl ?_
 refine iA X0 hx hby dj52_21_27 rfl ?_
 refine iB X0 hx hby dj52_21_28 rfl ?_
 refine Go.by (fun _ => XS.i2b X0.here hx rfl (hb hby dj52_21_30) rfl) ?_
 have av12 := V2
 obtain ⟨cl12, Ar12, q12, Sz12, Nn12, Ha12, Gf12⟩ := av12
 have hin12 : ¬ ((0 : Int32) < 0 ∨ cl12.slots.size ≤ ((0 : Int32)).toNatClampNeg) := inb_of Sz12 ⟨by decide, by decide⟩
 obtain ⟨T13, h13, X13, e13, W13, st13⟩ := stB X0 hx hZ e0 Ar12 (j := (0 : Int32)) hin12 (g := (mkF m 31 #[(vR a1), (vI 0), (vR a2), (vI 0), (vI 2), (vI 0), (vI x0)] [(.int (x0.toInt8.toInt32)), (.int 0), (.ref a2)])) rfl rfl (hb hby dj52_21_31)
 have W13' : Wr h0 h13 a2 ((0 : Int32)).toNatClampNeg (.int (x0.toInt8.toInt32)) := (by have q : Wr h0 h13 a2 ((0 : Int32)).toNatClampNeg (.int ((x0.toInt8.toInt32)).toInt8.toInt32) := W13; rw [own_bb] at q; exact q)
 have V13 : Arv Z h13 a2 k2 .byte (2 : Int32) [(.int (x0.toInt8.toInt32)), (.int 0)] (.int 0) := Arv.set Ar12 q12 Sz12 Nn12 Ha12 Gf12 (fits_nar_byte _) W13' 0 rfl (Nat.le_of_ble_eq_true rfl)
 have N13 := Fr.snoc X13 N0 g_a2
 have f13_0 := Nat.le_trans Z0 (Keep.of_wr W13).1
 have f13_1 := Keep.wr (Keep.refl h0 [a2]) W13 (Or.inl (List.mem_of_getElem? (i := 0) rfl))
 have f13_2 := Arv.other V1 W13 ne12
 refine Go.by st13 ?_
 show oG p e below P m T13 32 #[(vR a1), (vI 0), (vR a2), (vI 0), (vI 2), (vI 0), (vI x0)] []
 refine iI X13 hx hby dj52_21_32 rfl (l' := #[(vR a1), (vI 1), (vR a2), (vI 0), (vI 2), (vI 0), (vI x0)]) rfl ?_
 refine iI X13 hx hby dj52_21_35 rfl (l' := #[(vR a1), (vI 1), (vR a2), (vI 1), (vI 2), (vI 0), (vI x0)]) rfl ?_
 refine iI X13 hx hby dj52_21_38 rfl (l' := #[(vR a1), (vI 1), (vR a2), (vI 1), (vI 2), (vI 1), (vI x0)]) rfl ?_
 refine gO X13 hx hby dj52_21_41 (pc' := 3) (by decide) ?_
 refine iB X13 hx hby dj52_21_3 rfl ?_
 refine iB X13 hx hby dj52_21_5 rfl ?_
 refine cN X13 hx hby dj52_21_7 (XT.ii_ge_f (by decide : (1 : Int32) < (2 : Int32))) ?_
 refine aA X13 hx hby dj52_21_10 rfl rfl ?_
 refine iA X13 hx hby dj52_21_11 rfl ?_
 have av14 := f13_2
 obtain ⟨cl14, Ar14, -, Sz14, Nn14, Ha14, Gf14⟩ := av14
 have hin14 : ¬ ((1 : Int32) < 0 ∨ cl14.slots.size ≤ ((1 : Int32)).toNatClampNeg) := inb_of Sz14 ⟨by decide, by decide⟩
 have hat14 : cl14.slots[((1 : Int32)).toNatClampNeg]? = some (.int x1) := Ha14.at hin14 rfl
 refine Go.by (X13.caload hx (j := (1 : Int32)) (v := (.int x1)) (by rw [e13]; exact Ar14.1) (State.isArrayOf_alike hZ.alike Ar14.2.1) Ar14.2.2 hin14 hat14 (g := (mkF m 12 #[(vR a1), (vI 1), (vR a2), (vI 1), (vI 2), (vI 1), (vI x0)] [(.int 1), (.ref a1)])) rfl rfl (hb hby dj52_21_12)) ?_
 show oG p e below P m T13 13 #[(vR a1), (vI 1), (vR a2), (vI 1), (vI 2), (vI 1), (vI x0)] [(.int x1)]
 refine iT X13 hx hby dj52_21_13 (l' := #[(vR a1), (vI 1), (vR a2), (vI 1), (vI 2), (vI 1), (vI x1)]) rfl ?_
 refine iB X13 hx hby dj52_21_15 rfl ?_
 refine sC X13 hx hby dj52_21_17 (v := 255) rfl ?_
 refine cY X13 hx hby dj52_21_20 (pc' := 26) (XT.ii_le_t hx1b) (by decide) ?_
 refine aA X13 hx hby dj52_21_26 rfl rfl ?_
 refine iA X13 hx hby dj52_21_27 rfl ?_
 refine iB X13 hx hby dj52_21_28 rfl ?_
 refine Go.by (fun _ => XS.i2b X13.here hx rfl (hb hby dj52_21_30) rfl) ?_
 have av15 := V13
 obtain ⟨cl15, Ar15, q15, Sz15, Nn15, Ha15, Gf15⟩ := av15
 have hin15 : ¬ ((1 : Int32) < 0 ∨ cl15.slots.size ≤ ((1 : Int32)).toNatClampNeg) := inb_of Sz15 ⟨by decide, by decide⟩
 obtain ⟨T16, h16, X16, e16, W16, st16⟩ := stB X13 hx hZ e13 Ar15 (j := (1 : Int32)) hin15 (g := (mkF m 31 #[(vR a1), (vI 1), (vR a2), (vI 1), (vI 2), (vI 1), (vI x1)] [(.int (x1.toInt8.toInt32)), (.int 1), (.ref a2)])) rfl rfl (hb hby dj52_21_31)
 have W16' : Wr h13 h16 a2 ((1 : Int32)).toNatClampNeg (.int (x1.toInt8.toInt32)) := (by have q : Wr h13 h16 a2 ((1 : Int32)).toNatClampNeg (.int ((x1.toInt8.toInt32)).toInt8.toInt32) := W16; rw [own_bb] at q; exact q)
 have V16 : Arv Z h16 a2 k2 .byte (2 : Int32) [(.int (x0.toInt8.toInt32)), (.int (x1.toInt8.toInt32))] (.int 0) := Arv.set Ar15 q15 Sz15 Nn15 Ha15 Gf15 (fits_nar_byte _) W16' 1 rfl (Nat.le_of_ble_eq_true rfl)
 have N16 := Fr.snoc X16 N13 g_a2
 have f16_0 := Nat.le_trans f13_0 (Keep.of_wr W16).1
 have f16_1 := Keep.wr f13_1 W16 (Or.inl (List.mem_of_getElem? (i := 0) rfl))
 have f16_2 := Arv.other f13_2 W16 ne12
 refine Go.by st16 ?_
 show oG p e below P m T16 32 #[(vR a1), (vI 1), (vR a2), (vI 1), (vI 2), (vI 1), (vI x1)] []
 refine iI X16 hx hby dj52_21_32 rfl (l' := #[(vR a1), (vI 2), (vR a2), (vI 1), (vI 2), (vI 1), (vI x1)]) rfl ?_
 refine iI X16 hx hby dj52_21_35 rfl (l' := #[(vR a1), (vI 2), (vR a2), (vI 2), (vI 2), (vI 1), (vI x1)]) rfl ?_
 refine iI X16 hx hby dj52_21_38 rfl (l' := #[(vR a1), (vI 2), (vR a2), (vI 2), (vI 2), (vI 2), (vI x1)]) rfl ?_
 refine gO X16 hx hby dj52_21_41 (pc' := 3) (by decide) ?_
 refine iB X16 hx hby dj52_21_3 rfl ?_
 refine iB X16 hx hby dj52_21_5 rfl ?_
 refine cY X16 hx hby dj52_21_7 (pc' := 44) (XT.ii_ge_t (by decide : ¬ (2 : Int32) < (2 : Int32))) (by decide) ?_
 refine iB X16 hx hby dj52_21_44 rfl ?_
 refine r_val hP hlk hret X16 hx hby dj52_21_46 rfl (Or.inl ⟨rfl, Or.inl rfl, _, rfl⟩) (by decide) ?_
 rw [e16]
 exact ⟨rfl, N16, f16_1, V16⟩
def Q_cmp3_2 (Z : State) (a1 : Addr) (k1 : ClassId) (x0 x1 : Int32) (h0 : Heap) (n0 : Nat) (v : Option Value) (h : Heap) (L : List Loc) : Prop := ∃ d k, v = some (.ref d) ∧ Fr n0 L ∧ Keep h0 h [] ∧ h0.size ≤ d ∧ Arv Z h d k .byte (2 : Int32) [(.int (x0.toInt8.toInt32)), (.int (x1.toInt8.toInt32))] (.int 0)
theorem rm_cmp3_2 (l : Launch) (Z : State) (a0 : Array Value) (hw : oW a0 Z) (ws : List Jvm.Cond) (a1 : Addr) (k1 : ClassId) (x0 x1 : Int32) (h0 : Heap) (n0 : Nat) (Z0 : n0 ≤ h0.size) (V1 : Arv Z h0 a1 k1 .char (2 : Int32) [(.int x0), (.int x1)] (.int 0)) (hx0a : ¬ x0 < 0) (hx0b : ¬ (255 : Int32) < x0) (hx1a : ¬ x1 < 0) (hx1b : ¬ (255 : Int32) < x1) :
   oM l oY19 j52_16 6 (some (.array .byte)) ws (own_R 1 1 2 30) #[(.ref a1), (.int 0), (.int 2)] Z h0 (Q_cmp3_2 Z a1 k1 x0 x1 h0 n0) := by
 refine own_open (n0 := n0) (cn := "java/lang/StringUTF16") rfl (plainFor_of_name pn2) (L0 := #[(vR a1), (vI 0), (vI 2), .unset, .unset, .unset]) (fun _ => by first | (simp [entryFrame, mkF, argsToLocals, Value.category]; done) | rfl) ?_
 intro p e s m below meth c s₁ P hx hby hml hown hnm X0 e0 N0 hlk hret hZ hP
 refine iA X0 hx hby dj52_16_0 rfl ?_
 obtain ⟨T11, h11, k11, X11, e11, E11, A11, st11⟩ := newP X0 hx hZ (aty := .byte) (tw_20 hw) e0 (g := (mkF m 1 #[(vR a1), (vI 0), (vI 2), .unset, .unset, .unset] [(.int 2)])) rfl (hb hby dj52_16_1) rfl (by decide) (cap := 2) (by decide) (by decide) (by decide) (by decide)
 obtain ⟨b11, g11⟩ : ∃ z, z = h0.size := ⟨_, rfl⟩
 rw [← g11] at A11 st11
 have g_b11 : n0 ≤ b11 := Nat.le_trans Z0 (Nat.le_of_eq g11.symm)
 have sz_b11 : h0.size ≤ b11 := Nat.le_trans (Keep.refl h0 []).1 (Nat.le_of_eq g11.symm)
 have ne_a1_b11 : a1 ≠ b11 := Nat.ne_of_lt (Nat.lt_of_lt_of_le (V1.lt) (Nat.le_of_eq g11.symm))
 have f11_0 := Nat.le_trans Z0 E11.1
 have f11_1 := Keep.ext (Keep.refl h0 []) E11
 have f11_2 := Arv.ext V1 E11
 refine Go.by st11 ?_
 have V11 : Arv Z h11 b11 k11 .byte (2 : Int32) [(.int 0), (.int 0)] (.int 0) := (Arv.new A11 (by decide)).pad (pad_rep [] (.int 0) 2)
 show oG p e below P m T11 3 #[(vR a1), (vI 0), (vI 2), .unset, .unset, .unset] [(.ref b11)]
 refine aS X11 hx hby dj52_16_3 rfl (l' := #[(vR a1), (vI 0), (vI 2), (vR b11), .unset, .unset]) rfl ?_
 refine aA X11 hx hby dj52_16_4 rfl rfl ?_
 refine iA X11 hx hby dj52_16_5 rfl ?_
 refine aA X11 hx hby dj52_16_6 rfl rfl ?_
 refine iC X11 hx hby dj52_16_7 (v := 0) rfl ?_
 refine iA X11 hx hby dj52_16_8 rfl ?_
 refine c_stat 0 X11 hx hby hml hZ hown (tw_87 hw) (tw_88 hw) (tw_85 hw) (tw_89 hw) (rm_cmp5_2 l Z a0 hw [] a1 k1 b11 k11 x0 x1 h11 n0 f11_0 f11_2 V11 ne_a1_b11 g_b11 hx0a hx0b hx1a hx1b) e11 dj52_16_9 [(.ref a1), (.int 0), (.ref b11), (.int 0), (.int 2)] [] (lenOf pd21 rfl) rfl rfl (by rfl) (by decide) ?_
 rintro _ T12 Lc12 ⟨rfl, N12q, K12, V12⟩ X12
 have N12 := Fr.app N0 N12q
 have f12_0 := Nat.le_trans f11_0 K12.1
 have f12_1 := Keep.trans f11_1 K12 (allS (Or.inr sz_b11) all0)
 have f12_2 := Arv.keep f11_2 K12 (ninS ne_a1_b11 nin0)
 refine iT X12 hx hby dj52_16_12 (l' := #[(vR a1), (vI 0), (vI 2), (vR b11), (vI 2), .unset]) rfl ?_
 refine iB X12 hx hby dj52_16_14 rfl ?_
 refine iA X12 hx hby dj52_16_16 rfl ?_
 refine cY X12 hx hby dj52_16_17 (pc' := 57) (XT.ii_eq_t (by decide : (2 : Int32) = (2 : Int32))) (by decide) ?_
 refine aA X12 hx hby dj52_16_57 rfl rfl ?_
 refine r_val hP hlk hret X12 hx hby dj52_16_58 rfl (Or.inr (Or.inr (Or.inr (Or.inr ⟨rfl, rfl, rfl⟩)))) (by decide) ?_
 exact ⟨b11, k11, rfl, N12, f12_1, sz_b11, V12⟩
def Q_cfal_2 (Z : State) (a1 : Addr) (k1 : ClassId) (x0 x1 : Int32) (h0 : Heap) (n0 : Nat) (v : Option Value) (h : Heap) (L : List Loc) : Prop := v = some (.int 0) ∧ Fr n0 L ∧ h = h0
theorem rm_cfal_2 (l : Launch) (Z : State) (a0 : Array Value) (hw : oW a0 Z) (ws : List Jvm.Cond) (a1 : Addr) (k1 : ClassId) (x0 x1 : Int32) (h0 : Heap) (n0 : Nat) (Z0 : n0 ≤ h0.size) (V1 : Arv Z h0 a1 k1 .byte (2 : Int32) [(.int (x0.toInt8.toInt32)), (.int (x1.toInt8.toInt32))] (.int 0)) :
   oM l oY20 j52_15 2 (some .byte) ws (own_R 0 0 0 0) #[(.ref a1), (.int 2)] Z h0 (Q_cfal_2 Z a1 k1 x0 x1 h0 n0) := by
 refine own_open (n0 := n0) (cn := "java/lang/StringUTF16") rfl (plainFor_of_name pn2) (L0 := #[(vR a1), (vI 2)]) (fun _ => by first | (simp [entryFrame, mkF, argsToLocals, Value.category]; done) | rfl) ?_
 intro p e s m below meth c s₁ P hx hby hml hown hnm X0 e0 N0 hlk hret hZ hP
 refine iA X0 hx hby dj52_15_0 rfl ?_
 refine aA X0 hx hby dj52_15_1 rfl rfl ?_
 have av11 := V1
 obtain ⟨cl11, Ar11, -, Sz11, Nn11, -, -⟩ := av11
 refine Go.by (X0.arraylength hx (by rw [e0]; exact Ar11.1) (State.isArrayOf_alike hZ.alike Ar11.2.1) (g := (mkF m 2 #[(vR a1), (vI 2)] [(.ref a1), (.int 2)])) rfl rfl (hb hby dj52_15_2)) ?_
 rw [len_of Sz11 Nn11]
 show oG p e below P m s₁ 3 #[(vR a1), (vI 2)] [(.int 2), (.int 2)]
 refine iM X0 hx hby dj52_15_3 (v := 0) rfl ?_
 refine bC X0 hx hby dj52_15_4 (v := 31) rfl ?_
 refine Go.by (fun _ => XS.iushr X0.here hx rfl (hb hby dj52_15_6) rfl) ?_
 show oG p e below P m s₁ 7 #[(vR a1), (vI 2)] [(.int (((0 : Int32).toUInt32 >>> ((31 : Int32) &&& 31).toUInt32).toInt32))]
 refine Go.by (fun _ => XS.i2b X0.here hx rfl (hb hby dj52_15_7) rfl) ?_
 show oG p e below P m s₁ 8 #[(vR a1), (vI 2)] [(.int ((((0 : Int32).toUInt32 >>> ((31 : Int32) &&& 31).toUInt32).toInt32).toInt8.toInt32))]
 show oG p e below P m s₁ 8 #[(vR a1), (vI 2)] [(.int 0)]
 refine r_val hP hlk hret X0 hx hby dj52_15_8 rfl (Or.inl ⟨rfl, Or.inr (Or.inr (Or.inl rfl)), _, rfl⟩) (by decide) ?_
 rw [e0]
 exact ⟨rfl, N0, rfl⟩
def Q_si4_2 (Z : State) (a0_ a1 : Addr) (k1 : ClassId) (x0 x1 cs : Int32) (h0 : Heap) (n0 : Nat) (v : Option Value) (h : Heap) (L : List Loc) : Prop := v = none ∧ Fr n0 L ∧ Keep h0 h [a0_] ∧ Fld Z h a0_ "java/lang/String" "coder" "B" (.int 0) ∧ ∃ d k, h0.size ≤ d ∧ Fld Z h a0_ "java/lang/String" "value" "[B" (.ref d) ∧ Arv Z h d k .byte (2 : Int32) [(.int (x0.toInt8.toInt32)), (.int (x1.toInt8.toInt32))] (.int 0)
theorem rm_si4_2 (l : Launch) (Z : State) (a0 : Array Value) (hw : oW a0 Z) (ws : List Jvm.Cond) (a0_ a1 : Addr) (k1 : ClassId) (x0 x1 cs : Int32) (h0 : Heap) (n0 : Nat) (Z0 : n0 ≤ h0.size) (O0 : Old Z n0 h0) (Scs : Sta Z Z.heap "java/lang/String" "COMPACT_STRINGS" "Z" (.int cs)) (hcs : ¬ cs = (0 : Int32)) (E0 : Exa Z h0 a0_ "java/lang/String") (g_a0_ : n0 ≤ a0_) (F0c : Fld Z h0 a0_ "java/lang/String" "coder" "B" (.int 0)) (F0v : Fld Z h0 a0_ "java/lang/String" "value" "[B" .null) (V1 : Arv Z h0 a1 k1 .char (2 : Int32) [(.int x0), (.int x1)] (.int 0)) (hx0a : ¬ x0 < 0) (hx0b : ¬ (255 : Int32) < x0) (hx1a : ¬ x1 < 0) (hx1b : ¬ (255 : Int32) < x1) :
   oM l oY15 j42_149 6 none ws (own_R 2 1 2 50) #[(.ref a0_), (.ref a1), (.int 0), (.int 2), .null] Z h0 (Q_si4_2 Z a0_ a1 k1 x0 x1 cs h0 n0) := by
 refine own_open (n0 := n0) (cn := "java/lang/String") rfl (plainFor_of_name pn0) (L0 := #[(vR a0_), (vR a1), (vI 0), (vI 2), .val .null, .unset]) (fun _ => by first | (simp [entryFrame, mkF, argsToLocals, Value.category]; done) | rfl) ?_
 intro p e s m below meth c s₁ P hx hby hml hown hnm X0 e0 N0 hlk hret hZ hP
 have ne01 : a0_ ≠ a1 := fun q => by obtain ⟨c, Ar, -⟩ := V1; exact ne_arr E0 (tw_7 hw) Ar q
 show oG p e below P m s₁ 0 #[(vR a0_), (vR a1), (vI 0), (vI 2), .val .null, .unset] []
 refine aA X0 hx hby dj42_149_0 rfl rfl ?_
 obtain ⟨T11, X11, e11, st11⟩ := initO X0 hx hZ hown (tw_16 hw) (tw_17 hw) (tw_18 hw) e0 (g := (mkF m 1 #[(vR a0_), (vR a1), (vI 0), (vI 2), .val .null, .unset] [(.ref a0_)])) rfl (by rw [hml]; rfl) rfl (hb hby dj42_149_1) (by decide) (W := 0) (by show 2 * 0 + _ ≤ _; exact Nat.le_of_eq rfl) (by decide)
 refine Go.by st11 ?_
 show oG p e below P m T11 4 #[(vR a0_), (vR a1), (vI 0), (vI 2), .val .null, .unset] []
 refine iA X11 hx hby dj42_149_4 rfl ?_
 refine fY X11 hx hby dj42_149_5 (pc' := 27) (XT.i0_ne_t (by decide : ¬ (2 : Int32) = (0 : Int32))) (by decide) ?_
 obtain ⟨T12, X12, e12, st12⟩ := getS2 X11 hx hZ hown (host := "") (Or.inl (tw_47 hw)) Via.refl e11 (Scs.ext O0.2) (g := (mkF m 27 #[(vR a0_), (vR a1), (vI 0), (vI 2), .val .null, .unset] [])) rfl (hb hby dj42_149_27)
 refine Go.by st12 ?_
 show oG p e below P m T12 30 #[(vR a0_), (vR a1), (vI 0), (vI 2), .val .null, .unset] [(.int cs)]
 refine fN X12 hx hby dj42_149_30 (XT.i0_eq_f hcs) ?_
 refine aA X12 hx hby dj42_149_33 rfl rfl ?_
 refine iA X12 hx hby dj42_149_34 rfl ?_
 refine iA X12 hx hby dj42_149_35 rfl ?_
 refine c_stat 0 X12 hx hby hml hZ hown (tw_83 hw) (tw_84 hw) (tw_85 hw) (tw_86 hw) (rm_cmp3_2 l Z a0 hw [] a1 k1 x0 x1 h0 n0 Z0 V1 hx0a hx0b hx1a hx1b) e12 dj42_149_36 [(.ref a1), (.int 0), (.int 2)] [] (lenOf pd22 rfl) rfl rfl (by rfl) (by decide) ?_
 rintro _ T13 Lc13 ⟨d13, kd13, rfl, N13q, K13, z13, V13⟩ X13
 have N13 := Fr.app N0 N13q
 have f13_0 := Nat.le_trans Z0 K13.1
 have f13_1 := Keep.trans (Keep.refl h0 [a0_]) K13 all0
 have f13_2 := Old.keep O0 K13 all0
 have f13_3 := Exa.keep E0 K13
 have f13_4 := Fld.keep F0c K13 nin0
 have f13_5 := Fld.keep F0v K13 nin0
 have f13_6 := Arv.keep V1 K13 nin0
 have g_d13 : n0 ≤ d13 := Nat.le_trans Z0 z13
 have sz_d13 : h0.size ≤ d13 := z13
 have ne0d13 : a0_ ≠ d13 := Nat.ne_of_lt (Nat.lt_of_lt_of_le E0.lt z13)
 refine aT X13 hx hby dj42_149_39 rfl (l' := #[(vR a0_), (vR a1), (vI 0), (vI 2), .val .null, (vR d13)]) rfl ?_
 refine aA X13 hx hby dj42_149_41 rfl rfl ?_
 refine aB X13 hx hby dj42_149_42 rfl rfl ?_
 refine iA X13 hx hby dj42_149_44 rfl ?_
 refine c_stat 1 X13 hx hby hml hZ hown (tw_90 hw) (tw_91 hw) (tw_85 hw) (tw_92 hw) (rm_cfal_2 l Z a0 hw [] d13 kd13 x0 x1 T13.heap n0 f13_0 V13) rfl dj42_149_45 [(.ref d13), (.int 2)] [(.ref a0_)] (lenOf pd23 rfl) rfl rfl (by rfl) (by decide) ?_
 rintro _ T14 Lc14 ⟨rfl, N14q, q14⟩ X14
 have N14 := Fr.app N13 N14q
 obtain ⟨T15, h15, X15, e15, W15, st15⟩ := putFN X14 hx hZ hown (tw_26 hw) Via.refl q14 f13_4 f13_3 (Or.inr ⟨(tw_22 hw), rfl, hnm⟩) (tw_7 hw) (ty := .byte) (v' := (.int 0)) (by decide) rfl rfl (g := (mkF m 48 #[(vR a0_), (vR a1), (vI 0), (vI 2), .val .null, (vR d13)] [(.int 0), (.ref a0_)])) rfl rfl (hb hby dj42_149_48)
 refine Go.by st15 ?_
 have N15 := Fr.snoc X15 N14 g_a0_
 have f15_0 := Nat.le_trans f13_0 (Keep.of_wr W15).1
 have f15_1 := Keep.wr f13_1 W15 (Or.inl (List.mem_of_getElem? (i := 0) rfl))
 have f15_2 := Old.wr f13_2 W15 g_a0_
 have f15_3 := Exa.wr W15 f13_3
 have f15_4 := Fld.same W15 f13_4
 have f15_5 := Fld.other W15 f13_5 (Or.inr (slot_ne (Or.inr (tw_21 hw)) (Or.inr (tw_22 hw)) (by decide) (t := (.array .byte)) (t' := .byte) (by decide) (by decide)))
 have f15_6 := Arv.other f13_6 W15 (Ne.symm ne01)
 have f15_7 := Arv.other V13 W15 (Ne.symm ne0d13)
 show oG p e below P m T15 51 #[(vR a0_), (vR a1), (vI 0), (vI 2), .val .null, (vR d13)] []
 refine aA X15 hx hby dj42_149_51 rfl rfl ?_
 refine aB X15 hx hby dj42_149_52 rfl rfl ?_
 obtain ⟨T16, h16, X16, e16, W16, st16⟩ := putF X15 hx hZ hown (host := "") (Or.inl (tw_25 hw)) Via.refl e15 f15_5 f15_3 (Or.inr ⟨(tw_21 hw), rfl, hnm⟩) (tw_7 hw) (ty := (.array .byte)) (by decide) rfl rfl (g := (mkF m 54 #[(vR a0_), (vR a1), (vI 0), (vI 2), .val .null, (vR d13)] [(.ref d13), (.ref a0_)])) rfl rfl (hb hby dj42_149_54)
 refine Go.by st16 ?_
 have N16 := Fr.snoc X16 N15 g_a0_
 have f16_0 := Nat.le_trans f15_0 (Keep.of_wr W16).1
 have f16_1 := Keep.wr f15_1 W16 (Or.inl (List.mem_of_getElem? (i := 0) rfl))
 have f16_2 := Old.wr f15_2 W16 g_a0_
 have f16_3 := Exa.wr W16 f15_3
 have f16_4 := Fld.other W16 f15_4 (Or.inr (slot_ne (Or.inr (tw_22 hw)) (Or.inr (tw_21 hw)) (by decide) (t := .byte) (t' := (.array .byte)) (by decide) (by decide)))
 have f16_5 := Fld.same W16 f15_5
 have f16_6 := Arv.other f15_6 W16 (Ne.symm ne01)
 have f16_7 := Arv.other f15_7 W16 (Ne.symm ne0d13)
 show oG p e below P m T16 57 #[(vR a0_), (vR a1), (vI 0), (vI 2), .val .null, (vR d13)] []
 refine own_fin hP hlk X16 (v := none) (fun _ => rfl) (by decide) (by decide) ?_ (fun fs hr => X16.returnOut hx hret (hb hby dj42_149_57) hr)
 rw [e16]
 exact ⟨rfl, N16, f16_1, f16_4, d13, kd13, sz_d13, f16_5, f16_7⟩
def Q_si1_2 (Z : State) (a0_ a1 : Addr) (k1 : ClassId) (x0 x1 cs : Int32) (h0 : Heap) (n0 : Nat) (v : Option Value) (h : Heap) (L : List Loc) : Prop := v = none ∧ Fr n0 L ∧ Keep h0 h [a0_] ∧ Fld Z h a0_ "java/lang/String" "coder" "B" (.int 0) ∧ ∃ d k, h0.size ≤ d ∧ Fld Z h a0_ "java/lang/String" "value" "[B" (.ref d) ∧ Arv Z h d k .byte (2 : Int32) [(.int (x0.toInt8.toInt32)), (.int (x1.toInt8.toInt32))] (.int 0)
theorem rm_si1_2 (l : Launch) (Z : State) (a0 : Array Value) (hw : oW a0 Z) (ws : List Jvm.Cond) (a0_ a1 : Addr) (k1 : ClassId) (x0 x1 cs : Int32) (h0 : Heap) (n0 : Nat) (Z0 : n0 ≤ h0.size) (O0 : Old Z n0 h0) (Scs : Sta Z Z.heap "java/lang/String" "COMPACT_STRINGS" "Z" (.int cs)) (hcs : ¬ cs = (0 : Int32)) (E0 : Exa Z h0 a0_ "java/lang/String") (g_a0_ : n0 ≤ a0_) (F0c : Fld Z h0 a0_ "java/lang/String" "coder" "B" (.int 0)) (F0v : Fld Z h0 a0_ "java/lang/String" "value" "[B" .null) (V1 : Arv Z h0 a1 k1 .char (2 : Int32) [(.int x0), (.int x1)] (.int 0)) (hx0a : ¬ x0 < 0) (hx0b : ¬ (255 : Int32) < x0) (hx1a : ¬ x1 < 0) (hx1b : ¬ (255 : Int32) < x1) :
   oM l oY16 j42_3 2 none ws (own_R 3 1 2 75) #[(.ref a0_), (.ref a1)] Z h0 (Q_si1_2 Z a0_ a1 k1 x0 x1 cs h0 n0) := by
 refine own_open (n0 := n0) (cn := "java/lang/String") rfl (plainFor_of_name pn0) (L0 := #[(vR a0_), (vR a1)]) (fun _ => by first | (simp [entryFrame, mkF, argsToLocals, Value.category]; done) | rfl) ?_
 intro p e s m below meth c s₁ P hx hby hml hown hnm X0 e0 N0 hlk hret hZ hP
 have ne01 : a0_ ≠ a1 := fun q => by obtain ⟨c, Ar, -⟩ := V1; exact ne_arr E0 (tw_7 hw) Ar q
 show oG p e below P m s₁ 0 #[(vR a0_), (vR a1)] []
 refine aA X0 hx hby dj42_3_0 rfl rfl ?_
 refine aA X0 hx hby dj42_3_1 rfl rfl ?_
 refine iC X0 hx hby dj42_3_2 (v := 0) rfl ?_
 refine aA X0 hx hby dj42_3_3 rfl rfl ?_
 have av3 := V1
 obtain ⟨cl3, Ar3, -, Sz3, Nn3, -, -⟩ := av3
 refine Go.by (X0.arraylength hx (by rw [e0]; exact Ar3.1) (State.isArrayOf_alike hZ.alike Ar3.2.1) (g := (mkF m 4 #[(vR a0_), (vR a1)] [(.ref a1), (.int 0), (.ref a1), (.ref a0_)])) rfl rfl (hb hby dj42_3_4)) ?_
 rw [len_of Sz3 Nn3]
 show oG p e below P m s₁ 5 #[(vR a0_), (vR a1)] [(.int 2), (.int 0), (.ref a1), (.ref a0_)]
 refine w_aconstNull X0 hx hby dj42_3_5 ?_
 obtain ⟨_, _, ⟨T4, L4, k4, n4⟩, -, X4, ⟨Lc4, hQ4, l4, y4, z4⟩, st4⟩ := X0.specialBack hx (y := oY15) rfl hown (mvT hZ (tw_12 hw)) (mvT hZ (tw_13 hw)) (mvT hZ (tw_15 hw)) (by decide) (backOf (W := 0) (rm_si4_2 l Z a0 hw [] a0_ a1 k1 x0 x1 cs h0 n0 Z0 O0 Scs hcs E0 g_a0_ F0c F0v V1 hx0a hx0b hx1a hx1b) hZ (tw_15 hw) (tw_8 hw) (by decide) (by decide)) (g := (mkF m 6 #[(vR a0_), (vR a1)] [.null, (.int 2), (.int 0), (.ref a1), (.ref a0_)])) rfl (by rw [hml]; rfl) (Steps.refl _) (a := a0_) (argsL := [(.ref a1), (.int 0), (.int 2), .null]) (rest := []) (lenOf pd17 rfl) rfl (by show 2 * 0 + _ ≤ _; exact Nat.le_of_eq rfl) (hb hby dj42_3_6) (fun _ _ => ⟨rfl, e0, (by decide : 0 + 1 ≤ _), (by decide : 0 + 2 ≤ _)⟩)
 dsimp only [Pt.U, Pt.locs, Pt.cells, Pt.slots] at X4 l4 y4 z4 st4 hQ4
 subst l4 y4 z4
 obtain ⟨rfl, N4q, K4, Gc4, d4, kd4, z4, Gv4, V4⟩ := hQ4
 have N4 := Fr.app N0 N4q
 refine Go.by (fun t k => st4.trans k) ?_
 have f4_0 := Nat.le_trans Z0 K4.1
 have f4_1 := Keep.trans (Keep.refl h0 [a0_]) K4 (allS (Or.inl (List.mem_of_getElem? (i := 0) rfl)) all0)
 have f4_2 := Old.keep O0 K4 (allS g_a0_ all0)
 have f4_3 := Exa.keep E0 K4
 have f4_4 := Arv.keep V1 K4 (ninS (Ne.symm ne01) nin0)
 show oG p e below P m T4 9 #[(vR a0_), (vR a1)] []
 refine own_fin hP hlk X4 (v := none) (fun _ => rfl) (by decide) (by decide) ?_ (fun fs hr => X4.returnOut hx hret (hb hby dj42_3_9) hr)
 exact ⟨rfl, N4, f4_1, Gc4, d4, kd4, z4, Gv4, V4⟩
def Q_cmp5_3 (Z : State) (a1 : Addr) (k1 : ClassId) (a2 : Addr) (k2 : ClassId) (x0 x1 x2 : Int32) (h0 : Heap) (n0 : Nat) (v : Option Value) (h : Heap) (L : List Loc) : Prop := v = some (.int 3) ∧ Fr n0 L ∧ Keep h0 h [a2] ∧ Arv Z h a2 k2 .byte (3 : Int32) [(.int (x0.toInt8.toInt32)), (.int (x1.toInt8.toInt32)), (.int (x2.toInt8.toInt32))] (.int 0)
theorem rm_cmp5_3 (l : Launch) (Z : State) (a0 : Array Value) (hw : oW a0 Z) (ws : List Jvm.Cond) (a1 : Addr) (k1 : ClassId) (a2 : Addr) (k2 : ClassId) (x0 x1 x2 : Int32) (h0 : Heap) (n0 : Nat) (Z0 : n0 ≤ h0.size) (V1 : Arv Z h0 a1 k1 .char (3 : Int32) [(.int x0), (.int x1), (.int x2)] (.int 0)) (V2 : Arv Z h0 a2 k2 .byte (3 : Int32) [(.int 0), (.int 0), (.int 0)] (.int 0)) (ne12 : a1 ≠ a2) (g_a2 : n0 ≤ a2) (hx0a : ¬ x0 < 0) (hx0b : ¬ (255 : Int32) < x0) (hx1a : ¬ x1 < 0) (hx1b : ¬ (255 : Int32) < x1) (hx2a : ¬ x2 < 0) (hx2b : ¬ (255 : Int32) < x2) :
   oM l oY18 j52_21 7 (some .int) ws (own_R 0 0 0 0) #[(.ref a1), (.int 0), (.ref a2), (.int 0), (.int 3)] Z h0 (Q_cmp5_3 Z a1 k1 a2 k2 x0 x1 x2 h0 n0) := by
 refine own_open (n0 := n0) (cn := "java/lang/StringUTF16") rfl (plainFor_of_name pn2) (L0 := #[(vR a1), (vI 0), (vR a2), (vI 0), (vI 3), .unset, .unset]) (fun _ => by first | (simp [entryFrame, mkF, argsToLocals, Value.category]; done) | rfl) ?_
 intro p e s m below meth c s₁ P hx hby hml hown hnm X0 e0 N0 hlk hret hZ hP
 refine iC X0 hx hby dj52_21_0 (v := 0) rfl ?_
 refine iT X0 hx hby dj52_21_1 (l' := #[(vR a1), (vI 0), (vR a2), (vI 0), (vI 3), (vI 0), .unset]) rfl ?_
 refine iB X0 hx hby dj52_21_3 rfl ?_
 refine iB X0 hx hby dj52_21_5 rfl ?_
 refine cN X0 hx hby dj52_21_7 (XT.ii_ge_f (by decide : (0 : Int32) < (3 : Int32))) ?_
 refine aA X0 hx hby dj52_21_10 rfl rfl ?_
 refine iA X0 hx hby dj52_21_11 rfl ?_
 have av11 := V1
 obtain ⟨cl11, Ar11, -, Sz11, Nn11, Ha11, Gf11⟩ := av11
 have hin11 : ¬ ((0 : Int32) < 0 ∨ cl11.slots.size ≤ ((0 : Int32)).toNatClampNeg) := inb_of Sz11 ⟨by decide, by decide⟩
 have hat11 : cl11.slots[((0 : Int32)).toNatClampNeg]? = some (.int x0) := Ha11.at hin11 rfl
 refine Go.by (X0.caload hx (j := (0 : Int32)) (v := (.int x0)) (by rw [e0]; exact Ar11.1) (State.isArrayOf_alike hZ.alike Ar11.2.1) Ar11.2.2 hin11 hat11 (g := (mkF m 12 #[(vR a1), (vI 0), (vR a2), (vI 0), (vI 3), (vI 0), .unset] [(.int 0), (.ref a1)])) rfl rfl (hb hby dj52_21_12)) ?_
 show oG p e below P m s₁ 13 #[(vR a1), (vI 0), (vR a2), (vI 0), (vI 3), (vI 0), .unset] [(.int x0)]
 refine iT X0 hx hby dj52_21_13 (l' := #[(vR a1), (vI 0), (vR a2), (vI 0), (vI 3), (vI 0), (vI x0)]) rfl ?_
 refine iB X0 hx hby dj52_21_15 rfl ?_
 refine sC X0 hx hby dj52_21_17 (v := 255) rfl ?_
 refine cY X0 hx hby dj52_21_20 (pc' := 26) (XT.ii_le_t hx0b) (by decide) ?_
 refine aA X0 hx hby dj52_21_26 rfl rfl ?_
 refine iA X0 hx hby dj52_21_27 rfl ?_
 refine iB X0 hx hby dj52_21_28 rfl ?_
 refine Go.by (fun _ => XS.i2b X0.here hx rfl (hb hby dj52_21_30) rfl) ?_
 have av12 := V2
 obtain ⟨cl12, Ar12, q12, Sz12, Nn12, Ha12, Gf12⟩ := av12
 have hin12 : ¬ ((0 : Int32) < 0 ∨ cl12.slots.size ≤ ((0 : Int32)).toNatClampNeg) := inb_of Sz12 ⟨by decide, by decide⟩
 obtain ⟨T13, h13, X13, e13, W13, st13⟩ := stB X0 hx hZ e0 Ar12 (j := (0 : Int32)) hin12 (g := (mkF m 31 #[(vR a1), (vI 0), (vR a2), (vI 0), (vI 3), (vI 0), (vI x0)] [(.int (x0.toInt8.toInt32)), (.int 0), (.ref a2)])) rfl rfl (hb hby dj52_21_31)
 have W13' : Wr h0 h13 a2 ((0 : Int32)).toNatClampNeg (.int (x0.toInt8.toInt32)) := (by have q : Wr h0 h13 a2 ((0 : Int32)).toNatClampNeg (.int ((x0.toInt8.toInt32)).toInt8.toInt32) := W13; rw [own_bb] at q; exact q)
 have V13 : Arv Z h13 a2 k2 .byte (3 : Int32) [(.int (x0.toInt8.toInt32)), (.int 0), (.int 0)] (.int 0) := Arv.set Ar12 q12 Sz12 Nn12 Ha12 Gf12 (fits_nar_byte _) W13' 0 rfl (Nat.le_of_ble_eq_true rfl)
 have N13 := Fr.snoc X13 N0 g_a2
 have f13_0 := Nat.le_trans Z0 (Keep.of_wr W13).1
 have f13_1 := Keep.wr (Keep.refl h0 [a2]) W13 (Or.inl (List.mem_of_getElem? (i := 0) rfl))
 have f13_2 := Arv.other V1 W13 ne12
 refine Go.by st13 ?_
 show oG p e below P m T13 32 #[(vR a1), (vI 0), (vR a2), (vI 0), (vI 3), (vI 0), (vI x0)] []
 refine iI X13 hx hby dj52_21_32 rfl (l' := #[(vR a1), (vI 1), (vR a2), (vI 0), (vI 3), (vI 0), (vI x0)]) rfl ?_
 refine iI X13 hx hby dj52_21_35 rfl (l' := #[(vR a1), (vI 1), (vR a2), (vI 1), (vI 3), (vI 0), (vI x0)]) rfl ?_
 refine iI X13 hx hby dj52_21_38 rfl (l' := #[(vR a1), (vI 1), (vR a2), (vI 1), (vI 3), (vI 1), (vI x0)]) rfl ?_
 refine gO X13 hx hby dj52_21_41 (pc' := 3) (by decide) ?_
 refine iB X13 hx hby dj52_21_3 rfl ?_
 refine iB X13 hx hby dj52_21_5 rfl ?_
 refine cN X13 hx hby dj52_21_7 (XT.ii_ge_f (by decide : (1 : Int32) < (3 : Int32))) ?_
 refine aA X13 hx hby dj52_21_10 rfl rfl ?_
 refine iA X13 hx hby dj52_21_11 rfl ?_
 have av14 := f13_2
 obtain ⟨cl14, Ar14, -, Sz14, Nn14, Ha14, Gf14⟩ := av14
 have hin14 : ¬ ((1 : Int32) < 0 ∨ cl14.slots.size ≤ ((1 : Int32)).toNatClampNeg) := inb_of Sz14 ⟨by decide, by decide⟩
 have hat14 : cl14.slots[((1 : Int32)).toNatClampNeg]? = some (.int x1) := Ha14.at hin14 rfl
 refine Go.by (X13.caload hx (j := (1 : Int32)) (v := (.int x1)) (by rw [e13]; exact Ar14.1) (State.isArrayOf_alike hZ.alike Ar14.2.1) Ar14.2.2 hin14 hat14 (g := (mkF m 12 #[(vR a1), (vI 1), (vR a2), (vI 1), (vI 3), (vI 1), (vI x0)] [(.int 1), (.ref a1)])) rfl rfl (hb hby dj52_21_12)) ?_
 show oG p e below P m T13 13 #[(vR a1), (vI 1), (vR a2), (vI 1), (vI 3), (vI 1), (vI x0)] [(.int x1)]
 refine iT X13 hx hby dj52_21_13 (l' := #[(vR a1), (vI 1), (vR a2), (vI 1), (vI 3), (vI 1), (vI x1)]) rfl ?_
 refine iB X13 hx hby dj52_21_15 rfl ?_
 refine sC X13 hx hby dj52_21_17 (v := 255) rfl ?_
 refine cY X13 hx hby dj52_21_20 (pc' := 26) (XT.ii_le_t hx1b) (by decide) ?_
 refine aA X13 hx hby dj52_21_26 rfl rfl ?_
 refine iA X13 hx hby dj52_21_27 rfl ?_
 refine iB X13 hx hby dj52_21_28 rfl ?_
 refine Go.by (fun _ => XS.i2b X13.here hx rfl (hb hby dj52_21_30) rfl) ?_
 have av15 := V13
 obtain ⟨cl15, Ar15, q15, Sz15, Nn15, Ha15, Gf15⟩ := av15
 have hin15 : ¬ ((1 : Int32) < 0 ∨ cl15.slots.size ≤ ((1 : Int32)).toNatClampNeg) := inb_of Sz15 ⟨by decide, by decide⟩
 obtain ⟨T16, h16, X16, e16, W16, st16⟩ := stB X13 hx hZ e13 Ar15 (j := (1 : Int32)) hin15 (g := (mkF m 31 #[(vR a1), (vI 1), (vR a2), (vI 1), (vI 3), (vI 1), (vI x1)] [(.int (x1.toInt8.toInt32)), (.int 1), (.ref a2)])) rfl rfl (hb hby dj52_21_31)
 have W16' : Wr h13 h16 a2 ((1 : Int32)).toNatClampNeg (.int (x1.toInt8.toInt32)) := (by have q : Wr h13 h16 a2 ((1 : Int32)).toNatClampNeg (.int ((x1.toInt8.toInt32)).toInt8.toInt32) := W16; rw [own_bb] at q; exact q)
 have V16 : Arv Z h16 a2 k2 .byte (3 : Int32) [(.int (x0.toInt8.toInt32)), (.int (x1.toInt8.toInt32)), (.int 0)] (.int 0) := Arv.set Ar15 q15 Sz15 Nn15 Ha15 Gf15 (fits_nar_byte _) W16' 1 rfl (Nat.le_of_ble_eq_true rfl)
 have N16 := Fr.snoc X16 N13 g_a2
 have f16_0 := Nat.le_trans f13_0 (Keep.of_wr W16).1
 have f16_1 := Keep.wr f13_1 W16 (Or.inl (List.mem_of_getElem? (i := 0) rfl))
 have f16_2 := Arv.other f13_2 W16 ne12
 refine Go.by st16 ?_
 show oG p e below P m T16 32 #[(vR a1), (vI 1), (vR a2), (vI 1), (vI 3), (vI 1), (vI x1)] []
 refine iI X16 hx hby dj52_21_32 rfl (l' := #[(vR a1), (vI 2), (vR a2), (vI 1), (vI 3), (vI 1), (vI x1)]) rfl ?_
 refine iI X16 hx hby dj52_21_35 rfl (l' := #[(vR a1), (vI 2), (vR a2), (vI 2), (vI 3), (vI 1), (vI x1)]) rfl ?_
 refine iI X16 hx hby dj52_21_38 rfl (l' := #[(vR a1), (vI 2), (vR a2), (vI 2), (vI 3), (vI 2), (vI x1)]) rfl ?_
 refine gO X16 hx hby dj52_21_41 (pc' := 3) (by decide) ?_
 refine iB X16 hx hby dj52_21_3 rfl ?_
 refine iB X16 hx hby dj52_21_5 rfl ?_
 refine cN X16 hx hby dj52_21_7 (XT.ii_ge_f (by decide : (2 : Int32) < (3 : Int32))) ?_
 refine aA X16 hx hby dj52_21_10 rfl rfl ?_
 refine iA X16 hx hby dj52_21_11 rfl ?_
 have av17 := f16_2
 obtain ⟨cl17, Ar17, -, Sz17, Nn17, Ha17, Gf17⟩ := av17
 have hin17 : ¬ ((2 : Int32) < 0 ∨ cl17.slots.size ≤ ((2 : Int32)).toNatClampNeg) := inb_of Sz17 ⟨by decide, by decide⟩
 have hat17 : cl17.slots[((2 : Int32)).toNatClampNeg]? = some (.int x2) := Ha17.at hin17 rfl
 refine Go.by (X16.caload hx (j := (2 : Int32)) (v := (.int x2)) (by rw [e16]; exact Ar17.1) (State.isArrayOf_alike hZ.alike Ar17.2.1) Ar17.2.2 hin17 hat17 (g := (mkF m 12 #[(vR a1), (vI 2), (vR a2), (vI 2), (vI 3), (vI 2), (vI x1)] [(.int 2), (.ref a1)])) rfl rfl (hb hby dj52_21_12)) ?_
 show oG p e below P m T16 13 #[(vR a1), (vI 2), (vR a2), (vI 2), (vI 3), (vI 2), (vI x1)] [(.int x2)]
 refine iT X16 hx hby dj52_21_13 (l' := #[(vR a1), (vI 2), (vR a2), (vI 2), (vI 3), (vI 2), (vI x2)]) rfl ?_
 refine iB X16 hx hby dj52_21_15 rfl ?_
 refine sC X16 hx hby dj52_21_17 (v := 255) rfl ?_
 refine cY X16 hx hby dj52_21_20 (pc' := 26) (XT.ii_le_t hx2b) (by decide) ?_
 refine aA X16 hx hby dj52_21_26 rfl rfl ?_
 refine iA X16 hx hby dj52_21_27 rfl ?_
 refine iB X16 hx hby dj52_21_28 rfl ?_
 refine Go.by (fun _ => XS.i2b X16.here hx rfl (hb hby dj52_21_30) rfl) ?_
 have av18 := V16
 obtain ⟨cl18, Ar18, q18, Sz18, Nn18, Ha18, Gf18⟩ := av18
 have hin18 : ¬ ((2 : Int32) < 0 ∨ cl18.slots.size ≤ ((2 : Int32)).toNatClampNeg) := inb_of Sz18 ⟨by decide, by decide⟩
 obtain ⟨T19, h19, X19, e19, W19, st19⟩ := stB X16 hx hZ e16 Ar18 (j := (2 : Int32)) hin18 (g := (mkF m 31 #[(vR a1), (vI 2), (vR a2), (vI 2), (vI 3), (vI 2), (vI x2)] [(.int (x2.toInt8.toInt32)), (.int 2), (.ref a2)])) rfl rfl (hb hby dj52_21_31)
 have W19' : Wr h16 h19 a2 ((2 : Int32)).toNatClampNeg (.int (x2.toInt8.toInt32)) := (by have q : Wr h16 h19 a2 ((2 : Int32)).toNatClampNeg (.int ((x2.toInt8.toInt32)).toInt8.toInt32) := W19; rw [own_bb] at q; exact q)
 have V19 : Arv Z h19 a2 k2 .byte (3 : Int32) [(.int (x0.toInt8.toInt32)), (.int (x1.toInt8.toInt32)), (.int (x2.toInt8.toInt32))] (.int 0) := Arv.set Ar18 q18 Sz18 Nn18 Ha18 Gf18 (fits_nar_byte _) W19' 2 rfl (Nat.le_of_ble_eq_true rfl)
 have N19 := Fr.snoc X19 N16 g_a2
 have f19_0 := Nat.le_trans f16_0 (Keep.of_wr W19).1
 have f19_1 := Keep.wr f16_1 W19 (Or.inl (List.mem_of_getElem? (i := 0) rfl))
 have f19_2 := Arv.other f16_2 W19 ne12
 refine Go.by st19 ?_
 show oG p e below P m T19 32 #[(vR a1), (vI 2), (vR a2), (vI 2), (vI 3), (vI 2), (vI x2)] []
 refine iI X19 hx hby dj52_21_32 rfl (l' := #[(vR a1), (vI 3), (vR a2), (vI 2), (vI 3), (vI 2), (vI x2)]) rfl ?_
 refine iI X19 hx hby dj52_21_35 rfl (l' := #[(vR a1), (vI 3), (vR a2), (vI 3), (vI 3), (vI 2), (vI x2)]) rfl ?_
 refine iI X19 hx hby dj52_21_38 rfl (l' := #[(vR a1), (vI 3), (vR a2), (vI 3), (vI 3), (vI 3), (vI x2)]) rfl ?_
 refine gO X19 hx hby dj52_21_41 (pc' := 3) (by decide) ?_
 refine iB X19 hx hby dj52_21_3 rfl ?_
 refine iB X19 hx hby dj52_21_5 rfl ?_
 refine cY X19 hx hby dj52_21_7 (pc' := 44) (XT.ii_ge_t (by decide : ¬ (3 : Int32) < (3 : Int32))) (by decide) ?_
 refine iB X19 hx hby dj52_21_44 rfl ?_
 refine r_val hP hlk hret X19 hx hby dj52_21_46 rfl (Or.inl ⟨rfl, Or.inl rfl, _, rfl⟩) (by decide) ?_
 rw [e19]
 exact ⟨rfl, N19, f19_1, V19⟩
def Q_cmp3_3 (Z : State) (a1 : Addr) (k1 : ClassId) (x0 x1 x2 : Int32) (h0 : Heap) (n0 : Nat) (v : Option Value) (h : Heap) (L : List Loc) : Prop := ∃ d k, v = some (.ref d) ∧ Fr n0 L ∧ Keep h0 h [] ∧ h0.size ≤ d ∧ Arv Z h d k .byte (3 : Int32) [(.int (x0.toInt8.toInt32)), (.int (x1.toInt8.toInt32)), (.int (x2.toInt8.toInt32))] (.int 0)
theorem rm_cmp3_3 (l : Launch) (Z : State) (a0 : Array Value) (hw : oW a0 Z) (ws : List Jvm.Cond) (a1 : Addr) (k1 : ClassId) (x0 x1 x2 : Int32) (h0 : Heap) (n0 : Nat) (Z0 : n0 ≤ h0.size) (V1 : Arv Z h0 a1 k1 .char (3 : Int32) [(.int x0), (.int x1), (.int x2)] (.int 0)) (hx0a : ¬ x0 < 0) (hx0b : ¬ (255 : Int32) < x0) (hx1a : ¬ x1 < 0) (hx1b : ¬ (255 : Int32) < x1) (hx2a : ¬ x2 < 0) (hx2b : ¬ (255 : Int32) < x2) :
   oM l oY19 j52_16 6 (some (.array .byte)) ws (own_R 1 1 3 30) #[(.ref a1), (.int 0), (.int 3)] Z h0 (Q_cmp3_3 Z a1 k1 x0 x1 x2 h0 n0) := by
 refine own_open (n0 := n0) (cn := "java/lang/StringUTF16") rfl (plainFor_of_name pn2) (L0 := #[(vR a1), (vI 0), (vI 3), .unset, .unset, .unset]) (fun _ => by first | (simp [entryFrame, mkF, argsToLocals, Value.category]; done) | rfl) ?_
 intro p e s m below meth c s₁ P hx hby hml hown hnm X0 e0 N0 hlk hret hZ hP
 refine iA X0 hx hby dj52_16_0 rfl ?_
 obtain ⟨T11, h11, k11, X11, e11, E11, A11, st11⟩ := newP X0 hx hZ (aty := .byte) (tw_20 hw) e0 (g := (mkF m 1 #[(vR a1), (vI 0), (vI 3), .unset, .unset, .unset] [(.int 3)])) rfl (hb hby dj52_16_1) rfl (by decide) (cap := 3) (by decide) (by decide) (by decide) (by decide)
 obtain ⟨b11, g11⟩ : ∃ z, z = h0.size := ⟨_, rfl⟩
 rw [← g11] at A11 st11
 have g_b11 : n0 ≤ b11 := Nat.le_trans Z0 (Nat.le_of_eq g11.symm)
 have sz_b11 : h0.size ≤ b11 := Nat.le_trans (Keep.refl h0 []).1 (Nat.le_of_eq g11.symm)
 have ne_a1_b11 : a1 ≠ b11 := Nat.ne_of_lt (Nat.lt_of_lt_of_le (V1.lt) (Nat.le_of_eq g11.symm))
 have f11_0 := Nat.le_trans Z0 E11.1
 have f11_1 := Keep.ext (Keep.refl h0 []) E11
 have f11_2 := Arv.ext V1 E11
 refine Go.by st11 ?_
 have V11 : Arv Z h11 b11 k11 .byte (3 : Int32) [(.int 0), (.int 0), (.int 0)] (.int 0) := (Arv.new A11 (by decide)).pad (pad_rep [] (.int 0) 3)
 show oG p e below P m T11 3 #[(vR a1), (vI 0), (vI 3), .unset, .unset, .unset] [(.ref b11)]
 refine aS X11 hx hby dj52_16_3 rfl (l' := #[(vR a1), (vI 0), (vI 3), (vR b11), .unset, .unset]) rfl ?_
 refine aA X11 hx hby dj52_16_4 rfl rfl ?_
 refine iA X11 hx hby dj52_16_5 rfl ?_
 refine aA X11 hx hby dj52_16_6 rfl rfl ?_
 refine iC X11 hx hby dj52_16_7 (v := 0) rfl ?_
 refine iA X11 hx hby dj52_16_8 rfl ?_
 refine c_stat 0 X11 hx hby hml hZ hown (tw_87 hw) (tw_88 hw) (tw_85 hw) (tw_89 hw) (rm_cmp5_3 l Z a0 hw [] a1 k1 b11 k11 x0 x1 x2 h11 n0 f11_0 f11_2 V11 ne_a1_b11 g_b11 hx0a hx0b hx1a hx1b hx2a hx2b) e11 dj52_16_9 [(.ref a1), (.int 0), (.ref b11), (.int 0), (.int 3)] [] (lenOf pd21 rfl) rfl rfl (by rfl) (by decide) ?_
 rintro _ T12 Lc12 ⟨rfl, N12q, K12, V12⟩ X12
 have N12 := Fr.app N0 N12q
 have f12_0 := Nat.le_trans f11_0 K12.1
 have f12_1 := Keep.trans f11_1 K12 (allS (Or.inr sz_b11) all0)
 have f12_2 := Arv.keep f11_2 K12 (ninS ne_a1_b11 nin0)
 refine iT X12 hx hby dj52_16_12 (l' := #[(vR a1), (vI 0), (vI 3), (vR b11), (vI 3), .unset]) rfl ?_
 refine iB X12 hx hby dj52_16_14 rfl ?_
 refine iA X12 hx hby dj52_16_16 rfl ?_
 refine cY X12 hx hby dj52_16_17 (pc' := 57) (XT.ii_eq_t (by decide : (3 : Int32) = (3 : Int32))) (by decide) ?_
 refine aA X12 hx hby dj52_16_57 rfl rfl ?_
 refine r_val hP hlk hret X12 hx hby dj52_16_58 rfl (Or.inr (Or.inr (Or.inr (Or.inr ⟨rfl, rfl, rfl⟩)))) (by decide) ?_
 exact ⟨b11, k11, rfl, N12, f12_1, sz_b11, V12⟩
def Q_cfal_3 (Z : State) (a1 : Addr) (k1 : ClassId) (x0 x1 x2 : Int32) (h0 : Heap) (n0 : Nat) (v : Option Value) (h : Heap) (L : List Loc) : Prop := v = some (.int 0) ∧ Fr n0 L ∧ h = h0
theorem rm_cfal_3 (l : Launch) (Z : State) (a0 : Array Value) (hw : oW a0 Z) (ws : List Jvm.Cond) (a1 : Addr) (k1 : ClassId) (x0 x1 x2 : Int32) (h0 : Heap) (n0 : Nat) (Z0 : n0 ≤ h0.size) (V1 : Arv Z h0 a1 k1 .byte (3 : Int32) [(.int (x0.toInt8.toInt32)), (.int (x1.toInt8.toInt32)), (.int (x2.toInt8.toInt32))] (.int 0)) :
   oM l oY20 j52_15 2 (some .byte) ws (own_R 0 0 0 0) #[(.ref a1), (.int 3)] Z h0 (Q_cfal_3 Z a1 k1 x0 x1 x2 h0 n0) := by
 refine own_open (n0 := n0) (cn := "java/lang/StringUTF16") rfl (plainFor_of_name pn2) (L0 := #[(vR a1), (vI 3)]) (fun _ => by first | (simp [entryFrame, mkF, argsToLocals, Value.category]; done) | rfl) ?_
 intro p e s m below meth c s₁ P hx hby hml hown hnm X0 e0 N0 hlk hret hZ hP
 refine iA X0 hx hby dj52_15_0 rfl ?_
 refine aA X0 hx hby dj52_15_1 rfl rfl ?_
 have av11 := V1
 obtain ⟨cl11, Ar11, -, Sz11, Nn11, -, -⟩ := av11
 refine Go.by (X0.arraylength hx (by rw [e0]; exact Ar11.1) (State.isArrayOf_alike hZ.alike Ar11.2.1) (g := (mkF m 2 #[(vR a1), (vI 3)] [(.ref a1), (.int 3)])) rfl rfl (hb hby dj52_15_2)) ?_
 rw [len_of Sz11 Nn11]
 show oG p e below P m s₁ 3 #[(vR a1), (vI 3)] [(.int 3), (.int 3)]
 refine iM X0 hx hby dj52_15_3 (v := 0) rfl ?_
 refine bC X0 hx hby dj52_15_4 (v := 31) rfl ?_
 refine Go.by (fun _ => XS.iushr X0.here hx rfl (hb hby dj52_15_6) rfl) ?_
 show oG p e below P m s₁ 7 #[(vR a1), (vI 3)] [(.int (((0 : Int32).toUInt32 >>> ((31 : Int32) &&& 31).toUInt32).toInt32))]
 refine Go.by (fun _ => XS.i2b X0.here hx rfl (hb hby dj52_15_7) rfl) ?_
 show oG p e below P m s₁ 8 #[(vR a1), (vI 3)] [(.int ((((0 : Int32).toUInt32 >>> ((31 : Int32) &&& 31).toUInt32).toInt32).toInt8.toInt32))]
 show oG p e below P m s₁ 8 #[(vR a1), (vI 3)] [(.int 0)]
 refine r_val hP hlk hret X0 hx hby dj52_15_8 rfl (Or.inl ⟨rfl, Or.inr (Or.inr (Or.inl rfl)), _, rfl⟩) (by decide) ?_
 rw [e0]
 exact ⟨rfl, N0, rfl⟩
def Q_si4_3 (Z : State) (a0_ a1 : Addr) (k1 : ClassId) (x0 x1 x2 cs : Int32) (h0 : Heap) (n0 : Nat) (v : Option Value) (h : Heap) (L : List Loc) : Prop := v = none ∧ Fr n0 L ∧ Keep h0 h [a0_] ∧ Fld Z h a0_ "java/lang/String" "coder" "B" (.int 0) ∧ ∃ d k, h0.size ≤ d ∧ Fld Z h a0_ "java/lang/String" "value" "[B" (.ref d) ∧ Arv Z h d k .byte (3 : Int32) [(.int (x0.toInt8.toInt32)), (.int (x1.toInt8.toInt32)), (.int (x2.toInt8.toInt32))] (.int 0)
theorem rm_si4_3 (l : Launch) (Z : State) (a0 : Array Value) (hw : oW a0 Z) (ws : List Jvm.Cond) (a0_ a1 : Addr) (k1 : ClassId) (x0 x1 x2 cs : Int32) (h0 : Heap) (n0 : Nat) (Z0 : n0 ≤ h0.size) (O0 : Old Z n0 h0) (Scs : Sta Z Z.heap "java/lang/String" "COMPACT_STRINGS" "Z" (.int cs)) (hcs : ¬ cs = (0 : Int32)) (E0 : Exa Z h0 a0_ "java/lang/String") (g_a0_ : n0 ≤ a0_) (F0c : Fld Z h0 a0_ "java/lang/String" "coder" "B" (.int 0)) (F0v : Fld Z h0 a0_ "java/lang/String" "value" "[B" .null) (V1 : Arv Z h0 a1 k1 .char (3 : Int32) [(.int x0), (.int x1), (.int x2)] (.int 0)) (hx0a : ¬ x0 < 0) (hx0b : ¬ (255 : Int32) < x0) (hx1a : ¬ x1 < 0) (hx1b : ¬ (255 : Int32) < x1) (hx2a : ¬ x2 < 0) (hx2b : ¬ (255 : Int32) < x2) :
   oM l oY15 j42_149 6 none ws (own_R 2 1 3 50) #[(.ref a0_), (.ref a1), (.int 0), (.int 3), .null] Z h0 (Q_si4_3 Z a0_ a1 k1 x0 x1 x2 cs h0 n0) := by
 refine own_open (n0 := n0) (cn := "java/lang/String") rfl (plainFor_of_name pn0) (L0 := #[(vR a0_), (vR a1), (vI 0), (vI 3), .val .null, .unset]) (fun _ => by first | (simp [entryFrame, mkF, argsToLocals, Value.category]; done) | rfl) ?_
 intro p e s m below meth c s₁ P hx hby hml hown hnm X0 e0 N0 hlk hret hZ hP
 have ne01 : a0_ ≠ a1 := fun q => by obtain ⟨c, Ar, -⟩ := V1; exact ne_arr E0 (tw_7 hw) Ar q
 show oG p e below P m s₁ 0 #[(vR a0_), (vR a1), (vI 0), (vI 3), .val .null, .unset] []
 refine aA X0 hx hby dj42_149_0 rfl rfl ?_
 obtain ⟨T11, X11, e11, st11⟩ := initO X0 hx hZ hown (tw_16 hw) (tw_17 hw) (tw_18 hw) e0 (g := (mkF m 1 #[(vR a0_), (vR a1), (vI 0), (vI 3), .val .null, .unset] [(.ref a0_)])) rfl (by rw [hml]; rfl) rfl (hb hby dj42_149_1) (by decide) (W := 0) (by show 2 * 0 + _ ≤ _; exact Nat.le_of_eq rfl) (by decide)
 refine Go.by st11 ?_
 show oG p e below P m T11 4 #[(vR a0_), (vR a1), (vI 0), (vI 3), .val .null, .unset] []
 refine iA X11 hx hby dj42_149_4 rfl ?_
 refine fY X11 hx hby dj42_149_5 (pc' := 27) (XT.i0_ne_t (by decide : ¬ (3 : Int32) = (0 : Int32))) (by decide) ?_
 obtain ⟨T12, X12, e12, st12⟩ := getS2 X11 hx hZ hown (host := "") (Or.inl (tw_47 hw)) Via.refl e11 (Scs.ext O0.2) (g := (mkF m 27 #[(vR a0_), (vR a1), (vI 0), (vI 3), .val .null, .unset] [])) rfl (hb hby dj42_149_27)
 refine Go.by st12 ?_
 show oG p e below P m T12 30 #[(vR a0_), (vR a1), (vI 0), (vI 3), .val .null, .unset] [(.int cs)]
 refine fN X12 hx hby dj42_149_30 (XT.i0_eq_f hcs) ?_
 refine aA X12 hx hby dj42_149_33 rfl rfl ?_
 refine iA X12 hx hby dj42_149_34 rfl ?_
 refine iA X12 hx hby dj42_149_35 rfl ?_
 refine c_stat 0 X12 hx hby hml hZ hown (tw_83 hw) (tw_84 hw) (tw_85 hw) (tw_86 hw) (rm_cmp3_3 l Z a0 hw [] a1 k1 x0 x1 x2 h0 n0 Z0 V1 hx0a hx0b hx1a hx1b hx2a hx2b) e12 dj42_149_36 [(.ref a1), (.int 0), (.int 3)] [] (lenOf pd22 rfl) rfl rfl (by rfl) (by decide) ?_
 rintro _ T13 Lc13 ⟨d13, kd13, rfl, N13q, K13, z13, V13⟩ X13
 have N13 := Fr.app N0 N13q
 have f13_0 := Nat.le_trans Z0 K13.1
 have f13_1 := Keep.trans (Keep.refl h0 [a0_]) K13 all0
 have f13_2 := Old.keep O0 K13 all0
 have f13_3 := Exa.keep E0 K13
 have f13_4 := Fld.keep F0c K13 nin0
 have f13_5 := Fld.keep F0v K13 nin0
 have f13_6 := Arv.keep V1 K13 nin0
 have g_d13 : n0 ≤ d13 := Nat.le_trans Z0 z13
 have sz_d13 : h0.size ≤ d13 := z13
 have ne0d13 : a0_ ≠ d13 := Nat.ne_of_lt (Nat.lt_of_lt_of_le E0.lt z13)
 refine aT X13 hx hby dj42_149_39 rfl (l' := #[(vR a0_), (vR a1), (vI 0), (vI 3), .val .null, (vR d13)]) rfl ?_
 refine aA X13 hx hby dj42_149_41 rfl rfl ?_
 refine aB X13 hx hby dj42_149_42 rfl rfl ?_
 refine iA X13 hx hby dj42_149_44 rfl ?_
 refine c_stat 1 X13 hx hby hml hZ hown (tw_90 hw) (tw_91 hw) (tw_85 hw) (tw_92 hw) (rm_cfal_3 l Z a0 hw [] d13 kd13 x0 x1 x2 T13.heap n0 f13_0 V13) rfl dj42_149_45 [(.ref d13), (.int 3)] [(.ref a0_)] (lenOf pd23 rfl) rfl rfl (by rfl) (by decide) ?_
 rintro _ T14 Lc14 ⟨rfl, N14q, q14⟩ X14
 have N14 := Fr.app N13 N14q
 obtain ⟨T15, h15, X15, e15, W15, st15⟩ := putFN X14 hx hZ hown (tw_26 hw) Via.refl q14 f13_4 f13_3 (Or.inr ⟨(tw_22 hw), rfl, hnm⟩) (tw_7 hw) (ty := .byte) (v' := (.int 0)) (by decide) rfl rfl (g := (mkF m 48 #[(vR a0_), (vR a1), (vI 0), (vI 3), .val .null, (vR d13)] [(.int 0), (.ref a0_)])) rfl rfl (hb hby dj42_149_48)
 refine Go.by st15 ?_
 have N15 := Fr.snoc X15 N14 g_a0_
 have f15_0 := Nat.le_trans f13_0 (Keep.of_wr W15).1
 have f15_1 := Keep.wr f13_1 W15 (Or.inl (List.mem_of_getElem? (i := 0) rfl))
 have f15_2 := Old.wr f13_2 W15 g_a0_
 have f15_3 := Exa.wr W15 f13_3
 have f15_4 := Fld.same W15 f13_4
 have f15_5 := Fld.other W15 f13_5 (Or.inr (slot_ne (Or.inr (tw_21 hw)) (Or.inr (tw_22 hw)) (by decide) (t := (.array .byte)) (t' := .byte) (by decide) (by decide)))
 have f15_6 := Arv.other f13_6 W15 (Ne.symm ne01)
 have f15_7 := Arv.other V13 W15 (Ne.symm ne0d13)
 show oG p e below P m T15 51 #[(vR a0_), (vR a1), (vI 0), (vI 3), .val .null, (vR d13)] []
 refine aA X15 hx hby dj42_149_51 rfl rfl ?_
 refine aB X15 hx hby dj42_149_52 rfl rfl ?_
 obtain ⟨T16, h16, X16, e16, W16, st16⟩ := putF X15 hx hZ hown (host := "") (Or.inl (tw_25 hw)) Via.refl e15 f15_5 f15_3 (Or.inr ⟨(tw_21 hw), rfl, hnm⟩) (tw_7 hw) (ty := (.array .byte)) (by decide) rfl rfl (g := (mkF m 54 #[(vR a0_), (vR a1), (vI 0), (vI 3), .val .null, (vR d13)] [(.ref d13), (.ref a0_)])) rfl rfl (hb hby dj42_149_54)
 refine Go.by st16 ?_
 have N16 := Fr.snoc X16 N15 g_a0_
 have f16_0 := Nat.le_trans f15_0 (Keep.of_wr W16).1
 have f16_1 := Keep.wr f15_1 W16 (Or.inl (List.mem_of_getElem? (i := 0) rfl))
 have f16_2 := Old.wr f15_2 W16 g_a0_
 have f16_3 := Exa.wr W16 f15_3
 have f16_4 := Fld.other W16 f15_4 (Or.inr (slot_ne (Or.inr (tw_22 hw)) (Or.inr (tw_21 hw)) (by decide) (t := .byte) (t' := (.array .byte)) (by decide) (by decide)))
 have f16_5 := Fld.same W16 f15_5
 have f16_6 := Arv.other f15_6 W16 (Ne.symm ne01)
 have f16_7 := Arv.other f15_7 W16 (Ne.symm ne0d13)
 show oG p e below P m T16 57 #[(vR a0_), (vR a1), (vI 0), (vI 3), .val .null, (vR d13)] []
 refine own_fin hP hlk X16 (v := none) (fun _ => rfl) (by decide) (by decide) ?_ (fun fs hr => X16.returnOut hx hret (hb hby dj42_149_57) hr)
 rw [e16]
 exact ⟨rfl, N16, f16_1, f16_4, d13, kd13, sz_d13, f16_5, f16_7⟩
def Q_si1_3 (Z : State) (a0_ a1 : Addr) (k1 : ClassId) (x0 x1 x2 cs : Int32) (h0 : Heap) (n0 : Nat) (v : Option Value) (h : Heap) (L : List Loc) : Prop := v = none ∧ Fr n0 L ∧ Keep h0 h [a0_] ∧ Fld Z h a0_ "java/lang/String" "coder" "B" (.int 0) ∧ ∃ d k, h0.size ≤ d ∧ Fld Z h a0_ "java/lang/String" "value" "[B" (.ref d) ∧ Arv Z h d k .byte (3 : Int32) [(.int (x0.toInt8.toInt32)), (.int (x1.toInt8.toInt32)), (.int (x2.toInt8.toInt32))] (.int 0)
theorem rm_si1_3 (l : Launch) (Z : State) (a0 : Array Value) (hw : oW a0 Z) (ws : List Jvm.Cond) (a0_ a1 : Addr) (k1 : ClassId) (x0 x1 x2 cs : Int32) (h0 : Heap) (n0 : Nat) (Z0 : n0 ≤ h0.size) (O0 : Old Z n0 h0) (Scs : Sta Z Z.heap "java/lang/String" "COMPACT_STRINGS" "Z" (.int cs)) (hcs : ¬ cs = (0 : Int32)) (E0 : Exa Z h0 a0_ "java/lang/String") (g_a0_ : n0 ≤ a0_) (F0c : Fld Z h0 a0_ "java/lang/String" "coder" "B" (.int 0)) (F0v : Fld Z h0 a0_ "java/lang/String" "value" "[B" .null) (V1 : Arv Z h0 a1 k1 .char (3 : Int32) [(.int x0), (.int x1), (.int x2)] (.int 0)) (hx0a : ¬ x0 < 0) (hx0b : ¬ (255 : Int32) < x0) (hx1a : ¬ x1 < 0) (hx1b : ¬ (255 : Int32) < x1) (hx2a : ¬ x2 < 0) (hx2b : ¬ (255 : Int32) < x2) :
   oM l oY16 j42_3 2 none ws (own_R 3 1 3 75) #[(.ref a0_), (.ref a1)] Z h0 (Q_si1_3 Z a0_ a1 k1 x0 x1 x2 cs h0 n0) := by
 refine own_open (n0 := n0) (cn := "java/lang/String") rfl (plainFor_of_name pn0) (L0 := #[(vR a0_), (vR a1)]) (fun _ => by first | (simp [entryFrame, mkF, argsToLocals, Value.category]; done) | rfl) ?_
 intro p e s m below meth c s₁ P hx hby hml hown hnm X0 e0 N0 hlk hret hZ hP
 have ne01 : a0_ ≠ a1 := fun q => by obtain ⟨c, Ar, -⟩ := V1; exact ne_arr E0 (tw_7 hw) Ar q
 show oG p e below P m s₁ 0 #[(vR a0_), (vR a1)] []
 refine aA X0 hx hby dj42_3_0 rfl rfl ?_
 refine aA X0 hx hby dj42_3_1 rfl rfl ?_
 refine iC X0 hx hby dj42_3_2 (v := 0) rfl ?_
 refine aA X0 hx hby dj42_3_3 rfl rfl ?_
 have av4 := V1
 obtain ⟨cl4, Ar4, -, Sz4, Nn4, -, -⟩ := av4
 refine Go.by (X0.arraylength hx (by rw [e0]; exact Ar4.1) (State.isArrayOf_alike hZ.alike Ar4.2.1) (g := (mkF m 4 #[(vR a0_), (vR a1)] [(.ref a1), (.int 0), (.ref a1), (.ref a0_)])) rfl rfl (hb hby dj42_3_4)) ?_
 rw [len_of Sz4 Nn4]
 show oG p e below P m s₁ 5 #[(vR a0_), (vR a1)] [(.int 3), (.int 0), (.ref a1), (.ref a0_)]
 refine w_aconstNull X0 hx hby dj42_3_5 ?_
 obtain ⟨_, _, ⟨T5, L5, k5, n5⟩, -, X5, ⟨Lc5, hQ5, l5, y5, z5⟩, st5⟩ := X0.specialBack hx (y := oY15) rfl hown (mvT hZ (tw_12 hw)) (mvT hZ (tw_13 hw)) (mvT hZ (tw_15 hw)) (by decide) (backOf (W := 0) (rm_si4_3 l Z a0 hw [] a0_ a1 k1 x0 x1 x2 cs h0 n0 Z0 O0 Scs hcs E0 g_a0_ F0c F0v V1 hx0a hx0b hx1a hx1b hx2a hx2b) hZ (tw_15 hw) (tw_8 hw) (by decide) (by decide)) (g := (mkF m 6 #[(vR a0_), (vR a1)] [.null, (.int 3), (.int 0), (.ref a1), (.ref a0_)])) rfl (by rw [hml]; rfl) (Steps.refl _) (a := a0_) (argsL := [(.ref a1), (.int 0), (.int 3), .null]) (rest := []) (lenOf pd17 rfl) rfl (by show 2 * 0 + _ ≤ _; exact Nat.le_of_eq rfl) (hb hby dj42_3_6) (fun _ _ => ⟨rfl, e0, (by decide : 0 + 1 ≤ _), (by decide : 0 + 3 ≤ _)⟩)
 dsimp only [Pt.U, Pt.locs, Pt.cells, Pt.slots] at X5 l5 y5 z5 st5 hQ5
 subst l5 y5 z5
 obtain ⟨rfl, N5q, K5, Gc5, d5, kd5, z5, Gv5, V5⟩ := hQ5
 have N5 := Fr.app N0 N5q
 refine Go.by (fun t k => st5.trans k) ?_
 have f5_0 := Nat.le_trans Z0 K5.1
 have f5_1 := Keep.trans (Keep.refl h0 [a0_]) K5 (allS (Or.inl (List.mem_of_getElem? (i := 0) rfl)) all0)
 have f5_2 := Old.keep O0 K5 (allS g_a0_ all0)
 have f5_3 := Exa.keep E0 K5
 have f5_4 := Arv.keep V1 K5 (ninS (Ne.symm ne01) nin0)
 show oG p e below P m T5 9 #[(vR a0_), (vR a1)] []
 refine own_fin hP hlk X5 (v := none) (fun _ => rfl) (by decide) (by decide) ?_ (fun fs hr => X5.returnOut hx hret (hb hby dj42_3_9) hr)
 exact ⟨rfl, N5, f5_1, Gc5, d5, kd5, z5, Gv5, V5⟩
def Q_cmp5_4 (Z : State) (a1 : Addr) (k1 : ClassId) (a2 : Addr) (k2 : ClassId) (x0 x1 x2 x3 : Int32) (h0 : Heap) (n0 : Nat) (v : Option Value) (h : Heap) (L : List Loc) : Prop := v = some (.int 4) ∧ Fr n0 L ∧ Keep h0 h [a2] ∧ Arv Z h a2 k2 .byte (4 : Int32) [(.int (x0.toInt8.toInt32)), (.int (x1.toInt8.toInt32)), (.int (x2.toInt8.toInt32)), (.int (x3.toInt8.toInt32))] (.int 0)
theorem rm_cmp5_4 (l : Launch) (Z : State) (a0 : Array Value) (hw : oW a0 Z) (ws : List Jvm.Cond) (a1 : Addr) (k1 : ClassId) (a2 : Addr) (k2 : ClassId) (x0 x1 x2 x3 : Int32) (h0 : Heap) (n0 : Nat) (Z0 : n0 ≤ h0.size) (V1 : Arv Z h0 a1 k1 .char (4 : Int32) [(.int x0), (.int x1), (.int x2), (.int x3)] (.int 0)) (V2 : Arv Z h0 a2 k2 .byte (4 : Int32) [(.int 0), (.int 0), (.int 0), (.int 0)] (.int 0)) (ne12 : a1 ≠ a2) (g_a2 : n0 ≤ a2) (hx0a : ¬ x0 < 0) (hx0b : ¬ (255 : Int32) < x0) (hx1a : ¬ x1 < 0) (hx1b : ¬ (255 : Int32) < x1) (hx2a : ¬ x2 < 0) (hx2b : ¬ (255 : Int32) < x2) (hx3a : ¬ x3 < 0) (hx3b : ¬ (255 : Int32) < x3) :
   oM l oY18 j52_21 7 (some .int) ws (own_R 0 0 0 0) #[(.ref a1), (.int 0), (.ref a2), (.int 0), (.int 4)] Z h0 (Q_cmp5_4 Z a1 k1 a2 k2 x0 x1 x2 x3 h0 n0) := by
 refine own_open (n0 := n0) (cn := "java/lang/StringUTF16") rfl (plainFor_of_name pn2) (L0 := #[(vR a1), (vI 0), (vR a2), (vI 0), (vI 4), .unset, .unset]) (fun _ => by first | (simp [entryFrame, mkF, argsToLocals, Value.category]; done) | rfl) ?_
 intro p e s m below meth c s₁ P hx hby hml hown hnm X0 e0 N0 hlk hret hZ hP
 refine iC X0 hx hby dj52_21_0 (v := 0) rfl ?_
 refine iT X0 hx hby dj52_21_1 (l' := #[(vR a1), (vI 0), (vR a2), (vI 0), (vI 4), (vI 0), .unset]) rfl ?_
 refine iB X0 hx hby dj52_21_3 rfl ?_
 refine iB X0 hx hby dj52_21_5 rfl ?_
 refine cN X0 hx hby dj52_21_7 (XT.ii_ge_f (by decide : (0 : Int32) < (4 : Int32))) ?_
 refine aA X0 hx hby dj52_21_10 rfl rfl ?_
 refine iA X0 hx hby dj52_21_11 rfl ?_
 have av11 := V1
 obtain ⟨cl11, Ar11, -, Sz11, Nn11, Ha11, Gf11⟩ := av11
 have hin11 : ¬ ((0 : Int32) < 0 ∨ cl11.slots.size ≤ ((0 : Int32)).toNatClampNeg) := inb_of Sz11 ⟨by decide, by decide⟩
 have hat11 : cl11.slots[((0 : Int32)).toNatClampNeg]? = some (.int x0) := Ha11.at hin11 rfl
 refine Go.by (X0.caload hx (j := (0 : Int32)) (v := (.int x0)) (by rw [e0]; exact Ar11.1) (State.isArrayOf_alike hZ.alike Ar11.2.1) Ar11.2.2 hin11 hat11 (g := (mkF m 12 #[(vR a1), (vI 0), (vR a2), (vI 0), (vI 4), (vI 0), .unset] [(.int 0), (.ref a1)])) rfl rfl (hb hby dj52_21_12)) ?_
 show oG p e below P m s₁ 13 #[(vR a1), (vI 0), (vR a2), (vI 0), (vI 4), (vI 0), .unset] [(.int x0)]
 refine iT X0 hx hby dj52_21_13 (l' := #[(vR a1), (vI 0), (vR a2), (vI 0), (vI 4), (vI 0), (vI x0)]) rfl ?_
 refine iB X0 hx hby dj52_21_15 rfl ?_
 refine sC X0 hx hby dj52_21_17 (v := 255) rfl ?_
 refine cY X0 hx hby dj52_21_20 (pc' := 26) (XT.ii_le_t hx0b) (by decide) ?_
 refine aA X0 hx hby dj52_21_26 rfl rfl ?_
 refine iA X0 hx hby dj52_21_27 rfl ?_
 refine iB X0 hx hby dj52_21_28 rfl ?_
 refine Go.by (fun _ => XS.i2b X0.here hx rfl (hb hby dj52_21_30) rfl) ?_
 have av12 := V2
 obtain ⟨cl12, Ar12, q12, Sz12, Nn12, Ha12, Gf12⟩ := av12
 have hin12 : ¬ ((0 : Int32) < 0 ∨ cl12.slots.size ≤ ((0 : Int32)).toNatClampNeg) := inb_of Sz12 ⟨by decide, by decide⟩
 obtain ⟨T13, h13, X13, e13, W13, st13⟩ := stB X0 hx hZ e0 Ar12 (j := (0 : Int32)) hin12 (g := (mkF m 31 #[(vR a1), (vI 0), (vR a2), (vI 0), (vI 4), (vI 0), (vI x0)] [(.int (x0.toInt8.toInt32)), (.int 0), (.ref a2)])) rfl rfl (hb hby dj52_21_31)
 have W13' : Wr h0 h13 a2 ((0 : Int32)).toNatClampNeg (.int (x0.toInt8.toInt32)) := (by have q : Wr h0 h13 a2 ((0 : Int32)).toNatClampNeg (.int ((x0.toInt8.toInt32)).toInt8.toInt32) := W13; rw [own_bb] at q; exact q)
 have V13 : Arv Z h13 a2 k2 .byte (4 : Int32) [(.int (x0.toInt8.toInt32)), (.int 0), (.int 0), (.int 0)] (.int 0) := Arv.set Ar12 q12 Sz12 Nn12 Ha12 Gf12 (fits_nar_byte _) W13' 0 rfl (Nat.le_of_ble_eq_true rfl)
 have N13 := Fr.snoc X13 N0 g_a2
 have f13_0 := Nat.le_trans Z0 (Keep.of_wr W13).1
 have f13_1 := Keep.wr (Keep.refl h0 [a2]) W13 (Or.inl (List.mem_of_getElem? (i := 0) rfl))
 have f13_2 := Arv.other V1 W13 ne12
 refine Go.by st13 ?_
 show oG p e below P m T13 32 #[(vR a1), (vI 0), (vR a2), (vI 0), (vI 4), (vI 0), (vI x0)] []
 refine iI X13 hx hby dj52_21_32 rfl (l' := #[(vR a1), (vI 1), (vR a2), (vI 0), (vI 4), (vI 0), (vI x0)]) rfl ?_
 refine iI X13 hx hby dj52_21_35 rfl (l' := #[(vR a1), (vI 1), (vR a2), (vI 1), (vI 4), (vI 0), (vI x0)]) rfl ?_
 refine iI X13 hx hby dj52_21_38 rfl (l' := #[(vR a1), (vI 1), (vR a2), (vI 1), (vI 4), (vI 1), (vI x0)]) rfl ?_
 refine gO X13 hx hby dj52_21_41 (pc' := 3) (by decide) ?_
 refine iB X13 hx hby dj52_21_3 rfl ?_
 refine iB X13 hx hby dj52_21_5 rfl ?_
 refine cN X13 hx hby dj52_21_7 (XT.ii_ge_f (by decide : (1 : Int32) < (4 : Int32))) ?_
 refine aA X13 hx hby dj52_21_10 rfl rfl ?_
 refine iA X13 hx hby dj52_21_11 rfl ?_
 have av14 := f13_2
 obtain ⟨cl14, Ar14, -, Sz14, Nn14, Ha14, Gf14⟩ := av14
 have hin14 : ¬ ((1 : Int32) < 0 ∨ cl14.slots.size ≤ ((1 : Int32)).toNatClampNeg) := inb_of Sz14 ⟨by decide, by decide⟩
 have hat14 : cl14.slots[((1 : Int32)).toNatClampNeg]? = some (.int x1) := Ha14.at hin14 rfl
 refine Go.by (X13.caload hx (j := (1 : Int32)) (v := (.int x1)) (by rw [e13]; exact Ar14.1) (State.isArrayOf_alike hZ.alike Ar14.2.1) Ar14.2.2 hin14 hat14 (g := (mkF m 12 #[(vR a1), (vI 1), (vR a2), (vI 1), (vI 4), (vI 1), (vI x0)] [(.int 1), (.ref a1)])) rfl rfl (hb hby dj52_21_12)) ?_
 show oG p e below P m T13 13 #[(vR a1), (vI 1), (vR a2), (vI 1), (vI 4), (vI 1), (vI x0)] [(.int x1)]
 refine iT X13 hx hby dj52_21_13 (l' := #[(vR a1), (vI 1), (vR a2), (vI 1), (vI 4), (vI 1), (vI x1)]) rfl ?_
 refine iB X13 hx hby dj52_21_15 rfl ?_
 refine sC X13 hx hby dj52_21_17 (v := 255) rfl ?_
 refine cY X13 hx hby dj52_21_20 (pc' := 26) (XT.ii_le_t hx1b) (by decide) ?_
 refine aA X13 hx hby dj52_21_26 rfl rfl ?_
 refine iA X13 hx hby dj52_21_27 rfl ?_
 refine iB X13 hx hby dj52_21_28 rfl ?_
 refine Go.by (fun _ => XS.i2b X13.here hx rfl (hb hby dj52_21_30) rfl) ?_
 have av15 := V13
 obtain ⟨cl15, Ar15, q15, Sz15, Nn15, Ha15, Gf15⟩ := av15
 have hin15 : ¬ ((1 : Int32) < 0 ∨ cl15.slots.size ≤ ((1 : Int32)).toNatClampNeg) := inb_of Sz15 ⟨by decide, by decide⟩
 obtain ⟨T16, h16, X16, e16, W16, st16⟩ := stB X13 hx hZ e13 Ar15 (j := (1 : Int32)) hin15 (g := (mkF m 31 #[(vR a1), (vI 1), (vR a2), (vI 1), (vI 4), (vI 1), (vI x1)] [(.int (x1.toInt8.toInt32)), (.int 1), (.ref a2)])) rfl rfl (hb hby dj52_21_31)
 have W16' : Wr h13 h16 a2 ((1 : Int32)).toNatClampNeg (.int (x1.toInt8.toInt32)) := (by have q : Wr h13 h16 a2 ((1 : Int32)).toNatClampNeg (.int ((x1.toInt8.toInt32)).toInt8.toInt32) := W16; rw [own_bb] at q; exact q)
 have V16 : Arv Z h16 a2 k2 .byte (4 : Int32) [(.int (x0.toInt8.toInt32)), (.int (x1.toInt8.toInt32)), (.int 0), (.int 0)] (.int 0) := Arv.set Ar15 q15 Sz15 Nn15 Ha15 Gf15 (fits_nar_byte _) W16' 1 rfl (Nat.le_of_ble_eq_true rfl)
 have N16 := Fr.snoc X16 N13 g_a2
 have f16_0 := Nat.le_trans f13_0 (Keep.of_wr W16).1
 have f16_1 := Keep.wr f13_1 W16 (Or.inl (List.mem_of_getElem? (i := 0) rfl))
 have f16_2 := Arv.other f13_2 W16 ne12
 refine Go.by st16 ?_
 show oG p e below P m T16 32 #[(vR a1), (vI 1), (vR a2), (vI 1), (vI 4), (vI 1), (vI x1)] []
 refine iI X16 hx hby dj52_21_32 rfl (l' := #[(vR a1), (vI 2), (vR a2), (vI 1), (vI 4), (vI 1), (vI x1)]) rfl ?_
 refine iI X16 hx hby dj52_21_35 rfl (l' := #[(vR a1), (vI 2), (vR a2), (vI 2), (vI 4), (vI 1), (vI x1)]) rfl ?_
 refine iI X16 hx hby dj52_21_38 rfl (l' := #[(vR a1), (vI 2), (vR a2), (vI 2), (vI 4), (vI 2), (vI x1)]) rfl ?_
 refine gO X16 hx hby dj52_21_41 (pc' := 3) (by decide) ?_
 refine iB X16 hx hby dj52_21_3 rfl ?_
 refine iB X16 hx hby dj52_21_5 rfl ?_
 refine cN X16 hx hby dj52_21_7 (XT.ii_ge_f (by decide : (2 : Int32) < (4 : Int32))) ?_
 refine aA X16 hx hby dj52_21_10 rfl rfl ?_
 refine iA X16 hx hby dj52_21_11 rfl ?_
 have av17 := f16_2
 obtain ⟨cl17, Ar17, -, Sz17, Nn17, Ha17, Gf17⟩ := av17
 have hin17 : ¬ ((2 : Int32) < 0 ∨ cl17.slots.size ≤ ((2 : Int32)).toNatClampNeg) := inb_of Sz17 ⟨by decide, by decide⟩
 have hat17 : cl17.slots[((2 : Int32)).toNatClampNeg]? = some (.int x2) := Ha17.at hin17 rfl
 refine Go.by (X16.caload hx (j := (2 : Int32)) (v := (.int x2)) (by rw [e16]; exact Ar17.1) (State.isArrayOf_alike hZ.alike Ar17.2.1) Ar17.2.2 hin17 hat17 (g := (mkF m 12 #[(vR a1), (vI 2), (vR a2), (vI 2), (vI 4), (vI 2), (vI x1)] [(.int 2), (.ref a1)])) rfl rfl (hb hby dj52_21_12)) ?_
 show oG p e below P m T16 13 #[(vR a1), (vI 2), (vR a2), (vI 2), (vI 4), (vI 2), (vI x1)] [(.int x2)]
 refine iT X16 hx hby dj52_21_13 (l' := #[(vR a1), (vI 2), (vR a2), (vI 2), (vI 4), (vI 2), (vI x2)]) rfl ?_
 refine iB X16 hx hby dj52_21_15 rfl ?_
 refine sC X16 hx hby dj52_21_17 (v := 255) rfl ?_
 refine cY X16 hx hby dj52_21_20 (pc' := 26) (XT.ii_le_t hx2b) (by decide) ?_
 refine aA X16 hx hby dj52_21_26 rfl rfl ?_
 refine iA X16 hx hby dj52_21_27 rfl ?_
 refine iB X16 hx hby dj52_21_28 rfl ?_
 refine Go.by (fun _ => XS.i2b X16.here hx rfl (hb hby dj52_21_30) rfl) ?_
 have av18 := V16
 obtain ⟨cl18, Ar18, q18, Sz18, Nn18, Ha18, Gf18⟩ := av18
 have hin18 : ¬ ((2 : Int32) < 0 ∨ cl18.slots.size ≤ ((2 : Int32)).toNatClampNeg) := inb_of Sz18 ⟨by decide, by decide⟩
 obtain ⟨T19, h19, X19, e19, W19, st19⟩ := stB X16 hx hZ e16 Ar18 (j := (2 : Int32)) hin18 (g := (mkF m 31 #[(vR a1), (vI 2), (vR a2), (vI 2), (vI 4), (vI 2), (vI x2)] [(.int (x2.toInt8.toInt32)), (.int 2), (.ref a2)])) rfl rfl (hb hby dj52_21_31)
 have W19' : Wr h16 h19 a2 ((2 : Int32)).toNatClampNeg (.int (x2.toInt8.toInt32)) := (by have q : Wr h16 h19 a2 ((2 : Int32)).toNatClampNeg (.int ((x2.toInt8.toInt32)).toInt8.toInt32) := W19; rw [own_bb] at q; exact q)
 have V19 : Arv Z h19 a2 k2 .byte (4 : Int32) [(.int (x0.toInt8.toInt32)), (.int (x1.toInt8.toInt32)), (.int (x2.toInt8.toInt32)), (.int 0)] (.int 0) := Arv.set Ar18 q18 Sz18 Nn18 Ha18 Gf18 (fits_nar_byte _) W19' 2 rfl (Nat.le_of_ble_eq_true rfl)
 have N19 := Fr.snoc X19 N16 g_a2
 have f19_0 := Nat.le_trans f16_0 (Keep.of_wr W19).1
 have f19_1 := Keep.wr f16_1 W19 (Or.inl (List.mem_of_getElem? (i := 0) rfl))
 have f19_2 := Arv.other f16_2 W19 ne12
 refine Go.by st19 ?_
 show oG p e below P m T19 32 #[(vR a1), (vI 2), (vR a2), (vI 2), (vI 4), (vI 2), (vI x2)] []
 refine iI X19 hx hby dj52_21_32 rfl (l' := #[(vR a1), (vI 3), (vR a2), (vI 2), (vI 4), (vI 2), (vI x2)]) rfl ?_
 refine iI X19 hx hby dj52_21_35 rfl (l' := #[(vR a1), (vI 3), (vR a2), (vI 3), (vI 4), (vI 2), (vI x2)]) rfl ?_
 refine iI X19 hx hby dj52_21_38 rfl (l' := #[(vR a1), (vI 3), (vR a2), (vI 3), (vI 4), (vI 3), (vI x2)]) rfl ?_
 refine gO X19 hx hby dj52_21_41 (pc' := 3) (by decide) ?_
 refine iB X19 hx hby dj52_21_3 rfl ?_
 refine iB X19 hx hby dj52_21_5 rfl ?_
 refine cN X19 hx hby dj52_21_7 (XT.ii_ge_f (by decide : (3 : Int32) < (4 : Int32))) ?_
 refine aA X19 hx hby dj52_21_10 rfl rfl ?_
 refine iA X19 hx hby dj52_21_11 rfl ?_
 have av20 := f19_2
 obtain ⟨cl20, Ar20, -, Sz20, Nn20, Ha20, Gf20⟩ := av20
 have hin20 : ¬ ((3 : Int32) < 0 ∨ cl20.slots.size ≤ ((3 : Int32)).toNatClampNeg) := inb_of Sz20 ⟨by decide, by decide⟩
 have hat20 : cl20.slots[((3 : Int32)).toNatClampNeg]? = some (.int x3) := Ha20.at hin20 rfl
 refine Go.by (X19.caload hx (j := (3 : Int32)) (v := (.int x3)) (by rw [e19]; exact Ar20.1) (State.isArrayOf_alike hZ.alike Ar20.2.1) Ar20.2.2 hin20 hat20 (g := (mkF m 12 #[(vR a1), (vI 3), (vR a2), (vI 3), (vI 4), (vI 3), (vI x2)] [(.int 3), (.ref a1)])) rfl rfl (hb hby dj52_21_12)) ?_
 show oG p e below P m T19 13 #[(vR a1), (vI 3), (vR a2), (vI 3), (vI 4), (vI 3), (vI x2)] [(.int x3)]
 refine iT X19 hx hby dj52_21_13 (l' := #[(vR a1), (vI 3), (vR a2), (vI 3), (vI 4), (vI 3), (vI x3)]) rfl ?_
 refine iB X19 hx hby dj52_21_15 rfl ?_
 refine sC X19 hx hby dj52_21_17 (v := 255) rfl ?_
 refine cY X19 hx hby dj52_21_20 (pc' := 26) (XT.ii_le_t hx3b) (by decide) ?_
 refine aA X19 hx hby dj52_21_26 rfl rfl ?_
 refine iA X19 hx hby dj52_21_27 rfl ?_
 refine iB X19 hx hby dj52_21_28 rfl ?_
 refine Go.by (fun _ => XS.i2b X19.here hx rfl (hb hby dj52_21_30) rfl) ?_
 have av21 := V19
 obtain ⟨cl21, Ar21, q21, Sz21, Nn21, Ha21, Gf21⟩ := av21
 have hin21 : ¬ ((3 : Int32) < 0 ∨ cl21.slots.size ≤ ((3 : Int32)).toNatClampNeg) := inb_of Sz21 ⟨by decide, by decide⟩
 obtain ⟨T22, h22, X22, e22, W22, st22⟩ := stB X19 hx hZ e19 Ar21 (j := (3 : Int32)) hin21 (g := (mkF m 31 #[(vR a1), (vI 3), (vR a2), (vI 3), (vI 4), (vI 3), (vI x3)] [(.int (x3.toInt8.toInt32)), (.int 3), (.ref a2)])) rfl rfl (hb hby dj52_21_31)
 have W22' : Wr h19 h22 a2 ((3 : Int32)).toNatClampNeg (.int (x3.toInt8.toInt32)) := (by have q : Wr h19 h22 a2 ((3 : Int32)).toNatClampNeg (.int ((x3.toInt8.toInt32)).toInt8.toInt32) := W22; rw [own_bb] at q; exact q)
 have V22 : Arv Z h22 a2 k2 .byte (4 : Int32) [(.int (x0.toInt8.toInt32)), (.int (x1.toInt8.toInt32)), (.int (x2.toInt8.toInt32)), (.int (x3.toInt8.toInt32))] (.int 0) := Arv.set Ar21 q21 Sz21 Nn21 Ha21 Gf21 (fits_nar_byte _) W22' 3 rfl (Nat.le_of_ble_eq_true rfl)
 have N22 := Fr.snoc X22 N19 g_a2
 have f22_0 := Nat.le_trans f19_0 (Keep.of_wr W22).1
 have f22_1 := Keep.wr f19_1 W22 (Or.inl (List.mem_of_getElem? (i := 0) rfl))
 have f22_2 := Arv.other f19_2 W22 ne12
 refine Go.by st22 ?_
 show oG p e below P m T22 32 #[(vR a1), (vI 3), (vR a2), (vI 3), (vI 4), (vI 3), (vI x3)] []
 refine iI X22 hx hby dj52_21_32 rfl (l' := #[(vR a1), (vI 4), (vR a2), (vI 3), (vI 4), (vI 3), (vI x3)]) rfl ?_
 refine iI X22 hx hby dj52_21_35 rfl (l' := #[(vR a1), (vI 4), (vR a2), (vI 4), (vI 4), (vI 3), (vI x3)]) rfl ?_
 refine iI X22 hx hby dj52_21_38 rfl (l' := #[(vR a1), (vI 4), (vR a2), (vI 4), (vI 4), (vI 4), (vI x3)]) rfl ?_
 refine gO X22 hx hby dj52_21_41 (pc' := 3) (by decide) ?_
 refine iB X22 hx hby dj52_21_3 rfl ?_
 refine iB X22 hx hby dj52_21_5 rfl ?_
 refine cY X22 hx hby dj52_21_7 (pc' := 44) (XT.ii_ge_t (by decide : ¬ (4 : Int32) < (4 : Int32))) (by decide) ?_
 refine iB X22 hx hby dj52_21_44 rfl ?_
 refine r_val hP hlk hret X22 hx hby dj52_21_46 rfl (Or.inl ⟨rfl, Or.inl rfl, _, rfl⟩) (by decide) ?_
 rw [e22]
 exact ⟨rfl, N22, f22_1, V22⟩
def Q_cmp3_4 (Z : State) (a1 : Addr) (k1 : ClassId) (x0 x1 x2 x3 : Int32) (h0 : Heap) (n0 : Nat) (v : Option Value) (h : Heap) (L : List Loc) : Prop := ∃ d k, v = some (.ref d) ∧ Fr n0 L ∧ Keep h0 h [] ∧ h0.size ≤ d ∧ Arv Z h d k .byte (4 : Int32) [(.int (x0.toInt8.toInt32)), (.int (x1.toInt8.toInt32)), (.int (x2.toInt8.toInt32)), (.int (x3.toInt8.toInt32))] (.int 0)
theorem rm_cmp3_4 (l : Launch) (Z : State) (a0 : Array Value) (hw : oW a0 Z) (ws : List Jvm.Cond) (a1 : Addr) (k1 : ClassId) (x0 x1 x2 x3 : Int32) (h0 : Heap) (n0 : Nat) (Z0 : n0 ≤ h0.size) (V1 : Arv Z h0 a1 k1 .char (4 : Int32) [(.int x0), (.int x1), (.int x2), (.int x3)] (.int 0)) (hx0a : ¬ x0 < 0) (hx0b : ¬ (255 : Int32) < x0) (hx1a : ¬ x1 < 0) (hx1b : ¬ (255 : Int32) < x1) (hx2a : ¬ x2 < 0) (hx2b : ¬ (255 : Int32) < x2) (hx3a : ¬ x3 < 0) (hx3b : ¬ (255 : Int32) < x3) :
   oM l oY19 j52_16 6 (some (.array .byte)) ws (own_R 1 1 4 30) #[(.ref a1), (.int 0), (.int 4)] Z h0 (Q_cmp3_4 Z a1 k1 x0 x1 x2 x3 h0 n0) := by
 refine own_open (n0 := n0) (cn := "java/lang/StringUTF16") rfl (plainFor_of_name pn2) (L0 := #[(vR a1), (vI 0), (vI 4), .unset, .unset, .unset]) (fun _ => by first | (simp [entryFrame, mkF, argsToLocals, Value.category]; done) | rfl) ?_
 intro p e s m below meth c s₁ P hx hby hml hown hnm X0 e0 N0 hlk hret hZ hP
 refine iA X0 hx hby dj52_16_0 rfl ?_
 obtain ⟨T11, h11, k11, X11, e11, E11, A11, st11⟩ := newP X0 hx hZ (aty := .byte) (tw_20 hw) e0 (g := (mkF m 1 #[(vR a1), (vI 0), (vI 4), .unset, .unset, .unset] [(.int 4)])) rfl (hb hby dj52_16_1) rfl (by decide) (cap := 4) (by decide) (by decide) (by decide) (by decide)
 obtain ⟨b11, g11⟩ : ∃ z, z = h0.size := ⟨_, rfl⟩
 rw [← g11] at A11 st11
 have g_b11 : n0 ≤ b11 := Nat.le_trans Z0 (Nat.le_of_eq g11.symm)
 have sz_b11 : h0.size ≤ b11 := Nat.le_trans (Keep.refl h0 []).1 (Nat.le_of_eq g11.symm)
 have ne_a1_b11 : a1 ≠ b11 := Nat.ne_of_lt (Nat.lt_of_lt_of_le (V1.lt) (Nat.le_of_eq g11.symm))
 have f11_0 := Nat.le_trans Z0 E11.1
 have f11_1 := Keep.ext (Keep.refl h0 []) E11
 have f11_2 := Arv.ext V1 E11
 refine Go.by st11 ?_
 have V11 : Arv Z h11 b11 k11 .byte (4 : Int32) [(.int 0), (.int 0), (.int 0), (.int 0)] (.int 0) := (Arv.new A11 (by decide)).pad (pad_rep [] (.int 0) 4)
 show oG p e below P m T11 3 #[(vR a1), (vI 0), (vI 4), .unset, .unset, .unset] [(.ref b11)]
 refine aS X11 hx hby dj52_16_3 rfl (l' := #[(vR a1), (vI 0), (vI 4), (vR b11), .unset, .unset]) rfl ?_
 refine aA X11 hx hby dj52_16_4 rfl rfl ?_
 refine iA X11 hx hby dj52_16_5 rfl ?_
 refine aA X11 hx hby dj52_16_6 rfl rfl ?_
 refine iC X11 hx hby dj52_16_7 (v := 0) rfl ?_
 refine iA X11 hx hby dj52_16_8 rfl ?_
 refine c_stat 0 X11 hx hby hml hZ hown (tw_87 hw) (tw_88 hw) (tw_85 hw) (tw_89 hw) (rm_cmp5_4 l Z a0 hw [] a1 k1 b11 k11 x0 x1 x2 x3 h11 n0 f11_0 f11_2 V11 ne_a1_b11 g_b11 hx0a hx0b hx1a hx1b hx2a hx2b hx3a hx3b) e11 dj52_16_9 [(.ref a1), (.int 0), (.ref b11), (.int 0), (.int 4)] [] (lenOf pd21 rfl) rfl rfl (by rfl) (by decide) ?_
 rintro _ T12 Lc12 ⟨rfl, N12q, K12, V12⟩ X12
 have N12 := Fr.app N0 N12q
 have f12_0 := Nat.le_trans f11_0 K12.1
 have f12_1 := Keep.trans f11_1 K12 (allS (Or.inr sz_b11) all0)
 have f12_2 := Arv.keep f11_2 K12 (ninS ne_a1_b11 nin0)
 refine iT X12 hx hby dj52_16_12 (l' := #[(vR a1), (vI 0), (vI 4), (vR b11), (vI 4), .unset]) rfl ?_
 refine iB X12 hx hby dj52_16_14 rfl ?_
 refine iA X12 hx hby dj52_16_16 rfl ?_
 refine cY X12 hx hby dj52_16_17 (pc' := 57) (XT.ii_eq_t (by decide : (4 : Int32) = (4 : Int32))) (by decide) ?_
 refine aA X12 hx hby dj52_16_57 rfl rfl ?_
 refine r_val hP hlk hret X12 hx hby dj52_16_58 rfl (Or.inr (Or.inr (Or.inr (Or.inr ⟨rfl, rfl, rfl⟩)))) (by decide) ?_
 exact ⟨b11, k11, rfl, N12, f12_1, sz_b11, V12⟩
def Q_cfal_4 (Z : State) (a1 : Addr) (k1 : ClassId) (x0 x1 x2 x3 : Int32) (h0 : Heap) (n0 : Nat) (v : Option Value) (h : Heap) (L : List Loc) : Prop := v = some (.int 0) ∧ Fr n0 L ∧ h = h0
theorem rm_cfal_4 (l : Launch) (Z : State) (a0 : Array Value) (hw : oW a0 Z) (ws : List Jvm.Cond) (a1 : Addr) (k1 : ClassId) (x0 x1 x2 x3 : Int32) (h0 : Heap) (n0 : Nat) (Z0 : n0 ≤ h0.size) (V1 : Arv Z h0 a1 k1 .byte (4 : Int32) [(.int (x0.toInt8.toInt32)), (.int (x1.toInt8.toInt32)), (.int (x2.toInt8.toInt32)), (.int (x3.toInt8.toInt32))] (.int 0)) :
   oM l oY20 j52_15 2 (some .byte) ws (own_R 0 0 0 0) #[(.ref a1), (.int 4)] Z h0 (Q_cfal_4 Z a1 k1 x0 x1 x2 x3 h0 n0) := by
 refine own_open (n0 := n0) (cn := "java/lang/StringUTF16") rfl (plainFor_of_name pn2) (L0 := #[(vR a1), (vI 4)]) (fun _ => by first | (simp [entryFrame, mkF, argsToLocals, Value.category]; done) | rfl) ?_
 intro p e s m below meth c s₁ P hx hby hml hown hnm X0 e0 N0 hlk hret hZ hP
 refine iA X0 hx hby dj52_15_0 rfl ?_
 refine aA X0 hx hby dj52_15_1 rfl rfl ?_
 have av11 := V1
 obtain ⟨cl11, Ar11, -, Sz11, Nn11, -, -⟩ := av11
 refine Go.by (X0.arraylength hx (by rw [e0]; exact Ar11.1) (State.isArrayOf_alike hZ.alike Ar11.2.1) (g := (mkF m 2 #[(vR a1), (vI 4)] [(.ref a1), (.int 4)])) rfl rfl (hb hby dj52_15_2)) ?_
 rw [len_of Sz11 Nn11]
 show oG p e below P m s₁ 3 #[(vR a1), (vI 4)] [(.int 4), (.int 4)]
 refine iM X0 hx hby dj52_15_3 (v := 0) rfl ?_
 refine bC X0 hx hby dj52_15_4 (v := 31) rfl ?_
 refine Go.by (fun _ => XS.iushr X0.here hx rfl (hb hby dj52_15_6) rfl) ?_
 show oG p e below P m s₁ 7 #[(vR a1), (vI 4)] [(.int (((0 : Int32).toUInt32 >>> ((31 : Int32) &&& 31).toUInt32).toInt32))]
 refine Go.by (fun _ => XS.i2b X0.here hx rfl (hb hby dj52_15_7) rfl) ?_
 show oG p e below P m s₁ 8 #[(vR a1), (vI 4)] [(.int ((((0 : Int32).toUInt32 >>> ((31 : Int32) &&& 31).toUInt32).toInt32).toInt8.toInt32))]
 show oG p e below P m s₁ 8 #[(vR a1), (vI 4)] [(.int 0)]
 refine r_val hP hlk hret X0 hx hby dj52_15_8 rfl (Or.inl ⟨rfl, Or.inr (Or.inr (Or.inl rfl)), _, rfl⟩) (by decide) ?_
 rw [e0]
 exact ⟨rfl, N0, rfl⟩
def Q_si4_4 (Z : State) (a0_ a1 : Addr) (k1 : ClassId) (x0 x1 x2 x3 cs : Int32) (h0 : Heap) (n0 : Nat) (v : Option Value) (h : Heap) (L : List Loc) : Prop := v = none ∧ Fr n0 L ∧ Keep h0 h [a0_] ∧ Fld Z h a0_ "java/lang/String" "coder" "B" (.int 0) ∧ ∃ d k, h0.size ≤ d ∧ Fld Z h a0_ "java/lang/String" "value" "[B" (.ref d) ∧ Arv Z h d k .byte (4 : Int32) [(.int (x0.toInt8.toInt32)), (.int (x1.toInt8.toInt32)), (.int (x2.toInt8.toInt32)), (.int (x3.toInt8.toInt32))] (.int 0)
theorem rm_si4_4 (l : Launch) (Z : State) (a0 : Array Value) (hw : oW a0 Z) (ws : List Jvm.Cond) (a0_ a1 : Addr) (k1 : ClassId) (x0 x1 x2 x3 cs : Int32) (h0 : Heap) (n0 : Nat) (Z0 : n0 ≤ h0.size) (O0 : Old Z n0 h0) (Scs : Sta Z Z.heap "java/lang/String" "COMPACT_STRINGS" "Z" (.int cs)) (hcs : ¬ cs = (0 : Int32)) (E0 : Exa Z h0 a0_ "java/lang/String") (g_a0_ : n0 ≤ a0_) (F0c : Fld Z h0 a0_ "java/lang/String" "coder" "B" (.int 0)) (F0v : Fld Z h0 a0_ "java/lang/String" "value" "[B" .null) (V1 : Arv Z h0 a1 k1 .char (4 : Int32) [(.int x0), (.int x1), (.int x2), (.int x3)] (.int 0)) (hx0a : ¬ x0 < 0) (hx0b : ¬ (255 : Int32) < x0) (hx1a : ¬ x1 < 0) (hx1b : ¬ (255 : Int32) < x1) (hx2a : ¬ x2 < 0) (hx2b : ¬ (255 : Int32) < x2) (hx3a : ¬ x3 < 0) (hx3b : ¬ (255 : Int32) < x3) :
   oM l oY15 j42_149 6 none ws (own_R 2 1 4 50) #[(.ref a0_), (.ref a1), (.int 0), (.int 4), .null] Z h0 (Q_si4_4 Z a0_ a1 k1 x0 x1 x2 x3 cs h0 n0) := by
 refine own_open (n0 := n0) (cn := "java/lang/String") rfl (plainFor_of_name pn0) (L0 := #[(vR a0_), (vR a1), (vI 0), (vI 4), .val .null, .unset]) (fun _ => by first | (simp [entryFrame, mkF, argsToLocals, Value.category]; done) | rfl) ?_
 intro p e s m below meth c s₁ P hx hby hml hown hnm X0 e0 N0 hlk hret hZ hP
 have ne01 : a0_ ≠ a1 := fun q => by obtain ⟨c, Ar, -⟩ := V1; exact ne_arr E0 (tw_7 hw) Ar q
 show oG p e below P m s₁ 0 #[(vR a0_), (vR a1), (vI 0), (vI 4), .val .null, .unset] []
 refine aA X0 hx hby dj42_149_0 rfl rfl ?_
 obtain ⟨T11, X11, e11, st11⟩ := initO X0 hx hZ hown (tw_16 hw) (tw_17 hw) (tw_18 hw) e0 (g := (mkF m 1 #[(vR a0_), (vR a1), (vI 0), (vI 4), .val .null, .unset] [(.ref a0_)])) rfl (by rw [hml]; rfl) rfl (hb hby dj42_149_1) (by decide) (W := 0) (by show 2 * 0 + _ ≤ _; exact Nat.le_of_eq rfl) (by decide)
 refine Go.by st11 ?_
 show oG p e below P m T11 4 #[(vR a0_), (vR a1), (vI 0), (vI 4), .val .null, .unset] []
 refine iA X11 hx hby dj42_149_4 rfl ?_
 refine fY X11 hx hby dj42_149_5 (pc' := 27) (XT.i0_ne_t (by decide : ¬ (4 : Int32) = (0 : Int32))) (by decide) ?_
 obtain ⟨T12, X12, e12, st12⟩ := getS2 X11 hx hZ hown (host := "") (Or.inl (tw_47 hw)) Via.refl e11 (Scs.ext O0.2) (g := (mkF m 27 #[(vR a0_), (vR a1), (vI 0), (vI 4), .val .null, .unset] [])) rfl (hb hby dj42_149_27)
 refine Go.by st12 ?_
 show oG p e below P m T12 30 #[(vR a0_), (vR a1), (vI 0), (vI 4), .val .null, .unset] [(.int cs)]
 refine fN X12 hx hby dj42_149_30 (XT.i0_eq_f hcs) ?_
 refine aA X12 hx hby dj42_149_33 rfl rfl ?_
 refine iA X12 hx hby dj42_149_34 rfl ?_
 refine iA X12 hx hby dj42_149_35 rfl ?_
 refine c_stat 0 X12 hx hby hml hZ hown (tw_83 hw) (tw_84 hw) (tw_85 hw) (tw_86 hw) (rm_cmp3_4 l Z a0 hw [] a1 k1 x0 x1 x2 x3 h0 n0 Z0 V1 hx0a hx0b hx1a hx1b hx2a hx2b hx3a hx3b) e12 dj42_149_36 [(.ref a1), (.int 0), (.int 4)] [] (lenOf pd22 rfl) rfl rfl (by rfl) (by decide) ?_
 rintro _ T13 Lc13 ⟨d13, kd13, rfl, N13q, K13, z13, V13⟩ X13
 have N13 := Fr.app N0 N13q
 have f13_0 := Nat.le_trans Z0 K13.1
 have f13_1 := Keep.trans (Keep.refl h0 [a0_]) K13 all0
 have f13_2 := Old.keep O0 K13 all0
 have f13_3 := Exa.keep E0 K13
 have f13_4 := Fld.keep F0c K13 nin0
 have f13_5 := Fld.keep F0v K13 nin0
 have f13_6 := Arv.keep V1 K13 nin0
 have g_d13 : n0 ≤ d13 := Nat.le_trans Z0 z13
 have sz_d13 : h0.size ≤ d13 := z13
 have ne0d13 : a0_ ≠ d13 := Nat.ne_of_lt (Nat.lt_of_lt_of_le E0.lt z13)
 refine aT X13 hx hby dj42_149_39 rfl (l' := #[(vR a0_), (vR a1), (vI 0), (vI 4), .val .null, (vR d13)]) rfl ?_
 refine aA X13 hx hby dj42_149_41 rfl rfl ?_
 refine aB X13 hx hby dj42_149_42 rfl rfl ?_
 refine iA X13 hx hby dj42_149_44 rfl ?_
 refine c_stat 1 X13 hx hby hml hZ hown (tw_90 hw) (tw_91 hw) (tw_85 hw) (tw_92 hw) (rm_cfal_4 l Z a0 hw [] d13 kd13 x0 x1 x2 x3 T13.heap n0 f13_0 V13) rfl dj42_149_45 [(.ref d13), (.int 4)] [(.ref a0_)] (lenOf pd23 rfl) rfl rfl (by rfl) (by decide) ?_
 rintro _ T14 Lc14 ⟨rfl, N14q, q14⟩ X14
 have N14 := Fr.app N13 N14q
 obtain ⟨T15, h15, X15, e15, W15, st15⟩ := putFN X14 hx hZ hown (tw_26 hw) Via.refl q14 f13_4 f13_3 (Or.inr ⟨(tw_22 hw), rfl, hnm⟩) (tw_7 hw) (ty := .byte) (v' := (.int 0)) (by decide) rfl rfl (g := (mkF m 48 #[(vR a0_), (vR a1), (vI 0), (vI 4), .val .null, (vR d13)] [(.int 0), (.ref a0_)])) rfl rfl (hb hby dj42_149_48)
 refine Go.by st15 ?_
 have N15 := Fr.snoc X15 N14 g_a0_
 have f15_0 := Nat.le_trans f13_0 (Keep.of_wr W15).1
 have f15_1 := Keep.wr f13_1 W15 (Or.inl (List.mem_of_getElem? (i := 0) rfl))
 have f15_2 := Old.wr f13_2 W15 g_a0_
 have f15_3 := Exa.wr W15 f13_3
 have f15_4 := Fld.same W15 f13_4
 have f15_5 := Fld.other W15 f13_5 (Or.inr (slot_ne (Or.inr (tw_21 hw)) (Or.inr (tw_22 hw)) (by decide) (t := (.array .byte)) (t' := .byte) (by decide) (by decide)))
 have f15_6 := Arv.other f13_6 W15 (Ne.symm ne01)
 have f15_7 := Arv.other V13 W15 (Ne.symm ne0d13)
 show oG p e below P m T15 51 #[(vR a0_), (vR a1), (vI 0), (vI 4), .val .null, (vR d13)] []
 refine aA X15 hx hby dj42_149_51 rfl rfl ?_
 refine aB X15 hx hby dj42_149_52 rfl rfl ?_
 obtain ⟨T16, h16, X16, e16, W16, st16⟩ := putF X15 hx hZ hown (host := "") (Or.inl (tw_25 hw)) Via.refl e15 f15_5 f15_3 (Or.inr ⟨(tw_21 hw), rfl, hnm⟩) (tw_7 hw) (ty := (.array .byte)) (by decide) rfl rfl (g := (mkF m 54 #[(vR a0_), (vR a1), (vI 0), (vI 4), .val .null, (vR d13)] [(.ref d13), (.ref a0_)])) rfl rfl (hb hby dj42_149_54)
 refine Go.by st16 ?_
 have N16 := Fr.snoc X16 N15 g_a0_
 have f16_0 := Nat.le_trans f15_0 (Keep.of_wr W16).1
 have f16_1 := Keep.wr f15_1 W16 (Or.inl (List.mem_of_getElem? (i := 0) rfl))
 have f16_2 := Old.wr f15_2 W16 g_a0_
 have f16_3 := Exa.wr W16 f15_3
 have f16_4 := Fld.other W16 f15_4 (Or.inr (slot_ne (Or.inr (tw_22 hw)) (Or.inr (tw_21 hw)) (by decide) (t := .byte) (t' := (.array .byte)) (by decide) (by decide)))
 have f16_5 := Fld.same W16 f15_5
 have f16_6 := Arv.other f15_6 W16 (Ne.symm ne01)
 have f16_7 := Arv.other f15_7 W16 (Ne.symm ne0d13)
 show oG p e below P m T16 57 #[(vR a0_), (vR a1), (vI 0), (vI 4), .val .null, (vR d13)] []
 refine own_fin hP hlk X16 (v := none) (fun _ => rfl) (by decide) (by decide) ?_ (fun fs hr => X16.returnOut hx hret (hb hby dj42_149_57) hr)
 rw [e16]
 exact ⟨rfl, N16, f16_1, f16_4, d13, kd13, sz_d13, f16_5, f16_7⟩
def Q_si1_4 (Z : State) (a0_ a1 : Addr) (k1 : ClassId) (x0 x1 x2 x3 cs : Int32) (h0 : Heap) (n0 : Nat) (v : Option Value) (h : Heap) (L : List Loc) : Prop := v = none ∧ Fr n0 L ∧ Keep h0 h [a0_] ∧ Fld Z h a0_ "java/lang/String" "coder" "B" (.int 0) ∧ ∃ d k, h0.size ≤ d ∧ Fld Z h a0_ "java/lang/String" "value" "[B" (.ref d) ∧ Arv Z h d k .byte (4 : Int32) [(.int (x0.toInt8.toInt32)), (.int (x1.toInt8.toInt32)), (.int (x2.toInt8.toInt32)), (.int (x3.toInt8.toInt32))] (.int 0)
theorem rm_si1_4 (l : Launch) (Z : State) (a0 : Array Value) (hw : oW a0 Z) (ws : List Jvm.Cond) (a0_ a1 : Addr) (k1 : ClassId) (x0 x1 x2 x3 cs : Int32) (h0 : Heap) (n0 : Nat) (Z0 : n0 ≤ h0.size) (O0 : Old Z n0 h0) (Scs : Sta Z Z.heap "java/lang/String" "COMPACT_STRINGS" "Z" (.int cs)) (hcs : ¬ cs = (0 : Int32)) (E0 : Exa Z h0 a0_ "java/lang/String") (g_a0_ : n0 ≤ a0_) (F0c : Fld Z h0 a0_ "java/lang/String" "coder" "B" (.int 0)) (F0v : Fld Z h0 a0_ "java/lang/String" "value" "[B" .null) (V1 : Arv Z h0 a1 k1 .char (4 : Int32) [(.int x0), (.int x1), (.int x2), (.int x3)] (.int 0)) (hx0a : ¬ x0 < 0) (hx0b : ¬ (255 : Int32) < x0) (hx1a : ¬ x1 < 0) (hx1b : ¬ (255 : Int32) < x1) (hx2a : ¬ x2 < 0) (hx2b : ¬ (255 : Int32) < x2) (hx3a : ¬ x3 < 0) (hx3b : ¬ (255 : Int32) < x3) :
   oM l oY16 j42_3 2 none ws (own_R 3 1 4 75) #[(.ref a0_), (.ref a1)] Z h0 (Q_si1_4 Z a0_ a1 k1 x0 x1 x2 x3 cs h0 n0) := by
 refine own_open (n0 := n0) (cn := "java/lang/String") rfl (plainFor_of_name pn0) (L0 := #[(vR a0_), (vR a1)]) (fun _ => by first | (simp [entryFrame, mkF, argsToLocals, Value.category]; done) | rfl) ?_
 intro p e s m below meth c s₁ P hx hby hml hown hnm X0 e0 N0 hlk hret hZ hP
 have ne01 : a0_ ≠ a1 := fun q => by obtain ⟨c, Ar, -⟩ := V1; exact ne_arr E0 (tw_7 hw) Ar q
 show oG p e below P m s₁ 0 #[(vR a0_), (vR a1)] []
 refine aA X0 hx hby dj42_3_0 rfl rfl ?_
 refine aA X0 hx hby dj42_3_1 rfl rfl ?_
 refine iC X0 hx hby dj42_3_2 (v := 0) rfl ?_
 refine aA X0 hx hby dj42_3_3 rfl rfl ?_
 have av5 := V1
 obtain ⟨cl5, Ar5, -, Sz5, Nn5, -, -⟩ := av5
 refine Go.by (X0.arraylength hx (by rw [e0]; exact Ar5.1) (State.isArrayOf_alike hZ.alike Ar5.2.1) (g := (mkF m 4 #[(vR a0_), (vR a1)] [(.ref a1), (.int 0), (.ref a1), (.ref a0_)])) rfl rfl (hb hby dj42_3_4)) ?_
 rw [len_of Sz5 Nn5]
 show oG p e below P m s₁ 5 #[(vR a0_), (vR a1)] [(.int 4), (.int 0), (.ref a1), (.ref a0_)]
 refine w_aconstNull X0 hx hby dj42_3_5 ?_
 obtain ⟨_, _, ⟨T6, L6, k6, n6⟩, -, X6, ⟨Lc6, hQ6, l6, y6, z6⟩, st6⟩ := X0.specialBack hx (y := oY15) rfl hown (mvT hZ (tw_12 hw)) (mvT hZ (tw_13 hw)) (mvT hZ (tw_15 hw)) (by decide) (backOf (W := 0) (rm_si4_4 l Z a0 hw [] a0_ a1 k1 x0 x1 x2 x3 cs h0 n0 Z0 O0 Scs hcs E0 g_a0_ F0c F0v V1 hx0a hx0b hx1a hx1b hx2a hx2b hx3a hx3b) hZ (tw_15 hw) (tw_8 hw) (by decide) (by decide)) (g := (mkF m 6 #[(vR a0_), (vR a1)] [.null, (.int 4), (.int 0), (.ref a1), (.ref a0_)])) rfl (by rw [hml]; rfl) (Steps.refl _) (a := a0_) (argsL := [(.ref a1), (.int 0), (.int 4), .null]) (rest := []) (lenOf pd17 rfl) rfl (by show 2 * 0 + _ ≤ _; exact Nat.le_of_eq rfl) (hb hby dj42_3_6) (fun _ _ => ⟨rfl, e0, (by decide : 0 + 1 ≤ _), (by decide : 0 + 4 ≤ _)⟩)
 dsimp only [Pt.U, Pt.locs, Pt.cells, Pt.slots] at X6 l6 y6 z6 st6 hQ6
 subst l6 y6 z6
 obtain ⟨rfl, N6q, K6, Gc6, d6, kd6, z6, Gv6, V6⟩ := hQ6
 have N6 := Fr.app N0 N6q
 refine Go.by (fun t k => st6.trans k) ?_
 have f6_0 := Nat.le_trans Z0 K6.1
 have f6_1 := Keep.trans (Keep.refl h0 [a0_]) K6 (allS (Or.inl (List.mem_of_getElem? (i := 0) rfl)) all0)
 have f6_2 := Old.keep O0 K6 (allS g_a0_ all0)
 have f6_3 := Exa.keep E0 K6
 have f6_4 := Arv.keep V1 K6 (ninS (Ne.symm ne01) nin0)
 show oG p e below P m T6 9 #[(vR a0_), (vR a1)] []
 refine own_fin hP hlk X6 (v := none) (fun _ => rfl) (by decide) (by decide) ?_ (fun fs hr => X6.returnOut hx hret (hb hby dj42_3_9) hr)
 exact ⟨rfl, N6, f6_1, Gc6, d6, kd6, z6, Gv6, V6⟩
def Q_cmp5_5 (Z : State) (a1 : Addr) (k1 : ClassId) (a2 : Addr) (k2 : ClassId) (x0 x1 x2 x3 x4 : Int32) (h0 : Heap) (n0 : Nat) (v : Option Value) (h : Heap) (L : List Loc) : Prop := v = some (.int 5) ∧ Fr n0 L ∧ Keep h0 h [a2] ∧ Arv Z h a2 k2 .byte (5 : Int32) [(.int (x0.toInt8.toInt32)), (.int (x1.toInt8.toInt32)), (.int (x2.toInt8.toInt32)), (.int (x3.toInt8.toInt32)), (.int (x4.toInt8.toInt32))] (.int 0)
theorem rm_cmp5_5 (l : Launch) (Z : State) (a0 : Array Value) (hw : oW a0 Z) (ws : List Jvm.Cond) (a1 : Addr) (k1 : ClassId) (a2 : Addr) (k2 : ClassId) (x0 x1 x2 x3 x4 : Int32) (h0 : Heap) (n0 : Nat) (Z0 : n0 ≤ h0.size) (V1 : Arv Z h0 a1 k1 .char (5 : Int32) [(.int x0), (.int x1), (.int x2), (.int x3), (.int x4)] (.int 0)) (V2 : Arv Z h0 a2 k2 .byte (5 : Int32) [(.int 0), (.int 0), (.int 0), (.int 0), (.int 0)] (.int 0)) (ne12 : a1 ≠ a2) (g_a2 : n0 ≤ a2) (hx0a : ¬ x0 < 0) (hx0b : ¬ (255 : Int32) < x0) (hx1a : ¬ x1 < 0) (hx1b : ¬ (255 : Int32) < x1) (hx2a : ¬ x2 < 0) (hx2b : ¬ (255 : Int32) < x2) (hx3a : ¬ x3 < 0) (hx3b : ¬ (255 : Int32) < x3) (hx4a : ¬ x4 < 0) (hx4b : ¬ (255 : Int32) < x4) :
   oM l oY18 j52_21 7 (some .int) ws (own_R 0 0 0 0) #[(.ref a1), (.int 0), (.ref a2), (.int 0), (.int 5)] Z h0 (Q_cmp5_5 Z a1 k1 a2 k2 x0 x1 x2 x3 x4 h0 n0) := by
 refine own_open (n0 := n0) (cn := "java/lang/StringUTF16") rfl (plainFor_of_name pn2) (L0 := #[(vR a1), (vI 0), (vR a2), (vI 0), (vI 5), .unset, .unset]) (fun _ => by first | (simp [entryFrame, mkF, argsToLocals, Value.category]; done) | rfl) ?_
 intro p e s m below meth c s₁ P hx hby hml hown hnm X0 e0 N0 hlk hret hZ hP
 refine iC X0 hx hby dj52_21_0 (v := 0) rfl ?_
 refine iT X0 hx hby dj52_21_1 (l' := #[(vR a1), (vI 0), (vR a2), (vI 0), (vI 5), (vI 0), .unset]) rfl ?_
 refine iB X0 hx hby dj52_21_3 rfl ?_
 refine iB X0 hx hby dj52_21_5 rfl ?_
 refine cN X0 hx hby dj52_21_7 (XT.ii_ge_f (by decide : (0 : Int32) < (5 : Int32))) ?_
 refine aA X0 hx hby dj52_21_10 rfl rfl ?_
 refine iA X0 hx hby dj52_21_11 rfl ?_
 have av11 := V1
 obtain ⟨cl11, Ar11, -, Sz11, Nn11, Ha11, Gf11⟩ := av11
 have hin11 : ¬ ((0 : Int32) < 0 ∨ cl11.slots.size ≤ ((0 : Int32)).toNatClampNeg) := inb_of Sz11 ⟨by decide, by decide⟩
 have hat11 : cl11.slots[((0 : Int32)).toNatClampNeg]? = some (.int x0) := Ha11.at hin11 rfl
 refine Go.by (X0.caload hx (j := (0 : Int32)) (v := (.int x0)) (by rw [e0]; exact Ar11.1) (State.isArrayOf_alike hZ.alike Ar11.2.1) Ar11.2.2 hin11 hat11 (g := (mkF m 12 #[(vR a1), (vI 0), (vR a2), (vI 0), (vI 5), (vI 0), .unset] [(.int 0), (.ref a1)])) rfl rfl (hb hby dj52_21_12)) ?_
 show oG p e below P m s₁ 13 #[(vR a1), (vI 0), (vR a2), (vI 0), (vI 5), (vI 0), .unset] [(.int x0)]
 refine iT X0 hx hby dj52_21_13 (l' := #[(vR a1), (vI 0), (vR a2), (vI 0), (vI 5), (vI 0), (vI x0)]) rfl ?_
 refine iB X0 hx hby dj52_21_15 rfl ?_
 refine sC X0 hx hby dj52_21_17 (v := 255) rfl ?_
 refine cY X0 hx hby dj52_21_20 (pc' := 26) (XT.ii_le_t hx0b) (by decide) ?_
 refine aA X0 hx hby dj52_21_26 rfl rfl ?_
 refine iA X0 hx hby dj52_21_27 rfl ?_
 refine iB X0 hx hby dj52_21_28 rfl ?_
 refine Go.by (fun _ => XS.i2b X0.here hx rfl (hb hby dj52_21_30) rfl) ?_
 have av12 := V2
 obtain ⟨cl12, Ar12, q12, Sz12, Nn12, Ha12, Gf12⟩ := av12
 have hin12 : ¬ ((0 : Int32) < 0 ∨ cl12.slots.size ≤ ((0 : Int32)).toNatClampNeg) := inb_of Sz12 ⟨by decide, by decide⟩
 obtain ⟨T13, h13, X13, e13, W13, st13⟩ := stB X0 hx hZ e0 Ar12 (j := (0 : Int32)) hin12 (g := (mkF m 31 #[(vR a1), (vI 0), (vR a2), (vI 0), (vI 5), (vI 0), (vI x0)] [(.int (x0.toInt8.toInt32)), (.int 0), (.ref a2)])) rfl rfl (hb hby dj52_21_31)
 have W13' : Wr h0 h13 a2 ((0 : Int32)).toNatClampNeg (.int (x0.toInt8.toInt32)) := (by have q : Wr h0 h13 a2 ((0 : Int32)).toNatClampNeg (.int ((x0.toInt8.toInt32)).toInt8.toInt32) := W13; rw [own_bb] at q; exact q)
 have V13 : Arv Z h13 a2 k2 .byte (5 : Int32) [(.int (x0.toInt8.toInt32)), (.int 0), (.int 0), (.int 0), (.int 0)] (.int 0) := Arv.set Ar12 q12 Sz12 Nn12 Ha12 Gf12 (fits_nar_byte _) W13' 0 rfl (Nat.le_of_ble_eq_true rfl)
 have N13 := Fr.snoc X13 N0 g_a2
 have f13_0 := Nat.le_trans Z0 (Keep.of_wr W13).1
 have f13_1 := Keep.wr (Keep.refl h0 [a2]) W13 (Or.inl (List.mem_of_getElem? (i := 0) rfl))
 have f13_2 := Arv.other V1 W13 ne12
 refine Go.by st13 ?_
 show oG p e below P m T13 32 #[(vR a1), (vI 0), (vR a2), (vI 0), (vI 5), (vI 0), (vI x0)] []
 refine iI X13 hx hby dj52_21_32 rfl (l' := #[(vR a1), (vI 1), (vR a2), (vI 0), (vI 5), (vI 0), (vI x0)]) rfl ?_
 refine iI X13 hx hby dj52_21_35 rfl (l' := #[(vR a1), (vI 1), (vR a2), (vI 1), (vI 5), (vI 0), (vI x0)]) rfl ?_
 refine iI X13 hx hby dj52_21_38 rfl (l' := #[(vR a1), (vI 1), (vR a2), (vI 1), (vI 5), (vI 1), (vI x0)]) rfl ?_
 refine gO X13 hx hby dj52_21_41 (pc' := 3) (by decide) ?_
 refine iB X13 hx hby dj52_21_3 rfl ?_
 refine iB X13 hx hby dj52_21_5 rfl ?_
 refine cN X13 hx hby dj52_21_7 (XT.ii_ge_f (by decide : (1 : Int32) < (5 : Int32))) ?_
 refine aA X13 hx hby dj52_21_10 rfl rfl ?_
 refine iA X13 hx hby dj52_21_11 rfl ?_
 have av14 := f13_2
 obtain ⟨cl14, Ar14, -, Sz14, Nn14, Ha14, Gf14⟩ := av14
 have hin14 : ¬ ((1 : Int32) < 0 ∨ cl14.slots.size ≤ ((1 : Int32)).toNatClampNeg) := inb_of Sz14 ⟨by decide, by decide⟩
 have hat14 : cl14.slots[((1 : Int32)).toNatClampNeg]? = some (.int x1) := Ha14.at hin14 rfl
 refine Go.by (X13.caload hx (j := (1 : Int32)) (v := (.int x1)) (by rw [e13]; exact Ar14.1) (State.isArrayOf_alike hZ.alike Ar14.2.1) Ar14.2.2 hin14 hat14 (g := (mkF m 12 #[(vR a1), (vI 1), (vR a2), (vI 1), (vI 5), (vI 1), (vI x0)] [(.int 1), (.ref a1)])) rfl rfl (hb hby dj52_21_12)) ?_
 show oG p e below P m T13 13 #[(vR a1), (vI 1), (vR a2), (vI 1), (vI 5), (vI 1), (vI x0)] [(.int x1)]
 refine iT X13 hx hby dj52_21_13 (l' := #[(vR a1), (vI 1), (vR a2), (vI 1), (vI 5), (vI 1), (vI x1)]) rfl ?_
 refine iB X13 hx hby dj52_21_15 rfl ?_
 refine sC X13 hx hby dj52_21_17 (v := 255) rfl ?_
 refine cY X13 hx hby dj52_21_20 (pc' := 26) (XT.ii_le_t hx1b) (by decide) ?_
 refine aA X13 hx hby dj52_21_26 rfl rfl ?_
 refine iA X13 hx hby dj52_21_27 rfl ?_
 refine iB X13 hx hby dj52_21_28 rfl ?_
 refine Go.by (fun _ => XS.i2b X13.here hx rfl (hb hby dj52_21_30) rfl) ?_
 have av15 := V13
 obtain ⟨cl15, Ar15, q15, Sz15, Nn15, Ha15, Gf15⟩ := av15
 have hin15 : ¬ ((1 : Int32) < 0 ∨ cl15.slots.size ≤ ((1 : Int32)).toNatClampNeg) := inb_of Sz15 ⟨by decide, by decide⟩
 obtain ⟨T16, h16, X16, e16, W16, st16⟩ := stB X13 hx hZ e13 Ar15 (j := (1 : Int32)) hin15 (g := (mkF m 31 #[(vR a1), (vI 1), (vR a2), (vI 1), (vI 5), (vI 1), (vI x1)] [(.int (x1.toInt8.toInt32)), (.int 1), (.ref a2)])) rfl rfl (hb hby dj52_21_31)
 have W16' : Wr h13 h16 a2 ((1 : Int32)).toNatClampNeg (.int (x1.toInt8.toInt32)) := (by have q : Wr h13 h16 a2 ((1 : Int32)).toNatClampNeg (.int ((x1.toInt8.toInt32)).toInt8.toInt32) := W16; rw [own_bb] at q; exact q)
 have V16 : Arv Z h16 a2 k2 .byte (5 : Int32) [(.int (x0.toInt8.toInt32)), (.int (x1.toInt8.toInt32)), (.int 0), (.int 0), (.int 0)] (.int 0) := Arv.set Ar15 q15 Sz15 Nn15 Ha15 Gf15 (fits_nar_byte _) W16' 1 rfl (Nat.le_of_ble_eq_true rfl)
 have N16 := Fr.snoc X16 N13 g_a2
 have f16_0 := Nat.le_trans f13_0 (Keep.of_wr W16).1
 have f16_1 := Keep.wr f13_1 W16 (Or.inl (List.mem_of_getElem? (i := 0) rfl))
 have f16_2 := Arv.other f13_2 W16 ne12
 refine Go.by st16 ?_
 show oG p e below P m T16 32 #[(vR a1), (vI 1), (vR a2), (vI 1), (vI 5), (vI 1), (vI x1)] []
 refine iI X16 hx hby dj52_21_32 rfl (l' := #[(vR a1), (vI 2), (vR a2), (vI 1), (vI 5), (vI 1), (vI x1)]) rfl ?_
 refine iI X16 hx hby dj52_21_35 rfl (l' := #[(vR a1), (vI 2), (vR a2), (vI 2), (vI 5), (vI 1), (vI x1)]) rfl ?_
 refine iI X16 hx hby dj52_21_38 rfl (l' := #[(vR a1), (vI 2), (vR a2), (vI 2), (vI 5), (vI 2), (vI x1)]) rfl ?_
 refine gO X16 hx hby dj52_21_41 (pc' := 3) (by decide) ?_
 refine iB X16 hx hby dj52_21_3 rfl ?_
 refine iB X16 hx hby dj52_21_5 rfl ?_
 refine cN X16 hx hby dj52_21_7 (XT.ii_ge_f (by decide : (2 : Int32) < (5 : Int32))) ?_
 refine aA X16 hx hby dj52_21_10 rfl rfl ?_
 refine iA X16 hx hby dj52_21_11 rfl ?_
 have av17 := f16_2
 obtain ⟨cl17, Ar17, -, Sz17, Nn17, Ha17, Gf17⟩ := av17
 have hin17 : ¬ ((2 : Int32) < 0 ∨ cl17.slots.size ≤ ((2 : Int32)).toNatClampNeg) := inb_of Sz17 ⟨by decide, by decide⟩
 have hat17 : cl17.slots[((2 : Int32)).toNatClampNeg]? = some (.int x2) := Ha17.at hin17 rfl
 refine Go.by (X16.caload hx (j := (2 : Int32)) (v := (.int x2)) (by rw [e16]; exact Ar17.1) (State.isArrayOf_alike hZ.alike Ar17.2.1) Ar17.2.2 hin17 hat17 (g := (mkF m 12 #[(vR a1), (vI 2), (vR a2), (vI 2), (vI 5), (vI 2), (vI x1)] [(.int 2), (.ref a1)])) rfl rfl (hb hby dj52_21_12)) ?_
 show oG p e below P m T16 13 #[(vR a1), (vI 2), (vR a2), (vI 2), (vI 5), (vI 2), (vI x1)] [(.int x2)]
 refine iT X16 hx hby dj52_21_13 (l' := #[(vR a1), (vI 2), (vR a2), (vI 2), (vI 5), (vI 2), (vI x2)]) rfl ?_
 refine iB X16 hx hby dj52_21_15 rfl ?_
 refine sC X16 hx hby dj52_21_17 (v := 255) rfl ?_
 refine cY X16 hx hby dj52_21_20 (pc' := 26) (XT.ii_le_t hx2b) (by decide) ?_
 refine aA X16 hx hby dj52_21_26 rfl rfl ?_
 refine iA X16 hx hby dj52_21_27 rfl ?_
 refine iB X16 hx hby dj52_21_28 rfl ?_
 refine Go.by (fun _ => XS.i2b X16.here hx rfl (hb hby dj52_21_30) rfl) ?_
 have av18 := V16
 obtain ⟨cl18, Ar18, q18, Sz18, Nn18, Ha18, Gf18⟩ := av18
 have hin18 : ¬ ((2 : Int32) < 0 ∨ cl18.slots.size ≤ ((2 : Int32)).toNatClampNeg) := inb_of Sz18 ⟨by decide, by decide⟩
 obtain ⟨T19, h19, X19, e19, W19, st19⟩ := stB X16 hx hZ e16 Ar18 (j := (2 : Int32)) hin18 (g := (mkF m 31 #[(vR a1), (vI 2), (vR a2), (vI 2), (vI 5), (vI 2), (vI x2)] [(.int (x2.toInt8.toInt32)), (.int 2), (.ref a2)])) rfl rfl (hb hby dj52_21_31)
 have W19' : Wr h16 h19 a2 ((2 : Int32)).toNatClampNeg (.int (x2.toInt8.toInt32)) := (by have q : Wr h16 h19 a2 ((2 : Int32)).toNatClampNeg (.int ((x2.toInt8.toInt32)).toInt8.toInt32) := W19; rw [own_bb] at q; exact q)
 have V19 : Arv Z h19 a2 k2 .byte (5 : Int32) [(.int (x0.toInt8.toInt32)), (.int (x1.toInt8.toInt32)), (.int (x2.toInt8.toInt32)), (.int 0), (.int 0)] (.int 0) := Arv.set Ar18 q18 Sz18 Nn18 Ha18 Gf18 (fits_nar_byte _) W19' 2 rfl (Nat.le_of_ble_eq_true rfl)
 have N19 := Fr.snoc X19 N16 g_a2
 have f19_0 := Nat.le_trans f16_0 (Keep.of_wr W19).1
 have f19_1 := Keep.wr f16_1 W19 (Or.inl (List.mem_of_getElem? (i := 0) rfl))
 have f19_2 := Arv.other f16_2 W19 ne12
 refine Go.by st19 ?_
 show oG p e below P m T19 32 #[(vR a1), (vI 2), (vR a2), (vI 2), (vI 5), (vI 2), (vI x2)] []
 refine iI X19 hx hby dj52_21_32 rfl (l' := #[(vR a1), (vI 3), (vR a2), (vI 2), (vI 5), (vI 2), (vI x2)]) rfl ?_
 refine iI X19 hx hby dj52_21_35 rfl (l' := #[(vR a1), (vI 3), (vR a2), (vI 3), (vI 5), (vI 2), (vI x2)]) rfl ?_
 refine iI X19 hx hby dj52_21_38 rfl (l' := #[(vR a1), (vI 3), (vR a2), (vI 3), (vI 5), (vI 3), (vI x2)]) rfl ?_
 refine gO X19 hx hby dj52_21_41 (pc' := 3) (by decide) ?_
 refine iB X19 hx hby dj52_21_3 rfl ?_
 refine iB X19 hx hby dj52_21_5 rfl ?_
 refine cN X19 hx hby dj52_21_7 (XT.ii_ge_f (by decide : (3 : Int32) < (5 : Int32))) ?_
 refine aA X19 hx hby dj52_21_10 rfl rfl ?_
 refine iA X19 hx hby dj52_21_11 rfl ?_
 have av20 := f19_2
 obtain ⟨cl20, Ar20, -, Sz20, Nn20, Ha20, Gf20⟩ := av20
 have hin20 : ¬ ((3 : Int32) < 0 ∨ cl20.slots.size ≤ ((3 : Int32)).toNatClampNeg) := inb_of Sz20 ⟨by decide, by decide⟩
 have hat20 : cl20.slots[((3 : Int32)).toNatClampNeg]? = some (.int x3) := Ha20.at hin20 rfl
 refine Go.by (X19.caload hx (j := (3 : Int32)) (v := (.int x3)) (by rw [e19]; exact Ar20.1) (State.isArrayOf_alike hZ.alike Ar20.2.1) Ar20.2.2 hin20 hat20 (g := (mkF m 12 #[(vR a1), (vI 3), (vR a2), (vI 3), (vI 5), (vI 3), (vI x2)] [(.int 3), (.ref a1)])) rfl rfl (hb hby dj52_21_12)) ?_
 show oG p e below P m T19 13 #[(vR a1), (vI 3), (vR a2), (vI 3), (vI 5), (vI 3), (vI x2)] [(.int x3)]
 refine iT X19 hx hby dj52_21_13 (l' := #[(vR a1), (vI 3), (vR a2), (vI 3), (vI 5), (vI 3), (vI x3)]) rfl ?_
 refine iB X19 hx hby dj52_21_15 rfl ?_
 refine sC X19 hx hby dj52_21_17 (v := 255) rfl ?_
 refine cY X19 hx hby dj52_21_20 (pc' := 26) (XT.ii_le_t hx3b) (by decide) ?_
 refine aA X19 hx hby dj52_21_26 rfl rfl ?_
 refine iA X19 hx hby dj52_21_27 rfl ?_
 refine iB X19 hx hby dj52_21_28 rfl ?_
 refine Go.by (fun _ => XS.i2b X19.here hx rfl (hb hby dj52_21_30) rfl) ?_
 have av21 := V19
 obtain ⟨cl21, Ar21, q21, Sz21, Nn21, Ha21, Gf21⟩ := av21
 have hin21 : ¬ ((3 : Int32) < 0 ∨ cl21.slots.size ≤ ((3 : Int32)).toNatClampNeg) := inb_of Sz21 ⟨by decide, by decide⟩
 obtain ⟨T22, h22, X22, e22, W22, st22⟩ := stB X19 hx hZ e19 Ar21 (j := (3 : Int32)) hin21 (g := (mkF m 31 #[(vR a1), (vI 3), (vR a2), (vI 3), (vI 5), (vI 3), (vI x3)] [(.int (x3.toInt8.toInt32)), (.int 3), (.ref a2)])) rfl rfl (hb hby dj52_21_31)
 have W22' : Wr h19 h22 a2 ((3 : Int32)).toNatClampNeg (.int (x3.toInt8.toInt32)) := (by have q : Wr h19 h22 a2 ((3 : Int32)).toNatClampNeg (.int ((x3.toInt8.toInt32)).toInt8.toInt32) := W22; rw [own_bb] at q; exact q)
 have V22 : Arv Z h22 a2 k2 .byte (5 : Int32) [(.int (x0.toInt8.toInt32)), (.int (x1.toInt8.toInt32)), (.int (x2.toInt8.toInt32)), (.int (x3.toInt8.toInt32)), (.int 0)] (.int 0) := Arv.set Ar21 q21 Sz21 Nn21 Ha21 Gf21 (fits_nar_byte _) W22' 3 rfl (Nat.le_of_ble_eq_true rfl)
 have N22 := Fr.snoc X22 N19 g_a2
 have f22_0 := Nat.le_trans f19_0 (Keep.of_wr W22).1
 have f22_1 := Keep.wr f19_1 W22 (Or.inl (List.mem_of_getElem? (i := 0) rfl))
 have f22_2 := Arv.other f19_2 W22 ne12
 refine Go.by st22 ?_
 show oG p e below P m T22 32 #[(vR a1), (vI 3), (vR a2), (vI 3), (vI 5), (vI 3), (vI x3)] []
 refine iI X22 hx hby dj52_21_32 rfl (l' := #[(vR a1), (vI 4), (vR a2), (vI 3), (vI 5), (vI 3), (vI x3)]) rfl ?_
 refine iI X22 hx hby dj52_21_35 rfl (l' := #[(vR a1), (vI 4), (vR a2), (vI 4), (vI 5), (vI 3), (vI x3)]) rfl ?_
 refine iI X22 hx hby dj52_21_38 rfl (l' := #[(vR a1), (vI 4), (vR a2), (vI 4), (vI 5), (vI 4), (vI x3)]) rfl ?_
 refine gO X22 hx hby dj52_21_41 (pc' := 3) (by decide) ?_
 refine iB X22 hx hby dj52_21_3 rfl ?_
 refine iB X22 hx hby dj52_21_5 rfl ?_
 refine cN X22 hx hby dj52_21_7 (XT.ii_ge_f (by decide : (4 : Int32) < (5 : Int32))) ?_
 refine aA X22 hx hby dj52_21_10 rfl rfl ?_
 refine iA X22 hx hby dj52_21_11 rfl ?_
 have av23 := f22_2
 obtain ⟨cl23, Ar23, -, Sz23, Nn23, Ha23, Gf23⟩ := av23
 have hin23 : ¬ ((4 : Int32) < 0 ∨ cl23.slots.size ≤ ((4 : Int32)).toNatClampNeg) := inb_of Sz23 ⟨by decide, by decide⟩
 have hat23 : cl23.slots[((4 : Int32)).toNatClampNeg]? = some (.int x4) := Ha23.at hin23 rfl
 refine Go.by (X22.caload hx (j := (4 : Int32)) (v := (.int x4)) (by rw [e22]; exact Ar23.1) (State.isArrayOf_alike hZ.alike Ar23.2.1) Ar23.2.2 hin23 hat23 (g := (mkF m 12 #[(vR a1), (vI 4), (vR a2), (vI 4), (vI 5), (vI 4), (vI x3)] [(.int 4), (.ref a1)])) rfl rfl (hb hby dj52_21_12)) ?_
 show oG p e below P m T22 13 #[(vR a1), (vI 4), (vR a2), (vI 4), (vI 5), (vI 4), (vI x3)] [(.int x4)]
 refine iT X22 hx hby dj52_21_13 (l' := #[(vR a1), (vI 4), (vR a2), (vI 4), (vI 5), (vI 4), (vI x4)]) rfl ?_
 refine iB X22 hx hby dj52_21_15 rfl ?_
 refine sC X22 hx hby dj52_21_17 (v := 255) rfl ?_
 refine cY X22 hx hby dj52_21_20 (pc' := 26) (XT.ii_le_t hx4b) (by decide) ?_
 refine aA X22 hx hby dj52_21_26 rfl rfl ?_
 refine iA X22 hx hby dj52_21_27 rfl ?_
 refine iB X22 hx hby dj52_21_28 rfl ?_
 refine Go.by (fun _ => XS.i2b X22.here hx rfl (hb hby dj52_21_30) rfl) ?_
 have av24 := V22
 obtain ⟨cl24, Ar24, q24, Sz24, Nn24, Ha24, Gf24⟩ := av24
 have hin24 : ¬ ((4 : Int32) < 0 ∨ cl24.slots.size ≤ ((4 : Int32)).toNatClampNeg) := inb_of Sz24 ⟨by decide, by decide⟩
 obtain ⟨T25, h25, X25, e25, W25, st25⟩ := stB X22 hx hZ e22 Ar24 (j := (4 : Int32)) hin24 (g := (mkF m 31 #[(vR a1), (vI 4), (vR a2), (vI 4), (vI 5), (vI 4), (vI x4)] [(.int (x4.toInt8.toInt32)), (.int 4), (.ref a2)])) rfl rfl (hb hby dj52_21_31)
 have W25' : Wr h22 h25 a2 ((4 : Int32)).toNatClampNeg (.int (x4.toInt8.toInt32)) := (by have q : Wr h22 h25 a2 ((4 : Int32)).toNatClampNeg (.int ((x4.toInt8.toInt32)).toInt8.toInt32) := W25; rw [own_bb] at q; exact q)
 have V25 : Arv Z h25 a2 k2 .byte (5 : Int32) [(.int (x0.toInt8.toInt32)), (.int (x1.toInt8.toInt32)), (.int (x2.toInt8.toInt32)), (.int (x3.toInt8.toInt32)), (.int (x4.toInt8.toInt32))] (.int 0) := Arv.set Ar24 q24 Sz24 Nn24 Ha24 Gf24 (fits_nar_byte _) W25' 4 rfl (Nat.le_of_ble_eq_true rfl)
 have N25 := Fr.snoc X25 N22 g_a2
 have f25_0 := Nat.le_trans f22_0 (Keep.of_wr W25).1
 have f25_1 := Keep.wr f22_1 W25 (Or.inl (List.mem_of_getElem? (i := 0) rfl))
 have f25_2 := Arv.other f22_2 W25 ne12
 refine Go.by st25 ?_
 show oG p e below P m T25 32 #[(vR a1), (vI 4), (vR a2), (vI 4), (vI 5), (vI 4), (vI x4)] []
 refine iI X25 hx hby dj52_21_32 rfl (l' := #[(vR a1), (vI 5), (vR a2), (vI 4), (vI 5), (vI 4), (vI x4)]) rfl ?_
 refine iI X25 hx hby dj52_21_35 rfl (l' := #[(vR a1), (vI 5), (vR a2), (vI 5), (vI 5), (vI 4), (vI x4)]) rfl ?_
 refine iI X25 hx hby dj52_21_38 rfl (l' := #[(vR a1), (vI 5), (vR a2), (vI 5), (vI 5), (vI 5), (vI x4)]) rfl ?_
 refine gO X25 hx hby dj52_21_41 (pc' := 3) (by decide) ?_
 refine iB X25 hx hby dj52_21_3 rfl ?_
 refine iB X25 hx hby dj52_21_5 rfl ?_
 refine cY X25 hx hby dj52_21_7 (pc' := 44) (XT.ii_ge_t (by decide : ¬ (5 : Int32) < (5 : Int32))) (by decide) ?_
 refine iB X25 hx hby dj52_21_44 rfl ?_
 refine r_val hP hlk hret X25 hx hby dj52_21_46 rfl (Or.inl ⟨rfl, Or.inl rfl, _, rfl⟩) (by decide) ?_
 rw [e25]
 exact ⟨rfl, N25, f25_1, V25⟩
def Q_cmp3_5 (Z : State) (a1 : Addr) (k1 : ClassId) (x0 x1 x2 x3 x4 : Int32) (h0 : Heap) (n0 : Nat) (v : Option Value) (h : Heap) (L : List Loc) : Prop := ∃ d k, v = some (.ref d) ∧ Fr n0 L ∧ Keep h0 h [] ∧ h0.size ≤ d ∧ Arv Z h d k .byte (5 : Int32) [(.int (x0.toInt8.toInt32)), (.int (x1.toInt8.toInt32)), (.int (x2.toInt8.toInt32)), (.int (x3.toInt8.toInt32)), (.int (x4.toInt8.toInt32))] (.int 0)
theorem rm_cmp3_5 (l : Launch) (Z : State) (a0 : Array Value) (hw : oW a0 Z) (ws : List Jvm.Cond) (a1 : Addr) (k1 : ClassId) (x0 x1 x2 x3 x4 : Int32) (h0 : Heap) (n0 : Nat) (Z0 : n0 ≤ h0.size) (V1 : Arv Z h0 a1 k1 .char (5 : Int32) [(.int x0), (.int x1), (.int x2), (.int x3), (.int x4)] (.int 0)) (hx0a : ¬ x0 < 0) (hx0b : ¬ (255 : Int32) < x0) (hx1a : ¬ x1 < 0) (hx1b : ¬ (255 : Int32) < x1) (hx2a : ¬ x2 < 0) (hx2b : ¬ (255 : Int32) < x2) (hx3a : ¬ x3 < 0) (hx3b : ¬ (255 : Int32) < x3) (hx4a : ¬ x4 < 0) (hx4b : ¬ (255 : Int32) < x4) :
   oM l oY19 j52_16 6 (some (.array .byte)) ws (own_R 1 1 5 30) #[(.ref a1), (.int 0), (.int 5)] Z h0 (Q_cmp3_5 Z a1 k1 x0 x1 x2 x3 x4 h0 n0) := by
 refine own_open (n0 := n0) (cn := "java/lang/StringUTF16") rfl (plainFor_of_name pn2) (L0 := #[(vR a1), (vI 0), (vI 5), .unset, .unset, .unset]) (fun _ => by first | (simp [entryFrame, mkF, argsToLocals, Value.category]; done) | rfl) ?_
 intro p e s m below meth c s₁ P hx hby hml hown hnm X0 e0 N0 hlk hret hZ hP
 refine iA X0 hx hby dj52_16_0 rfl ?_
 obtain ⟨T11, h11, k11, X11, e11, E11, A11, st11⟩ := newP X0 hx hZ (aty := .byte) (tw_20 hw) e0 (g := (mkF m 1 #[(vR a1), (vI 0), (vI 5), .unset, .unset, .unset] [(.int 5)])) rfl (hb hby dj52_16_1) rfl (by decide) (cap := 5) (by decide) (by decide) (by decide) (by decide)
 obtain ⟨b11, g11⟩ : ∃ z, z = h0.size := ⟨_, rfl⟩
 rw [← g11] at A11 st11
 have g_b11 : n0 ≤ b11 := Nat.le_trans Z0 (Nat.le_of_eq g11.symm)
 have sz_b11 : h0.size ≤ b11 := Nat.le_trans (Keep.refl h0 []).1 (Nat.le_of_eq g11.symm)
 have ne_a1_b11 : a1 ≠ b11 := Nat.ne_of_lt (Nat.lt_of_lt_of_le (V1.lt) (Nat.le_of_eq g11.symm))
 have f11_0 := Nat.le_trans Z0 E11.1
 have f11_1 := Keep.ext (Keep.refl h0 []) E11
 have f11_2 := Arv.ext V1 E11
 refine Go.by st11 ?_
 have V11 : Arv Z h11 b11 k11 .byte (5 : Int32) [(.int 0), (.int 0), (.int 0), (.int 0), (.int 0)] (.int 0) := (Arv.new A11 (by decide)).pad (pad_rep [] (.int 0) 5)
 show oG p e below P m T11 3 #[(vR a1), (vI 0), (vI 5), .unset, .unset, .unset] [(.ref b11)]
 refine aS X11 hx hby dj52_16_3 rfl (l' := #[(vR a1), (vI 0), (vI 5), (vR b11), .unset, .unset]) rfl ?_
 refine aA X11 hx hby dj52_16_4 rfl rfl ?_
 refine iA X11 hx hby dj52_16_5 rfl ?_
 refine aA X11 hx hby dj52_16_6 rfl rfl ?_
 refine iC X11 hx hby dj52_16_7 (v := 0) rfl ?_
 refine iA X11 hx hby dj52_16_8 rfl ?_
 refine c_stat 0 X11 hx hby hml hZ hown (tw_87 hw) (tw_88 hw) (tw_85 hw) (tw_89 hw) (rm_cmp5_5 l Z a0 hw [] a1 k1 b11 k11 x0 x1 x2 x3 x4 h11 n0 f11_0 f11_2 V11 ne_a1_b11 g_b11 hx0a hx0b hx1a hx1b hx2a hx2b hx3a hx3b hx4a hx4b) e11 dj52_16_9 [(.ref a1), (.int 0), (.ref b11), (.int 0), (.int 5)] [] (lenOf pd21 rfl) rfl rfl (by rfl) (by decide) ?_
 rintro _ T12 Lc12 ⟨rfl, N12q, K12, V12⟩ X12
 have N12 := Fr.app N0 N12q
 have f12_0 := Nat.le_trans f11_0 K12.1
 have f12_1 := Keep.trans f11_1 K12 (allS (Or.inr sz_b11) all0)
 have f12_2 := Arv.keep f11_2 K12 (ninS ne_a1_b11 nin0)
 refine iT X12 hx hby dj52_16_12 (l' := #[(vR a1), (vI 0), (vI 5), (vR b11), (vI 5), .unset]) rfl ?_
 refine iB X12 hx hby dj52_16_14 rfl ?_
 refine iA X12 hx hby dj52_16_16 rfl ?_
 refine cY X12 hx hby dj52_16_17 (pc' := 57) (XT.ii_eq_t (by decide : (5 : Int32) = (5 : Int32))) (by decide) ?_
 refine aA X12 hx hby dj52_16_57 rfl rfl ?_
 refine r_val hP hlk hret X12 hx hby dj52_16_58 rfl (Or.inr (Or.inr (Or.inr (Or.inr ⟨rfl, rfl, rfl⟩)))) (by decide) ?_
 exact ⟨b11, k11, rfl, N12, f12_1, sz_b11, V12⟩
def Q_cfal_5 (Z : State) (a1 : Addr) (k1 : ClassId) (x0 x1 x2 x3 x4 : Int32) (h0 : Heap) (n0 : Nat) (v : Option Value) (h : Heap) (L : List Loc) : Prop := v = some (.int 0) ∧ Fr n0 L ∧ h = h0
theorem rm_cfal_5 (l : Launch) (Z : State) (a0 : Array Value) (hw : oW a0 Z) (ws : List Jvm.Cond) (a1 : Addr) (k1 : ClassId) (x0 x1 x2 x3 x4 : Int32) (h0 : Heap) (n0 : Nat) (Z0 : n0 ≤ h0.size) (V1 : Arv Z h0 a1 k1 .byte (5 : Int32) [(.int (x0.toInt8.toInt32)), (.int (x1.toInt8.toInt32)), (.int (x2.toInt8.toInt32)), (.int (x3.toInt8.toInt32)), (.int (x4.toInt8.toInt32))] (.int 0)) :
   oM l oY20 j52_15 2 (some .byte) ws (own_R 0 0 0 0) #[(.ref a1), (.int 5)] Z h0 (Q_cfal_5 Z a1 k1 x0 x1 x2 x3 x4 h0 n0) := by
 refine own_open (n0 := n0) (cn := "java/lang/StringUTF16") rfl (plainFor_of_name pn2) (L0 := #[(vR a1), (vI 5)]) (fun _ => by first | (simp [entryFrame, mkF, argsToLocals, Value.category]; done) | rfl) ?_
 intro p e s m below meth c s₁ P hx hby hml hown hnm X0 e0 N0 hlk hret hZ hP
 refine iA X0 hx hby dj52_15_0 rfl ?_
 refine aA X0 hx hby dj52_15_1 rfl rfl ?_
 have av11 := V1
 obtain ⟨cl11, Ar11, -, Sz11, Nn11, -, -⟩ := av11
 refine Go.by (X0.arraylength hx (by rw [e0]; exact Ar11.1) (State.isArrayOf_alike hZ.alike Ar11.2.1) (g := (mkF m 2 #[(vR a1), (vI 5)] [(.ref a1), (.int 5)])) rfl rfl (hb hby dj52_15_2)) ?_
 rw [len_of Sz11 Nn11]
 show oG p e below P m s₁ 3 #[(vR a1), (vI 5)] [(.int 5), (.int 5)]
 refine iM X0 hx hby dj52_15_3 (v := 0) rfl ?_
 refine bC X0 hx hby dj52_15_4 (v := 31) rfl ?_
 refine Go.by (fun _ => XS.iushr X0.here hx rfl (hb hby dj52_15_6) rfl) ?_
 show oG p e below P m s₁ 7 #[(vR a1), (vI 5)] [(.int (((0 : Int32).toUInt32 >>> ((31 : Int32) &&& 31).toUInt32).toInt32))]
 refine Go.by (fun _ => XS.i2b X0.here hx rfl (hb hby dj52_15_7) rfl) ?_
 show oG p e below P m s₁ 8 #[(vR a1), (vI 5)] [(.int ((((0 : Int32).toUInt32 >>> ((31 : Int32) &&& 31).toUInt32).toInt32).toInt8.toInt32))]
 show oG p e below P m s₁ 8 #[(vR a1), (vI 5)] [(.int 0)]
 refine r_val hP hlk hret X0 hx hby dj52_15_8 rfl (Or.inl ⟨rfl, Or.inr (Or.inr (Or.inl rfl)), _, rfl⟩) (by decide) ?_
 rw [e0]
 exact ⟨rfl, N0, rfl⟩
def Q_si4_5 (Z : State) (a0_ a1 : Addr) (k1 : ClassId) (x0 x1 x2 x3 x4 cs : Int32) (h0 : Heap) (n0 : Nat) (v : Option Value) (h : Heap) (L : List Loc) : Prop := v = none ∧ Fr n0 L ∧ Keep h0 h [a0_] ∧ Fld Z h a0_ "java/lang/String" "coder" "B" (.int 0) ∧ ∃ d k, h0.size ≤ d ∧ Fld Z h a0_ "java/lang/String" "value" "[B" (.ref d) ∧ Arv Z h d k .byte (5 : Int32) [(.int (x0.toInt8.toInt32)), (.int (x1.toInt8.toInt32)), (.int (x2.toInt8.toInt32)), (.int (x3.toInt8.toInt32)), (.int (x4.toInt8.toInt32))] (.int 0)
theorem rm_si4_5 (l : Launch) (Z : State) (a0 : Array Value) (hw : oW a0 Z) (ws : List Jvm.Cond) (a0_ a1 : Addr) (k1 : ClassId) (x0 x1 x2 x3 x4 cs : Int32) (h0 : Heap) (n0 : Nat) (Z0 : n0 ≤ h0.size) (O0 : Old Z n0 h0) (Scs : Sta Z Z.heap "java/lang/String" "COMPACT_STRINGS" "Z" (.int cs)) (hcs : ¬ cs = (0 : Int32)) (E0 : Exa Z h0 a0_ "java/lang/String") (g_a0_ : n0 ≤ a0_) (F0c : Fld Z h0 a0_ "java/lang/String" "coder" "B" (.int 0)) (F0v : Fld Z h0 a0_ "java/lang/String" "value" "[B" .null) (V1 : Arv Z h0 a1 k1 .char (5 : Int32) [(.int x0), (.int x1), (.int x2), (.int x3), (.int x4)] (.int 0)) (hx0a : ¬ x0 < 0) (hx0b : ¬ (255 : Int32) < x0) (hx1a : ¬ x1 < 0) (hx1b : ¬ (255 : Int32) < x1) (hx2a : ¬ x2 < 0) (hx2b : ¬ (255 : Int32) < x2) (hx3a : ¬ x3 < 0) (hx3b : ¬ (255 : Int32) < x3) (hx4a : ¬ x4 < 0) (hx4b : ¬ (255 : Int32) < x4) :
   oM l oY15 j42_149 6 none ws (own_R 2 1 5 50) #[(.ref a0_), (.ref a1), (.int 0), (.int 5), .null] Z h0 (Q_si4_5 Z a0_ a1 k1 x0 x1 x2 x3 x4 cs h0 n0) := by
 refine own_open (n0 := n0) (cn := "java/lang/String") rfl (plainFor_of_name pn0) (L0 := #[(vR a0_), (vR a1), (vI 0), (vI 5), .val .null, .unset]) (fun _ => by first | (simp [entryFrame, mkF, argsToLocals, Value.category]; done) | rfl) ?_
 intro p e s m below meth c s₁ P hx hby hml hown hnm X0 e0 N0 hlk hret hZ hP
 have ne01 : a0_ ≠ a1 := fun q => by obtain ⟨c, Ar, -⟩ := V1; exact ne_arr E0 (tw_7 hw) Ar q
 show oG p e below P m s₁ 0 #[(vR a0_), (vR a1), (vI 0), (vI 5), .val .null, .unset] []
 refine aA X0 hx hby dj42_149_0 rfl rfl ?_
 obtain ⟨T11, X11, e11, st11⟩ := initO X0 hx hZ hown (tw_16 hw) (tw_17 hw) (tw_18 hw) e0 (g := (mkF m 1 #[(vR a0_), (vR a1), (vI 0), (vI 5), .val .null, .unset] [(.ref a0_)])) rfl (by rw [hml]; rfl) rfl (hb hby dj42_149_1) (by decide) (W := 0) (by show 2 * 0 + _ ≤ _; exact Nat.le_of_eq rfl) (by decide)
 refine Go.by st11 ?_
 show oG p e below P m T11 4 #[(vR a0_), (vR a1), (vI 0), (vI 5), .val .null, .unset] []
 refine iA X11 hx hby dj42_149_4 rfl ?_
 refine fY X11 hx hby dj42_149_5 (pc' := 27) (XT.i0_ne_t (by decide : ¬ (5 : Int32) = (0 : Int32))) (by decide) ?_
 obtain ⟨T12, X12, e12, st12⟩ := getS2 X11 hx hZ hown (host := "") (Or.inl (tw_47 hw)) Via.refl e11 (Scs.ext O0.2) (g := (mkF m 27 #[(vR a0_), (vR a1), (vI 0), (vI 5), .val .null, .unset] [])) rfl (hb hby dj42_149_27)
 refine Go.by st12 ?_
 show oG p e below P m T12 30 #[(vR a0_), (vR a1), (vI 0), (vI 5), .val .null, .unset] [(.int cs)]
 refine fN X12 hx hby dj42_149_30 (XT.i0_eq_f hcs) ?_
 refine aA X12 hx hby dj42_149_33 rfl rfl ?_
 refine iA X12 hx hby dj42_149_34 rfl ?_
 refine iA X12 hx hby dj42_149_35 rfl ?_
 refine c_stat 0 X12 hx hby hml hZ hown (tw_83 hw) (tw_84 hw) (tw_85 hw) (tw_86 hw) (rm_cmp3_5 l Z a0 hw [] a1 k1 x0 x1 x2 x3 x4 h0 n0 Z0 V1 hx0a hx0b hx1a hx1b hx2a hx2b hx3a hx3b hx4a hx4b) e12 dj42_149_36 [(.ref a1), (.int 0), (.int 5)] [] (lenOf pd22 rfl) rfl rfl (by rfl) (by decide) ?_
 rintro _ T13 Lc13 ⟨d13, kd13, rfl, N13q, K13, z13, V13⟩ X13
 have N13 := Fr.app N0 N13q
 have f13_0 := Nat.le_trans Z0 K13.1
 have f13_1 := Keep.trans (Keep.refl h0 [a0_]) K13 all0
 have f13_2 := Old.keep O0 K13 all0
 have f13_3 := Exa.keep E0 K13
 have f13_4 := Fld.keep F0c K13 nin0
 have f13_5 := Fld.keep F0v K13 nin0
 have f13_6 := Arv.keep V1 K13 nin0
 have g_d13 : n0 ≤ d13 := Nat.le_trans Z0 z13
 have sz_d13 : h0.size ≤ d13 := z13
 have ne0d13 : a0_ ≠ d13 := Nat.ne_of_lt (Nat.lt_of_lt_of_le E0.lt z13)
 refine aT X13 hx hby dj42_149_39 rfl (l' := #[(vR a0_), (vR a1), (vI 0), (vI 5), .val .null, (vR d13)]) rfl ?_
 refine aA X13 hx hby dj42_149_41 rfl rfl ?_
 refine aB X13 hx hby dj42_149_42 rfl rfl ?_
 refine iA X13 hx hby dj42_149_44 rfl ?_
 refine c_stat 1 X13 hx hby hml hZ hown (tw_90 hw) (tw_91 hw) (tw_85 hw) (tw_92 hw) (rm_cfal_5 l Z a0 hw [] d13 kd13 x0 x1 x2 x3 x4 T13.heap n0 f13_0 V13) rfl dj42_149_45 [(.ref d13), (.int 5)] [(.ref a0_)] (lenOf pd23 rfl) rfl rfl (by rfl) (by decide) ?_
 rintro _ T14 Lc14 ⟨rfl, N14q, q14⟩ X14
 have N14 := Fr.app N13 N14q
 obtain ⟨T15, h15, X15, e15, W15, st15⟩ := putFN X14 hx hZ hown (tw_26 hw) Via.refl q14 f13_4 f13_3 (Or.inr ⟨(tw_22 hw), rfl, hnm⟩) (tw_7 hw) (ty := .byte) (v' := (.int 0)) (by decide) rfl rfl (g := (mkF m 48 #[(vR a0_), (vR a1), (vI 0), (vI 5), .val .null, (vR d13)] [(.int 0), (.ref a0_)])) rfl rfl (hb hby dj42_149_48)
 refine Go.by st15 ?_
 have N15 := Fr.snoc X15 N14 g_a0_
 have f15_0 := Nat.le_trans f13_0 (Keep.of_wr W15).1
 have f15_1 := Keep.wr f13_1 W15 (Or.inl (List.mem_of_getElem? (i := 0) rfl))
 have f15_2 := Old.wr f13_2 W15 g_a0_
 have f15_3 := Exa.wr W15 f13_3
 have f15_4 := Fld.same W15 f13_4
 have f15_5 := Fld.other W15 f13_5 (Or.inr (slot_ne (Or.inr (tw_21 hw)) (Or.inr (tw_22 hw)) (by decide) (t := (.array .byte)) (t' := .byte) (by decide) (by decide)))
 have f15_6 := Arv.other f13_6 W15 (Ne.symm ne01)
 have f15_7 := Arv.other V13 W15 (Ne.symm ne0d13)
 show oG p e below P m T15 51 #[(vR a0_), (vR a1), (vI 0), (vI 5), .val .null, (vR d13)] []
 refine aA X15 hx hby dj42_149_51 rfl rfl ?_
 refine aB X15 hx hby dj42_149_52 rfl rfl ?_
 obtain ⟨T16, h16, X16, e16, W16, st16⟩ := putF X15 hx hZ hown (host := "") (Or.inl (tw_25 hw)) Via.refl e15 f15_5 f15_3 (Or.inr ⟨(tw_21 hw), rfl, hnm⟩) (tw_7 hw) (ty := (.array .byte)) (by decide) rfl rfl (g := (mkF m 54 #[(vR a0_), (vR a1), (vI 0), (vI 5), .val .null, (vR d13)] [(.ref d13), (.ref a0_)])) rfl rfl (hb hby dj42_149_54)
 refine Go.by st16 ?_
 have N16 := Fr.snoc X16 N15 g_a0_
 have f16_0 := Nat.le_trans f15_0 (Keep.of_wr W16).1
 have f16_1 := Keep.wr f15_1 W16 (Or.inl (List.mem_of_getElem? (i := 0) rfl))
 have f16_2 := Old.wr f15_2 W16 g_a0_
 have f16_3 := Exa.wr W16 f15_3
 have f16_4 := Fld.other W16 f15_4 (Or.inr (slot_ne (Or.inr (tw_22 hw)) (Or.inr (tw_21 hw)) (by decide) (t := .byte) (t' := (.array .byte)) (by decide) (by decide)))
 have f16_5 := Fld.same W16 f15_5
 have f16_6 := Arv.other f15_6 W16 (Ne.symm ne01)
 have f16_7 := Arv.other f15_7 W16 (Ne.symm ne0d13)
 show oG p e below P m T16 57 #[(vR a0_), (vR a1), (vI 0), (vI 5), .val .null, (vR d13)] []
 refine own_fin hP hlk X16 (v := none) (fun _ => rfl) (by decide) (by decide) ?_ (fun fs hr => X16.returnOut hx hret (hb hby dj42_149_57) hr)
 rw [e16]
 exact ⟨rfl, N16, f16_1, f16_4, d13, kd13, sz_d13, f16_5, f16_7⟩
def Q_si1_5 (Z : State) (a0_ a1 : Addr) (k1 : ClassId) (x0 x1 x2 x3 x4 cs : Int32) (h0 : Heap) (n0 : Nat) (v : Option Value) (h : Heap) (L : List Loc) : Prop := v = none ∧ Fr n0 L ∧ Keep h0 h [a0_] ∧ Fld Z h a0_ "java/lang/String" "coder" "B" (.int 0) ∧ ∃ d k, h0.size ≤ d ∧ Fld Z h a0_ "java/lang/String" "value" "[B" (.ref d) ∧ Arv Z h d k .byte (5 : Int32) [(.int (x0.toInt8.toInt32)), (.int (x1.toInt8.toInt32)), (.int (x2.toInt8.toInt32)), (.int (x3.toInt8.toInt32)), (.int (x4.toInt8.toInt32))] (.int 0)
theorem rm_si1_5 (l : Launch) (Z : State) (a0 : Array Value) (hw : oW a0 Z) (ws : List Jvm.Cond) (a0_ a1 : Addr) (k1 : ClassId) (x0 x1 x2 x3 x4 cs : Int32) (h0 : Heap) (n0 : Nat) (Z0 : n0 ≤ h0.size) (O0 : Old Z n0 h0) (Scs : Sta Z Z.heap "java/lang/String" "COMPACT_STRINGS" "Z" (.int cs)) (hcs : ¬ cs = (0 : Int32)) (E0 : Exa Z h0 a0_ "java/lang/String") (g_a0_ : n0 ≤ a0_) (F0c : Fld Z h0 a0_ "java/lang/String" "coder" "B" (.int 0)) (F0v : Fld Z h0 a0_ "java/lang/String" "value" "[B" .null) (V1 : Arv Z h0 a1 k1 .char (5 : Int32) [(.int x0), (.int x1), (.int x2), (.int x3), (.int x4)] (.int 0)) (hx0a : ¬ x0 < 0) (hx0b : ¬ (255 : Int32) < x0) (hx1a : ¬ x1 < 0) (hx1b : ¬ (255 : Int32) < x1) (hx2a : ¬ x2 < 0) (hx2b : ¬ (255 : Int32) < x2) (hx3a : ¬ x3 < 0) (hx3b : ¬ (255 : Int32) < x3) (hx4a : ¬ x4 < 0) (hx4b : ¬ (255 : Int32) < x4) :
   oM l oY16 j42_3 2 none ws (own_R 3 1 5 75) #[(.ref a0_), (.ref a1)] Z h0 (Q_si1_5 Z a0_ a1 k1 x0 x1 x2 x3 x4 cs h0 n0) := by
 refine own_open (n0 := n0) (cn := "java/lang/String") rfl (plainFor_of_name pn0) (L0 := #[(vR a0_), (vR a1)]) (fun _ => by first | (simp [entryFrame, mkF, argsToLocals, Value.category]; done) | rfl) ?_
 intro p e s m below meth c s₁ P hx hby hml hown hnm X0 e0 N0 hlk hret hZ hP
 have ne01 : a0_ ≠ a1 := fun q => by obtain ⟨c, Ar, -⟩ := V1; exact ne_arr E0 (tw_7 hw) Ar q
 show oG p e below P m s₁ 0 #[(vR a0_), (vR a1)] []
 refine aA X0 hx hby dj42_3_0 rfl rfl ?_
 refine aA X0 hx hby dj42_3_1 rfl rfl ?_
 refine iC X0 hx hby dj42_3_2 (v := 0) rfl ?_
 refine aA X0 hx hby dj42_3_3 rfl rfl ?_
 have av6 := V1
 obtain ⟨cl6, Ar6, -, Sz6, Nn6, -, -⟩ := av6
 refine Go.by (X0.arraylength hx (by rw [e0]; exact Ar6.1) (State.isArrayOf_alike hZ.alike Ar6.2.1) (g := (mkF m 4 #[(vR a0_), (vR a1)] [(.ref a1), (.int 0), (.ref a1), (.ref a0_)])) rfl rfl (hb hby dj42_3_4)) ?_
 rw [len_of Sz6 Nn6]
 show oG p e below P m s₁ 5 #[(vR a0_), (vR a1)] [(.int 5), (.int 0), (.ref a1), (.ref a0_)]
 refine w_aconstNull X0 hx hby dj42_3_5 ?_
 obtain ⟨_, _, ⟨T7, L7, k7, n7⟩, -, X7, ⟨Lc7, hQ7, l7, y7, z7⟩, st7⟩ := X0.specialBack hx (y := oY15) rfl hown (mvT hZ (tw_12 hw)) (mvT hZ (tw_13 hw)) (mvT hZ (tw_15 hw)) (by decide) (backOf (W := 0) (rm_si4_5 l Z a0 hw [] a0_ a1 k1 x0 x1 x2 x3 x4 cs h0 n0 Z0 O0 Scs hcs E0 g_a0_ F0c F0v V1 hx0a hx0b hx1a hx1b hx2a hx2b hx3a hx3b hx4a hx4b) hZ (tw_15 hw) (tw_8 hw) (by decide) (by decide)) (g := (mkF m 6 #[(vR a0_), (vR a1)] [.null, (.int 5), (.int 0), (.ref a1), (.ref a0_)])) rfl (by rw [hml]; rfl) (Steps.refl _) (a := a0_) (argsL := [(.ref a1), (.int 0), (.int 5), .null]) (rest := []) (lenOf pd17 rfl) rfl (by show 2 * 0 + _ ≤ _; exact Nat.le_of_eq rfl) (hb hby dj42_3_6) (fun _ _ => ⟨rfl, e0, (by decide : 0 + 1 ≤ _), (by decide : 0 + 5 ≤ _)⟩)
 dsimp only [Pt.U, Pt.locs, Pt.cells, Pt.slots] at X7 l7 y7 z7 st7 hQ7
 subst l7 y7 z7
 obtain ⟨rfl, N7q, K7, Gc7, d7, kd7, z7, Gv7, V7⟩ := hQ7
 have N7 := Fr.app N0 N7q
 refine Go.by (fun t k => st7.trans k) ?_
 have f7_0 := Nat.le_trans Z0 K7.1
 have f7_1 := Keep.trans (Keep.refl h0 [a0_]) K7 (allS (Or.inl (List.mem_of_getElem? (i := 0) rfl)) all0)
 have f7_2 := Old.keep O0 K7 (allS g_a0_ all0)
 have f7_3 := Exa.keep E0 K7
 have f7_4 := Arv.keep V1 K7 (ninS (Ne.symm ne01) nin0)
 show oG p e below P m T7 9 #[(vR a0_), (vR a1)] []
 refine own_fin hP hlk X7 (v := none) (fun _ => rfl) (by decide) (by decide) ?_ (fun fs hr => X7.returnOut hx hret (hb hby dj42_3_9) hr)
 exact ⟨rfl, N7, f7_1, Gc7, d7, kd7, z7, Gv7, V7⟩
def Q_law (Z : State) (p0 p1 p2 p3 p4 p5 cs : Int32) (fm : Value) (h0 : Heap) (n0 : Nat) (v : Option Value) (h : Heap) (L : List Loc) : Prop := v = some (.int 1) ∧ Fr n0 L
theorem ef_law (m : MethodId) (p0 p1 p2 p3 p4 p5 cs : Int32) (fm : Value) : entryFrame m #[(.int p0), (.int p1), (.int p2), (.int p3), (.int p4), (.int p5)] maxLocals = mkF m 0 #[(vI p0), (vI p1), (vI p2), (vI p3), (vI p4), (vI p5), .unset, .unset, .unset, .unset, .unset, .unset, .unset, .unset, .unset] [] := by first | (simp [entryFrame, mkF, argsToLocals, Value.category, maxLocals]; done) | rfl
theorem rm_law (l : Launch) (Z : State) (a0 : Array Value) (hw : oW a0 Z) (hEL : EW Z a0 own_EL) (ws : List Jvm.Cond) (p0 p1 p2 p3 p4 p5 cs : Int32) (fm : Value) (h0 : Heap) (n0 : Nat) (Z0 : n0 ≤ h0.size) (O0 : Old Z n0 h0) (Scs : Sta Z Z.heap "java/lang/String" "COMPACT_STRINGS" "Z" (.int cs)) (hcs : ¬ cs = (0 : Int32)) (Sfm : Sta Z Z.heap "jdk/internal/util/Preconditions" "SIOOBE_FORMATTER" "Ljava/util/function/BiFunction;" fm) (hfm : fm.isRef = true) :
   MetFree l x (head1 (Jvm.Cond.code x code maxLocals ret :: ws) room_1) (fun a U => a = #[(.int p0), (.int p1), (.int p2), (.int p3), (.int p4), (.int p5)] ∧ Z.Warmed39 U.vm ∧ U.heap = h0 ∧ CHv Z own_EL U.vm h0 ∧ ∀ x ∈ ([] : List Addr), Safe Z own_EL U.vm h0 x) (fun _ _ _ _ _ => True) (fun _ U o U' => ∃ v L, o = .returned v ∧ Q_law Z p0 p1 p2 p3 p4 p5 cs fm h0 n0 v U'.heap L ∧ CHr Z own_EL U.vm U.heap U'.vm U'.heap ∧ ReturnedEndW U o U' L room_1.cells room_1.slots) := by
 refine MetFree.of_bodySF (plainFor_of_name pn4) hisR ?_
 intro p e s m args below meth c s₁ Bd hml0 hP hK
 obtain ⟨rfl, hZ, hh, hCH, hSf⟩ := hP
 have hx := Bd.exec
 have hby := Bd.bytes
 have hml : c.maxLocals = 15 := hml0
 have hown : s.vm.findClass "jarkeep/source/SourceDirectoryOfPinLaw" = some m.cls := findClass_of_methodNamed Bd.named
 have hnm := (name_of_methodNamed Bd.named Bd.method).1
 have X0 : Stand p l e room_1 (s.setVm s.vm) m #[(.int p0), (.int p1), (.int p2), (.int p3), (.int p4), (.int p5)] below meth c s₁ [] 0 0 := Stand.of_body Bd
 have e0 : s₁.heap = h0 := by rw [← hh, Bd.state]; rfl
 have N0 := Fr.nil n0
 have hZs := hZ
 have wS := own_wS hw
 have hS0 : s.Since s.vm s.heap.size := (State.WarmedH.refl s).since _
 have hk0 : s.heap.size ≤ h0.size := Nat.le_of_eq (congrArg Array.size hh)
 have hlk : meth.locks = false := Bd.notSynchronized
 obtain ⟨P, hP⟩ : ∃ P : Outcome → State → Prop, P = PQW s Z own_EL (Q_law Z p0 p1 p2 p3 p4 p5 cs fm h0 n0) room_1.cells room_1.slots := ⟨_, rfl⟩
 suffices hgo : Go p e below P (s₁.setTop (mkF m 0 #[(vI p0), (vI p1), (vI p2), (vI p3), (vI p4), (vI p5), .unset, .unset, .unset, .unset, .unset, .unset, .unset, .unset, .unset] [])) by
   rw [hP] at hgo
   exact Go.by (fun t k => castTop (ef_law m p0 p1 p2 p3 p4 p5 cs fm) k) hgo
 have tail0 : ∀ {Tt : State} {vmt : Vm} {kt : Nat} {locs : List Loc} {Ht : Heap} (vA vB vC vD : Int32) (al : Addr) (kal : ClassId) (ch na got dg : Addr) (kg : ClassId), Stand p l e room_1 (s.setVm vmt) m #[(.int p0), (.int p1), (.int p2), (.int p3), (.int p4), (.int p5)] below meth c Tt locs 16 100 → Tt.heap = Ht → Fr n0 locs → n0 ≤ Ht.size → s.Since vmt kt → kt ≤ Ht.size → Z.Warmed39 (s.setVm vmt).vm → (s.setVm vmt).vm.findClass "jarkeep/source/SourceDirectoryOfPinLaw" = some m.cls → CHr Z own_EL s.vm h0 vmt Ht → Old Z n0 Ht → Arv Z Ht al kal .char (5 : Int32) [(.int (own_pick p1)), (.int (own_pick p2)), (.int (own_pick p3)), (.int (own_pick p4)), (.int (own_pick p5))] (.int 0) → Exa Z Ht got "java/lang/String" → Fld Z Ht got "java/lang/String" "coder" "B" (.int 0) → Fld Z Ht got "java/lang/String" "value" "[B" (.ref dg) → Arv Z Ht dg kg .byte (0 : Int32) [] (.int 0) → Go p e below P (Tt.setTop (mkF m 206 #[(vI p0), (vI p1), (vI p2), (vI p3), (vI p4), (vI p5), (vI vA), (vR al), (vR ch), (vR na), (vR got), (vI vB), (vI vC), (vI vD), (vI 0)] [])) := by
   intro Tt vmt kt locs Ht vA vB vC vD al kal ch na got dg kg Xt et Nt Zt hSt hkt hZt hownt CHt Ot Vt Et Ct FVt At
   refine aB Xt hx hby at_206 rfl rfl ?_
   refine c_virt 0 Xt hx hby hml hZt hownt (tw_79 hw) (tw_38 hw) (tw_40 hw) (tw_39 hw) (tw_41 hw) (tw_8 hw) (rm_slen l Z a0 hw [] got dg kg (0 : Int32) [] cs Ht n0 Zt Ot Scs hcs Et Ct FVt At) et Et at_208 [] [] (lenOf pd0 rfl) rfl rfl (by rfl) (by decide) ?_
   rintro _ T11 Lc11 ⟨rfl, N11q, q11⟩ X11
   have N11 := Fr.app Nt N11q
   refine iB X11 hx hby at_211 rfl ?_
   refine cY X11 hx hby at_213 (pc' := 218) (XT.ii_eq_t (by decide : (0 : Int32) = (0 : Int32))) (by decide) ?_
   refine aB X11 hx hby at_218 rfl rfl ?_
   refine aB X11 hx hby at_220 rfl rfl ?_
   refine iC X11 hx hby at_222 (v := 0) rfl ?_
   refine iB X11 hx hby at_223 rfl ?_
   refine c_stat 0 X11 hx hby hml hZt hownt (tw_80 hw) (tw_81 hw) (tw_4 hw) (tw_82 hw) (rm_agree0 l Z a0 hw [] got al (0 : Int32) (0 : Int32) Ht n0 Zt (by decide)) q11 at_225 [(.ref got), (.ref al), (.int 0), (.int 0)] [] (lenOf pd3 rfl) rfl rfl (by rfl) (by decide) ?_
   rintro _ T12 Lc12 ⟨rfl, N12q, q12⟩ X12
   have N12 := Fr.app N11 N12q
   refine fN X12 hx hby at_228 (XT.i0_eq_f (by decide : ¬ (1 : Int32) = (0 : Int32))) ?_
   refine aB X12 hx hby at_231 rfl rfl ?_
   refine aB X12 hx hby at_233 rfl rfl ?_
   refine iC X12 hx hby at_235 (v := 1) rfl ?_
   refine iB X12 hx hby at_236 rfl ?_
   refine c_stat 0 X12 hx hby hml hZt hownt (tw_80 hw) (tw_81 hw) (tw_4 hw) (tw_82 hw) (rm_agree0 l Z a0 hw [] got al (1 : Int32) (0 : Int32) Ht n0 Zt (by decide)) q12 at_238 [(.ref got), (.ref al), (.int 1), (.int 0)] [] (lenOf pd3 rfl) rfl rfl (by rfl) (by decide) ?_
   rintro _ T13 Lc13 ⟨rfl, N13q, q13⟩ X13
   have N13 := Fr.app N12 N13q
   refine fN X13 hx hby at_241 (XT.i0_eq_f (by decide : ¬ (1 : Int32) = (0 : Int32))) ?_
   refine aB X13 hx hby at_244 rfl rfl ?_
   refine aB X13 hx hby at_246 rfl rfl ?_
   refine iC X13 hx hby at_248 (v := 2) rfl ?_
   refine iB X13 hx hby at_249 rfl ?_
   refine c_stat 0 X13 hx hby hml hZt hownt (tw_80 hw) (tw_81 hw) (tw_4 hw) (tw_82 hw) (rm_agree0 l Z a0 hw [] got al (2 : Int32) (0 : Int32) Ht n0 Zt (by decide)) q13 at_251 [(.ref got), (.ref al), (.int 2), (.int 0)] [] (lenOf pd3 rfl) rfl rfl (by rfl) (by decide) ?_
   rintro _ T14 Lc14 ⟨rfl, N14q, q14⟩ X14
   have N14 := Fr.app N13 N14q
   refine fN X14 hx hby at_254 (XT.i0_eq_f (by decide : ¬ (1 : Int32) = (0 : Int32))) ?_
   refine aB X14 hx hby at_257 rfl rfl ?_
   refine aB X14 hx hby at_259 rfl rfl ?_
   refine iC X14 hx hby at_261 (v := 3) rfl ?_
   refine iB X14 hx hby at_262 rfl ?_
   refine c_stat 0 X14 hx hby hml hZt hownt (tw_80 hw) (tw_81 hw) (tw_4 hw) (tw_82 hw) (rm_agree0 l Z a0 hw [] got al (3 : Int32) (0 : Int32) Ht n0 Zt (by decide)) q14 at_264 [(.ref got), (.ref al), (.int 3), (.int 0)] [] (lenOf pd3 rfl) rfl rfl (by rfl) (by decide) ?_
   rintro _ T15 Lc15 ⟨rfl, N15q, q15⟩ X15
   have N15 := Fr.app N14 N15q
   refine fN X15 hx hby at_267 (XT.i0_eq_f (by decide : ¬ (1 : Int32) = (0 : Int32))) ?_
   refine aB X15 hx hby at_270 rfl rfl ?_
   refine aB X15 hx hby at_272 rfl rfl ?_
   refine iC X15 hx hby at_274 (v := 4) rfl ?_
   refine iB X15 hx hby at_275 rfl ?_
   refine c_stat 0 X15 hx hby hml hZt hownt (tw_80 hw) (tw_81 hw) (tw_4 hw) (tw_82 hw) (rm_agree0 l Z a0 hw [] got al (4 : Int32) (0 : Int32) Ht n0 Zt (by decide)) q15 at_277 [(.ref got), (.ref al), (.int 4), (.int 0)] [] (lenOf pd3 rfl) rfl rfl (by rfl) (by decide) ?_
   rintro _ T16 Lc16 ⟨rfl, N16q, q16⟩ X16
   have N16 := Fr.app N15 N16q
   refine fN X16 hx hby at_280 (XT.i0_eq_f (by decide : ¬ (1 : Int32) = (0 : Int32))) ?_
   refine iC X16 hx hby at_283 (v := 1) rfl ?_
   refine gO X16 hx hby at_284 (pc' := 288) (by decide) ?_
   refine own_finW hP hlk hEL hh X16 (v := some (.int 1)) (fun h => by rw [Bd.returns] at h; cases h) (by decide) (by decide) q16 hSt hkt hZt CHt ?_ (fun fs hr => retOut X16 hx Bd.returns rfl (Or.inl ⟨rfl, Or.inr (Or.inl rfl), _, rfl⟩) (hb hby at_288) hr)
   exact ⟨rfl, N16⟩
 have tail1 : ∀ {Tt : State} {vmt : Vm} {kt : Nat} {locs : List Loc} {Ht : Heap} (vA vB vC vD : Int32) (al : Addr) (kal : ClassId) (ch na got dg : Addr) (kg : ClassId), Stand p l e room_1 (s.setVm vmt) m #[(.int p0), (.int p1), (.int p2), (.int p3), (.int p4), (.int p5)] below meth c Tt locs 16 100 → Tt.heap = Ht → Fr n0 locs → n0 ≤ Ht.size → s.Since vmt kt → kt ≤ Ht.size → Z.Warmed39 (s.setVm vmt).vm → (s.setVm vmt).vm.findClass "jarkeep/source/SourceDirectoryOfPinLaw" = some m.cls → CHr Z own_EL s.vm h0 vmt Ht → Old Z n0 Ht → Arv Z Ht al kal .char (5 : Int32) [(.int (own_pick p1)), (.int (own_pick p2)), (.int (own_pick p3)), (.int (own_pick p4)), (.int (own_pick p5))] (.int 0) → Exa Z Ht got "java/lang/String" → Fld Z Ht got "java/lang/String" "coder" "B" (.int 0) → Fld Z Ht got "java/lang/String" "value" "[B" (.ref dg) → Arv Z Ht dg kg .byte (1 : Int32) [(.int ((own_pick p1).toInt8.toInt32))] (.int 0) → Go p e below P (Tt.setTop (mkF m 206 #[(vI p0), (vI p1), (vI p2), (vI p3), (vI p4), (vI p5), (vI vA), (vR al), (vR ch), (vR na), (vR got), (vI vB), (vI vC), (vI vD), (vI 1)] [])) := by
   intro Tt vmt kt locs Ht vA vB vC vD al kal ch na got dg kg Xt et Nt Zt hSt hkt hZt hownt CHt Ot Vt Et Ct FVt At
   refine aB Xt hx hby at_206 rfl rfl ?_
   refine c_virt 0 Xt hx hby hml hZt hownt (tw_79 hw) (tw_38 hw) (tw_40 hw) (tw_39 hw) (tw_41 hw) (tw_8 hw) (rm_slen l Z a0 hw [] got dg kg (1 : Int32) [(.int ((own_pick p1).toInt8.toInt32))] cs Ht n0 Zt Ot Scs hcs Et Ct FVt At) et Et at_208 [] [] (lenOf pd0 rfl) rfl rfl (by rfl) (by decide) ?_
   rintro _ T17 Lc17 ⟨rfl, N17q, q17⟩ X17
   have N17 := Fr.app Nt N17q
   refine iB X17 hx hby at_211 rfl ?_
   refine cY X17 hx hby at_213 (pc' := 218) (XT.ii_eq_t (by decide : (1 : Int32) = (1 : Int32))) (by decide) ?_
   refine aB X17 hx hby at_218 rfl rfl ?_
   refine aB X17 hx hby at_220 rfl rfl ?_
   refine iC X17 hx hby at_222 (v := 0) rfl ?_
   refine iB X17 hx hby at_223 rfl ?_
   refine c_stat 0 X17 hx hby hml hZt hownt (tw_80 hw) (tw_81 hw) (tw_4 hw) (tw_82 hw) (rm_agree l Z a0 hw [] got dg kg (1 : Int32) [(.int ((own_pick p1).toInt8.toInt32))] al kal (5 : Int32) [(.int (own_pick p1)), (.int (own_pick p2)), (.int (own_pick p3)), (.int (own_pick p4)), (.int (own_pick p5))] (0 : Int32) ((own_pick p1).toInt8.toInt32) (1 : Int32) (own_pick p1) cs fm Ht n0 Zt Ot Scs hcs Sfm hfm Et Ct FVt At (by decide) (by decide) rfl Vt (by decide) (by decide) rfl (own_pick255 p1)) q17 at_225 [(.ref got), (.ref al), (.int 0), (.int 1)] [] (lenOf pd3 rfl) rfl rfl (by rfl) (by decide) ?_
   rintro _ T18 Lc18 ⟨rfl, N18q, q18⟩ X18
   have N18 := Fr.app N17 N18q
   refine fN X18 hx hby at_228 (XT.i0_eq_f (by decide : ¬ (1 : Int32) = (0 : Int32))) ?_
   refine aB X18 hx hby at_231 rfl rfl ?_
   refine aB X18 hx hby at_233 rfl rfl ?_
   refine iC X18 hx hby at_235 (v := 1) rfl ?_
   refine iB X18 hx hby at_236 rfl ?_
   refine c_stat 0 X18 hx hby hml hZt hownt (tw_80 hw) (tw_81 hw) (tw_4 hw) (tw_82 hw) (rm_agree0 l Z a0 hw [] got al (1 : Int32) (1 : Int32) Ht n0 Zt (by decide)) q18 at_238 [(.ref got), (.ref al), (.int 1), (.int 1)] [] (lenOf pd3 rfl) rfl rfl (by rfl) (by decide) ?_
   rintro _ T19 Lc19 ⟨rfl, N19q, q19⟩ X19
   have N19 := Fr.app N18 N19q
   refine fN X19 hx hby at_241 (XT.i0_eq_f (by decide : ¬ (1 : Int32) = (0 : Int32))) ?_
   refine aB X19 hx hby at_244 rfl rfl ?_
   refine aB X19 hx hby at_246 rfl rfl ?_
   refine iC X19 hx hby at_248 (v := 2) rfl ?_
   refine iB X19 hx hby at_249 rfl ?_
   refine c_stat 0 X19 hx hby hml hZt hownt (tw_80 hw) (tw_81 hw) (tw_4 hw) (tw_82 hw) (rm_agree0 l Z a0 hw [] got al (2 : Int32) (1 : Int32) Ht n0 Zt (by decide)) q19 at_251 [(.ref got), (.ref al), (.int 2), (.int 1)] [] (lenOf pd3 rfl) rfl rfl (by rfl) (by decide) ?_
   rintro _ T20 Lc20 ⟨rfl, N20q, q20⟩ X20
   have N20 := Fr.app N19 N20q
   refine fN X20 hx hby at_254 (XT.i0_eq_f (by decide : ¬ (1 : Int32) = (0 : Int32))) ?_
   refine aB X20 hx hby at_257 rfl rfl ?_
   refine aB X20 hx hby at_259 rfl rfl ?_
   refine iC X20 hx hby at_261 (v := 3) rfl ?_
   refine iB X20 hx hby at_262 rfl ?_
   refine c_stat 0 X20 hx hby hml hZt hownt (tw_80 hw) (tw_81 hw) (tw_4 hw) (tw_82 hw) (rm_agree0 l Z a0 hw [] got al (3 : Int32) (1 : Int32) Ht n0 Zt (by decide)) q20 at_264 [(.ref got), (.ref al), (.int 3), (.int 1)] [] (lenOf pd3 rfl) rfl rfl (by rfl) (by decide) ?_
   rintro _ T21 Lc21 ⟨rfl, N21q, q21⟩ X21
   have N21 := Fr.app N20 N21q
   refine fN X21 hx hby at_267 (XT.i0_eq_f (by decide : ¬ (1 : Int32) = (0 : Int32))) ?_
   refine aB X21 hx hby at_270 rfl rfl ?_
   refine aB X21 hx hby at_272 rfl rfl ?_
   refine iC X21 hx hby at_274 (v := 4) rfl ?_
   refine iB X21 hx hby at_275 rfl ?_
   refine c_stat 0 X21 hx hby hml hZt hownt (tw_80 hw) (tw_81 hw) (tw_4 hw) (tw_82 hw) (rm_agree0 l Z a0 hw [] got al (4 : Int32) (1 : Int32) Ht n0 Zt (by decide)) q21 at_277 [(.ref got), (.ref al), (.int 4), (.int 1)] [] (lenOf pd3 rfl) rfl rfl (by rfl) (by decide) ?_
   rintro _ T22 Lc22 ⟨rfl, N22q, q22⟩ X22
   have N22 := Fr.app N21 N22q
   refine fN X22 hx hby at_280 (XT.i0_eq_f (by decide : ¬ (1 : Int32) = (0 : Int32))) ?_
   refine iC X22 hx hby at_283 (v := 1) rfl ?_
   refine gO X22 hx hby at_284 (pc' := 288) (by decide) ?_
   refine own_finW hP hlk hEL hh X22 (v := some (.int 1)) (fun h => by rw [Bd.returns] at h; cases h) (by decide) (by decide) q22 hSt hkt hZt CHt ?_ (fun fs hr => retOut X22 hx Bd.returns rfl (Or.inl ⟨rfl, Or.inr (Or.inl rfl), _, rfl⟩) (hb hby at_288) hr)
   exact ⟨rfl, N22⟩
 have tail2 : ∀ {Tt : State} {vmt : Vm} {kt : Nat} {locs : List Loc} {Ht : Heap} (vA vB vC vD : Int32) (al : Addr) (kal : ClassId) (ch na got dg : Addr) (kg : ClassId), Stand p l e room_1 (s.setVm vmt) m #[(.int p0), (.int p1), (.int p2), (.int p3), (.int p4), (.int p5)] below meth c Tt locs 16 100 → Tt.heap = Ht → Fr n0 locs → n0 ≤ Ht.size → s.Since vmt kt → kt ≤ Ht.size → Z.Warmed39 (s.setVm vmt).vm → (s.setVm vmt).vm.findClass "jarkeep/source/SourceDirectoryOfPinLaw" = some m.cls → CHr Z own_EL s.vm h0 vmt Ht → Old Z n0 Ht → Arv Z Ht al kal .char (5 : Int32) [(.int (own_pick p1)), (.int (own_pick p2)), (.int (own_pick p3)), (.int (own_pick p4)), (.int (own_pick p5))] (.int 0) → Exa Z Ht got "java/lang/String" → Fld Z Ht got "java/lang/String" "coder" "B" (.int 0) → Fld Z Ht got "java/lang/String" "value" "[B" (.ref dg) → Arv Z Ht dg kg .byte (2 : Int32) [(.int ((own_pick p1).toInt8.toInt32)), (.int ((own_pick p2).toInt8.toInt32))] (.int 0) → Go p e below P (Tt.setTop (mkF m 206 #[(vI p0), (vI p1), (vI p2), (vI p3), (vI p4), (vI p5), (vI vA), (vR al), (vR ch), (vR na), (vR got), (vI vB), (vI vC), (vI vD), (vI 2)] [])) := by
   intro Tt vmt kt locs Ht vA vB vC vD al kal ch na got dg kg Xt et Nt Zt hSt hkt hZt hownt CHt Ot Vt Et Ct FVt At
   refine aB Xt hx hby at_206 rfl rfl ?_
   refine c_virt 0 Xt hx hby hml hZt hownt (tw_79 hw) (tw_38 hw) (tw_40 hw) (tw_39 hw) (tw_41 hw) (tw_8 hw) (rm_slen l Z a0 hw [] got dg kg (2 : Int32) [(.int ((own_pick p1).toInt8.toInt32)), (.int ((own_pick p2).toInt8.toInt32))] cs Ht n0 Zt Ot Scs hcs Et Ct FVt At) et Et at_208 [] [] (lenOf pd0 rfl) rfl rfl (by rfl) (by decide) ?_
   rintro _ T23 Lc23 ⟨rfl, N23q, q23⟩ X23
   have N23 := Fr.app Nt N23q
   refine iB X23 hx hby at_211 rfl ?_
   refine cY X23 hx hby at_213 (pc' := 218) (XT.ii_eq_t (by decide : (2 : Int32) = (2 : Int32))) (by decide) ?_
   refine aB X23 hx hby at_218 rfl rfl ?_
   refine aB X23 hx hby at_220 rfl rfl ?_
   refine iC X23 hx hby at_222 (v := 0) rfl ?_
   refine iB X23 hx hby at_223 rfl ?_
   refine c_stat 0 X23 hx hby hml hZt hownt (tw_80 hw) (tw_81 hw) (tw_4 hw) (tw_82 hw) (rm_agree l Z a0 hw [] got dg kg (2 : Int32) [(.int ((own_pick p1).toInt8.toInt32)), (.int ((own_pick p2).toInt8.toInt32))] al kal (5 : Int32) [(.int (own_pick p1)), (.int (own_pick p2)), (.int (own_pick p3)), (.int (own_pick p4)), (.int (own_pick p5))] (0 : Int32) ((own_pick p1).toInt8.toInt32) (2 : Int32) (own_pick p1) cs fm Ht n0 Zt Ot Scs hcs Sfm hfm Et Ct FVt At (by decide) (by decide) rfl Vt (by decide) (by decide) rfl (own_pick255 p1)) q23 at_225 [(.ref got), (.ref al), (.int 0), (.int 2)] [] (lenOf pd3 rfl) rfl rfl (by rfl) (by decide) ?_
   rintro _ T24 Lc24 ⟨rfl, N24q, q24⟩ X24
   have N24 := Fr.app N23 N24q
   refine fN X24 hx hby at_228 (XT.i0_eq_f (by decide : ¬ (1 : Int32) = (0 : Int32))) ?_
   refine aB X24 hx hby at_231 rfl rfl ?_
   refine aB X24 hx hby at_233 rfl rfl ?_
   refine iC X24 hx hby at_235 (v := 1) rfl ?_
   refine iB X24 hx hby at_236 rfl ?_
   refine c_stat 0 X24 hx hby hml hZt hownt (tw_80 hw) (tw_81 hw) (tw_4 hw) (tw_82 hw) (rm_agree l Z a0 hw [] got dg kg (2 : Int32) [(.int ((own_pick p1).toInt8.toInt32)), (.int ((own_pick p2).toInt8.toInt32))] al kal (5 : Int32) [(.int (own_pick p1)), (.int (own_pick p2)), (.int (own_pick p3)), (.int (own_pick p4)), (.int (own_pick p5))] (1 : Int32) ((own_pick p2).toInt8.toInt32) (2 : Int32) (own_pick p2) cs fm Ht n0 Zt Ot Scs hcs Sfm hfm Et Ct FVt At (by decide) (by decide) rfl Vt (by decide) (by decide) rfl (own_pick255 p2)) q24 at_238 [(.ref got), (.ref al), (.int 1), (.int 2)] [] (lenOf pd3 rfl) rfl rfl (by rfl) (by decide) ?_
   rintro _ T25 Lc25 ⟨rfl, N25q, q25⟩ X25
   have N25 := Fr.app N24 N25q
   refine fN X25 hx hby at_241 (XT.i0_eq_f (by decide : ¬ (1 : Int32) = (0 : Int32))) ?_
   refine aB X25 hx hby at_244 rfl rfl ?_
   refine aB X25 hx hby at_246 rfl rfl ?_
   refine iC X25 hx hby at_248 (v := 2) rfl ?_
   refine iB X25 hx hby at_249 rfl ?_
   refine c_stat 0 X25 hx hby hml hZt hownt (tw_80 hw) (tw_81 hw) (tw_4 hw) (tw_82 hw) (rm_agree0 l Z a0 hw [] got al (2 : Int32) (2 : Int32) Ht n0 Zt (by decide)) q25 at_251 [(.ref got), (.ref al), (.int 2), (.int 2)] [] (lenOf pd3 rfl) rfl rfl (by rfl) (by decide) ?_
   rintro _ T26 Lc26 ⟨rfl, N26q, q26⟩ X26
   have N26 := Fr.app N25 N26q
   refine fN X26 hx hby at_254 (XT.i0_eq_f (by decide : ¬ (1 : Int32) = (0 : Int32))) ?_
   refine aB X26 hx hby at_257 rfl rfl ?_
   refine aB X26 hx hby at_259 rfl rfl ?_
   refine iC X26 hx hby at_261 (v := 3) rfl ?_
   refine iB X26 hx hby at_262 rfl ?_
   refine c_stat 0 X26 hx hby hml hZt hownt (tw_80 hw) (tw_81 hw) (tw_4 hw) (tw_82 hw) (rm_agree0 l Z a0 hw [] got al (3 : Int32) (2 : Int32) Ht n0 Zt (by decide)) q26 at_264 [(.ref got), (.ref al), (.int 3), (.int 2)] [] (lenOf pd3 rfl) rfl rfl (by rfl) (by decide) ?_
   rintro _ T27 Lc27 ⟨rfl, N27q, q27⟩ X27
   have N27 := Fr.app N26 N27q
   refine fN X27 hx hby at_267 (XT.i0_eq_f (by decide : ¬ (1 : Int32) = (0 : Int32))) ?_
   refine aB X27 hx hby at_270 rfl rfl ?_
   refine aB X27 hx hby at_272 rfl rfl ?_
   refine iC X27 hx hby at_274 (v := 4) rfl ?_
   refine iB X27 hx hby at_275 rfl ?_
   refine c_stat 0 X27 hx hby hml hZt hownt (tw_80 hw) (tw_81 hw) (tw_4 hw) (tw_82 hw) (rm_agree0 l Z a0 hw [] got al (4 : Int32) (2 : Int32) Ht n0 Zt (by decide)) q27 at_277 [(.ref got), (.ref al), (.int 4), (.int 2)] [] (lenOf pd3 rfl) rfl rfl (by rfl) (by decide) ?_
   rintro _ T28 Lc28 ⟨rfl, N28q, q28⟩ X28
   have N28 := Fr.app N27 N28q
   refine fN X28 hx hby at_280 (XT.i0_eq_f (by decide : ¬ (1 : Int32) = (0 : Int32))) ?_
   refine iC X28 hx hby at_283 (v := 1) rfl ?_
   refine gO X28 hx hby at_284 (pc' := 288) (by decide) ?_
   refine own_finW hP hlk hEL hh X28 (v := some (.int 1)) (fun h => by rw [Bd.returns] at h; cases h) (by decide) (by decide) q28 hSt hkt hZt CHt ?_ (fun fs hr => retOut X28 hx Bd.returns rfl (Or.inl ⟨rfl, Or.inr (Or.inl rfl), _, rfl⟩) (hb hby at_288) hr)
   exact ⟨rfl, N28⟩
 have tail3 : ∀ {Tt : State} {vmt : Vm} {kt : Nat} {locs : List Loc} {Ht : Heap} (vA vB vC vD : Int32) (al : Addr) (kal : ClassId) (ch na got dg : Addr) (kg : ClassId), Stand p l e room_1 (s.setVm vmt) m #[(.int p0), (.int p1), (.int p2), (.int p3), (.int p4), (.int p5)] below meth c Tt locs 16 100 → Tt.heap = Ht → Fr n0 locs → n0 ≤ Ht.size → s.Since vmt kt → kt ≤ Ht.size → Z.Warmed39 (s.setVm vmt).vm → (s.setVm vmt).vm.findClass "jarkeep/source/SourceDirectoryOfPinLaw" = some m.cls → CHr Z own_EL s.vm h0 vmt Ht → Old Z n0 Ht → Arv Z Ht al kal .char (5 : Int32) [(.int (own_pick p1)), (.int (own_pick p2)), (.int (own_pick p3)), (.int (own_pick p4)), (.int (own_pick p5))] (.int 0) → Exa Z Ht got "java/lang/String" → Fld Z Ht got "java/lang/String" "coder" "B" (.int 0) → Fld Z Ht got "java/lang/String" "value" "[B" (.ref dg) → Arv Z Ht dg kg .byte (3 : Int32) [(.int ((own_pick p1).toInt8.toInt32)), (.int ((own_pick p2).toInt8.toInt32)), (.int ((own_pick p3).toInt8.toInt32))] (.int 0) → Go p e below P (Tt.setTop (mkF m 206 #[(vI p0), (vI p1), (vI p2), (vI p3), (vI p4), (vI p5), (vI vA), (vR al), (vR ch), (vR na), (vR got), (vI vB), (vI vC), (vI vD), (vI 3)] [])) := by
   intro Tt vmt kt locs Ht vA vB vC vD al kal ch na got dg kg Xt et Nt Zt hSt hkt hZt hownt CHt Ot Vt Et Ct FVt At
   refine aB Xt hx hby at_206 rfl rfl ?_
   refine c_virt 0 Xt hx hby hml hZt hownt (tw_79 hw) (tw_38 hw) (tw_40 hw) (tw_39 hw) (tw_41 hw) (tw_8 hw) (rm_slen l Z a0 hw [] got dg kg (3 : Int32) [(.int ((own_pick p1).toInt8.toInt32)), (.int ((own_pick p2).toInt8.toInt32)), (.int ((own_pick p3).toInt8.toInt32))] cs Ht n0 Zt Ot Scs hcs Et Ct FVt At) et Et at_208 [] [] (lenOf pd0 rfl) rfl rfl (by rfl) (by decide) ?_
   rintro _ T29 Lc29 ⟨rfl, N29q, q29⟩ X29
   have N29 := Fr.app Nt N29q
   refine iB X29 hx hby at_211 rfl ?_
   refine cY X29 hx hby at_213 (pc' := 218) (XT.ii_eq_t (by decide : (3 : Int32) = (3 : Int32))) (by decide) ?_
   refine aB X29 hx hby at_218 rfl rfl ?_
   refine aB X29 hx hby at_220 rfl rfl ?_
   refine iC X29 hx hby at_222 (v := 0) rfl ?_
   refine iB X29 hx hby at_223 rfl ?_
   refine c_stat 0 X29 hx hby hml hZt hownt (tw_80 hw) (tw_81 hw) (tw_4 hw) (tw_82 hw) (rm_agree l Z a0 hw [] got dg kg (3 : Int32) [(.int ((own_pick p1).toInt8.toInt32)), (.int ((own_pick p2).toInt8.toInt32)), (.int ((own_pick p3).toInt8.toInt32))] al kal (5 : Int32) [(.int (own_pick p1)), (.int (own_pick p2)), (.int (own_pick p3)), (.int (own_pick p4)), (.int (own_pick p5))] (0 : Int32) ((own_pick p1).toInt8.toInt32) (3 : Int32) (own_pick p1) cs fm Ht n0 Zt Ot Scs hcs Sfm hfm Et Ct FVt At (by decide) (by decide) rfl Vt (by decide) (by decide) rfl (own_pick255 p1)) q29 at_225 [(.ref got), (.ref al), (.int 0), (.int 3)] [] (lenOf pd3 rfl) rfl rfl (by rfl) (by decide) ?_
   rintro _ T30 Lc30 ⟨rfl, N30q, q30⟩ X30
   have N30 := Fr.app N29 N30q
   refine fN X30 hx hby at_228 (XT.i0_eq_f (by decide : ¬ (1 : Int32) = (0 : Int32))) ?_
   refine aB X30 hx hby at_231 rfl rfl ?_
   refine aB X30 hx hby at_233 rfl rfl ?_
   refine iC X30 hx hby at_235 (v := 1) rfl ?_
   refine iB X30 hx hby at_236 rfl ?_
   refine c_stat 0 X30 hx hby hml hZt hownt (tw_80 hw) (tw_81 hw) (tw_4 hw) (tw_82 hw) (rm_agree l Z a0 hw [] got dg kg (3 : Int32) [(.int ((own_pick p1).toInt8.toInt32)), (.int ((own_pick p2).toInt8.toInt32)), (.int ((own_pick p3).toInt8.toInt32))] al kal (5 : Int32) [(.int (own_pick p1)), (.int (own_pick p2)), (.int (own_pick p3)), (.int (own_pick p4)), (.int (own_pick p5))] (1 : Int32) ((own_pick p2).toInt8.toInt32) (3 : Int32) (own_pick p2) cs fm Ht n0 Zt Ot Scs hcs Sfm hfm Et Ct FVt At (by decide) (by decide) rfl Vt (by decide) (by decide) rfl (own_pick255 p2)) q30 at_238 [(.ref got), (.ref al), (.int 1), (.int 3)] [] (lenOf pd3 rfl) rfl rfl (by rfl) (by decide) ?_
   rintro _ T31 Lc31 ⟨rfl, N31q, q31⟩ X31
   have N31 := Fr.app N30 N31q
   refine fN X31 hx hby at_241 (XT.i0_eq_f (by decide : ¬ (1 : Int32) = (0 : Int32))) ?_
   refine aB X31 hx hby at_244 rfl rfl ?_
   refine aB X31 hx hby at_246 rfl rfl ?_
   refine iC X31 hx hby at_248 (v := 2) rfl ?_
   refine iB X31 hx hby at_249 rfl ?_
   refine c_stat 0 X31 hx hby hml hZt hownt (tw_80 hw) (tw_81 hw) (tw_4 hw) (tw_82 hw) (rm_agree l Z a0 hw [] got dg kg (3 : Int32) [(.int ((own_pick p1).toInt8.toInt32)), (.int ((own_pick p2).toInt8.toInt32)), (.int ((own_pick p3).toInt8.toInt32))] al kal (5 : Int32) [(.int (own_pick p1)), (.int (own_pick p2)), (.int (own_pick p3)), (.int (own_pick p4)), (.int (own_pick p5))] (2 : Int32) ((own_pick p3).toInt8.toInt32) (3 : Int32) (own_pick p3) cs fm Ht n0 Zt Ot Scs hcs Sfm hfm Et Ct FVt At (by decide) (by decide) rfl Vt (by decide) (by decide) rfl (own_pick255 p3)) q31 at_251 [(.ref got), (.ref al), (.int 2), (.int 3)] [] (lenOf pd3 rfl) rfl rfl (by rfl) (by decide) ?_
   rintro _ T32 Lc32 ⟨rfl, N32q, q32⟩ X32
   have N32 := Fr.app N31 N32q
   refine fN X32 hx hby at_254 (XT.i0_eq_f (by decide : ¬ (1 : Int32) = (0 : Int32))) ?_
   refine aB X32 hx hby at_257 rfl rfl ?_
   refine aB X32 hx hby at_259 rfl rfl ?_
   refine iC X32 hx hby at_261 (v := 3) rfl ?_
   refine iB X32 hx hby at_262 rfl ?_
   refine c_stat 0 X32 hx hby hml hZt hownt (tw_80 hw) (tw_81 hw) (tw_4 hw) (tw_82 hw) (rm_agree0 l Z a0 hw [] got al (3 : Int32) (3 : Int32) Ht n0 Zt (by decide)) q32 at_264 [(.ref got), (.ref al), (.int 3), (.int 3)] [] (lenOf pd3 rfl) rfl rfl (by rfl) (by decide) ?_
   rintro _ T33 Lc33 ⟨rfl, N33q, q33⟩ X33
   have N33 := Fr.app N32 N33q
   refine fN X33 hx hby at_267 (XT.i0_eq_f (by decide : ¬ (1 : Int32) = (0 : Int32))) ?_
   refine aB X33 hx hby at_270 rfl rfl ?_
   refine aB X33 hx hby at_272 rfl rfl ?_
   refine iC X33 hx hby at_274 (v := 4) rfl ?_
   refine iB X33 hx hby at_275 rfl ?_
   refine c_stat 0 X33 hx hby hml hZt hownt (tw_80 hw) (tw_81 hw) (tw_4 hw) (tw_82 hw) (rm_agree0 l Z a0 hw [] got al (4 : Int32) (3 : Int32) Ht n0 Zt (by decide)) q33 at_277 [(.ref got), (.ref al), (.int 4), (.int 3)] [] (lenOf pd3 rfl) rfl rfl (by rfl) (by decide) ?_
   rintro _ T34 Lc34 ⟨rfl, N34q, q34⟩ X34
   have N34 := Fr.app N33 N34q
   refine fN X34 hx hby at_280 (XT.i0_eq_f (by decide : ¬ (1 : Int32) = (0 : Int32))) ?_
   refine iC X34 hx hby at_283 (v := 1) rfl ?_
   refine gO X34 hx hby at_284 (pc' := 288) (by decide) ?_
   refine own_finW hP hlk hEL hh X34 (v := some (.int 1)) (fun h => by rw [Bd.returns] at h; cases h) (by decide) (by decide) q34 hSt hkt hZt CHt ?_ (fun fs hr => retOut X34 hx Bd.returns rfl (Or.inl ⟨rfl, Or.inr (Or.inl rfl), _, rfl⟩) (hb hby at_288) hr)
   exact ⟨rfl, N34⟩
 show oG p e below P m s₁ 0 #[(vI p0), (vI p1), (vI p2), (vI p3), (vI p4), (vI p5), .unset, .unset, .unset, .unset, .unset, .unset, .unset, .unset, .unset] []
 refine iA X0 hx hby at_0 rfl ?_
 refine Go.by (fun _ => Jvm.Stand.ldcI X0 hx hown (mvT hZ (tw_0 hw)) rfl (hb hby at_1)) ?_
 show oG p e below P m s₁ 3 #[(vI p0), (vI p1), (vI p2), (vI p3), (vI p4), (vI p5), .unset, .unset, .unset, .unset, .unset, .unset, .unset, .unset, .unset] [(.int 2147483647), (.int p0)]
 refine w_iand X0 hx hby at_3 (v := (p0 &&& (2147483647 : Int32))) rfl ?_
 refine bC X0 hx hby at_4 (v := 6) rfl ?_
 refine Go.by (fun _ => iremM X0 hx rfl (hb hby at_6) rfl (by decide)) ?_
 show oG p e below P m s₁ 7 #[(vI p0), (vI p1), (vI p2), (vI p3), (vI p4), (vI p5), .unset, .unset, .unset, .unset, .unset, .unset, .unset, .unset, .unset] [(.int ((p0 &&& (2147483647 : Int32)) % (6 : Int32)))]
 refine iT X0 hx hby at_7 (l' := #[(vI p0), (vI p1), (vI p2), (vI p3), (vI p4), (vI p5), (vI ((p0 &&& (2147483647 : Int32)) % (6 : Int32))), .unset, .unset, .unset, .unset, .unset, .unset, .unset, .unset]) rfl ?_
 refine iC X0 hx hby at_9 (v := 5) rfl ?_
 obtain ⟨T35, h35, k35, X35, e35, E35, A35, st35⟩ := newP X0 hx hZ (aty := .char) (tw_1 hw) e0 (g := (mkF m 10 #[(vI p0), (vI p1), (vI p2), (vI p3), (vI p4), (vI p5), (vI ((p0 &&& (2147483647 : Int32)) % (6 : Int32))), .unset, .unset, .unset, .unset, .unset, .unset, .unset, .unset] [(.int 5)])) rfl (hb hby at_10) rfl (by decide) (cap := 5) (by decide) (by decide) (by decide) (by decide)
 obtain ⟨b35, g35⟩ : ∃ z, z = h0.size := ⟨_, rfl⟩
 rw [← g35] at A35 st35
 have g_b35 : n0 ≤ b35 := Nat.le_trans Z0 (Nat.le_of_eq g35.symm)
 have sz_b35 : h0.size ≤ b35 := Nat.le_trans (Keep.refl h0 []).1 (Nat.le_of_eq g35.symm)
 have sf_b35 : Safe Z own_EL s.vm h0 b35 := Safe.new (Nat.le_of_eq g35.symm)
 have f35_0 := Nat.le_trans Z0 E35.1
 have f35_1 := CHr.trans (CHr.refl hCH) (CHr.ext E35 (CHr.refl hCH).1)
 have f35_2 := Nat.le_trans hk0 E35.1
 have f35_3 := Keep.ext (Keep.refl h0 []) E35
 have f35_4 := Old.ext O0 E35
 have f35_5 := Safe.ext E35 (CHr.refl hCH).1 sf_b35
 refine Go.by st35 ?_
 have V35 : Arv Z h35 b35 k35 .char (5 : Int32) [(.int 0), (.int 0), (.int 0), (.int 0), (.int 0)] (.int 0) := (Arv.new A35 (by decide)).pad (pad_rep [] (.int 0) 5)
 show oG p e below P m T35 12 #[(vI p0), (vI p1), (vI p2), (vI p3), (vI p4), (vI p5), (vI ((p0 &&& (2147483647 : Int32)) % (6 : Int32))), .unset, .unset, .unset, .unset, .unset, .unset, .unset, .unset] [(.ref b35)]
 refine dU X35 hx hby at_12 rfl ?_
 refine iC X35 hx hby at_13 (v := 0) rfl ?_
 refine iA X35 hx hby at_14 rfl ?_
 refine c_stat 3 X35 hx hby hml hZ hown (tw_2 hw) (tw_3 hw) (tw_4 hw) (tw_5 hw) (rm_pick l Z a0 hw [] p1 h35 n0 f35_0 ) e35 at_15 [(.int p1)] [(.int 0), (.ref b35), (.ref b35)] (lenOf pd13 rfl) rfl rfl (by rfl) (by decide) ?_
 rintro _ T36 Lc36 ⟨rfl, N36q, q36⟩ X36
 have N36 := Fr.app N0 N36q
 have av37 := V35
 obtain ⟨cl37, Ar37, q37, Sz37, Nn37, Ha37, Gf37⟩ := av37
 have hin37 : ¬ ((0 : Int32) < 0 ∨ cl37.slots.size ≤ ((0 : Int32)).toNatClampNeg) := inb_of Sz37 ⟨by decide, by decide⟩
 obtain ⟨T38, h38, X38, e38, W38, st38⟩ := stC X36 hx hZ q36 Ar37 (j := (0 : Int32)) hin37 (g := (mkF m 18 #[(vI p0), (vI p1), (vI p2), (vI p3), (vI p4), (vI p5), (vI ((p0 &&& (2147483647 : Int32)) % (6 : Int32))), .unset, .unset, .unset, .unset, .unset, .unset, .unset, .unset] [(.int (own_pick p1)), (.int 0), (.ref b35), (.ref b35)])) rfl rfl (hb hby at_18)
 have W38' : Wr h35 h38 b35 ((0 : Int32)).toNatClampNeg (.int (own_pick p1)) := (by have q : Wr h35 h38 b35 ((0 : Int32)).toNatClampNeg (.int (nar .char (own_pick p1))) := W38; rw [own_chr _ (own_pickr p1).1 (own_pickr p1).2] at q; exact q)
 have V38 : Arv Z h38 b35 k35 .char (5 : Int32) [(.int (own_pick p1)), (.int 0), (.int 0), (.int 0), (.int 0)] (.int 0) := Arv.set Ar37 q37 Sz37 Nn37 Ha37 Gf37 (own_chf _ (own_pickr p1).1 (own_pickr p1).2) W38' 0 rfl (Nat.le_of_ble_eq_true rfl)
 have N38 := Fr.snoc X38 N36 g_b35
 have f38_0 := Nat.le_trans f35_0 (Keep.of_wr W38).1
 have f38_1 := CHr.trans f35_1 (CHr.wr W38 f35_5 f35_1.1)
 have f38_2 := Nat.le_trans f35_2 (Keep.of_wr W38).1
 have f38_3 := Keep.wr f35_3 W38 (Or.inr sz_b35)
 have f38_4 := Old.wr f35_4 W38 g_b35
 have f38_5 := Safe.wr W38 f35_5 f35_1.1 f35_5
 refine Go.by st38 ?_
 show oG p e below P m T38 19 #[(vI p0), (vI p1), (vI p2), (vI p3), (vI p4), (vI p5), (vI ((p0 &&& (2147483647 : Int32)) % (6 : Int32))), .unset, .unset, .unset, .unset, .unset, .unset, .unset, .unset] [(.ref b35)]
 refine dU X38 hx hby at_19 rfl ?_
 refine iC X38 hx hby at_20 (v := 1) rfl ?_
 refine iA X38 hx hby at_21 rfl ?_
 refine c_stat 3 X38 hx hby hml hZ hown (tw_2 hw) (tw_3 hw) (tw_4 hw) (tw_5 hw) (rm_pick l Z a0 hw [] p2 h38 n0 f38_0 ) e38 at_22 [(.int p2)] [(.int 1), (.ref b35), (.ref b35)] (lenOf pd13 rfl) rfl rfl (by rfl) (by decide) ?_
 rintro _ T39 Lc39 ⟨rfl, N39q, q39⟩ X39
 have N39 := Fr.app N38 N39q
 have av40 := V38
 obtain ⟨cl40, Ar40, q40, Sz40, Nn40, Ha40, Gf40⟩ := av40
 have hin40 : ¬ ((1 : Int32) < 0 ∨ cl40.slots.size ≤ ((1 : Int32)).toNatClampNeg) := inb_of Sz40 ⟨by decide, by decide⟩
 obtain ⟨T41, h41, X41, e41, W41, st41⟩ := stC X39 hx hZ q39 Ar40 (j := (1 : Int32)) hin40 (g := (mkF m 25 #[(vI p0), (vI p1), (vI p2), (vI p3), (vI p4), (vI p5), (vI ((p0 &&& (2147483647 : Int32)) % (6 : Int32))), .unset, .unset, .unset, .unset, .unset, .unset, .unset, .unset] [(.int (own_pick p2)), (.int 1), (.ref b35), (.ref b35)])) rfl rfl (hb hby at_25)
 have W41' : Wr h38 h41 b35 ((1 : Int32)).toNatClampNeg (.int (own_pick p2)) := (by have q : Wr h38 h41 b35 ((1 : Int32)).toNatClampNeg (.int (nar .char (own_pick p2))) := W41; rw [own_chr _ (own_pickr p2).1 (own_pickr p2).2] at q; exact q)
 have V41 : Arv Z h41 b35 k35 .char (5 : Int32) [(.int (own_pick p1)), (.int (own_pick p2)), (.int 0), (.int 0), (.int 0)] (.int 0) := Arv.set Ar40 q40 Sz40 Nn40 Ha40 Gf40 (own_chf _ (own_pickr p2).1 (own_pickr p2).2) W41' 1 rfl (Nat.le_of_ble_eq_true rfl)
 have N41 := Fr.snoc X41 N39 g_b35
 have f41_0 := Nat.le_trans f38_0 (Keep.of_wr W41).1
 have f41_1 := CHr.trans f38_1 (CHr.wr W41 f38_5 f38_1.1)
 have f41_2 := Nat.le_trans f38_2 (Keep.of_wr W41).1
 have f41_3 := Keep.wr f38_3 W41 (Or.inr sz_b35)
 have f41_4 := Old.wr f38_4 W41 g_b35
 have f41_5 := Safe.wr W41 f38_5 f38_1.1 f38_5
 refine Go.by st41 ?_
 show oG p e below P m T41 26 #[(vI p0), (vI p1), (vI p2), (vI p3), (vI p4), (vI p5), (vI ((p0 &&& (2147483647 : Int32)) % (6 : Int32))), .unset, .unset, .unset, .unset, .unset, .unset, .unset, .unset] [(.ref b35)]
 refine dU X41 hx hby at_26 rfl ?_
 refine iC X41 hx hby at_27 (v := 2) rfl ?_
 refine iA X41 hx hby at_28 rfl ?_
 refine c_stat 3 X41 hx hby hml hZ hown (tw_2 hw) (tw_3 hw) (tw_4 hw) (tw_5 hw) (rm_pick l Z a0 hw [] p3 h41 n0 f41_0 ) e41 at_29 [(.int p3)] [(.int 2), (.ref b35), (.ref b35)] (lenOf pd13 rfl) rfl rfl (by rfl) (by decide) ?_
 rintro _ T42 Lc42 ⟨rfl, N42q, q42⟩ X42
 have N42 := Fr.app N41 N42q
 have av43 := V41
 obtain ⟨cl43, Ar43, q43, Sz43, Nn43, Ha43, Gf43⟩ := av43
 have hin43 : ¬ ((2 : Int32) < 0 ∨ cl43.slots.size ≤ ((2 : Int32)).toNatClampNeg) := inb_of Sz43 ⟨by decide, by decide⟩
 obtain ⟨T44, h44, X44, e44, W44, st44⟩ := stC X42 hx hZ q42 Ar43 (j := (2 : Int32)) hin43 (g := (mkF m 32 #[(vI p0), (vI p1), (vI p2), (vI p3), (vI p4), (vI p5), (vI ((p0 &&& (2147483647 : Int32)) % (6 : Int32))), .unset, .unset, .unset, .unset, .unset, .unset, .unset, .unset] [(.int (own_pick p3)), (.int 2), (.ref b35), (.ref b35)])) rfl rfl (hb hby at_32)
 have W44' : Wr h41 h44 b35 ((2 : Int32)).toNatClampNeg (.int (own_pick p3)) := (by have q : Wr h41 h44 b35 ((2 : Int32)).toNatClampNeg (.int (nar .char (own_pick p3))) := W44; rw [own_chr _ (own_pickr p3).1 (own_pickr p3).2] at q; exact q)
 have V44 : Arv Z h44 b35 k35 .char (5 : Int32) [(.int (own_pick p1)), (.int (own_pick p2)), (.int (own_pick p3)), (.int 0), (.int 0)] (.int 0) := Arv.set Ar43 q43 Sz43 Nn43 Ha43 Gf43 (own_chf _ (own_pickr p3).1 (own_pickr p3).2) W44' 2 rfl (Nat.le_of_ble_eq_true rfl)
 have N44 := Fr.snoc X44 N42 g_b35
 have f44_0 := Nat.le_trans f41_0 (Keep.of_wr W44).1
 have f44_1 := CHr.trans f41_1 (CHr.wr W44 f41_5 f41_1.1)
 have f44_2 := Nat.le_trans f41_2 (Keep.of_wr W44).1
 have f44_3 := Keep.wr f41_3 W44 (Or.inr sz_b35)
 have f44_4 := Old.wr f41_4 W44 g_b35
 have f44_5 := Safe.wr W44 f41_5 f41_1.1 f41_5
 refine Go.by st44 ?_
 show oG p e below P m T44 33 #[(vI p0), (vI p1), (vI p2), (vI p3), (vI p4), (vI p5), (vI ((p0 &&& (2147483647 : Int32)) % (6 : Int32))), .unset, .unset, .unset, .unset, .unset, .unset, .unset, .unset] [(.ref b35)]
 refine dU X44 hx hby at_33 rfl ?_
 refine iC X44 hx hby at_34 (v := 3) rfl ?_
 refine iB X44 hx hby at_35 rfl ?_
 refine c_stat 3 X44 hx hby hml hZ hown (tw_2 hw) (tw_3 hw) (tw_4 hw) (tw_5 hw) (rm_pick l Z a0 hw [] p4 h44 n0 f44_0 ) e44 at_37 [(.int p4)] [(.int 3), (.ref b35), (.ref b35)] (lenOf pd13 rfl) rfl rfl (by rfl) (by decide) ?_
 rintro _ T45 Lc45 ⟨rfl, N45q, q45⟩ X45
 have N45 := Fr.app N44 N45q
 have av46 := V44
 obtain ⟨cl46, Ar46, q46, Sz46, Nn46, Ha46, Gf46⟩ := av46
 have hin46 : ¬ ((3 : Int32) < 0 ∨ cl46.slots.size ≤ ((3 : Int32)).toNatClampNeg) := inb_of Sz46 ⟨by decide, by decide⟩
 obtain ⟨T47, h47, X47, e47, W47, st47⟩ := stC X45 hx hZ q45 Ar46 (j := (3 : Int32)) hin46 (g := (mkF m 40 #[(vI p0), (vI p1), (vI p2), (vI p3), (vI p4), (vI p5), (vI ((p0 &&& (2147483647 : Int32)) % (6 : Int32))), .unset, .unset, .unset, .unset, .unset, .unset, .unset, .unset] [(.int (own_pick p4)), (.int 3), (.ref b35), (.ref b35)])) rfl rfl (hb hby at_40)
 have W47' : Wr h44 h47 b35 ((3 : Int32)).toNatClampNeg (.int (own_pick p4)) := (by have q : Wr h44 h47 b35 ((3 : Int32)).toNatClampNeg (.int (nar .char (own_pick p4))) := W47; rw [own_chr _ (own_pickr p4).1 (own_pickr p4).2] at q; exact q)
 have V47 : Arv Z h47 b35 k35 .char (5 : Int32) [(.int (own_pick p1)), (.int (own_pick p2)), (.int (own_pick p3)), (.int (own_pick p4)), (.int 0)] (.int 0) := Arv.set Ar46 q46 Sz46 Nn46 Ha46 Gf46 (own_chf _ (own_pickr p4).1 (own_pickr p4).2) W47' 3 rfl (Nat.le_of_ble_eq_true rfl)
 have N47 := Fr.snoc X47 N45 g_b35
 have f47_0 := Nat.le_trans f44_0 (Keep.of_wr W47).1
 have f47_1 := CHr.trans f44_1 (CHr.wr W47 f44_5 f44_1.1)
 have f47_2 := Nat.le_trans f44_2 (Keep.of_wr W47).1
 have f47_3 := Keep.wr f44_3 W47 (Or.inr sz_b35)
 have f47_4 := Old.wr f44_4 W47 g_b35
 have f47_5 := Safe.wr W47 f44_5 f44_1.1 f44_5
 refine Go.by st47 ?_
 show oG p e below P m T47 41 #[(vI p0), (vI p1), (vI p2), (vI p3), (vI p4), (vI p5), (vI ((p0 &&& (2147483647 : Int32)) % (6 : Int32))), .unset, .unset, .unset, .unset, .unset, .unset, .unset, .unset] [(.ref b35)]
 refine dU X47 hx hby at_41 rfl ?_
 refine iC X47 hx hby at_42 (v := 4) rfl ?_
 refine iB X47 hx hby at_43 rfl ?_
 refine c_stat 3 X47 hx hby hml hZ hown (tw_2 hw) (tw_3 hw) (tw_4 hw) (tw_5 hw) (rm_pick l Z a0 hw [] p5 h47 n0 f47_0 ) e47 at_45 [(.int p5)] [(.int 4), (.ref b35), (.ref b35)] (lenOf pd13 rfl) rfl rfl (by rfl) (by decide) ?_
 rintro _ T48 Lc48 ⟨rfl, N48q, q48⟩ X48
 have N48 := Fr.app N47 N48q
 have av49 := V47
 obtain ⟨cl49, Ar49, q49, Sz49, Nn49, Ha49, Gf49⟩ := av49
 have hin49 : ¬ ((4 : Int32) < 0 ∨ cl49.slots.size ≤ ((4 : Int32)).toNatClampNeg) := inb_of Sz49 ⟨by decide, by decide⟩
 obtain ⟨T50, h50, X50, e50, W50, st50⟩ := stC X48 hx hZ q48 Ar49 (j := (4 : Int32)) hin49 (g := (mkF m 48 #[(vI p0), (vI p1), (vI p2), (vI p3), (vI p4), (vI p5), (vI ((p0 &&& (2147483647 : Int32)) % (6 : Int32))), .unset, .unset, .unset, .unset, .unset, .unset, .unset, .unset] [(.int (own_pick p5)), (.int 4), (.ref b35), (.ref b35)])) rfl rfl (hb hby at_48)
 have W50' : Wr h47 h50 b35 ((4 : Int32)).toNatClampNeg (.int (own_pick p5)) := (by have q : Wr h47 h50 b35 ((4 : Int32)).toNatClampNeg (.int (nar .char (own_pick p5))) := W50; rw [own_chr _ (own_pickr p5).1 (own_pickr p5).2] at q; exact q)
 have V50 : Arv Z h50 b35 k35 .char (5 : Int32) [(.int (own_pick p1)), (.int (own_pick p2)), (.int (own_pick p3)), (.int (own_pick p4)), (.int (own_pick p5))] (.int 0) := Arv.set Ar49 q49 Sz49 Nn49 Ha49 Gf49 (own_chf _ (own_pickr p5).1 (own_pickr p5).2) W50' 4 rfl (Nat.le_of_ble_eq_true rfl)
 have N50 := Fr.snoc X50 N48 g_b35
 have f50_0 := Nat.le_trans f47_0 (Keep.of_wr W50).1
 have f50_1 := CHr.trans f47_1 (CHr.wr W50 f47_5 f47_1.1)
 have f50_2 := Nat.le_trans f47_2 (Keep.of_wr W50).1
 have f50_3 := Keep.wr f47_3 W50 (Or.inr sz_b35)
 have f50_4 := Old.wr f47_4 W50 g_b35
 have f50_5 := Safe.wr W50 f47_5 f47_1.1 f47_5
 refine Go.by st50 ?_
 show oG p e below P m T50 49 #[(vI p0), (vI p1), (vI p2), (vI p3), (vI p4), (vI p5), (vI ((p0 &&& (2147483647 : Int32)) % (6 : Int32))), .unset, .unset, .unset, .unset, .unset, .unset, .unset, .unset] [(.ref b35)]
 refine aT X50 hx hby at_49 rfl (l' := #[(vI p0), (vI p1), (vI p2), (vI p3), (vI p4), (vI p5), (vI ((p0 &&& (2147483647 : Int32)) % (6 : Int32))), (vR b35), .unset, .unset, .unset, .unset, .unset, .unset, .unset]) rfl ?_
 rcases own_n6 p0 with hn | hn | hn | hn | hn | hn
 · rw [hn]
   show oG p e below P m T50 51 #[(vI p0), (vI p1), (vI p2), (vI p3), (vI p4), (vI p5), (vI 0), (vR b35), .unset, .unset, .unset, .unset, .unset, .unset, .unset] []
   refine iB X50 hx hby at_51 rfl ?_
   obtain ⟨T51, h51, k51, X51, e51, E51, A51, st51⟩ := newP X50 hx hZ (aty := .char) (tw_1 hw) e50 (g := (mkF m 53 #[(vI p0), (vI p1), (vI p2), (vI p3), (vI p4), (vI p5), (vI 0), (vR b35), .unset, .unset, .unset, .unset, .unset, .unset, .unset] [(.int 0)])) rfl (hb hby at_53) rfl (by decide) (cap := 0) (by decide) (by decide) (by decide) (by decide)
   obtain ⟨b51, g51⟩ : ∃ z, z = h50.size := ⟨_, rfl⟩
   rw [← g51] at A51 st51
   have g_b51 : n0 ≤ b51 := Nat.le_trans f50_0 (Nat.le_of_eq g51.symm)
   have sz_b51 : h0.size ≤ b51 := Nat.le_trans f50_3.1 (Nat.le_of_eq g51.symm)
   have ne_b35_b51 : b35 ≠ b51 := Nat.ne_of_lt (Nat.lt_of_lt_of_le (V50.lt) (Nat.le_of_eq g51.symm))
   have sf_b51 : Safe Z own_EL s.vm h50 b51 := Safe.new (Nat.le_of_eq g51.symm)
   have f51_0 := Nat.le_trans f50_0 E51.1
   have f51_1 := CHr.trans f50_1 (CHr.ext E51 f50_1.1)
   have f51_2 := Nat.le_trans f50_2 E51.1
   have f51_3 := Keep.ext f50_3 E51
   have f51_4 := Old.ext f50_4 E51
   have f51_5 := Safe.ext E51 f50_1.1 f50_5
   have f51_6 := Arv.ext V50 E51
   have f51_7 := Safe.ext E51 f50_1.1 sf_b51
   refine Go.by st51 ?_
   have V51 : Arv Z h51 b51 k51 .char (0 : Int32) [] (.int 0) := (Arv.new A51 (by decide)).pad (pad_rep [] (.int 0) 0)
   show oG p e below P m T51 55 #[(vI p0), (vI p1), (vI p2), (vI p3), (vI p4), (vI p5), (vI 0), (vR b35), .unset, .unset, .unset, .unset, .unset, .unset, .unset] [(.ref b51)]
   refine aT X51 hx hby at_55 rfl (l' := #[(vI p0), (vI p1), (vI p2), (vI p3), (vI p4), (vI p5), (vI 0), (vR b35), (vR b51), .unset, .unset, .unset, .unset, .unset, .unset]) rfl ?_
   refine iB X51 hx hby at_57 rfl ?_
   refine fY X51 hx hby at_59 (pc' := 70) (XT.i0_le_t (by decide : ¬ (0 : Int32) < (0 : Int32))) (by decide) ?_
   refine iB X51 hx hby at_70 rfl ?_
   refine iC X51 hx hby at_72 (v := 1) rfl ?_
   refine cY X51 hx hby at_73 (pc' := 84) (XT.ii_le_t (by decide : ¬ (1 : Int32) < (0 : Int32))) (by decide) ?_
   refine iB X51 hx hby at_84 rfl ?_
   refine iC X51 hx hby at_86 (v := 2) rfl ?_
   refine cY X51 hx hby at_87 (pc' := 98) (XT.ii_le_t (by decide : ¬ (2 : Int32) < (0 : Int32))) (by decide) ?_
   refine iB X51 hx hby at_98 rfl ?_
   refine iC X51 hx hby at_100 (v := 3) rfl ?_
   refine cY X51 hx hby at_101 (pc' := 112) (XT.ii_le_t (by decide : ¬ (3 : Int32) < (0 : Int32))) (by decide) ?_
   refine iB X51 hx hby at_112 rfl ?_
   refine iC X51 hx hby at_114 (v := 4) rfl ?_
   refine cY X51 hx hby at_115 (pc' := 126) (XT.ii_le_t (by decide : ¬ (4 : Int32) < (0 : Int32))) (by decide) ?_
   obtain ⟨T52, h52, X52, e52, E52, A52, D52, U52, st52⟩ := newO X51 hx hZ hown (tw_6 hw) (tw_7 hw) (tw_8 hw) e51 (g := (mkF m 126 #[(vI p0), (vI p1), (vI p2), (vI p3), (vI p4), (vI p5), (vI 0), (vR b35), (vR b51), .unset, .unset, .unset, .unset, .unset, .unset] [])) rfl (hb hby at_126) (by decide) (by decide)
   obtain ⟨b52, g52⟩ : ∃ z, z = h51.size := ⟨_, rfl⟩
   rw [← g52] at A52 D52 U52 st52
   have g_b52 : n0 ≤ b52 := Nat.le_trans f51_0 (Nat.le_of_eq g52.symm)
   have sz_b52 : h0.size ≤ b52 := Nat.le_trans f51_3.1 (Nat.le_of_eq g52.symm)
   have ne_b35_b52 : b35 ≠ b52 := Nat.ne_of_lt (Nat.lt_of_lt_of_le (f51_6.lt) (Nat.le_of_eq g52.symm))
   have ne_b51_b52 : b51 ≠ b52 := Nat.ne_of_lt (Nat.lt_of_lt_of_le (V51.lt) (Nat.le_of_eq g52.symm))
   have sf_b52 : Safe Z own_EL s.vm h51 b52 := Safe.new (Nat.le_of_eq g52.symm)
   have f52_0 := Nat.le_trans f51_0 E52.1
   have f52_1 := CHr.trans f51_1 (CHr.ext E52 f51_1.1)
   have f52_2 := Nat.le_trans f51_2 E52.1
   have f52_3 := Keep.ext f51_3 E52
   have f52_4 := Old.ext f51_4 E52
   have f52_5 := Safe.ext E52 f51_1.1 f51_5
   have f52_6 := Arv.ext f51_6 E52
   have f52_7 := Safe.ext E52 f51_1.1 f51_7
   have f52_8 := Arv.ext V51 E52
   have f52_9 := Safe.ext E52 f51_1.1 sf_b52
   refine Go.by st52 ?_
   have F52_value : Fld Z h52 b52 "java/lang/String" "value" "[B" .null := D52 (Or.inr (tw_21 hw)) (ty := (.array .byte)) (by decide)
   have F52_coder : Fld Z h52 b52 "java/lang/String" "coder" "B" (.int 0) := D52 (Or.inr (tw_22 hw)) (ty := .byte) (by decide)
   show oG p e below P m T52 129 #[(vI p0), (vI p1), (vI p2), (vI p3), (vI p4), (vI p5), (vI 0), (vR b35), (vR b51), .unset, .unset, .unset, .unset, .unset, .unset] [(.ref b52)]
   refine dU X52 hx hby at_129 rfl ?_
   refine aB X52 hx hby at_130 rfl rfl ?_
   obtain ⟨_, _, ⟨T53, L53, k53, n53⟩, -, X53', hS53', hg53, ⟨Lc53, hQ53, l53, y53, z53, C53⟩, st53⟩ := X52.specialBackS hx (y := oY16) rfl hown (mvT hZ (tw_9 hw)) (mvT hZ (tw_10 hw)) (mvT hZ (tw_11 hw)) (by decide) (own_backC (W := 1) (rm_ei1 l Z a0 hw hEL [] b52 b51 k51 h52 n0 f52_0 A52 g_b52 F52_coder F52_value f52_8) hZ (tw_11 hw) (tw_8 hw) (by decide) (by decide) hEL f52_1.1 (own_ssS f52_9 (A52.lt) own_ss0)) (g := (mkF m 132 #[(vI p0), (vI p1), (vI p2), (vI p3), (vI p4), (vI p5), (vI 0), (vR b35), (vR b51), .unset, .unset, .unset, .unset, .unset, .unset] [(.ref b51), (.ref b52), (.ref b52)])) rfl (by rw [hml]; rfl) (Steps.refl _) (a := b52) (argsL := [(.ref b51)]) (rest := [(.ref b52)]) (lenOf pd18 rfl) rfl (by show 2 * 0 + _ ≤ _; exact Nat.le_of_eq rfl) (hb hby at_132) (fun _ _ => ⟨rfl, e52, (by decide : 3 + 4 ≤ _), (by decide : 9 + 8 ≤ _)⟩)
   dsimp only [Pt.U, Pt.locs, Pt.cells, Pt.slots] at X53' hS53' hg53 l53 y53 z53 st53 hQ53 C53
   subst l53 y53 z53
   obtain ⟨X53, hS53, hZ53, hown53⟩ := rebS hS0 (f52_2) X53' hS53' (by have q := hg53; rw [e52] at q; exact q) hZ hown
   have hk53 : T53.heap.size ≤ T53.heap.size := Nat.le_refl _
   obtain ⟨rfl, N53q, K53, S53⟩ := hQ53
   have N53 := Fr.app N50 N53q
   refine Go.by (fun t k => st53.trans k) ?_
   have f53_0 := Nat.le_trans f52_0 K53.1
   have f53_1 := CHr.trans f52_1 C53
   have f53_2 : T53.heap.size ≤ T53.heap.size := hk53
   have f53_3 := Keep.trans f52_3 K53 (allS (Or.inr sz_b52) all0)
   have f53_4 := Old.keep f52_4 K53 (allS g_b52 all0)
   have f53_5 := CHr.safe C53 (f52_6.lt) f52_5
   have f53_6 := Arv.keep f52_6 K53 (ninS ne_b35_b52 nin0)
   have f53_7 := CHr.safe C53 (f52_8.lt) f52_7
   have f53_8 := Arv.keep f52_8 K53 (ninS ne_b51_b52 nin0)
   have f53_9 := CHr.safe C53 (A52.lt) f52_9
   have f53_10 := Exa.keep A52 K53
   show oG p e below P m T53 135 #[(vI p0), (vI p1), (vI p2), (vI p3), (vI p4), (vI p5), (vI 0), (vR b35), (vR b51), .unset, .unset, .unset, .unset, .unset, .unset] [(.ref b52)]
   refine aT X53 hx hby at_135 rfl (l' := #[(vI p0), (vI p1), (vI p2), (vI p3), (vI p4), (vI p5), (vI 0), (vR b35), (vR b51), (vR b52), .unset, .unset, .unset, .unset, .unset]) rfl ?_
   refine aB X53 hx hby at_137 rfl rfl ?_
   obtain ⟨_, _, ⟨T54, L54, k54, n54⟩, -, X54', hS54', hg54, ⟨Lc54, hQ54, l54, y54, z54, C54⟩, st54⟩ := Jvm.RoadKit.callSS X53 hx (y := oY14) hown53 (mvT hZ53 (tw_27 hw)) (mvT hZ53 (tw_28 hw)) (mvT hZ53 (tw_29 hw)) (mvT hZ53 (tw_30 hw)) (by decide) (own_backC (W := 0) (rm_dirOf0 l Z a0 hw hEL [] b52 cs fm T53.heap n0 f53_0 f53_4 Scs hcs Sfm hfm S53) hZ53 (tw_30 hw) (tw_29 hw) (by decide) (by decide) hEL f53_1.1 own_ss0) (g := (mkF m 139 #[(vI p0), (vI p1), (vI p2), (vI p3), (vI p4), (vI p5), (vI 0), (vR b35), (vR b51), (vR b52), .unset, .unset, .unset, .unset, .unset] [(.ref b52)])) rfl (by rw [hml]; rfl) (argsL := [(.ref b52)]) (rest := []) (lenOf pd19 rfl) rfl (by show 2 * 0 + _ ≤ _; exact Nat.le_of_eq rfl) (hb hby at_139) (fun _ _ => ⟨rfl, rfl, (by decide : 7 + 4 ≤ _), (by decide : 17 + 16 ≤ _)⟩)
   dsimp only [Pt.U, Pt.locs, Pt.cells, Pt.slots] at X54' hS54' hg54 l54 y54 z54 st54 hQ54 C54
   subst l54 y54 z54
   obtain ⟨X54, hS54, hZ54, hown54⟩ := rebS hS53 (f53_2) X54' hS54' hg54 hZ53 hown53
   have hk54 : T54.heap.size ≤ T54.heap.size := Nat.le_refl _
   obtain ⟨r54, rfl, N54q, K54, D54⟩ := hQ54
   have N54 := Fr.app N53 N54q
   refine Go.by (fun t k => st54.trans k) ?_
   have f54_0 := Nat.le_trans f53_0 K54.1
   have f54_1 := CHr.trans f53_1 C54
   have f54_2 : T54.heap.size ≤ T54.heap.size := hk54
   have f54_3 := Keep.trans f53_3 K54 all0
   have f54_4 := Old.keep f53_4 K54 all0
   have f54_5 := CHr.safe C54 (f53_6.lt) f53_5
   have f54_6 := Arv.keep f53_6 K54 nin0
   have f54_7 := CHr.safe C54 (f53_8.lt) f53_7
   have f54_8 := Arv.keep f53_8 K54 nin0
   have f54_9 := StrV.keep0 S53 K54
   show oG p e below P m T54 142 #[(vI p0), (vI p1), (vI p2), (vI p3), (vI p4), (vI p5), (vI 0), (vR b35), (vR b51), (vR b52), .unset, .unset, .unset, .unset, .unset] [(.ref r54)]
   refine aT X54 hx hby at_142 rfl (l' := #[(vI p0), (vI p1), (vI p2), (vI p3), (vI p4), (vI p5), (vI 0), (vR b35), (vR b51), (vR b52), (vR r54), .unset, .unset, .unset, .unset]) rfl ?_
   refine iB X54 hx hby at_144 rfl ?_
   refine fY X54 hx hby at_146 (pc' := 165) (XT.i0_le_t (by decide : ¬ (0 : Int32) < (0 : Int32))) (by decide) ?_
   refine iC X54 hx hby at_165 (v := 0) rfl ?_
   refine iT X54 hx hby at_166 (l' := #[(vI p0), (vI p1), (vI p2), (vI p3), (vI p4), (vI p5), (vI 0), (vR b35), (vR b51), (vR b52), (vR r54), (vI 0), .unset, .unset, .unset]) rfl ?_
   refine iB X54 hx hby at_168 rfl ?_
   refine fY X54 hx hby at_170 (pc' := 180) (XT.i0_eq_t (by decide : (0 : Int32) = (0 : Int32))) (by decide) ?_
   refine iB X54 hx hby at_180 rfl ?_
   refine iT X54 hx hby at_182 (l' := #[(vI p0), (vI p1), (vI p2), (vI p3), (vI p4), (vI p5), (vI 0), (vR b35), (vR b51), (vR b52), (vR r54), (vI 0), (vI 0), .unset, .unset]) rfl ?_
   refine aB X54 hx hby at_184 rfl rfl ?_
   refine iB X54 hx hby at_186 rfl ?_
   refine c_stat 0 X54 hx hby hml hZ54 hown54 (tw_76 hw) (tw_77 hw) (tw_4 hw) (tw_78 hw) (rm_lastSlash0 l Z a0 hw [] b35 k35 (own_pick p1) (own_pick p2) (own_pick p3) (own_pick p4) (own_pick p5) T54.heap n0 f54_0 f54_6) rfl at_188 [(.ref b35), (.int 0)] [] (lenOf pd9 rfl) rfl rfl (by rfl) (by decide) ?_
   rintro _ T55 Lc55 ⟨rfl, N55q, q55⟩ X55
   have N55 := Fr.app N54 N55q
   obtain ⟨dg, kdg, ESg, CSg, VSg, ASg⟩ := D54
   have ATg : Arv Z T54.heap dg kdg .byte (0 : Int32) [] (.int 0) := ASg
   refine iT X55 hx hby at_191 (l' := #[(vI p0), (vI p1), (vI p2), (vI p3), (vI p4), (vI p5), (vI 0), (vR b35), (vR b51), (vR b52), (vR r54), (vI 0), (vI 0), (vI (-1)), .unset]) rfl ?_
   refine iB X55 hx hby at_193 rfl ?_
   refine fN X55 hx hby at_195 (XT.i0_ge_f (by decide : (-1 : Int32) < (0 : Int32))) ?_
   refine iC X55 hx hby at_198 (v := 0) rfl ?_
   refine gO X55 hx hby at_199 (pc' := 204) (by decide) ?_
   refine iT X55 hx hby at_204 (l' := #[(vI p0), (vI p1), (vI p2), (vI p3), (vI p4), (vI p5), (vI 0), (vR b35), (vR b51), (vR b52), (vR r54), (vI 0), (vI 0), (vI (-1)), (vI 0)]) rfl ?_
   exact tail0 (0 : Int32) (0 : Int32) (0 : Int32) (-1 : Int32) b35 k35 b51 b52 r54 dg kdg (X55.more (by decide) (by decide)) q55 N55 f54_0 hS54 f54_2 hZ54 hown54 f54_1 f54_4 f54_6 ESg CSg VSg ATg
 · rw [hn]
   show oG p e below P m T50 51 #[(vI p0), (vI p1), (vI p2), (vI p3), (vI p4), (vI p5), (vI 1), (vR b35), .unset, .unset, .unset, .unset, .unset, .unset, .unset] []
   refine iB X50 hx hby at_51 rfl ?_
   obtain ⟨T56, h56, k56, X56, e56, E56, A56, st56⟩ := newP X50 hx hZ (aty := .char) (tw_1 hw) e50 (g := (mkF m 53 #[(vI p0), (vI p1), (vI p2), (vI p3), (vI p4), (vI p5), (vI 1), (vR b35), .unset, .unset, .unset, .unset, .unset, .unset, .unset] [(.int 1)])) rfl (hb hby at_53) rfl (by decide) (cap := 1) (by decide) (by decide) (by decide) (by decide)
   obtain ⟨b56, g56⟩ : ∃ z, z = h50.size := ⟨_, rfl⟩
   rw [← g56] at A56 st56
   have g_b56 : n0 ≤ b56 := Nat.le_trans f50_0 (Nat.le_of_eq g56.symm)
   have sz_b56 : h0.size ≤ b56 := Nat.le_trans f50_3.1 (Nat.le_of_eq g56.symm)
   have ne_b35_b56 : b35 ≠ b56 := Nat.ne_of_lt (Nat.lt_of_lt_of_le (V50.lt) (Nat.le_of_eq g56.symm))
   have sf_b56 : Safe Z own_EL s.vm h50 b56 := Safe.new (Nat.le_of_eq g56.symm)
   have f56_0 := Nat.le_trans f50_0 E56.1
   have f56_1 := CHr.trans f50_1 (CHr.ext E56 f50_1.1)
   have f56_2 := Nat.le_trans f50_2 E56.1
   have f56_3 := Keep.ext f50_3 E56
   have f56_4 := Old.ext f50_4 E56
   have f56_5 := Safe.ext E56 f50_1.1 f50_5
   have f56_6 := Arv.ext V50 E56
   have f56_7 := Safe.ext E56 f50_1.1 sf_b56
   refine Go.by st56 ?_
   have V56 : Arv Z h56 b56 k56 .char (1 : Int32) [(.int 0)] (.int 0) := (Arv.new A56 (by decide)).pad (pad_rep [] (.int 0) 1)
   show oG p e below P m T56 55 #[(vI p0), (vI p1), (vI p2), (vI p3), (vI p4), (vI p5), (vI 1), (vR b35), .unset, .unset, .unset, .unset, .unset, .unset, .unset] [(.ref b56)]
   refine aT X56 hx hby at_55 rfl (l' := #[(vI p0), (vI p1), (vI p2), (vI p3), (vI p4), (vI p5), (vI 1), (vR b35), (vR b56), .unset, .unset, .unset, .unset, .unset, .unset]) rfl ?_
   refine iB X56 hx hby at_57 rfl ?_
   refine fN X56 hx hby at_59 (XT.i0_le_f (by decide : (0 : Int32) < (1 : Int32))) ?_
   refine aB X56 hx hby at_62 rfl rfl ?_
   refine iC X56 hx hby at_64 (v := 0) rfl ?_
   refine aB X56 hx hby at_65 rfl rfl ?_
   refine iC X56 hx hby at_67 (v := 0) rfl ?_
   have av57 := f56_6
   obtain ⟨cl57, Ar57, -, Sz57, Nn57, Ha57, Gf57⟩ := av57
   have hin57 : ¬ ((0 : Int32) < 0 ∨ cl57.slots.size ≤ ((0 : Int32)).toNatClampNeg) := inb_of Sz57 ⟨by decide, by decide⟩
   have hat57 : cl57.slots[((0 : Int32)).toNatClampNeg]? = some (.int (own_pick p1)) := Ha57.at hin57 rfl
   refine Go.by (X56.caload hx (j := (0 : Int32)) (v := (.int (own_pick p1))) (by rw [e56]; exact Ar57.1) (State.isArrayOf_alike hZ.alike Ar57.2.1) Ar57.2.2 hin57 hat57 (g := (mkF m 68 #[(vI p0), (vI p1), (vI p2), (vI p3), (vI p4), (vI p5), (vI 1), (vR b35), (vR b56), .unset, .unset, .unset, .unset, .unset, .unset] [(.int 0), (.ref b35), (.int 0), (.ref b56)])) rfl rfl (hb hby at_68)) ?_
   have av58 := V56
   obtain ⟨cl58, Ar58, q58, Sz58, Nn58, Ha58, Gf58⟩ := av58
   have hin58 : ¬ ((0 : Int32) < 0 ∨ cl58.slots.size ≤ ((0 : Int32)).toNatClampNeg) := inb_of Sz58 ⟨by decide, by decide⟩
   obtain ⟨T59, h59, X59, e59, W59, st59⟩ := stC X56 hx hZ e56 Ar58 (j := (0 : Int32)) hin58 (g := (mkF m 69 #[(vI p0), (vI p1), (vI p2), (vI p3), (vI p4), (vI p5), (vI 1), (vR b35), (vR b56), .unset, .unset, .unset, .unset, .unset, .unset] [(.int (own_pick p1)), (.int 0), (.ref b56)])) rfl rfl (hb hby at_69)
   have W59' : Wr h56 h59 b56 ((0 : Int32)).toNatClampNeg (.int (own_pick p1)) := (by have q : Wr h56 h59 b56 ((0 : Int32)).toNatClampNeg (.int (nar .char (own_pick p1))) := W59; rw [own_chr _ (own_pickr p1).1 (own_pickr p1).2] at q; exact q)
   have V59 : Arv Z h59 b56 k56 .char (1 : Int32) [(.int (own_pick p1))] (.int 0) := Arv.set Ar58 q58 Sz58 Nn58 Ha58 Gf58 (own_chf _ (own_pickr p1).1 (own_pickr p1).2) W59' 0 rfl (Nat.le_of_ble_eq_true rfl)
   have N59 := Fr.snoc X59 N50 g_b56
   have f59_0 := Nat.le_trans f56_0 (Keep.of_wr W59).1
   have f59_1 := CHr.trans f56_1 (CHr.wr W59 f56_7 f56_1.1)
   have f59_2 := Nat.le_trans f56_2 (Keep.of_wr W59).1
   have f59_3 := Keep.wr f56_3 W59 (Or.inr sz_b56)
   have f59_4 := Old.wr f56_4 W59 g_b56
   have f59_5 := Safe.wr W59 f56_7 f56_1.1 f56_5
   have f59_6 := Arv.other f56_6 W59 ne_b35_b56
   have f59_7 := Safe.wr W59 f56_7 f56_1.1 f56_7
   refine Go.by st59 ?_
   show oG p e below P m T59 70 #[(vI p0), (vI p1), (vI p2), (vI p3), (vI p4), (vI p5), (vI 1), (vR b35), (vR b56), .unset, .unset, .unset, .unset, .unset, .unset] []
   refine iB X59 hx hby at_70 rfl ?_
   refine iC X59 hx hby at_72 (v := 1) rfl ?_
   refine cY X59 hx hby at_73 (pc' := 84) (XT.ii_le_t (by decide : ¬ (1 : Int32) < (1 : Int32))) (by decide) ?_
   refine iB X59 hx hby at_84 rfl ?_
   refine iC X59 hx hby at_86 (v := 2) rfl ?_
   refine cY X59 hx hby at_87 (pc' := 98) (XT.ii_le_t (by decide : ¬ (2 : Int32) < (1 : Int32))) (by decide) ?_
   refine iB X59 hx hby at_98 rfl ?_
   refine iC X59 hx hby at_100 (v := 3) rfl ?_
   refine cY X59 hx hby at_101 (pc' := 112) (XT.ii_le_t (by decide : ¬ (3 : Int32) < (1 : Int32))) (by decide) ?_
   refine iB X59 hx hby at_112 rfl ?_
   refine iC X59 hx hby at_114 (v := 4) rfl ?_
   refine cY X59 hx hby at_115 (pc' := 126) (XT.ii_le_t (by decide : ¬ (4 : Int32) < (1 : Int32))) (by decide) ?_
   obtain ⟨T60, h60, X60, e60, E60, A60, D60, U60, st60⟩ := newO X59 hx hZ hown (tw_6 hw) (tw_7 hw) (tw_8 hw) e59 (g := (mkF m 126 #[(vI p0), (vI p1), (vI p2), (vI p3), (vI p4), (vI p5), (vI 1), (vR b35), (vR b56), .unset, .unset, .unset, .unset, .unset, .unset] [])) rfl (hb hby at_126) (by decide) (by decide)
   obtain ⟨b60, g60⟩ : ∃ z, z = h59.size := ⟨_, rfl⟩
   rw [← g60] at A60 D60 U60 st60
   have g_b60 : n0 ≤ b60 := Nat.le_trans f59_0 (Nat.le_of_eq g60.symm)
   have sz_b60 : h0.size ≤ b60 := Nat.le_trans f59_3.1 (Nat.le_of_eq g60.symm)
   have ne_b35_b60 : b35 ≠ b60 := Nat.ne_of_lt (Nat.lt_of_lt_of_le (f59_6.lt) (Nat.le_of_eq g60.symm))
   have ne_b56_b60 : b56 ≠ b60 := Nat.ne_of_lt (Nat.lt_of_lt_of_le (V59.lt) (Nat.le_of_eq g60.symm))
   have sf_b60 : Safe Z own_EL s.vm h59 b60 := Safe.new (Nat.le_of_eq g60.symm)
   have f60_0 := Nat.le_trans f59_0 E60.1
   have f60_1 := CHr.trans f59_1 (CHr.ext E60 f59_1.1)
   have f60_2 := Nat.le_trans f59_2 E60.1
   have f60_3 := Keep.ext f59_3 E60
   have f60_4 := Old.ext f59_4 E60
   have f60_5 := Safe.ext E60 f59_1.1 f59_5
   have f60_6 := Arv.ext f59_6 E60
   have f60_7 := Safe.ext E60 f59_1.1 f59_7
   have f60_8 := Arv.ext V59 E60
   have f60_9 := Safe.ext E60 f59_1.1 sf_b60
   refine Go.by st60 ?_
   have F60_value : Fld Z h60 b60 "java/lang/String" "value" "[B" .null := D60 (Or.inr (tw_21 hw)) (ty := (.array .byte)) (by decide)
   have F60_coder : Fld Z h60 b60 "java/lang/String" "coder" "B" (.int 0) := D60 (Or.inr (tw_22 hw)) (ty := .byte) (by decide)
   show oG p e below P m T60 129 #[(vI p0), (vI p1), (vI p2), (vI p3), (vI p4), (vI p5), (vI 1), (vR b35), (vR b56), .unset, .unset, .unset, .unset, .unset, .unset] [(.ref b60)]
   refine dU X60 hx hby at_129 rfl ?_
   refine aB X60 hx hby at_130 rfl rfl ?_
   obtain ⟨_, _, ⟨T61, L61, k61, n61⟩, -, X61, ⟨Lc61, hQ61, l61, y61, z61⟩, st61⟩ := X60.specialBack hx (y := oY16) rfl hown (mvT hZ (tw_9 hw)) (mvT hZ (tw_10 hw)) (mvT hZ (tw_11 hw)) (by decide) (backOf (W := 1) (rm_si1_1 l Z a0 hw [] b60 b56 k56 (own_pick p1) cs h60 n0 f60_0 f60_4 Scs hcs A60 g_b60 F60_coder F60_value f60_8 (own_pickr p1).1 (own_pickr p1).2) hZ (tw_11 hw) (tw_8 hw) (by decide) (by decide)) (g := (mkF m 132 #[(vI p0), (vI p1), (vI p2), (vI p3), (vI p4), (vI p5), (vI 1), (vR b35), (vR b56), .unset, .unset, .unset, .unset, .unset, .unset] [(.ref b56), (.ref b60), (.ref b60)])) rfl (by rw [hml]; rfl) (Steps.refl _) (a := b60) (argsL := [(.ref b56)]) (rest := [(.ref b60)]) (lenOf pd18 rfl) rfl (by show 2 * 0 + _ ≤ _; exact Nat.le_of_eq rfl) (hb hby at_132) (fun _ _ => ⟨rfl, e60, (by decide : 3 + 1 ≤ _), (by decide : 10 + 1 ≤ _)⟩)
   dsimp only [Pt.U, Pt.locs, Pt.cells, Pt.slots] at X61 l61 y61 z61 st61 hQ61
   subst l61 y61 z61
   obtain ⟨rfl, N61q, K61, Gc61, d61, kd61, z61, Gv61, V61⟩ := hQ61
   have N61 := Fr.app N59 N61q
   refine Go.by (fun t k => st61.trans k) ?_
   have f61_0 := Nat.le_trans f60_0 K61.1
   have f61_1 := CHr.trans f60_1 (CHr.keep K61 (sfS f60_9 sf0) f60_1.1)
   have f61_2 := Nat.le_trans f60_2 K61.1
   have f61_3 := Keep.trans f60_3 K61 (allS (Or.inr sz_b60) all0)
   have f61_4 := Old.keep f60_4 K61 (allS g_b60 all0)
   have f61_5 := Safe.keep K61 (sfS f60_9 sf0) f60_1.1 f60_5
   have f61_6 := Arv.keep f60_6 K61 (ninS ne_b35_b60 nin0)
   have f61_7 := Safe.keep K61 (sfS f60_9 sf0) f60_1.1 f60_7
   have f61_8 := Arv.keep f60_8 K61 (ninS ne_b56_b60 nin0)
   have f61_9 := Safe.keep K61 (sfS f60_9 sf0) f60_1.1 f60_9
   have f61_10 := Exa.keep A60 K61
   have S61 : StrV Z T61.heap b60 [((own_pick p1).toInt8.toInt32)] := ⟨d61, kd61, f61_10, Gc61, Gv61, V61⟩
   show oG p e below P m T61 135 #[(vI p0), (vI p1), (vI p2), (vI p3), (vI p4), (vI p5), (vI 1), (vR b35), (vR b56), .unset, .unset, .unset, .unset, .unset, .unset] [(.ref b60)]
   refine aT X61 hx hby at_135 rfl (l' := #[(vI p0), (vI p1), (vI p2), (vI p3), (vI p4), (vI p5), (vI 1), (vR b35), (vR b56), (vR b60), .unset, .unset, .unset, .unset, .unset]) rfl ?_
   refine aB X61 hx hby at_137 rfl rfl ?_
   obtain ⟨_, _, ⟨T62, L62, k62, n62⟩, -, X62', hS62', hg62, ⟨Lc62, hQ62, l62, y62, z62, C62⟩, st62⟩ := Jvm.RoadKit.callSS X61 hx (y := oY14) hown (mvT hZ (tw_27 hw)) (mvT hZ (tw_28 hw)) (mvT hZ (tw_29 hw)) (mvT hZ (tw_30 hw)) (by decide) (own_backC (W := 0) (rm_dirOf1 l Z a0 hw hEL [] b60 ((own_pick p1).toInt8.toInt32) cs fm T61.heap n0 f61_0 f61_4 Scs hcs Sfm hfm S61) hZ (tw_30 hw) (tw_29 hw) (by decide) (by decide) hEL f61_1.1 own_ss0) (g := (mkF m 139 #[(vI p0), (vI p1), (vI p2), (vI p3), (vI p4), (vI p5), (vI 1), (vR b35), (vR b56), (vR b60), .unset, .unset, .unset, .unset, .unset] [(.ref b60)])) rfl (by rw [hml]; rfl) (argsL := [(.ref b60)]) (rest := []) (lenOf pd19 rfl) rfl (by show 2 * 0 + _ ≤ _; exact Nat.le_of_eq rfl) (hb hby at_139) (fun _ _ => ⟨rfl, rfl, (by decide : 4 + 4 ≤ _), (by decide : 11 + 16 ≤ _)⟩)
   dsimp only [Pt.U, Pt.locs, Pt.cells, Pt.slots] at X62' hS62' hg62 l62 y62 z62 st62 hQ62 C62
   subst l62 y62 z62
   obtain ⟨X62, hS62, hZ62, hown62⟩ := rebS hS0 (f61_2) X62' hS62' hg62 hZ hown
   have hk62 : T62.heap.size ≤ T62.heap.size := Nat.le_refl _
   obtain ⟨r62, rfl, N62q, K62, D62⟩ := hQ62
   have N62 := Fr.app N61 N62q
   refine Go.by (fun t k => st62.trans k) ?_
   have f62_0 := Nat.le_trans f61_0 K62.1
   have f62_1 := CHr.trans f61_1 C62
   have f62_2 : T62.heap.size ≤ T62.heap.size := hk62
   have f62_3 := Keep.trans f61_3 K62 all0
   have f62_4 := Old.keep f61_4 K62 all0
   have f62_5 := CHr.safe C62 (f61_6.lt) f61_5
   have f62_6 := Arv.keep f61_6 K62 nin0
   have f62_7 := CHr.safe C62 (f61_8.lt) f61_7
   have f62_8 := Arv.keep f61_8 K62 nin0
   have f62_9 := StrV.keep0 S61 K62
   show oG p e below P m T62 142 #[(vI p0), (vI p1), (vI p2), (vI p3), (vI p4), (vI p5), (vI 1), (vR b35), (vR b56), (vR b60), .unset, .unset, .unset, .unset, .unset] [(.ref r62)]
   refine aT X62 hx hby at_142 rfl (l' := #[(vI p0), (vI p1), (vI p2), (vI p3), (vI p4), (vI p5), (vI 1), (vR b35), (vR b56), (vR b60), (vR r62), .unset, .unset, .unset, .unset]) rfl ?_
   refine iB X62 hx hby at_144 rfl ?_
   refine fN X62 hx hby at_146 (XT.i0_le_f (by decide : (0 : Int32) < (1 : Int32))) ?_
   refine aB X62 hx hby at_149 rfl rfl ?_
   refine iB X62 hx hby at_151 rfl ?_
   refine iC X62 hx hby at_153 (v := 1) rfl ?_
   refine iM X62 hx hby at_154 (v := 0) rfl ?_
   have av63 := f62_6
   obtain ⟨cl63, Ar63, -, Sz63, Nn63, Ha63, Gf63⟩ := av63
   have hin63 : ¬ ((0 : Int32) < 0 ∨ cl63.slots.size ≤ ((0 : Int32)).toNatClampNeg) := inb_of Sz63 ⟨by decide, by decide⟩
   have hat63 : cl63.slots[((0 : Int32)).toNatClampNeg]? = some (.int (own_pick p1)) := Ha63.at hin63 rfl
   refine Go.by (X62.caload hx (j := (0 : Int32)) (v := (.int (own_pick p1))) Ar63.1 (State.isArrayOf_alike hZ62.alike Ar63.2.1) Ar63.2.2 hin63 hat63 (g := (mkF m 155 #[(vI p0), (vI p1), (vI p2), (vI p3), (vI p4), (vI p5), (vI 1), (vR b35), (vR b56), (vR b60), (vR r62), .unset, .unset, .unset, .unset] [(.int 0), (.ref b35)])) rfl rfl (hb hby at_155)) ?_
   show oG p e below P m T62 156 #[(vI p0), (vI p1), (vI p2), (vI p3), (vI p4), (vI p5), (vI 1), (vR b35), (vR b56), (vR b60), (vR r62), .unset, .unset, .unset, .unset] [(.int (own_pick p1))]
   refine bC X62 hx hby at_156 (v := 47) rfl ?_
   by_cases hc158_64 : (own_pick p1) = (47 : Int32)
   · refine cN X62 hx hby at_158 (XT.ii_ne_f hc158_64) ?_
     refine iC X62 hx hby at_161 (v := 1) rfl ?_
     refine gO X62 hx hby at_162 (pc' := 166) (by decide) ?_
     refine iT X62 hx hby at_166 (l' := #[(vI p0), (vI p1), (vI p2), (vI p3), (vI p4), (vI p5), (vI 1), (vR b35), (vR b56), (vR b60), (vR r62), (vI 1), .unset, .unset, .unset]) rfl ?_
     refine iB X62 hx hby at_168 rfl ?_
     refine fN X62 hx hby at_170 (XT.i0_eq_f (by decide : ¬ (1 : Int32) = (0 : Int32))) ?_
     refine iB X62 hx hby at_173 rfl ?_
     refine iC X62 hx hby at_175 (v := 1) rfl ?_
     refine iM X62 hx hby at_176 (v := 0) rfl ?_
     refine gO X62 hx hby at_177 (pc' := 182) (by decide) ?_
     refine iT X62 hx hby at_182 (l' := #[(vI p0), (vI p1), (vI p2), (vI p3), (vI p4), (vI p5), (vI 1), (vR b35), (vR b56), (vR b60), (vR r62), (vI 1), (vI 0), .unset, .unset]) rfl ?_
     refine aB X62 hx hby at_184 rfl rfl ?_
     refine iB X62 hx hby at_186 rfl ?_
     refine c_stat 0 X62 hx hby hml hZ62 hown62 (tw_76 hw) (tw_77 hw) (tw_4 hw) (tw_78 hw) (rm_lastSlash0 l Z a0 hw [] b35 k35 (own_pick p1) (own_pick p2) (own_pick p3) (own_pick p4) (own_pick p5) T62.heap n0 f62_0 f62_6) rfl at_188 [(.ref b35), (.int 0)] [] (lenOf pd9 rfl) rfl rfl (by rfl) (by decide) ?_
     rintro _ T65 Lc65 ⟨rfl, N65q, q65⟩ X65
     have N65 := Fr.app N62 N65q
     obtain ⟨dg, kdg, ESg, CSg, VSg, ASg⟩ := D62
     have ATg : Arv Z T62.heap dg kdg .byte (0 : Int32) [] (.int 0) := ASg
     refine iT X65 hx hby at_191 (l' := #[(vI p0), (vI p1), (vI p2), (vI p3), (vI p4), (vI p5), (vI 1), (vR b35), (vR b56), (vR b60), (vR r62), (vI 1), (vI 0), (vI (-1)), .unset]) rfl ?_
     refine iB X65 hx hby at_193 rfl ?_
     refine fN X65 hx hby at_195 (XT.i0_ge_f (by decide : (-1 : Int32) < (0 : Int32))) ?_
     refine iC X65 hx hby at_198 (v := 0) rfl ?_
     refine gO X65 hx hby at_199 (pc' := 204) (by decide) ?_
     refine iT X65 hx hby at_204 (l' := #[(vI p0), (vI p1), (vI p2), (vI p3), (vI p4), (vI p5), (vI 1), (vR b35), (vR b56), (vR b60), (vR r62), (vI 1), (vI 0), (vI (-1)), (vI 0)]) rfl ?_
     exact tail0 (1 : Int32) (1 : Int32) (0 : Int32) (-1 : Int32) b35 k35 b56 b60 r62 dg kdg (X65.more (by decide) (by decide)) q65 N65 f62_0 hS62 f62_2 hZ62 hown62 f62_1 f62_4 f62_6 ESg CSg VSg ATg
   · refine cY X62 hx hby at_158 (pc' := 165) (XT.ii_ne_t hc158_64) (by decide) ?_
     refine iC X62 hx hby at_165 (v := 0) rfl ?_
     refine iT X62 hx hby at_166 (l' := #[(vI p0), (vI p1), (vI p2), (vI p3), (vI p4), (vI p5), (vI 1), (vR b35), (vR b56), (vR b60), (vR r62), (vI 0), .unset, .unset, .unset]) rfl ?_
     refine iB X62 hx hby at_168 rfl ?_
     refine fY X62 hx hby at_170 (pc' := 180) (XT.i0_eq_t (by decide : (0 : Int32) = (0 : Int32))) (by decide) ?_
     refine iB X62 hx hby at_180 rfl ?_
     refine iT X62 hx hby at_182 (l' := #[(vI p0), (vI p1), (vI p2), (vI p3), (vI p4), (vI p5), (vI 1), (vR b35), (vR b56), (vR b60), (vR r62), (vI 0), (vI 1), .unset, .unset]) rfl ?_
     refine aB X62 hx hby at_184 rfl rfl ?_
     refine iB X62 hx hby at_186 rfl ?_
     refine c_stat 0 X62 hx hby hml hZ62 hown62 (tw_76 hw) (tw_77 hw) (tw_4 hw) (tw_78 hw) (rm_lastSlash1 l Z a0 hw [] b35 k35 (own_pick p1) (own_pick p2) (own_pick p3) (own_pick p4) (own_pick p5) T62.heap n0 f62_0 f62_6) rfl at_188 [(.ref b35), (.int 1)] [] (lenOf pd9 rfl) rfl rfl (by rfl) (by decide) ?_
     rintro _ T66 Lc66 ⟨rfl, N66q, q66⟩ X66
     have N66 := Fr.app N62 N66q
     obtain ⟨dg, kdg, ESg, CSg, VSg, ASg⟩ := D62
     have ATg : Arv Z T62.heap dg kdg .byte (0 : Int32) [] (.int 0) := ASg
     show oG p e below P m T66 191 #[(vI p0), (vI p1), (vI p2), (vI p3), (vI p4), (vI p5), (vI 1), (vR b35), (vR b56), (vR b60), (vR r62), (vI 0), (vI 1), .unset, .unset] [(.int (own_l1 (own_pick p1)))]
     rw [show (own_l1 (own_pick p1)) = (-1 : Int32) from ((if_neg hc158_64).trans rfl)]
     show oG p e below P m T66 191 #[(vI p0), (vI p1), (vI p2), (vI p3), (vI p4), (vI p5), (vI 1), (vR b35), (vR b56), (vR b60), (vR r62), (vI 0), (vI 1), .unset, .unset] [(.int (-1))]
     refine iT X66 hx hby at_191 (l' := #[(vI p0), (vI p1), (vI p2), (vI p3), (vI p4), (vI p5), (vI 1), (vR b35), (vR b56), (vR b60), (vR r62), (vI 0), (vI 1), (vI (-1)), .unset]) rfl ?_
     refine iB X66 hx hby at_193 rfl ?_
     refine fN X66 hx hby at_195 (XT.i0_ge_f (by decide : (-1 : Int32) < (0 : Int32))) ?_
     refine iC X66 hx hby at_198 (v := 0) rfl ?_
     refine gO X66 hx hby at_199 (pc' := 204) (by decide) ?_
     refine iT X66 hx hby at_204 (l' := #[(vI p0), (vI p1), (vI p2), (vI p3), (vI p4), (vI p5), (vI 1), (vR b35), (vR b56), (vR b60), (vR r62), (vI 0), (vI 1), (vI (-1)), (vI 0)]) rfl ?_
     exact tail0 (1 : Int32) (0 : Int32) (1 : Int32) (-1 : Int32) b35 k35 b56 b60 r62 dg kdg (X66.more (by decide) (by decide)) q66 N66 f62_0 hS62 f62_2 hZ62 hown62 f62_1 f62_4 f62_6 ESg CSg VSg ATg
 · rw [hn]
   show oG p e below P m T50 51 #[(vI p0), (vI p1), (vI p2), (vI p3), (vI p4), (vI p5), (vI 2), (vR b35), .unset, .unset, .unset, .unset, .unset, .unset, .unset] []
   refine iB X50 hx hby at_51 rfl ?_
   obtain ⟨T67, h67, k67, X67, e67, E67, A67, st67⟩ := newP X50 hx hZ (aty := .char) (tw_1 hw) e50 (g := (mkF m 53 #[(vI p0), (vI p1), (vI p2), (vI p3), (vI p4), (vI p5), (vI 2), (vR b35), .unset, .unset, .unset, .unset, .unset, .unset, .unset] [(.int 2)])) rfl (hb hby at_53) rfl (by decide) (cap := 2) (by decide) (by decide) (by decide) (by decide)
   obtain ⟨b67, g67⟩ : ∃ z, z = h50.size := ⟨_, rfl⟩
   rw [← g67] at A67 st67
   have g_b67 : n0 ≤ b67 := Nat.le_trans f50_0 (Nat.le_of_eq g67.symm)
   have sz_b67 : h0.size ≤ b67 := Nat.le_trans f50_3.1 (Nat.le_of_eq g67.symm)
   have ne_b35_b67 : b35 ≠ b67 := Nat.ne_of_lt (Nat.lt_of_lt_of_le (V50.lt) (Nat.le_of_eq g67.symm))
   have sf_b67 : Safe Z own_EL s.vm h50 b67 := Safe.new (Nat.le_of_eq g67.symm)
   have f67_0 := Nat.le_trans f50_0 E67.1
   have f67_1 := CHr.trans f50_1 (CHr.ext E67 f50_1.1)
   have f67_2 := Nat.le_trans f50_2 E67.1
   have f67_3 := Keep.ext f50_3 E67
   have f67_4 := Old.ext f50_4 E67
   have f67_5 := Safe.ext E67 f50_1.1 f50_5
   have f67_6 := Arv.ext V50 E67
   have f67_7 := Safe.ext E67 f50_1.1 sf_b67
   refine Go.by st67 ?_
   have V67 : Arv Z h67 b67 k67 .char (2 : Int32) [(.int 0), (.int 0)] (.int 0) := (Arv.new A67 (by decide)).pad (pad_rep [] (.int 0) 2)
   show oG p e below P m T67 55 #[(vI p0), (vI p1), (vI p2), (vI p3), (vI p4), (vI p5), (vI 2), (vR b35), .unset, .unset, .unset, .unset, .unset, .unset, .unset] [(.ref b67)]
   refine aT X67 hx hby at_55 rfl (l' := #[(vI p0), (vI p1), (vI p2), (vI p3), (vI p4), (vI p5), (vI 2), (vR b35), (vR b67), .unset, .unset, .unset, .unset, .unset, .unset]) rfl ?_
   refine iB X67 hx hby at_57 rfl ?_
   refine fN X67 hx hby at_59 (XT.i0_le_f (by decide : (0 : Int32) < (2 : Int32))) ?_
   refine aB X67 hx hby at_62 rfl rfl ?_
   refine iC X67 hx hby at_64 (v := 0) rfl ?_
   refine aB X67 hx hby at_65 rfl rfl ?_
   refine iC X67 hx hby at_67 (v := 0) rfl ?_
   have av68 := f67_6
   obtain ⟨cl68, Ar68, -, Sz68, Nn68, Ha68, Gf68⟩ := av68
   have hin68 : ¬ ((0 : Int32) < 0 ∨ cl68.slots.size ≤ ((0 : Int32)).toNatClampNeg) := inb_of Sz68 ⟨by decide, by decide⟩
   have hat68 : cl68.slots[((0 : Int32)).toNatClampNeg]? = some (.int (own_pick p1)) := Ha68.at hin68 rfl
   refine Go.by (X67.caload hx (j := (0 : Int32)) (v := (.int (own_pick p1))) (by rw [e67]; exact Ar68.1) (State.isArrayOf_alike hZ.alike Ar68.2.1) Ar68.2.2 hin68 hat68 (g := (mkF m 68 #[(vI p0), (vI p1), (vI p2), (vI p3), (vI p4), (vI p5), (vI 2), (vR b35), (vR b67), .unset, .unset, .unset, .unset, .unset, .unset] [(.int 0), (.ref b35), (.int 0), (.ref b67)])) rfl rfl (hb hby at_68)) ?_
   have av69 := V67
   obtain ⟨cl69, Ar69, q69, Sz69, Nn69, Ha69, Gf69⟩ := av69
   have hin69 : ¬ ((0 : Int32) < 0 ∨ cl69.slots.size ≤ ((0 : Int32)).toNatClampNeg) := inb_of Sz69 ⟨by decide, by decide⟩
   obtain ⟨T70, h70, X70, e70, W70, st70⟩ := stC X67 hx hZ e67 Ar69 (j := (0 : Int32)) hin69 (g := (mkF m 69 #[(vI p0), (vI p1), (vI p2), (vI p3), (vI p4), (vI p5), (vI 2), (vR b35), (vR b67), .unset, .unset, .unset, .unset, .unset, .unset] [(.int (own_pick p1)), (.int 0), (.ref b67)])) rfl rfl (hb hby at_69)
   have W70' : Wr h67 h70 b67 ((0 : Int32)).toNatClampNeg (.int (own_pick p1)) := (by have q : Wr h67 h70 b67 ((0 : Int32)).toNatClampNeg (.int (nar .char (own_pick p1))) := W70; rw [own_chr _ (own_pickr p1).1 (own_pickr p1).2] at q; exact q)
   have V70 : Arv Z h70 b67 k67 .char (2 : Int32) [(.int (own_pick p1)), (.int 0)] (.int 0) := Arv.set Ar69 q69 Sz69 Nn69 Ha69 Gf69 (own_chf _ (own_pickr p1).1 (own_pickr p1).2) W70' 0 rfl (Nat.le_of_ble_eq_true rfl)
   have N70 := Fr.snoc X70 N50 g_b67
   have f70_0 := Nat.le_trans f67_0 (Keep.of_wr W70).1
   have f70_1 := CHr.trans f67_1 (CHr.wr W70 f67_7 f67_1.1)
   have f70_2 := Nat.le_trans f67_2 (Keep.of_wr W70).1
   have f70_3 := Keep.wr f67_3 W70 (Or.inr sz_b67)
   have f70_4 := Old.wr f67_4 W70 g_b67
   have f70_5 := Safe.wr W70 f67_7 f67_1.1 f67_5
   have f70_6 := Arv.other f67_6 W70 ne_b35_b67
   have f70_7 := Safe.wr W70 f67_7 f67_1.1 f67_7
   refine Go.by st70 ?_
   show oG p e below P m T70 70 #[(vI p0), (vI p1), (vI p2), (vI p3), (vI p4), (vI p5), (vI 2), (vR b35), (vR b67), .unset, .unset, .unset, .unset, .unset, .unset] []
   refine iB X70 hx hby at_70 rfl ?_
   refine iC X70 hx hby at_72 (v := 1) rfl ?_
   refine cN X70 hx hby at_73 (XT.ii_le_f (by decide : (1 : Int32) < (2 : Int32))) ?_
   refine aB X70 hx hby at_76 rfl rfl ?_
   refine iC X70 hx hby at_78 (v := 1) rfl ?_
   refine aB X70 hx hby at_79 rfl rfl ?_
   refine iC X70 hx hby at_81 (v := 1) rfl ?_
   have av71 := f70_6
   obtain ⟨cl71, Ar71, -, Sz71, Nn71, Ha71, Gf71⟩ := av71
   have hin71 : ¬ ((1 : Int32) < 0 ∨ cl71.slots.size ≤ ((1 : Int32)).toNatClampNeg) := inb_of Sz71 ⟨by decide, by decide⟩
   have hat71 : cl71.slots[((1 : Int32)).toNatClampNeg]? = some (.int (own_pick p2)) := Ha71.at hin71 rfl
   refine Go.by (X70.caload hx (j := (1 : Int32)) (v := (.int (own_pick p2))) (by rw [e70]; exact Ar71.1) (State.isArrayOf_alike hZ.alike Ar71.2.1) Ar71.2.2 hin71 hat71 (g := (mkF m 82 #[(vI p0), (vI p1), (vI p2), (vI p3), (vI p4), (vI p5), (vI 2), (vR b35), (vR b67), .unset, .unset, .unset, .unset, .unset, .unset] [(.int 1), (.ref b35), (.int 1), (.ref b67)])) rfl rfl (hb hby at_82)) ?_
   have av72 := V70
   obtain ⟨cl72, Ar72, q72, Sz72, Nn72, Ha72, Gf72⟩ := av72
   have hin72 : ¬ ((1 : Int32) < 0 ∨ cl72.slots.size ≤ ((1 : Int32)).toNatClampNeg) := inb_of Sz72 ⟨by decide, by decide⟩
   obtain ⟨T73, h73, X73, e73, W73, st73⟩ := stC X70 hx hZ e70 Ar72 (j := (1 : Int32)) hin72 (g := (mkF m 83 #[(vI p0), (vI p1), (vI p2), (vI p3), (vI p4), (vI p5), (vI 2), (vR b35), (vR b67), .unset, .unset, .unset, .unset, .unset, .unset] [(.int (own_pick p2)), (.int 1), (.ref b67)])) rfl rfl (hb hby at_83)
   have W73' : Wr h70 h73 b67 ((1 : Int32)).toNatClampNeg (.int (own_pick p2)) := (by have q : Wr h70 h73 b67 ((1 : Int32)).toNatClampNeg (.int (nar .char (own_pick p2))) := W73; rw [own_chr _ (own_pickr p2).1 (own_pickr p2).2] at q; exact q)
   have V73 : Arv Z h73 b67 k67 .char (2 : Int32) [(.int (own_pick p1)), (.int (own_pick p2))] (.int 0) := Arv.set Ar72 q72 Sz72 Nn72 Ha72 Gf72 (own_chf _ (own_pickr p2).1 (own_pickr p2).2) W73' 1 rfl (Nat.le_of_ble_eq_true rfl)
   have N73 := Fr.snoc X73 N70 g_b67
   have f73_0 := Nat.le_trans f70_0 (Keep.of_wr W73).1
   have f73_1 := CHr.trans f70_1 (CHr.wr W73 f70_7 f70_1.1)
   have f73_2 := Nat.le_trans f70_2 (Keep.of_wr W73).1
   have f73_3 := Keep.wr f70_3 W73 (Or.inr sz_b67)
   have f73_4 := Old.wr f70_4 W73 g_b67
   have f73_5 := Safe.wr W73 f70_7 f70_1.1 f70_5
   have f73_6 := Arv.other f70_6 W73 ne_b35_b67
   have f73_7 := Safe.wr W73 f70_7 f70_1.1 f70_7
   refine Go.by st73 ?_
   show oG p e below P m T73 84 #[(vI p0), (vI p1), (vI p2), (vI p3), (vI p4), (vI p5), (vI 2), (vR b35), (vR b67), .unset, .unset, .unset, .unset, .unset, .unset] []
   refine iB X73 hx hby at_84 rfl ?_
   refine iC X73 hx hby at_86 (v := 2) rfl ?_
   refine cY X73 hx hby at_87 (pc' := 98) (XT.ii_le_t (by decide : ¬ (2 : Int32) < (2 : Int32))) (by decide) ?_
   refine iB X73 hx hby at_98 rfl ?_
   refine iC X73 hx hby at_100 (v := 3) rfl ?_
   refine cY X73 hx hby at_101 (pc' := 112) (XT.ii_le_t (by decide : ¬ (3 : Int32) < (2 : Int32))) (by decide) ?_
   refine iB X73 hx hby at_112 rfl ?_
   refine iC X73 hx hby at_114 (v := 4) rfl ?_
   refine cY X73 hx hby at_115 (pc' := 126) (XT.ii_le_t (by decide : ¬ (4 : Int32) < (2 : Int32))) (by decide) ?_
   obtain ⟨T74, h74, X74, e74, E74, A74, D74, U74, st74⟩ := newO X73 hx hZ hown (tw_6 hw) (tw_7 hw) (tw_8 hw) e73 (g := (mkF m 126 #[(vI p0), (vI p1), (vI p2), (vI p3), (vI p4), (vI p5), (vI 2), (vR b35), (vR b67), .unset, .unset, .unset, .unset, .unset, .unset] [])) rfl (hb hby at_126) (by decide) (by decide)
   obtain ⟨b74, g74⟩ : ∃ z, z = h73.size := ⟨_, rfl⟩
   rw [← g74] at A74 D74 U74 st74
   have g_b74 : n0 ≤ b74 := Nat.le_trans f73_0 (Nat.le_of_eq g74.symm)
   have sz_b74 : h0.size ≤ b74 := Nat.le_trans f73_3.1 (Nat.le_of_eq g74.symm)
   have ne_b35_b74 : b35 ≠ b74 := Nat.ne_of_lt (Nat.lt_of_lt_of_le (f73_6.lt) (Nat.le_of_eq g74.symm))
   have ne_b67_b74 : b67 ≠ b74 := Nat.ne_of_lt (Nat.lt_of_lt_of_le (V73.lt) (Nat.le_of_eq g74.symm))
   have sf_b74 : Safe Z own_EL s.vm h73 b74 := Safe.new (Nat.le_of_eq g74.symm)
   have f74_0 := Nat.le_trans f73_0 E74.1
   have f74_1 := CHr.trans f73_1 (CHr.ext E74 f73_1.1)
   have f74_2 := Nat.le_trans f73_2 E74.1
   have f74_3 := Keep.ext f73_3 E74
   have f74_4 := Old.ext f73_4 E74
   have f74_5 := Safe.ext E74 f73_1.1 f73_5
   have f74_6 := Arv.ext f73_6 E74
   have f74_7 := Safe.ext E74 f73_1.1 f73_7
   have f74_8 := Arv.ext V73 E74
   have f74_9 := Safe.ext E74 f73_1.1 sf_b74
   refine Go.by st74 ?_
   have F74_value : Fld Z h74 b74 "java/lang/String" "value" "[B" .null := D74 (Or.inr (tw_21 hw)) (ty := (.array .byte)) (by decide)
   have F74_coder : Fld Z h74 b74 "java/lang/String" "coder" "B" (.int 0) := D74 (Or.inr (tw_22 hw)) (ty := .byte) (by decide)
   show oG p e below P m T74 129 #[(vI p0), (vI p1), (vI p2), (vI p3), (vI p4), (vI p5), (vI 2), (vR b35), (vR b67), .unset, .unset, .unset, .unset, .unset, .unset] [(.ref b74)]
   refine dU X74 hx hby at_129 rfl ?_
   refine aB X74 hx hby at_130 rfl rfl ?_
   obtain ⟨_, _, ⟨T75, L75, k75, n75⟩, -, X75, ⟨Lc75, hQ75, l75, y75, z75⟩, st75⟩ := X74.specialBack hx (y := oY16) rfl hown (mvT hZ (tw_9 hw)) (mvT hZ (tw_10 hw)) (mvT hZ (tw_11 hw)) (by decide) (backOf (W := 1) (rm_si1_2 l Z a0 hw [] b74 b67 k67 (own_pick p1) (own_pick p2) cs h74 n0 f74_0 f74_4 Scs hcs A74 g_b74 F74_coder F74_value f74_8 (own_pickr p1).1 (own_pickr p1).2 (own_pickr p2).1 (own_pickr p2).2) hZ (tw_11 hw) (tw_8 hw) (by decide) (by decide)) (g := (mkF m 132 #[(vI p0), (vI p1), (vI p2), (vI p3), (vI p4), (vI p5), (vI 2), (vR b35), (vR b67), .unset, .unset, .unset, .unset, .unset, .unset] [(.ref b67), (.ref b74), (.ref b74)])) rfl (by rw [hml]; rfl) (Steps.refl _) (a := b74) (argsL := [(.ref b67)]) (rest := [(.ref b74)]) (lenOf pd18 rfl) rfl (by show 2 * 0 + _ ≤ _; exact Nat.le_of_eq rfl) (hb hby at_132) (fun _ _ => ⟨rfl, e74, (by decide : 3 + 1 ≤ _), (by decide : 11 + 2 ≤ _)⟩)
   dsimp only [Pt.U, Pt.locs, Pt.cells, Pt.slots] at X75 l75 y75 z75 st75 hQ75
   subst l75 y75 z75
   obtain ⟨rfl, N75q, K75, Gc75, d75, kd75, z75, Gv75, V75⟩ := hQ75
   have N75 := Fr.app N73 N75q
   refine Go.by (fun t k => st75.trans k) ?_
   have f75_0 := Nat.le_trans f74_0 K75.1
   have f75_1 := CHr.trans f74_1 (CHr.keep K75 (sfS f74_9 sf0) f74_1.1)
   have f75_2 := Nat.le_trans f74_2 K75.1
   have f75_3 := Keep.trans f74_3 K75 (allS (Or.inr sz_b74) all0)
   have f75_4 := Old.keep f74_4 K75 (allS g_b74 all0)
   have f75_5 := Safe.keep K75 (sfS f74_9 sf0) f74_1.1 f74_5
   have f75_6 := Arv.keep f74_6 K75 (ninS ne_b35_b74 nin0)
   have f75_7 := Safe.keep K75 (sfS f74_9 sf0) f74_1.1 f74_7
   have f75_8 := Arv.keep f74_8 K75 (ninS ne_b67_b74 nin0)
   have f75_9 := Safe.keep K75 (sfS f74_9 sf0) f74_1.1 f74_9
   have f75_10 := Exa.keep A74 K75
   have S75 : StrV Z T75.heap b74 [((own_pick p1).toInt8.toInt32), ((own_pick p2).toInt8.toInt32)] := ⟨d75, kd75, f75_10, Gc75, Gv75, V75⟩
   show oG p e below P m T75 135 #[(vI p0), (vI p1), (vI p2), (vI p3), (vI p4), (vI p5), (vI 2), (vR b35), (vR b67), .unset, .unset, .unset, .unset, .unset, .unset] [(.ref b74)]
   refine aT X75 hx hby at_135 rfl (l' := #[(vI p0), (vI p1), (vI p2), (vI p3), (vI p4), (vI p5), (vI 2), (vR b35), (vR b67), (vR b74), .unset, .unset, .unset, .unset, .unset]) rfl ?_
   refine aB X75 hx hby at_137 rfl rfl ?_
   obtain ⟨_, _, ⟨T76, L76, k76, n76⟩, -, X76', hS76', hg76, ⟨Lc76, hQ76, l76, y76, z76, C76⟩, st76⟩ := Jvm.RoadKit.callSS X75 hx (y := oY14) hown (mvT hZ (tw_27 hw)) (mvT hZ (tw_28 hw)) (mvT hZ (tw_29 hw)) (mvT hZ (tw_30 hw)) (by decide) (own_backC (W := 0) (rm_dirOf2 l Z a0 hw hEL [] b74 ((own_pick p1).toInt8.toInt32) ((own_pick p2).toInt8.toInt32) cs fm T75.heap n0 f75_0 f75_4 Scs hcs Sfm hfm S75) hZ (tw_30 hw) (tw_29 hw) (by decide) (by decide) hEL f75_1.1 own_ss0) (g := (mkF m 139 #[(vI p0), (vI p1), (vI p2), (vI p3), (vI p4), (vI p5), (vI 2), (vR b35), (vR b67), (vR b74), .unset, .unset, .unset, .unset, .unset] [(.ref b74)])) rfl (by rw [hml]; rfl) (argsL := [(.ref b74)]) (rest := []) (lenOf pd19 rfl) rfl (by show 2 * 0 + _ ≤ _; exact Nat.le_of_eq rfl) (hb hby at_139) (fun _ _ => ⟨rfl, rfl, (by decide : 4 + 4 ≤ _), (by decide : 13 + 16 ≤ _)⟩)
   dsimp only [Pt.U, Pt.locs, Pt.cells, Pt.slots] at X76' hS76' hg76 l76 y76 z76 st76 hQ76 C76
   subst l76 y76 z76
   obtain ⟨X76, hS76, hZ76, hown76⟩ := rebS hS0 (f75_2) X76' hS76' hg76 hZ hown
   have hk76 : T76.heap.size ≤ T76.heap.size := Nat.le_refl _
   obtain ⟨r76, rfl, N76q, K76, D76⟩ := hQ76
   have N76 := Fr.app N75 N76q
   refine Go.by (fun t k => st76.trans k) ?_
   have f76_0 := Nat.le_trans f75_0 K76.1
   have f76_1 := CHr.trans f75_1 C76
   have f76_2 : T76.heap.size ≤ T76.heap.size := hk76
   have f76_3 := Keep.trans f75_3 K76 all0
   have f76_4 := Old.keep f75_4 K76 all0
   have f76_5 := CHr.safe C76 (f75_6.lt) f75_5
   have f76_6 := Arv.keep f75_6 K76 nin0
   have f76_7 := CHr.safe C76 (f75_8.lt) f75_7
   have f76_8 := Arv.keep f75_8 K76 nin0
   have f76_9 := StrV.keep0 S75 K76
   show oG p e below P m T76 142 #[(vI p0), (vI p1), (vI p2), (vI p3), (vI p4), (vI p5), (vI 2), (vR b35), (vR b67), (vR b74), .unset, .unset, .unset, .unset, .unset] [(.ref r76)]
   refine aT X76 hx hby at_142 rfl (l' := #[(vI p0), (vI p1), (vI p2), (vI p3), (vI p4), (vI p5), (vI 2), (vR b35), (vR b67), (vR b74), (vR r76), .unset, .unset, .unset, .unset]) rfl ?_
   refine iB X76 hx hby at_144 rfl ?_
   refine fN X76 hx hby at_146 (XT.i0_le_f (by decide : (0 : Int32) < (2 : Int32))) ?_
   refine aB X76 hx hby at_149 rfl rfl ?_
   refine iB X76 hx hby at_151 rfl ?_
   refine iC X76 hx hby at_153 (v := 1) rfl ?_
   refine iM X76 hx hby at_154 (v := 1) rfl ?_
   have av77 := f76_6
   obtain ⟨cl77, Ar77, -, Sz77, Nn77, Ha77, Gf77⟩ := av77
   have hin77 : ¬ ((1 : Int32) < 0 ∨ cl77.slots.size ≤ ((1 : Int32)).toNatClampNeg) := inb_of Sz77 ⟨by decide, by decide⟩
   have hat77 : cl77.slots[((1 : Int32)).toNatClampNeg]? = some (.int (own_pick p2)) := Ha77.at hin77 rfl
   refine Go.by (X76.caload hx (j := (1 : Int32)) (v := (.int (own_pick p2))) Ar77.1 (State.isArrayOf_alike hZ76.alike Ar77.2.1) Ar77.2.2 hin77 hat77 (g := (mkF m 155 #[(vI p0), (vI p1), (vI p2), (vI p3), (vI p4), (vI p5), (vI 2), (vR b35), (vR b67), (vR b74), (vR r76), .unset, .unset, .unset, .unset] [(.int 1), (.ref b35)])) rfl rfl (hb hby at_155)) ?_
   show oG p e below P m T76 156 #[(vI p0), (vI p1), (vI p2), (vI p3), (vI p4), (vI p5), (vI 2), (vR b35), (vR b67), (vR b74), (vR r76), .unset, .unset, .unset, .unset] [(.int (own_pick p2))]
   refine bC X76 hx hby at_156 (v := 47) rfl ?_
   by_cases hc158_78 : (own_pick p2) = (47 : Int32)
   · refine cN X76 hx hby at_158 (XT.ii_ne_f hc158_78) ?_
     refine iC X76 hx hby at_161 (v := 1) rfl ?_
     refine gO X76 hx hby at_162 (pc' := 166) (by decide) ?_
     refine iT X76 hx hby at_166 (l' := #[(vI p0), (vI p1), (vI p2), (vI p3), (vI p4), (vI p5), (vI 2), (vR b35), (vR b67), (vR b74), (vR r76), (vI 1), .unset, .unset, .unset]) rfl ?_
     refine iB X76 hx hby at_168 rfl ?_
     refine fN X76 hx hby at_170 (XT.i0_eq_f (by decide : ¬ (1 : Int32) = (0 : Int32))) ?_
     refine iB X76 hx hby at_173 rfl ?_
     refine iC X76 hx hby at_175 (v := 1) rfl ?_
     refine iM X76 hx hby at_176 (v := 1) rfl ?_
     refine gO X76 hx hby at_177 (pc' := 182) (by decide) ?_
     refine iT X76 hx hby at_182 (l' := #[(vI p0), (vI p1), (vI p2), (vI p3), (vI p4), (vI p5), (vI 2), (vR b35), (vR b67), (vR b74), (vR r76), (vI 1), (vI 1), .unset, .unset]) rfl ?_
     refine aB X76 hx hby at_184 rfl rfl ?_
     refine iB X76 hx hby at_186 rfl ?_
     refine c_stat 0 X76 hx hby hml hZ76 hown76 (tw_76 hw) (tw_77 hw) (tw_4 hw) (tw_78 hw) (rm_lastSlash1 l Z a0 hw [] b35 k35 (own_pick p1) (own_pick p2) (own_pick p3) (own_pick p4) (own_pick p5) T76.heap n0 f76_0 f76_6) rfl at_188 [(.ref b35), (.int 1)] [] (lenOf pd9 rfl) rfl rfl (by rfl) (by decide) ?_
     rintro _ T79 Lc79 ⟨rfl, N79q, q79⟩ X79
     have N79 := Fr.app N76 N79q
     show oG p e below P m T79 191 #[(vI p0), (vI p1), (vI p2), (vI p3), (vI p4), (vI p5), (vI 2), (vR b35), (vR b67), (vR b74), (vR r76), (vI 1), (vI 1), .unset, .unset] [(.int (own_l1 (own_pick p1)))]
     rcases D76 with ⟨hk, SG⟩ | ⟨hk, SG⟩
     · obtain ⟨dg, kdg, ESg, CSg, VSg, ASg⟩ := SG
       have ATg : Arv Z T76.heap dg kdg .byte (0 : Int32) [] (.int 0) := ASg
       rw [show (own_l1 (own_pick p1)) = (-1 : Int32) from ((own_lb1 p1).symm.trans hk)]
       show oG p e below P m T79 191 #[(vI p0), (vI p1), (vI p2), (vI p3), (vI p4), (vI p5), (vI 2), (vR b35), (vR b67), (vR b74), (vR r76), (vI 1), (vI 1), .unset, .unset] [(.int (-1))]
       refine iT X79 hx hby at_191 (l' := #[(vI p0), (vI p1), (vI p2), (vI p3), (vI p4), (vI p5), (vI 2), (vR b35), (vR b67), (vR b74), (vR r76), (vI 1), (vI 1), (vI (-1)), .unset]) rfl ?_
       refine iB X79 hx hby at_193 rfl ?_
       refine fN X79 hx hby at_195 (XT.i0_ge_f (by decide : (-1 : Int32) < (0 : Int32))) ?_
       refine iC X79 hx hby at_198 (v := 0) rfl ?_
       refine gO X79 hx hby at_199 (pc' := 204) (by decide) ?_
       refine iT X79 hx hby at_204 (l' := #[(vI p0), (vI p1), (vI p2), (vI p3), (vI p4), (vI p5), (vI 2), (vR b35), (vR b67), (vR b74), (vR r76), (vI 1), (vI 1), (vI (-1)), (vI 0)]) rfl ?_
       exact tail0 (2 : Int32) (1 : Int32) (1 : Int32) (-1 : Int32) b35 k35 b67 b74 r76 dg kdg (X79.more (by decide) (by decide)) q79 N79 f76_0 hS76 f76_2 hZ76 hown76 f76_1 f76_4 f76_6 ESg CSg VSg ATg
     · obtain ⟨dg, kdg, ESg, CSg, VSg, ASg⟩ := SG
       have ATg : Arv Z T76.heap dg kdg .byte (0 : Int32) [] (.int 0) := ASg
       rw [show (own_l1 (own_pick p1)) = (0 : Int32) from ((own_lb1 p1).symm.trans hk)]
       show oG p e below P m T79 191 #[(vI p0), (vI p1), (vI p2), (vI p3), (vI p4), (vI p5), (vI 2), (vR b35), (vR b67), (vR b74), (vR r76), (vI 1), (vI 1), .unset, .unset] [(.int 0)]
       refine iT X79 hx hby at_191 (l' := #[(vI p0), (vI p1), (vI p2), (vI p3), (vI p4), (vI p5), (vI 2), (vR b35), (vR b67), (vR b74), (vR r76), (vI 1), (vI 1), (vI 0), .unset]) rfl ?_
       refine iB X79 hx hby at_193 rfl ?_
       refine fY X79 hx hby at_195 (pc' := 202) (XT.i0_ge_t (by decide : ¬ (0 : Int32) < (0 : Int32))) (by decide) ?_
       refine iB X79 hx hby at_202 rfl ?_
       refine iT X79 hx hby at_204 (l' := #[(vI p0), (vI p1), (vI p2), (vI p3), (vI p4), (vI p5), (vI 2), (vR b35), (vR b67), (vR b74), (vR r76), (vI 1), (vI 1), (vI 0), (vI 0)]) rfl ?_
       exact tail0 (2 : Int32) (1 : Int32) (1 : Int32) (0 : Int32) b35 k35 b67 b74 r76 dg kdg (X79.more (by decide) (by decide)) q79 N79 f76_0 hS76 f76_2 hZ76 hown76 f76_1 f76_4 f76_6 ESg CSg VSg ATg
   · refine cY X76 hx hby at_158 (pc' := 165) (XT.ii_ne_t hc158_78) (by decide) ?_
     refine iC X76 hx hby at_165 (v := 0) rfl ?_
     refine iT X76 hx hby at_166 (l' := #[(vI p0), (vI p1), (vI p2), (vI p3), (vI p4), (vI p5), (vI 2), (vR b35), (vR b67), (vR b74), (vR r76), (vI 0), .unset, .unset, .unset]) rfl ?_
     refine iB X76 hx hby at_168 rfl ?_
     refine fY X76 hx hby at_170 (pc' := 180) (XT.i0_eq_t (by decide : (0 : Int32) = (0 : Int32))) (by decide) ?_
     refine iB X76 hx hby at_180 rfl ?_
     refine iT X76 hx hby at_182 (l' := #[(vI p0), (vI p1), (vI p2), (vI p3), (vI p4), (vI p5), (vI 2), (vR b35), (vR b67), (vR b74), (vR r76), (vI 0), (vI 2), .unset, .unset]) rfl ?_
     refine aB X76 hx hby at_184 rfl rfl ?_
     refine iB X76 hx hby at_186 rfl ?_
     refine c_stat 0 X76 hx hby hml hZ76 hown76 (tw_76 hw) (tw_77 hw) (tw_4 hw) (tw_78 hw) (rm_lastSlash2 l Z a0 hw [] b35 k35 (own_pick p1) (own_pick p2) (own_pick p3) (own_pick p4) (own_pick p5) T76.heap n0 f76_0 f76_6) rfl at_188 [(.ref b35), (.int 2)] [] (lenOf pd9 rfl) rfl rfl (by rfl) (by decide) ?_
     rintro _ T80 Lc80 ⟨rfl, N80q, q80⟩ X80
     have N80 := Fr.app N76 N80q
     show oG p e below P m T80 191 #[(vI p0), (vI p1), (vI p2), (vI p3), (vI p4), (vI p5), (vI 2), (vR b35), (vR b67), (vR b74), (vR r76), (vI 0), (vI 2), .unset, .unset] [(.int (own_l2 (own_pick p1) (own_pick p2)))]
     rcases D76 with ⟨hk, SG⟩ | ⟨hk, SG⟩
     · obtain ⟨dg, kdg, ESg, CSg, VSg, ASg⟩ := SG
       have ATg : Arv Z T76.heap dg kdg .byte (0 : Int32) [] (.int 0) := ASg
       rw [show (own_l2 (own_pick p1) (own_pick p2)) = (-1 : Int32) from ((if_neg hc158_78).trans ((own_lb1 p1).symm.trans hk))]
       show oG p e below P m T80 191 #[(vI p0), (vI p1), (vI p2), (vI p3), (vI p4), (vI p5), (vI 2), (vR b35), (vR b67), (vR b74), (vR r76), (vI 0), (vI 2), .unset, .unset] [(.int (-1))]
       refine iT X80 hx hby at_191 (l' := #[(vI p0), (vI p1), (vI p2), (vI p3), (vI p4), (vI p5), (vI 2), (vR b35), (vR b67), (vR b74), (vR r76), (vI 0), (vI 2), (vI (-1)), .unset]) rfl ?_
       refine iB X80 hx hby at_193 rfl ?_
       refine fN X80 hx hby at_195 (XT.i0_ge_f (by decide : (-1 : Int32) < (0 : Int32))) ?_
       refine iC X80 hx hby at_198 (v := 0) rfl ?_
       refine gO X80 hx hby at_199 (pc' := 204) (by decide) ?_
       refine iT X80 hx hby at_204 (l' := #[(vI p0), (vI p1), (vI p2), (vI p3), (vI p4), (vI p5), (vI 2), (vR b35), (vR b67), (vR b74), (vR r76), (vI 0), (vI 2), (vI (-1)), (vI 0)]) rfl ?_
       exact tail0 (2 : Int32) (0 : Int32) (2 : Int32) (-1 : Int32) b35 k35 b67 b74 r76 dg kdg (X80.more (by decide) (by decide)) q80 N80 f76_0 hS76 f76_2 hZ76 hown76 f76_1 f76_4 f76_6 ESg CSg VSg ATg
     · obtain ⟨dg, kdg, ESg, CSg, VSg, ASg⟩ := SG
       have ATg : Arv Z T76.heap dg kdg .byte (0 : Int32) [] (.int 0) := ASg
       rw [show (own_l2 (own_pick p1) (own_pick p2)) = (0 : Int32) from ((if_neg hc158_78).trans ((own_lb1 p1).symm.trans hk))]
       show oG p e below P m T80 191 #[(vI p0), (vI p1), (vI p2), (vI p3), (vI p4), (vI p5), (vI 2), (vR b35), (vR b67), (vR b74), (vR r76), (vI 0), (vI 2), .unset, .unset] [(.int 0)]
       refine iT X80 hx hby at_191 (l' := #[(vI p0), (vI p1), (vI p2), (vI p3), (vI p4), (vI p5), (vI 2), (vR b35), (vR b67), (vR b74), (vR r76), (vI 0), (vI 2), (vI 0), .unset]) rfl ?_
       refine iB X80 hx hby at_193 rfl ?_
       refine fY X80 hx hby at_195 (pc' := 202) (XT.i0_ge_t (by decide : ¬ (0 : Int32) < (0 : Int32))) (by decide) ?_
       refine iB X80 hx hby at_202 rfl ?_
       refine iT X80 hx hby at_204 (l' := #[(vI p0), (vI p1), (vI p2), (vI p3), (vI p4), (vI p5), (vI 2), (vR b35), (vR b67), (vR b74), (vR r76), (vI 0), (vI 2), (vI 0), (vI 0)]) rfl ?_
       exact tail0 (2 : Int32) (0 : Int32) (2 : Int32) (0 : Int32) b35 k35 b67 b74 r76 dg kdg (X80.more (by decide) (by decide)) q80 N80 f76_0 hS76 f76_2 hZ76 hown76 f76_1 f76_4 f76_6 ESg CSg VSg ATg
 · rw [hn]
   show oG p e below P m T50 51 #[(vI p0), (vI p1), (vI p2), (vI p3), (vI p4), (vI p5), (vI 3), (vR b35), .unset, .unset, .unset, .unset, .unset, .unset, .unset] []
   refine iB X50 hx hby at_51 rfl ?_
   obtain ⟨T81, h81, k81, X81, e81, E81, A81, st81⟩ := newP X50 hx hZ (aty := .char) (tw_1 hw) e50 (g := (mkF m 53 #[(vI p0), (vI p1), (vI p2), (vI p3), (vI p4), (vI p5), (vI 3), (vR b35), .unset, .unset, .unset, .unset, .unset, .unset, .unset] [(.int 3)])) rfl (hb hby at_53) rfl (by decide) (cap := 3) (by decide) (by decide) (by decide) (by decide)
   obtain ⟨b81, g81⟩ : ∃ z, z = h50.size := ⟨_, rfl⟩
   rw [← g81] at A81 st81
   have g_b81 : n0 ≤ b81 := Nat.le_trans f50_0 (Nat.le_of_eq g81.symm)
   have sz_b81 : h0.size ≤ b81 := Nat.le_trans f50_3.1 (Nat.le_of_eq g81.symm)
   have ne_b35_b81 : b35 ≠ b81 := Nat.ne_of_lt (Nat.lt_of_lt_of_le (V50.lt) (Nat.le_of_eq g81.symm))
   have sf_b81 : Safe Z own_EL s.vm h50 b81 := Safe.new (Nat.le_of_eq g81.symm)
   have f81_0 := Nat.le_trans f50_0 E81.1
   have f81_1 := CHr.trans f50_1 (CHr.ext E81 f50_1.1)
   have f81_2 := Nat.le_trans f50_2 E81.1
   have f81_3 := Keep.ext f50_3 E81
   have f81_4 := Old.ext f50_4 E81
   have f81_5 := Safe.ext E81 f50_1.1 f50_5
   have f81_6 := Arv.ext V50 E81
   have f81_7 := Safe.ext E81 f50_1.1 sf_b81
   refine Go.by st81 ?_
   have V81 : Arv Z h81 b81 k81 .char (3 : Int32) [(.int 0), (.int 0), (.int 0)] (.int 0) := (Arv.new A81 (by decide)).pad (pad_rep [] (.int 0) 3)
   show oG p e below P m T81 55 #[(vI p0), (vI p1), (vI p2), (vI p3), (vI p4), (vI p5), (vI 3), (vR b35), .unset, .unset, .unset, .unset, .unset, .unset, .unset] [(.ref b81)]
   refine aT X81 hx hby at_55 rfl (l' := #[(vI p0), (vI p1), (vI p2), (vI p3), (vI p4), (vI p5), (vI 3), (vR b35), (vR b81), .unset, .unset, .unset, .unset, .unset, .unset]) rfl ?_
   refine iB X81 hx hby at_57 rfl ?_
   refine fN X81 hx hby at_59 (XT.i0_le_f (by decide : (0 : Int32) < (3 : Int32))) ?_
   refine aB X81 hx hby at_62 rfl rfl ?_
   refine iC X81 hx hby at_64 (v := 0) rfl ?_
   refine aB X81 hx hby at_65 rfl rfl ?_
   refine iC X81 hx hby at_67 (v := 0) rfl ?_
   have av82 := f81_6
   obtain ⟨cl82, Ar82, -, Sz82, Nn82, Ha82, Gf82⟩ := av82
   have hin82 : ¬ ((0 : Int32) < 0 ∨ cl82.slots.size ≤ ((0 : Int32)).toNatClampNeg) := inb_of Sz82 ⟨by decide, by decide⟩
   have hat82 : cl82.slots[((0 : Int32)).toNatClampNeg]? = some (.int (own_pick p1)) := Ha82.at hin82 rfl
   refine Go.by (X81.caload hx (j := (0 : Int32)) (v := (.int (own_pick p1))) (by rw [e81]; exact Ar82.1) (State.isArrayOf_alike hZ.alike Ar82.2.1) Ar82.2.2 hin82 hat82 (g := (mkF m 68 #[(vI p0), (vI p1), (vI p2), (vI p3), (vI p4), (vI p5), (vI 3), (vR b35), (vR b81), .unset, .unset, .unset, .unset, .unset, .unset] [(.int 0), (.ref b35), (.int 0), (.ref b81)])) rfl rfl (hb hby at_68)) ?_
   have av83 := V81
   obtain ⟨cl83, Ar83, q83, Sz83, Nn83, Ha83, Gf83⟩ := av83
   have hin83 : ¬ ((0 : Int32) < 0 ∨ cl83.slots.size ≤ ((0 : Int32)).toNatClampNeg) := inb_of Sz83 ⟨by decide, by decide⟩
   obtain ⟨T84, h84, X84, e84, W84, st84⟩ := stC X81 hx hZ e81 Ar83 (j := (0 : Int32)) hin83 (g := (mkF m 69 #[(vI p0), (vI p1), (vI p2), (vI p3), (vI p4), (vI p5), (vI 3), (vR b35), (vR b81), .unset, .unset, .unset, .unset, .unset, .unset] [(.int (own_pick p1)), (.int 0), (.ref b81)])) rfl rfl (hb hby at_69)
   have W84' : Wr h81 h84 b81 ((0 : Int32)).toNatClampNeg (.int (own_pick p1)) := (by have q : Wr h81 h84 b81 ((0 : Int32)).toNatClampNeg (.int (nar .char (own_pick p1))) := W84; rw [own_chr _ (own_pickr p1).1 (own_pickr p1).2] at q; exact q)
   have V84 : Arv Z h84 b81 k81 .char (3 : Int32) [(.int (own_pick p1)), (.int 0), (.int 0)] (.int 0) := Arv.set Ar83 q83 Sz83 Nn83 Ha83 Gf83 (own_chf _ (own_pickr p1).1 (own_pickr p1).2) W84' 0 rfl (Nat.le_of_ble_eq_true rfl)
   have N84 := Fr.snoc X84 N50 g_b81
   have f84_0 := Nat.le_trans f81_0 (Keep.of_wr W84).1
   have f84_1 := CHr.trans f81_1 (CHr.wr W84 f81_7 f81_1.1)
   have f84_2 := Nat.le_trans f81_2 (Keep.of_wr W84).1
   have f84_3 := Keep.wr f81_3 W84 (Or.inr sz_b81)
   have f84_4 := Old.wr f81_4 W84 g_b81
   have f84_5 := Safe.wr W84 f81_7 f81_1.1 f81_5
   have f84_6 := Arv.other f81_6 W84 ne_b35_b81
   have f84_7 := Safe.wr W84 f81_7 f81_1.1 f81_7
   refine Go.by st84 ?_
   show oG p e below P m T84 70 #[(vI p0), (vI p1), (vI p2), (vI p3), (vI p4), (vI p5), (vI 3), (vR b35), (vR b81), .unset, .unset, .unset, .unset, .unset, .unset] []
   refine iB X84 hx hby at_70 rfl ?_
   refine iC X84 hx hby at_72 (v := 1) rfl ?_
   refine cN X84 hx hby at_73 (XT.ii_le_f (by decide : (1 : Int32) < (3 : Int32))) ?_
   refine aB X84 hx hby at_76 rfl rfl ?_
   refine iC X84 hx hby at_78 (v := 1) rfl ?_
   refine aB X84 hx hby at_79 rfl rfl ?_
   refine iC X84 hx hby at_81 (v := 1) rfl ?_
   have av85 := f84_6
   obtain ⟨cl85, Ar85, -, Sz85, Nn85, Ha85, Gf85⟩ := av85
   have hin85 : ¬ ((1 : Int32) < 0 ∨ cl85.slots.size ≤ ((1 : Int32)).toNatClampNeg) := inb_of Sz85 ⟨by decide, by decide⟩
   have hat85 : cl85.slots[((1 : Int32)).toNatClampNeg]? = some (.int (own_pick p2)) := Ha85.at hin85 rfl
   refine Go.by (X84.caload hx (j := (1 : Int32)) (v := (.int (own_pick p2))) (by rw [e84]; exact Ar85.1) (State.isArrayOf_alike hZ.alike Ar85.2.1) Ar85.2.2 hin85 hat85 (g := (mkF m 82 #[(vI p0), (vI p1), (vI p2), (vI p3), (vI p4), (vI p5), (vI 3), (vR b35), (vR b81), .unset, .unset, .unset, .unset, .unset, .unset] [(.int 1), (.ref b35), (.int 1), (.ref b81)])) rfl rfl (hb hby at_82)) ?_
   have av86 := V84
   obtain ⟨cl86, Ar86, q86, Sz86, Nn86, Ha86, Gf86⟩ := av86
   have hin86 : ¬ ((1 : Int32) < 0 ∨ cl86.slots.size ≤ ((1 : Int32)).toNatClampNeg) := inb_of Sz86 ⟨by decide, by decide⟩
   obtain ⟨T87, h87, X87, e87, W87, st87⟩ := stC X84 hx hZ e84 Ar86 (j := (1 : Int32)) hin86 (g := (mkF m 83 #[(vI p0), (vI p1), (vI p2), (vI p3), (vI p4), (vI p5), (vI 3), (vR b35), (vR b81), .unset, .unset, .unset, .unset, .unset, .unset] [(.int (own_pick p2)), (.int 1), (.ref b81)])) rfl rfl (hb hby at_83)
   have W87' : Wr h84 h87 b81 ((1 : Int32)).toNatClampNeg (.int (own_pick p2)) := (by have q : Wr h84 h87 b81 ((1 : Int32)).toNatClampNeg (.int (nar .char (own_pick p2))) := W87; rw [own_chr _ (own_pickr p2).1 (own_pickr p2).2] at q; exact q)
   have V87 : Arv Z h87 b81 k81 .char (3 : Int32) [(.int (own_pick p1)), (.int (own_pick p2)), (.int 0)] (.int 0) := Arv.set Ar86 q86 Sz86 Nn86 Ha86 Gf86 (own_chf _ (own_pickr p2).1 (own_pickr p2).2) W87' 1 rfl (Nat.le_of_ble_eq_true rfl)
   have N87 := Fr.snoc X87 N84 g_b81
   have f87_0 := Nat.le_trans f84_0 (Keep.of_wr W87).1
   have f87_1 := CHr.trans f84_1 (CHr.wr W87 f84_7 f84_1.1)
   have f87_2 := Nat.le_trans f84_2 (Keep.of_wr W87).1
   have f87_3 := Keep.wr f84_3 W87 (Or.inr sz_b81)
   have f87_4 := Old.wr f84_4 W87 g_b81
   have f87_5 := Safe.wr W87 f84_7 f84_1.1 f84_5
   have f87_6 := Arv.other f84_6 W87 ne_b35_b81
   have f87_7 := Safe.wr W87 f84_7 f84_1.1 f84_7
   refine Go.by st87 ?_
   show oG p e below P m T87 84 #[(vI p0), (vI p1), (vI p2), (vI p3), (vI p4), (vI p5), (vI 3), (vR b35), (vR b81), .unset, .unset, .unset, .unset, .unset, .unset] []
   refine iB X87 hx hby at_84 rfl ?_
   refine iC X87 hx hby at_86 (v := 2) rfl ?_
   refine cN X87 hx hby at_87 (XT.ii_le_f (by decide : (2 : Int32) < (3 : Int32))) ?_
   refine aB X87 hx hby at_90 rfl rfl ?_
   refine iC X87 hx hby at_92 (v := 2) rfl ?_
   refine aB X87 hx hby at_93 rfl rfl ?_
   refine iC X87 hx hby at_95 (v := 2) rfl ?_
   have av88 := f87_6
   obtain ⟨cl88, Ar88, -, Sz88, Nn88, Ha88, Gf88⟩ := av88
   have hin88 : ¬ ((2 : Int32) < 0 ∨ cl88.slots.size ≤ ((2 : Int32)).toNatClampNeg) := inb_of Sz88 ⟨by decide, by decide⟩
   have hat88 : cl88.slots[((2 : Int32)).toNatClampNeg]? = some (.int (own_pick p3)) := Ha88.at hin88 rfl
   refine Go.by (X87.caload hx (j := (2 : Int32)) (v := (.int (own_pick p3))) (by rw [e87]; exact Ar88.1) (State.isArrayOf_alike hZ.alike Ar88.2.1) Ar88.2.2 hin88 hat88 (g := (mkF m 96 #[(vI p0), (vI p1), (vI p2), (vI p3), (vI p4), (vI p5), (vI 3), (vR b35), (vR b81), .unset, .unset, .unset, .unset, .unset, .unset] [(.int 2), (.ref b35), (.int 2), (.ref b81)])) rfl rfl (hb hby at_96)) ?_
   have av89 := V87
   obtain ⟨cl89, Ar89, q89, Sz89, Nn89, Ha89, Gf89⟩ := av89
   have hin89 : ¬ ((2 : Int32) < 0 ∨ cl89.slots.size ≤ ((2 : Int32)).toNatClampNeg) := inb_of Sz89 ⟨by decide, by decide⟩
   obtain ⟨T90, h90, X90, e90, W90, st90⟩ := stC X87 hx hZ e87 Ar89 (j := (2 : Int32)) hin89 (g := (mkF m 97 #[(vI p0), (vI p1), (vI p2), (vI p3), (vI p4), (vI p5), (vI 3), (vR b35), (vR b81), .unset, .unset, .unset, .unset, .unset, .unset] [(.int (own_pick p3)), (.int 2), (.ref b81)])) rfl rfl (hb hby at_97)
   have W90' : Wr h87 h90 b81 ((2 : Int32)).toNatClampNeg (.int (own_pick p3)) := (by have q : Wr h87 h90 b81 ((2 : Int32)).toNatClampNeg (.int (nar .char (own_pick p3))) := W90; rw [own_chr _ (own_pickr p3).1 (own_pickr p3).2] at q; exact q)
   have V90 : Arv Z h90 b81 k81 .char (3 : Int32) [(.int (own_pick p1)), (.int (own_pick p2)), (.int (own_pick p3))] (.int 0) := Arv.set Ar89 q89 Sz89 Nn89 Ha89 Gf89 (own_chf _ (own_pickr p3).1 (own_pickr p3).2) W90' 2 rfl (Nat.le_of_ble_eq_true rfl)
   have N90 := Fr.snoc X90 N87 g_b81
   have f90_0 := Nat.le_trans f87_0 (Keep.of_wr W90).1
   have f90_1 := CHr.trans f87_1 (CHr.wr W90 f87_7 f87_1.1)
   have f90_2 := Nat.le_trans f87_2 (Keep.of_wr W90).1
   have f90_3 := Keep.wr f87_3 W90 (Or.inr sz_b81)
   have f90_4 := Old.wr f87_4 W90 g_b81
   have f90_5 := Safe.wr W90 f87_7 f87_1.1 f87_5
   have f90_6 := Arv.other f87_6 W90 ne_b35_b81
   have f90_7 := Safe.wr W90 f87_7 f87_1.1 f87_7
   refine Go.by st90 ?_
   show oG p e below P m T90 98 #[(vI p0), (vI p1), (vI p2), (vI p3), (vI p4), (vI p5), (vI 3), (vR b35), (vR b81), .unset, .unset, .unset, .unset, .unset, .unset] []
   refine iB X90 hx hby at_98 rfl ?_
   refine iC X90 hx hby at_100 (v := 3) rfl ?_
   refine cY X90 hx hby at_101 (pc' := 112) (XT.ii_le_t (by decide : ¬ (3 : Int32) < (3 : Int32))) (by decide) ?_
   refine iB X90 hx hby at_112 rfl ?_
   refine iC X90 hx hby at_114 (v := 4) rfl ?_
   refine cY X90 hx hby at_115 (pc' := 126) (XT.ii_le_t (by decide : ¬ (4 : Int32) < (3 : Int32))) (by decide) ?_
   obtain ⟨T91, h91, X91, e91, E91, A91, D91, U91, st91⟩ := newO X90 hx hZ hown (tw_6 hw) (tw_7 hw) (tw_8 hw) e90 (g := (mkF m 126 #[(vI p0), (vI p1), (vI p2), (vI p3), (vI p4), (vI p5), (vI 3), (vR b35), (vR b81), .unset, .unset, .unset, .unset, .unset, .unset] [])) rfl (hb hby at_126) (by decide) (by decide)
   obtain ⟨b91, g91⟩ : ∃ z, z = h90.size := ⟨_, rfl⟩
   rw [← g91] at A91 D91 U91 st91
   have g_b91 : n0 ≤ b91 := Nat.le_trans f90_0 (Nat.le_of_eq g91.symm)
   have sz_b91 : h0.size ≤ b91 := Nat.le_trans f90_3.1 (Nat.le_of_eq g91.symm)
   have ne_b35_b91 : b35 ≠ b91 := Nat.ne_of_lt (Nat.lt_of_lt_of_le (f90_6.lt) (Nat.le_of_eq g91.symm))
   have ne_b81_b91 : b81 ≠ b91 := Nat.ne_of_lt (Nat.lt_of_lt_of_le (V90.lt) (Nat.le_of_eq g91.symm))
   have sf_b91 : Safe Z own_EL s.vm h90 b91 := Safe.new (Nat.le_of_eq g91.symm)
   have f91_0 := Nat.le_trans f90_0 E91.1
   have f91_1 := CHr.trans f90_1 (CHr.ext E91 f90_1.1)
   have f91_2 := Nat.le_trans f90_2 E91.1
   have f91_3 := Keep.ext f90_3 E91
   have f91_4 := Old.ext f90_4 E91
   have f91_5 := Safe.ext E91 f90_1.1 f90_5
   have f91_6 := Arv.ext f90_6 E91
   have f91_7 := Safe.ext E91 f90_1.1 f90_7
   have f91_8 := Arv.ext V90 E91
   have f91_9 := Safe.ext E91 f90_1.1 sf_b91
   refine Go.by st91 ?_
   have F91_value : Fld Z h91 b91 "java/lang/String" "value" "[B" .null := D91 (Or.inr (tw_21 hw)) (ty := (.array .byte)) (by decide)
   have F91_coder : Fld Z h91 b91 "java/lang/String" "coder" "B" (.int 0) := D91 (Or.inr (tw_22 hw)) (ty := .byte) (by decide)
   show oG p e below P m T91 129 #[(vI p0), (vI p1), (vI p2), (vI p3), (vI p4), (vI p5), (vI 3), (vR b35), (vR b81), .unset, .unset, .unset, .unset, .unset, .unset] [(.ref b91)]
   refine dU X91 hx hby at_129 rfl ?_
   refine aB X91 hx hby at_130 rfl rfl ?_
   obtain ⟨_, _, ⟨T92, L92, k92, n92⟩, -, X92, ⟨Lc92, hQ92, l92, y92, z92⟩, st92⟩ := X91.specialBack hx (y := oY16) rfl hown (mvT hZ (tw_9 hw)) (mvT hZ (tw_10 hw)) (mvT hZ (tw_11 hw)) (by decide) (backOf (W := 1) (rm_si1_3 l Z a0 hw [] b91 b81 k81 (own_pick p1) (own_pick p2) (own_pick p3) cs h91 n0 f91_0 f91_4 Scs hcs A91 g_b91 F91_coder F91_value f91_8 (own_pickr p1).1 (own_pickr p1).2 (own_pickr p2).1 (own_pickr p2).2 (own_pickr p3).1 (own_pickr p3).2) hZ (tw_11 hw) (tw_8 hw) (by decide) (by decide)) (g := (mkF m 132 #[(vI p0), (vI p1), (vI p2), (vI p3), (vI p4), (vI p5), (vI 3), (vR b35), (vR b81), .unset, .unset, .unset, .unset, .unset, .unset] [(.ref b81), (.ref b91), (.ref b91)])) rfl (by rw [hml]; rfl) (Steps.refl _) (a := b91) (argsL := [(.ref b81)]) (rest := [(.ref b91)]) (lenOf pd18 rfl) rfl (by show 2 * 0 + _ ≤ _; exact Nat.le_of_eq rfl) (hb hby at_132) (fun _ _ => ⟨rfl, e91, (by decide : 3 + 1 ≤ _), (by decide : 12 + 3 ≤ _)⟩)
   dsimp only [Pt.U, Pt.locs, Pt.cells, Pt.slots] at X92 l92 y92 z92 st92 hQ92
   subst l92 y92 z92
   obtain ⟨rfl, N92q, K92, Gc92, d92, kd92, z92, Gv92, V92⟩ := hQ92
   have N92 := Fr.app N90 N92q
   refine Go.by (fun t k => st92.trans k) ?_
   have f92_0 := Nat.le_trans f91_0 K92.1
   have f92_1 := CHr.trans f91_1 (CHr.keep K92 (sfS f91_9 sf0) f91_1.1)
   have f92_2 := Nat.le_trans f91_2 K92.1
   have f92_3 := Keep.trans f91_3 K92 (allS (Or.inr sz_b91) all0)
   have f92_4 := Old.keep f91_4 K92 (allS g_b91 all0)
   have f92_5 := Safe.keep K92 (sfS f91_9 sf0) f91_1.1 f91_5
   have f92_6 := Arv.keep f91_6 K92 (ninS ne_b35_b91 nin0)
   have f92_7 := Safe.keep K92 (sfS f91_9 sf0) f91_1.1 f91_7
   have f92_8 := Arv.keep f91_8 K92 (ninS ne_b81_b91 nin0)
   have f92_9 := Safe.keep K92 (sfS f91_9 sf0) f91_1.1 f91_9
   have f92_10 := Exa.keep A91 K92
   have S92 : StrV Z T92.heap b91 [((own_pick p1).toInt8.toInt32), ((own_pick p2).toInt8.toInt32), ((own_pick p3).toInt8.toInt32)] := ⟨d92, kd92, f92_10, Gc92, Gv92, V92⟩
   show oG p e below P m T92 135 #[(vI p0), (vI p1), (vI p2), (vI p3), (vI p4), (vI p5), (vI 3), (vR b35), (vR b81), .unset, .unset, .unset, .unset, .unset, .unset] [(.ref b91)]
   refine aT X92 hx hby at_135 rfl (l' := #[(vI p0), (vI p1), (vI p2), (vI p3), (vI p4), (vI p5), (vI 3), (vR b35), (vR b81), (vR b91), .unset, .unset, .unset, .unset, .unset]) rfl ?_
   refine aB X92 hx hby at_137 rfl rfl ?_
   obtain ⟨_, _, ⟨T93, L93, k93, n93⟩, -, X93', hS93', hg93, ⟨Lc93, hQ93, l93, y93, z93, C93⟩, st93⟩ := Jvm.RoadKit.callSS X92 hx (y := oY14) hown (mvT hZ (tw_27 hw)) (mvT hZ (tw_28 hw)) (mvT hZ (tw_29 hw)) (mvT hZ (tw_30 hw)) (by decide) (own_backC (W := 0) (rm_dirOf3 l Z a0 hw hEL [] b91 ((own_pick p1).toInt8.toInt32) ((own_pick p2).toInt8.toInt32) ((own_pick p3).toInt8.toInt32) cs fm T92.heap n0 f92_0 f92_4 Scs hcs Sfm hfm S92) hZ (tw_30 hw) (tw_29 hw) (by decide) (by decide) hEL f92_1.1 own_ss0) (g := (mkF m 139 #[(vI p0), (vI p1), (vI p2), (vI p3), (vI p4), (vI p5), (vI 3), (vR b35), (vR b81), (vR b91), .unset, .unset, .unset, .unset, .unset] [(.ref b91)])) rfl (by rw [hml]; rfl) (argsL := [(.ref b91)]) (rest := []) (lenOf pd19 rfl) rfl (by show 2 * 0 + _ ≤ _; exact Nat.le_of_eq rfl) (hb hby at_139) (fun _ _ => ⟨rfl, rfl, (by decide : 4 + 4 ≤ _), (by decide : 15 + 16 ≤ _)⟩)
   dsimp only [Pt.U, Pt.locs, Pt.cells, Pt.slots] at X93' hS93' hg93 l93 y93 z93 st93 hQ93 C93
   subst l93 y93 z93
   obtain ⟨X93, hS93, hZ93, hown93⟩ := rebS hS0 (f92_2) X93' hS93' hg93 hZ hown
   have hk93 : T93.heap.size ≤ T93.heap.size := Nat.le_refl _
   obtain ⟨r93, rfl, N93q, K93, D93⟩ := hQ93
   have N93 := Fr.app N92 N93q
   refine Go.by (fun t k => st93.trans k) ?_
   have f93_0 := Nat.le_trans f92_0 K93.1
   have f93_1 := CHr.trans f92_1 C93
   have f93_2 : T93.heap.size ≤ T93.heap.size := hk93
   have f93_3 := Keep.trans f92_3 K93 all0
   have f93_4 := Old.keep f92_4 K93 all0
   have f93_5 := CHr.safe C93 (f92_6.lt) f92_5
   have f93_6 := Arv.keep f92_6 K93 nin0
   have f93_7 := CHr.safe C93 (f92_8.lt) f92_7
   have f93_8 := Arv.keep f92_8 K93 nin0
   have f93_9 := StrV.keep0 S92 K93
   show oG p e below P m T93 142 #[(vI p0), (vI p1), (vI p2), (vI p3), (vI p4), (vI p5), (vI 3), (vR b35), (vR b81), (vR b91), .unset, .unset, .unset, .unset, .unset] [(.ref r93)]
   refine aT X93 hx hby at_142 rfl (l' := #[(vI p0), (vI p1), (vI p2), (vI p3), (vI p4), (vI p5), (vI 3), (vR b35), (vR b81), (vR b91), (vR r93), .unset, .unset, .unset, .unset]) rfl ?_
   refine iB X93 hx hby at_144 rfl ?_
   refine fN X93 hx hby at_146 (XT.i0_le_f (by decide : (0 : Int32) < (3 : Int32))) ?_
   refine aB X93 hx hby at_149 rfl rfl ?_
   refine iB X93 hx hby at_151 rfl ?_
   refine iC X93 hx hby at_153 (v := 1) rfl ?_
   refine iM X93 hx hby at_154 (v := 2) rfl ?_
   have av94 := f93_6
   obtain ⟨cl94, Ar94, -, Sz94, Nn94, Ha94, Gf94⟩ := av94
   have hin94 : ¬ ((2 : Int32) < 0 ∨ cl94.slots.size ≤ ((2 : Int32)).toNatClampNeg) := inb_of Sz94 ⟨by decide, by decide⟩
   have hat94 : cl94.slots[((2 : Int32)).toNatClampNeg]? = some (.int (own_pick p3)) := Ha94.at hin94 rfl
   refine Go.by (X93.caload hx (j := (2 : Int32)) (v := (.int (own_pick p3))) Ar94.1 (State.isArrayOf_alike hZ93.alike Ar94.2.1) Ar94.2.2 hin94 hat94 (g := (mkF m 155 #[(vI p0), (vI p1), (vI p2), (vI p3), (vI p4), (vI p5), (vI 3), (vR b35), (vR b81), (vR b91), (vR r93), .unset, .unset, .unset, .unset] [(.int 2), (.ref b35)])) rfl rfl (hb hby at_155)) ?_
   show oG p e below P m T93 156 #[(vI p0), (vI p1), (vI p2), (vI p3), (vI p4), (vI p5), (vI 3), (vR b35), (vR b81), (vR b91), (vR r93), .unset, .unset, .unset, .unset] [(.int (own_pick p3))]
   refine bC X93 hx hby at_156 (v := 47) rfl ?_
   by_cases hc158_95 : (own_pick p3) = (47 : Int32)
   · refine cN X93 hx hby at_158 (XT.ii_ne_f hc158_95) ?_
     refine iC X93 hx hby at_161 (v := 1) rfl ?_
     refine gO X93 hx hby at_162 (pc' := 166) (by decide) ?_
     refine iT X93 hx hby at_166 (l' := #[(vI p0), (vI p1), (vI p2), (vI p3), (vI p4), (vI p5), (vI 3), (vR b35), (vR b81), (vR b91), (vR r93), (vI 1), .unset, .unset, .unset]) rfl ?_
     refine iB X93 hx hby at_168 rfl ?_
     refine fN X93 hx hby at_170 (XT.i0_eq_f (by decide : ¬ (1 : Int32) = (0 : Int32))) ?_
     refine iB X93 hx hby at_173 rfl ?_
     refine iC X93 hx hby at_175 (v := 1) rfl ?_
     refine iM X93 hx hby at_176 (v := 2) rfl ?_
     refine gO X93 hx hby at_177 (pc' := 182) (by decide) ?_
     refine iT X93 hx hby at_182 (l' := #[(vI p0), (vI p1), (vI p2), (vI p3), (vI p4), (vI p5), (vI 3), (vR b35), (vR b81), (vR b91), (vR r93), (vI 1), (vI 2), .unset, .unset]) rfl ?_
     refine aB X93 hx hby at_184 rfl rfl ?_
     refine iB X93 hx hby at_186 rfl ?_
     refine c_stat 0 X93 hx hby hml hZ93 hown93 (tw_76 hw) (tw_77 hw) (tw_4 hw) (tw_78 hw) (rm_lastSlash2 l Z a0 hw [] b35 k35 (own_pick p1) (own_pick p2) (own_pick p3) (own_pick p4) (own_pick p5) T93.heap n0 f93_0 f93_6) rfl at_188 [(.ref b35), (.int 2)] [] (lenOf pd9 rfl) rfl rfl (by rfl) (by decide) ?_
     rintro _ T96 Lc96 ⟨rfl, N96q, q96⟩ X96
     have N96 := Fr.app N93 N96q
     show oG p e below P m T96 191 #[(vI p0), (vI p1), (vI p2), (vI p3), (vI p4), (vI p5), (vI 3), (vR b35), (vR b81), (vR b91), (vR r93), (vI 1), (vI 2), .unset, .unset] [(.int (own_l2 (own_pick p1) (own_pick p2)))]
     rcases D93 with ⟨hk, SG⟩ | ⟨hk, SG⟩ | ⟨hk, SG⟩
     · obtain ⟨dg, kdg, ESg, CSg, VSg, ASg⟩ := SG
       have ATg : Arv Z T93.heap dg kdg .byte (0 : Int32) [] (.int 0) := ASg
       rw [show (own_l2 (own_pick p1) (own_pick p2)) = (-1 : Int32) from ((own_lb2 p1 p2).symm.trans hk)]
       show oG p e below P m T96 191 #[(vI p0), (vI p1), (vI p2), (vI p3), (vI p4), (vI p5), (vI 3), (vR b35), (vR b81), (vR b91), (vR r93), (vI 1), (vI 2), .unset, .unset] [(.int (-1))]
       refine iT X96 hx hby at_191 (l' := #[(vI p0), (vI p1), (vI p2), (vI p3), (vI p4), (vI p5), (vI 3), (vR b35), (vR b81), (vR b91), (vR r93), (vI 1), (vI 2), (vI (-1)), .unset]) rfl ?_
       refine iB X96 hx hby at_193 rfl ?_
       refine fN X96 hx hby at_195 (XT.i0_ge_f (by decide : (-1 : Int32) < (0 : Int32))) ?_
       refine iC X96 hx hby at_198 (v := 0) rfl ?_
       refine gO X96 hx hby at_199 (pc' := 204) (by decide) ?_
       refine iT X96 hx hby at_204 (l' := #[(vI p0), (vI p1), (vI p2), (vI p3), (vI p4), (vI p5), (vI 3), (vR b35), (vR b81), (vR b91), (vR r93), (vI 1), (vI 2), (vI (-1)), (vI 0)]) rfl ?_
       exact tail0 (3 : Int32) (1 : Int32) (2 : Int32) (-1 : Int32) b35 k35 b81 b91 r93 dg kdg (X96.more (by decide) (by decide)) q96 N96 f93_0 hS93 f93_2 hZ93 hown93 f93_1 f93_4 f93_6 ESg CSg VSg ATg
     · obtain ⟨dg, kdg, ESg, CSg, VSg, ASg⟩ := SG
       have ATg : Arv Z T93.heap dg kdg .byte (0 : Int32) [] (.int 0) := ASg
       rw [show (own_l2 (own_pick p1) (own_pick p2)) = (0 : Int32) from ((own_lb2 p1 p2).symm.trans hk)]
       show oG p e below P m T96 191 #[(vI p0), (vI p1), (vI p2), (vI p3), (vI p4), (vI p5), (vI 3), (vR b35), (vR b81), (vR b91), (vR r93), (vI 1), (vI 2), .unset, .unset] [(.int 0)]
       refine iT X96 hx hby at_191 (l' := #[(vI p0), (vI p1), (vI p2), (vI p3), (vI p4), (vI p5), (vI 3), (vR b35), (vR b81), (vR b91), (vR r93), (vI 1), (vI 2), (vI 0), .unset]) rfl ?_
       refine iB X96 hx hby at_193 rfl ?_
       refine fY X96 hx hby at_195 (pc' := 202) (XT.i0_ge_t (by decide : ¬ (0 : Int32) < (0 : Int32))) (by decide) ?_
       refine iB X96 hx hby at_202 rfl ?_
       refine iT X96 hx hby at_204 (l' := #[(vI p0), (vI p1), (vI p2), (vI p3), (vI p4), (vI p5), (vI 3), (vR b35), (vR b81), (vR b91), (vR r93), (vI 1), (vI 2), (vI 0), (vI 0)]) rfl ?_
       exact tail0 (3 : Int32) (1 : Int32) (2 : Int32) (0 : Int32) b35 k35 b81 b91 r93 dg kdg (X96.more (by decide) (by decide)) q96 N96 f93_0 hS93 f93_2 hZ93 hown93 f93_1 f93_4 f93_6 ESg CSg VSg ATg
     · obtain ⟨dg, kdg, ESg, CSg, VSg, ASg⟩ := SG
       have ATg : Arv Z T93.heap dg kdg .byte (1 : Int32) [(.int ((own_pick p1).toInt8.toInt32))] (.int 0) := ASg
       rw [show (own_l2 (own_pick p1) (own_pick p2)) = (1 : Int32) from ((own_lb2 p1 p2).symm.trans hk)]
       show oG p e below P m T96 191 #[(vI p0), (vI p1), (vI p2), (vI p3), (vI p4), (vI p5), (vI 3), (vR b35), (vR b81), (vR b91), (vR r93), (vI 1), (vI 2), .unset, .unset] [(.int 1)]
       refine iT X96 hx hby at_191 (l' := #[(vI p0), (vI p1), (vI p2), (vI p3), (vI p4), (vI p5), (vI 3), (vR b35), (vR b81), (vR b91), (vR r93), (vI 1), (vI 2), (vI 1), .unset]) rfl ?_
       refine iB X96 hx hby at_193 rfl ?_
       refine fY X96 hx hby at_195 (pc' := 202) (XT.i0_ge_t (by decide : ¬ (1 : Int32) < (0 : Int32))) (by decide) ?_
       refine iB X96 hx hby at_202 rfl ?_
       refine iT X96 hx hby at_204 (l' := #[(vI p0), (vI p1), (vI p2), (vI p3), (vI p4), (vI p5), (vI 3), (vR b35), (vR b81), (vR b91), (vR r93), (vI 1), (vI 2), (vI 1), (vI 1)]) rfl ?_
       exact tail1 (3 : Int32) (1 : Int32) (2 : Int32) (1 : Int32) b35 k35 b81 b91 r93 dg kdg (X96.more (by decide) (by decide)) q96 N96 f93_0 hS93 f93_2 hZ93 hown93 f93_1 f93_4 f93_6 ESg CSg VSg ATg
   · refine cY X93 hx hby at_158 (pc' := 165) (XT.ii_ne_t hc158_95) (by decide) ?_
     refine iC X93 hx hby at_165 (v := 0) rfl ?_
     refine iT X93 hx hby at_166 (l' := #[(vI p0), (vI p1), (vI p2), (vI p3), (vI p4), (vI p5), (vI 3), (vR b35), (vR b81), (vR b91), (vR r93), (vI 0), .unset, .unset, .unset]) rfl ?_
     refine iB X93 hx hby at_168 rfl ?_
     refine fY X93 hx hby at_170 (pc' := 180) (XT.i0_eq_t (by decide : (0 : Int32) = (0 : Int32))) (by decide) ?_
     refine iB X93 hx hby at_180 rfl ?_
     refine iT X93 hx hby at_182 (l' := #[(vI p0), (vI p1), (vI p2), (vI p3), (vI p4), (vI p5), (vI 3), (vR b35), (vR b81), (vR b91), (vR r93), (vI 0), (vI 3), .unset, .unset]) rfl ?_
     refine aB X93 hx hby at_184 rfl rfl ?_
     refine iB X93 hx hby at_186 rfl ?_
     refine c_stat 0 X93 hx hby hml hZ93 hown93 (tw_76 hw) (tw_77 hw) (tw_4 hw) (tw_78 hw) (rm_lastSlash3 l Z a0 hw [] b35 k35 (own_pick p1) (own_pick p2) (own_pick p3) (own_pick p4) (own_pick p5) T93.heap n0 f93_0 f93_6) rfl at_188 [(.ref b35), (.int 3)] [] (lenOf pd9 rfl) rfl rfl (by rfl) (by decide) ?_
     rintro _ T97 Lc97 ⟨rfl, N97q, q97⟩ X97
     have N97 := Fr.app N93 N97q
     show oG p e below P m T97 191 #[(vI p0), (vI p1), (vI p2), (vI p3), (vI p4), (vI p5), (vI 3), (vR b35), (vR b81), (vR b91), (vR r93), (vI 0), (vI 3), .unset, .unset] [(.int (own_l3 (own_pick p1) (own_pick p2) (own_pick p3)))]
     rcases D93 with ⟨hk, SG⟩ | ⟨hk, SG⟩ | ⟨hk, SG⟩
     · obtain ⟨dg, kdg, ESg, CSg, VSg, ASg⟩ := SG
       have ATg : Arv Z T93.heap dg kdg .byte (0 : Int32) [] (.int 0) := ASg
       rw [show (own_l3 (own_pick p1) (own_pick p2) (own_pick p3)) = (-1 : Int32) from ((if_neg hc158_95).trans ((own_lb2 p1 p2).symm.trans hk))]
       show oG p e below P m T97 191 #[(vI p0), (vI p1), (vI p2), (vI p3), (vI p4), (vI p5), (vI 3), (vR b35), (vR b81), (vR b91), (vR r93), (vI 0), (vI 3), .unset, .unset] [(.int (-1))]
       refine iT X97 hx hby at_191 (l' := #[(vI p0), (vI p1), (vI p2), (vI p3), (vI p4), (vI p5), (vI 3), (vR b35), (vR b81), (vR b91), (vR r93), (vI 0), (vI 3), (vI (-1)), .unset]) rfl ?_
       refine iB X97 hx hby at_193 rfl ?_
       refine fN X97 hx hby at_195 (XT.i0_ge_f (by decide : (-1 : Int32) < (0 : Int32))) ?_
       refine iC X97 hx hby at_198 (v := 0) rfl ?_
       refine gO X97 hx hby at_199 (pc' := 204) (by decide) ?_
       refine iT X97 hx hby at_204 (l' := #[(vI p0), (vI p1), (vI p2), (vI p3), (vI p4), (vI p5), (vI 3), (vR b35), (vR b81), (vR b91), (vR r93), (vI 0), (vI 3), (vI (-1)), (vI 0)]) rfl ?_
       exact tail0 (3 : Int32) (0 : Int32) (3 : Int32) (-1 : Int32) b35 k35 b81 b91 r93 dg kdg (X97.more (by decide) (by decide)) q97 N97 f93_0 hS93 f93_2 hZ93 hown93 f93_1 f93_4 f93_6 ESg CSg VSg ATg
     · obtain ⟨dg, kdg, ESg, CSg, VSg, ASg⟩ := SG
       have ATg : Arv Z T93.heap dg kdg .byte (0 : Int32) [] (.int 0) := ASg
       rw [show (own_l3 (own_pick p1) (own_pick p2) (own_pick p3)) = (0 : Int32) from ((if_neg hc158_95).trans ((own_lb2 p1 p2).symm.trans hk))]
       show oG p e below P m T97 191 #[(vI p0), (vI p1), (vI p2), (vI p3), (vI p4), (vI p5), (vI 3), (vR b35), (vR b81), (vR b91), (vR r93), (vI 0), (vI 3), .unset, .unset] [(.int 0)]
       refine iT X97 hx hby at_191 (l' := #[(vI p0), (vI p1), (vI p2), (vI p3), (vI p4), (vI p5), (vI 3), (vR b35), (vR b81), (vR b91), (vR r93), (vI 0), (vI 3), (vI 0), .unset]) rfl ?_
       refine iB X97 hx hby at_193 rfl ?_
       refine fY X97 hx hby at_195 (pc' := 202) (XT.i0_ge_t (by decide : ¬ (0 : Int32) < (0 : Int32))) (by decide) ?_
       refine iB X97 hx hby at_202 rfl ?_
       refine iT X97 hx hby at_204 (l' := #[(vI p0), (vI p1), (vI p2), (vI p3), (vI p4), (vI p5), (vI 3), (vR b35), (vR b81), (vR b91), (vR r93), (vI 0), (vI 3), (vI 0), (vI 0)]) rfl ?_
       exact tail0 (3 : Int32) (0 : Int32) (3 : Int32) (0 : Int32) b35 k35 b81 b91 r93 dg kdg (X97.more (by decide) (by decide)) q97 N97 f93_0 hS93 f93_2 hZ93 hown93 f93_1 f93_4 f93_6 ESg CSg VSg ATg
     · obtain ⟨dg, kdg, ESg, CSg, VSg, ASg⟩ := SG
       have ATg : Arv Z T93.heap dg kdg .byte (1 : Int32) [(.int ((own_pick p1).toInt8.toInt32))] (.int 0) := ASg
       rw [show (own_l3 (own_pick p1) (own_pick p2) (own_pick p3)) = (1 : Int32) from ((if_neg hc158_95).trans ((own_lb2 p1 p2).symm.trans hk))]
       show oG p e below P m T97 191 #[(vI p0), (vI p1), (vI p2), (vI p3), (vI p4), (vI p5), (vI 3), (vR b35), (vR b81), (vR b91), (vR r93), (vI 0), (vI 3), .unset, .unset] [(.int 1)]
       refine iT X97 hx hby at_191 (l' := #[(vI p0), (vI p1), (vI p2), (vI p3), (vI p4), (vI p5), (vI 3), (vR b35), (vR b81), (vR b91), (vR r93), (vI 0), (vI 3), (vI 1), .unset]) rfl ?_
       refine iB X97 hx hby at_193 rfl ?_
       refine fY X97 hx hby at_195 (pc' := 202) (XT.i0_ge_t (by decide : ¬ (1 : Int32) < (0 : Int32))) (by decide) ?_
       refine iB X97 hx hby at_202 rfl ?_
       refine iT X97 hx hby at_204 (l' := #[(vI p0), (vI p1), (vI p2), (vI p3), (vI p4), (vI p5), (vI 3), (vR b35), (vR b81), (vR b91), (vR r93), (vI 0), (vI 3), (vI 1), (vI 1)]) rfl ?_
       exact tail1 (3 : Int32) (0 : Int32) (3 : Int32) (1 : Int32) b35 k35 b81 b91 r93 dg kdg (X97.more (by decide) (by decide)) q97 N97 f93_0 hS93 f93_2 hZ93 hown93 f93_1 f93_4 f93_6 ESg CSg VSg ATg
 · rw [hn]
   show oG p e below P m T50 51 #[(vI p0), (vI p1), (vI p2), (vI p3), (vI p4), (vI p5), (vI 4), (vR b35), .unset, .unset, .unset, .unset, .unset, .unset, .unset] []
   refine iB X50 hx hby at_51 rfl ?_
   obtain ⟨T98, h98, k98, X98, e98, E98, A98, st98⟩ := newP X50 hx hZ (aty := .char) (tw_1 hw) e50 (g := (mkF m 53 #[(vI p0), (vI p1), (vI p2), (vI p3), (vI p4), (vI p5), (vI 4), (vR b35), .unset, .unset, .unset, .unset, .unset, .unset, .unset] [(.int 4)])) rfl (hb hby at_53) rfl (by decide) (cap := 4) (by decide) (by decide) (by decide) (by decide)
   obtain ⟨b98, g98⟩ : ∃ z, z = h50.size := ⟨_, rfl⟩
   rw [← g98] at A98 st98
   have g_b98 : n0 ≤ b98 := Nat.le_trans f50_0 (Nat.le_of_eq g98.symm)
   have sz_b98 : h0.size ≤ b98 := Nat.le_trans f50_3.1 (Nat.le_of_eq g98.symm)
   have ne_b35_b98 : b35 ≠ b98 := Nat.ne_of_lt (Nat.lt_of_lt_of_le (V50.lt) (Nat.le_of_eq g98.symm))
   have sf_b98 : Safe Z own_EL s.vm h50 b98 := Safe.new (Nat.le_of_eq g98.symm)
   have f98_0 := Nat.le_trans f50_0 E98.1
   have f98_1 := CHr.trans f50_1 (CHr.ext E98 f50_1.1)
   have f98_2 := Nat.le_trans f50_2 E98.1
   have f98_3 := Keep.ext f50_3 E98
   have f98_4 := Old.ext f50_4 E98
   have f98_5 := Safe.ext E98 f50_1.1 f50_5
   have f98_6 := Arv.ext V50 E98
   have f98_7 := Safe.ext E98 f50_1.1 sf_b98
   refine Go.by st98 ?_
   have V98 : Arv Z h98 b98 k98 .char (4 : Int32) [(.int 0), (.int 0), (.int 0), (.int 0)] (.int 0) := (Arv.new A98 (by decide)).pad (pad_rep [] (.int 0) 4)
   show oG p e below P m T98 55 #[(vI p0), (vI p1), (vI p2), (vI p3), (vI p4), (vI p5), (vI 4), (vR b35), .unset, .unset, .unset, .unset, .unset, .unset, .unset] [(.ref b98)]
   refine aT X98 hx hby at_55 rfl (l' := #[(vI p0), (vI p1), (vI p2), (vI p3), (vI p4), (vI p5), (vI 4), (vR b35), (vR b98), .unset, .unset, .unset, .unset, .unset, .unset]) rfl ?_
   refine iB X98 hx hby at_57 rfl ?_
   refine fN X98 hx hby at_59 (XT.i0_le_f (by decide : (0 : Int32) < (4 : Int32))) ?_
   refine aB X98 hx hby at_62 rfl rfl ?_
   refine iC X98 hx hby at_64 (v := 0) rfl ?_
   refine aB X98 hx hby at_65 rfl rfl ?_
   refine iC X98 hx hby at_67 (v := 0) rfl ?_
   have av99 := f98_6
   obtain ⟨cl99, Ar99, -, Sz99, Nn99, Ha99, Gf99⟩ := av99
   have hin99 : ¬ ((0 : Int32) < 0 ∨ cl99.slots.size ≤ ((0 : Int32)).toNatClampNeg) := inb_of Sz99 ⟨by decide, by decide⟩
   have hat99 : cl99.slots[((0 : Int32)).toNatClampNeg]? = some (.int (own_pick p1)) := Ha99.at hin99 rfl
   refine Go.by (X98.caload hx (j := (0 : Int32)) (v := (.int (own_pick p1))) (by rw [e98]; exact Ar99.1) (State.isArrayOf_alike hZ.alike Ar99.2.1) Ar99.2.2 hin99 hat99 (g := (mkF m 68 #[(vI p0), (vI p1), (vI p2), (vI p3), (vI p4), (vI p5), (vI 4), (vR b35), (vR b98), .unset, .unset, .unset, .unset, .unset, .unset] [(.int 0), (.ref b35), (.int 0), (.ref b98)])) rfl rfl (hb hby at_68)) ?_
   have av100 := V98
   obtain ⟨cl100, Ar100, q100, Sz100, Nn100, Ha100, Gf100⟩ := av100
   have hin100 : ¬ ((0 : Int32) < 0 ∨ cl100.slots.size ≤ ((0 : Int32)).toNatClampNeg) := inb_of Sz100 ⟨by decide, by decide⟩
   obtain ⟨T101, h101, X101, e101, W101, st101⟩ := stC X98 hx hZ e98 Ar100 (j := (0 : Int32)) hin100 (g := (mkF m 69 #[(vI p0), (vI p1), (vI p2), (vI p3), (vI p4), (vI p5), (vI 4), (vR b35), (vR b98), .unset, .unset, .unset, .unset, .unset, .unset] [(.int (own_pick p1)), (.int 0), (.ref b98)])) rfl rfl (hb hby at_69)
   have W101' : Wr h98 h101 b98 ((0 : Int32)).toNatClampNeg (.int (own_pick p1)) := (by have q : Wr h98 h101 b98 ((0 : Int32)).toNatClampNeg (.int (nar .char (own_pick p1))) := W101; rw [own_chr _ (own_pickr p1).1 (own_pickr p1).2] at q; exact q)
   have V101 : Arv Z h101 b98 k98 .char (4 : Int32) [(.int (own_pick p1)), (.int 0), (.int 0), (.int 0)] (.int 0) := Arv.set Ar100 q100 Sz100 Nn100 Ha100 Gf100 (own_chf _ (own_pickr p1).1 (own_pickr p1).2) W101' 0 rfl (Nat.le_of_ble_eq_true rfl)
   have N101 := Fr.snoc X101 N50 g_b98
   have f101_0 := Nat.le_trans f98_0 (Keep.of_wr W101).1
   have f101_1 := CHr.trans f98_1 (CHr.wr W101 f98_7 f98_1.1)
   have f101_2 := Nat.le_trans f98_2 (Keep.of_wr W101).1
   have f101_3 := Keep.wr f98_3 W101 (Or.inr sz_b98)
   have f101_4 := Old.wr f98_4 W101 g_b98
   have f101_5 := Safe.wr W101 f98_7 f98_1.1 f98_5
   have f101_6 := Arv.other f98_6 W101 ne_b35_b98
   have f101_7 := Safe.wr W101 f98_7 f98_1.1 f98_7
   refine Go.by st101 ?_
   show oG p e below P m T101 70 #[(vI p0), (vI p1), (vI p2), (vI p3), (vI p4), (vI p5), (vI 4), (vR b35), (vR b98), .unset, .unset, .unset, .unset, .unset, .unset] []
   refine iB X101 hx hby at_70 rfl ?_
   refine iC X101 hx hby at_72 (v := 1) rfl ?_
   refine cN X101 hx hby at_73 (XT.ii_le_f (by decide : (1 : Int32) < (4 : Int32))) ?_
   refine aB X101 hx hby at_76 rfl rfl ?_
   refine iC X101 hx hby at_78 (v := 1) rfl ?_
   refine aB X101 hx hby at_79 rfl rfl ?_
   refine iC X101 hx hby at_81 (v := 1) rfl ?_
   have av102 := f101_6
   obtain ⟨cl102, Ar102, -, Sz102, Nn102, Ha102, Gf102⟩ := av102
   have hin102 : ¬ ((1 : Int32) < 0 ∨ cl102.slots.size ≤ ((1 : Int32)).toNatClampNeg) := inb_of Sz102 ⟨by decide, by decide⟩
   have hat102 : cl102.slots[((1 : Int32)).toNatClampNeg]? = some (.int (own_pick p2)) := Ha102.at hin102 rfl
   refine Go.by (X101.caload hx (j := (1 : Int32)) (v := (.int (own_pick p2))) (by rw [e101]; exact Ar102.1) (State.isArrayOf_alike hZ.alike Ar102.2.1) Ar102.2.2 hin102 hat102 (g := (mkF m 82 #[(vI p0), (vI p1), (vI p2), (vI p3), (vI p4), (vI p5), (vI 4), (vR b35), (vR b98), .unset, .unset, .unset, .unset, .unset, .unset] [(.int 1), (.ref b35), (.int 1), (.ref b98)])) rfl rfl (hb hby at_82)) ?_
   have av103 := V101
   obtain ⟨cl103, Ar103, q103, Sz103, Nn103, Ha103, Gf103⟩ := av103
   have hin103 : ¬ ((1 : Int32) < 0 ∨ cl103.slots.size ≤ ((1 : Int32)).toNatClampNeg) := inb_of Sz103 ⟨by decide, by decide⟩
   obtain ⟨T104, h104, X104, e104, W104, st104⟩ := stC X101 hx hZ e101 Ar103 (j := (1 : Int32)) hin103 (g := (mkF m 83 #[(vI p0), (vI p1), (vI p2), (vI p3), (vI p4), (vI p5), (vI 4), (vR b35), (vR b98), .unset, .unset, .unset, .unset, .unset, .unset] [(.int (own_pick p2)), (.int 1), (.ref b98)])) rfl rfl (hb hby at_83)
   have W104' : Wr h101 h104 b98 ((1 : Int32)).toNatClampNeg (.int (own_pick p2)) := (by have q : Wr h101 h104 b98 ((1 : Int32)).toNatClampNeg (.int (nar .char (own_pick p2))) := W104; rw [own_chr _ (own_pickr p2).1 (own_pickr p2).2] at q; exact q)
   have V104 : Arv Z h104 b98 k98 .char (4 : Int32) [(.int (own_pick p1)), (.int (own_pick p2)), (.int 0), (.int 0)] (.int 0) := Arv.set Ar103 q103 Sz103 Nn103 Ha103 Gf103 (own_chf _ (own_pickr p2).1 (own_pickr p2).2) W104' 1 rfl (Nat.le_of_ble_eq_true rfl)
   have N104 := Fr.snoc X104 N101 g_b98
   have f104_0 := Nat.le_trans f101_0 (Keep.of_wr W104).1
   have f104_1 := CHr.trans f101_1 (CHr.wr W104 f101_7 f101_1.1)
   have f104_2 := Nat.le_trans f101_2 (Keep.of_wr W104).1
   have f104_3 := Keep.wr f101_3 W104 (Or.inr sz_b98)
   have f104_4 := Old.wr f101_4 W104 g_b98
   have f104_5 := Safe.wr W104 f101_7 f101_1.1 f101_5
   have f104_6 := Arv.other f101_6 W104 ne_b35_b98
   have f104_7 := Safe.wr W104 f101_7 f101_1.1 f101_7
   refine Go.by st104 ?_
   show oG p e below P m T104 84 #[(vI p0), (vI p1), (vI p2), (vI p3), (vI p4), (vI p5), (vI 4), (vR b35), (vR b98), .unset, .unset, .unset, .unset, .unset, .unset] []
   refine iB X104 hx hby at_84 rfl ?_
   refine iC X104 hx hby at_86 (v := 2) rfl ?_
   refine cN X104 hx hby at_87 (XT.ii_le_f (by decide : (2 : Int32) < (4 : Int32))) ?_
   refine aB X104 hx hby at_90 rfl rfl ?_
   refine iC X104 hx hby at_92 (v := 2) rfl ?_
   refine aB X104 hx hby at_93 rfl rfl ?_
   refine iC X104 hx hby at_95 (v := 2) rfl ?_
   have av105 := f104_6
   obtain ⟨cl105, Ar105, -, Sz105, Nn105, Ha105, Gf105⟩ := av105
   have hin105 : ¬ ((2 : Int32) < 0 ∨ cl105.slots.size ≤ ((2 : Int32)).toNatClampNeg) := inb_of Sz105 ⟨by decide, by decide⟩
   have hat105 : cl105.slots[((2 : Int32)).toNatClampNeg]? = some (.int (own_pick p3)) := Ha105.at hin105 rfl
   refine Go.by (X104.caload hx (j := (2 : Int32)) (v := (.int (own_pick p3))) (by rw [e104]; exact Ar105.1) (State.isArrayOf_alike hZ.alike Ar105.2.1) Ar105.2.2 hin105 hat105 (g := (mkF m 96 #[(vI p0), (vI p1), (vI p2), (vI p3), (vI p4), (vI p5), (vI 4), (vR b35), (vR b98), .unset, .unset, .unset, .unset, .unset, .unset] [(.int 2), (.ref b35), (.int 2), (.ref b98)])) rfl rfl (hb hby at_96)) ?_
   have av106 := V104
   obtain ⟨cl106, Ar106, q106, Sz106, Nn106, Ha106, Gf106⟩ := av106
   have hin106 : ¬ ((2 : Int32) < 0 ∨ cl106.slots.size ≤ ((2 : Int32)).toNatClampNeg) := inb_of Sz106 ⟨by decide, by decide⟩
   obtain ⟨T107, h107, X107, e107, W107, st107⟩ := stC X104 hx hZ e104 Ar106 (j := (2 : Int32)) hin106 (g := (mkF m 97 #[(vI p0), (vI p1), (vI p2), (vI p3), (vI p4), (vI p5), (vI 4), (vR b35), (vR b98), .unset, .unset, .unset, .unset, .unset, .unset] [(.int (own_pick p3)), (.int 2), (.ref b98)])) rfl rfl (hb hby at_97)
   have W107' : Wr h104 h107 b98 ((2 : Int32)).toNatClampNeg (.int (own_pick p3)) := (by have q : Wr h104 h107 b98 ((2 : Int32)).toNatClampNeg (.int (nar .char (own_pick p3))) := W107; rw [own_chr _ (own_pickr p3).1 (own_pickr p3).2] at q; exact q)
   have V107 : Arv Z h107 b98 k98 .char (4 : Int32) [(.int (own_pick p1)), (.int (own_pick p2)), (.int (own_pick p3)), (.int 0)] (.int 0) := Arv.set Ar106 q106 Sz106 Nn106 Ha106 Gf106 (own_chf _ (own_pickr p3).1 (own_pickr p3).2) W107' 2 rfl (Nat.le_of_ble_eq_true rfl)
   have N107 := Fr.snoc X107 N104 g_b98
   have f107_0 := Nat.le_trans f104_0 (Keep.of_wr W107).1
   have f107_1 := CHr.trans f104_1 (CHr.wr W107 f104_7 f104_1.1)
   have f107_2 := Nat.le_trans f104_2 (Keep.of_wr W107).1
   have f107_3 := Keep.wr f104_3 W107 (Or.inr sz_b98)
   have f107_4 := Old.wr f104_4 W107 g_b98
   have f107_5 := Safe.wr W107 f104_7 f104_1.1 f104_5
   have f107_6 := Arv.other f104_6 W107 ne_b35_b98
   have f107_7 := Safe.wr W107 f104_7 f104_1.1 f104_7
   refine Go.by st107 ?_
   show oG p e below P m T107 98 #[(vI p0), (vI p1), (vI p2), (vI p3), (vI p4), (vI p5), (vI 4), (vR b35), (vR b98), .unset, .unset, .unset, .unset, .unset, .unset] []
   refine iB X107 hx hby at_98 rfl ?_
   refine iC X107 hx hby at_100 (v := 3) rfl ?_
   refine cN X107 hx hby at_101 (XT.ii_le_f (by decide : (3 : Int32) < (4 : Int32))) ?_
   refine aB X107 hx hby at_104 rfl rfl ?_
   refine iC X107 hx hby at_106 (v := 3) rfl ?_
   refine aB X107 hx hby at_107 rfl rfl ?_
   refine iC X107 hx hby at_109 (v := 3) rfl ?_
   have av108 := f107_6
   obtain ⟨cl108, Ar108, -, Sz108, Nn108, Ha108, Gf108⟩ := av108
   have hin108 : ¬ ((3 : Int32) < 0 ∨ cl108.slots.size ≤ ((3 : Int32)).toNatClampNeg) := inb_of Sz108 ⟨by decide, by decide⟩
   have hat108 : cl108.slots[((3 : Int32)).toNatClampNeg]? = some (.int (own_pick p4)) := Ha108.at hin108 rfl
   refine Go.by (X107.caload hx (j := (3 : Int32)) (v := (.int (own_pick p4))) (by rw [e107]; exact Ar108.1) (State.isArrayOf_alike hZ.alike Ar108.2.1) Ar108.2.2 hin108 hat108 (g := (mkF m 110 #[(vI p0), (vI p1), (vI p2), (vI p3), (vI p4), (vI p5), (vI 4), (vR b35), (vR b98), .unset, .unset, .unset, .unset, .unset, .unset] [(.int 3), (.ref b35), (.int 3), (.ref b98)])) rfl rfl (hb hby at_110)) ?_
   have av109 := V107
   obtain ⟨cl109, Ar109, q109, Sz109, Nn109, Ha109, Gf109⟩ := av109
   have hin109 : ¬ ((3 : Int32) < 0 ∨ cl109.slots.size ≤ ((3 : Int32)).toNatClampNeg) := inb_of Sz109 ⟨by decide, by decide⟩
   obtain ⟨T110, h110, X110, e110, W110, st110⟩ := stC X107 hx hZ e107 Ar109 (j := (3 : Int32)) hin109 (g := (mkF m 111 #[(vI p0), (vI p1), (vI p2), (vI p3), (vI p4), (vI p5), (vI 4), (vR b35), (vR b98), .unset, .unset, .unset, .unset, .unset, .unset] [(.int (own_pick p4)), (.int 3), (.ref b98)])) rfl rfl (hb hby at_111)
   have W110' : Wr h107 h110 b98 ((3 : Int32)).toNatClampNeg (.int (own_pick p4)) := (by have q : Wr h107 h110 b98 ((3 : Int32)).toNatClampNeg (.int (nar .char (own_pick p4))) := W110; rw [own_chr _ (own_pickr p4).1 (own_pickr p4).2] at q; exact q)
   have V110 : Arv Z h110 b98 k98 .char (4 : Int32) [(.int (own_pick p1)), (.int (own_pick p2)), (.int (own_pick p3)), (.int (own_pick p4))] (.int 0) := Arv.set Ar109 q109 Sz109 Nn109 Ha109 Gf109 (own_chf _ (own_pickr p4).1 (own_pickr p4).2) W110' 3 rfl (Nat.le_of_ble_eq_true rfl)
   have N110 := Fr.snoc X110 N107 g_b98
   have f110_0 := Nat.le_trans f107_0 (Keep.of_wr W110).1
   have f110_1 := CHr.trans f107_1 (CHr.wr W110 f107_7 f107_1.1)
   have f110_2 := Nat.le_trans f107_2 (Keep.of_wr W110).1
   have f110_3 := Keep.wr f107_3 W110 (Or.inr sz_b98)
   have f110_4 := Old.wr f107_4 W110 g_b98
   have f110_5 := Safe.wr W110 f107_7 f107_1.1 f107_5
   have f110_6 := Arv.other f107_6 W110 ne_b35_b98
   have f110_7 := Safe.wr W110 f107_7 f107_1.1 f107_7
   refine Go.by st110 ?_
   show oG p e below P m T110 112 #[(vI p0), (vI p1), (vI p2), (vI p3), (vI p4), (vI p5), (vI 4), (vR b35), (vR b98), .unset, .unset, .unset, .unset, .unset, .unset] []
   refine iB X110 hx hby at_112 rfl ?_
   refine iC X110 hx hby at_114 (v := 4) rfl ?_
   refine cY X110 hx hby at_115 (pc' := 126) (XT.ii_le_t (by decide : ¬ (4 : Int32) < (4 : Int32))) (by decide) ?_
   obtain ⟨T111, h111, X111, e111, E111, A111, D111, U111, st111⟩ := newO X110 hx hZ hown (tw_6 hw) (tw_7 hw) (tw_8 hw) e110 (g := (mkF m 126 #[(vI p0), (vI p1), (vI p2), (vI p3), (vI p4), (vI p5), (vI 4), (vR b35), (vR b98), .unset, .unset, .unset, .unset, .unset, .unset] [])) rfl (hb hby at_126) (by decide) (by decide)
   obtain ⟨b111, g111⟩ : ∃ z, z = h110.size := ⟨_, rfl⟩
   rw [← g111] at A111 D111 U111 st111
   have g_b111 : n0 ≤ b111 := Nat.le_trans f110_0 (Nat.le_of_eq g111.symm)
   have sz_b111 : h0.size ≤ b111 := Nat.le_trans f110_3.1 (Nat.le_of_eq g111.symm)
   have ne_b35_b111 : b35 ≠ b111 := Nat.ne_of_lt (Nat.lt_of_lt_of_le (f110_6.lt) (Nat.le_of_eq g111.symm))
   have ne_b98_b111 : b98 ≠ b111 := Nat.ne_of_lt (Nat.lt_of_lt_of_le (V110.lt) (Nat.le_of_eq g111.symm))
   have sf_b111 : Safe Z own_EL s.vm h110 b111 := Safe.new (Nat.le_of_eq g111.symm)
   have f111_0 := Nat.le_trans f110_0 E111.1
   have f111_1 := CHr.trans f110_1 (CHr.ext E111 f110_1.1)
   have f111_2 := Nat.le_trans f110_2 E111.1
   have f111_3 := Keep.ext f110_3 E111
   have f111_4 := Old.ext f110_4 E111
   have f111_5 := Safe.ext E111 f110_1.1 f110_5
   have f111_6 := Arv.ext f110_6 E111
   have f111_7 := Safe.ext E111 f110_1.1 f110_7
   have f111_8 := Arv.ext V110 E111
   have f111_9 := Safe.ext E111 f110_1.1 sf_b111
   refine Go.by st111 ?_
   have F111_value : Fld Z h111 b111 "java/lang/String" "value" "[B" .null := D111 (Or.inr (tw_21 hw)) (ty := (.array .byte)) (by decide)
   have F111_coder : Fld Z h111 b111 "java/lang/String" "coder" "B" (.int 0) := D111 (Or.inr (tw_22 hw)) (ty := .byte) (by decide)
   show oG p e below P m T111 129 #[(vI p0), (vI p1), (vI p2), (vI p3), (vI p4), (vI p5), (vI 4), (vR b35), (vR b98), .unset, .unset, .unset, .unset, .unset, .unset] [(.ref b111)]
   refine dU X111 hx hby at_129 rfl ?_
   refine aB X111 hx hby at_130 rfl rfl ?_
   obtain ⟨_, _, ⟨T112, L112, k112, n112⟩, -, X112, ⟨Lc112, hQ112, l112, y112, z112⟩, st112⟩ := X111.specialBack hx (y := oY16) rfl hown (mvT hZ (tw_9 hw)) (mvT hZ (tw_10 hw)) (mvT hZ (tw_11 hw)) (by decide) (backOf (W := 1) (rm_si1_4 l Z a0 hw [] b111 b98 k98 (own_pick p1) (own_pick p2) (own_pick p3) (own_pick p4) cs h111 n0 f111_0 f111_4 Scs hcs A111 g_b111 F111_coder F111_value f111_8 (own_pickr p1).1 (own_pickr p1).2 (own_pickr p2).1 (own_pickr p2).2 (own_pickr p3).1 (own_pickr p3).2 (own_pickr p4).1 (own_pickr p4).2) hZ (tw_11 hw) (tw_8 hw) (by decide) (by decide)) (g := (mkF m 132 #[(vI p0), (vI p1), (vI p2), (vI p3), (vI p4), (vI p5), (vI 4), (vR b35), (vR b98), .unset, .unset, .unset, .unset, .unset, .unset] [(.ref b98), (.ref b111), (.ref b111)])) rfl (by rw [hml]; rfl) (Steps.refl _) (a := b111) (argsL := [(.ref b98)]) (rest := [(.ref b111)]) (lenOf pd18 rfl) rfl (by show 2 * 0 + _ ≤ _; exact Nat.le_of_eq rfl) (hb hby at_132) (fun _ _ => ⟨rfl, e111, (by decide : 3 + 1 ≤ _), (by decide : 13 + 4 ≤ _)⟩)
   dsimp only [Pt.U, Pt.locs, Pt.cells, Pt.slots] at X112 l112 y112 z112 st112 hQ112
   subst l112 y112 z112
   obtain ⟨rfl, N112q, K112, Gc112, d112, kd112, z112, Gv112, V112⟩ := hQ112
   have N112 := Fr.app N110 N112q
   refine Go.by (fun t k => st112.trans k) ?_
   have f112_0 := Nat.le_trans f111_0 K112.1
   have f112_1 := CHr.trans f111_1 (CHr.keep K112 (sfS f111_9 sf0) f111_1.1)
   have f112_2 := Nat.le_trans f111_2 K112.1
   have f112_3 := Keep.trans f111_3 K112 (allS (Or.inr sz_b111) all0)
   have f112_4 := Old.keep f111_4 K112 (allS g_b111 all0)
   have f112_5 := Safe.keep K112 (sfS f111_9 sf0) f111_1.1 f111_5
   have f112_6 := Arv.keep f111_6 K112 (ninS ne_b35_b111 nin0)
   have f112_7 := Safe.keep K112 (sfS f111_9 sf0) f111_1.1 f111_7
   have f112_8 := Arv.keep f111_8 K112 (ninS ne_b98_b111 nin0)
   have f112_9 := Safe.keep K112 (sfS f111_9 sf0) f111_1.1 f111_9
   have f112_10 := Exa.keep A111 K112
   have S112 : StrV Z T112.heap b111 [((own_pick p1).toInt8.toInt32), ((own_pick p2).toInt8.toInt32), ((own_pick p3).toInt8.toInt32), ((own_pick p4).toInt8.toInt32)] := ⟨d112, kd112, f112_10, Gc112, Gv112, V112⟩
   show oG p e below P m T112 135 #[(vI p0), (vI p1), (vI p2), (vI p3), (vI p4), (vI p5), (vI 4), (vR b35), (vR b98), .unset, .unset, .unset, .unset, .unset, .unset] [(.ref b111)]
   refine aT X112 hx hby at_135 rfl (l' := #[(vI p0), (vI p1), (vI p2), (vI p3), (vI p4), (vI p5), (vI 4), (vR b35), (vR b98), (vR b111), .unset, .unset, .unset, .unset, .unset]) rfl ?_
   refine aB X112 hx hby at_137 rfl rfl ?_
   obtain ⟨_, _, ⟨T113, L113, k113, n113⟩, -, X113', hS113', hg113, ⟨Lc113, hQ113, l113, y113, z113, C113⟩, st113⟩ := Jvm.RoadKit.callSS X112 hx (y := oY14) hown (mvT hZ (tw_27 hw)) (mvT hZ (tw_28 hw)) (mvT hZ (tw_29 hw)) (mvT hZ (tw_30 hw)) (by decide) (own_backC (W := 0) (rm_dirOf4 l Z a0 hw hEL [] b111 ((own_pick p1).toInt8.toInt32) ((own_pick p2).toInt8.toInt32) ((own_pick p3).toInt8.toInt32) ((own_pick p4).toInt8.toInt32) cs fm T112.heap n0 f112_0 f112_4 Scs hcs Sfm hfm S112) hZ (tw_30 hw) (tw_29 hw) (by decide) (by decide) hEL f112_1.1 own_ss0) (g := (mkF m 139 #[(vI p0), (vI p1), (vI p2), (vI p3), (vI p4), (vI p5), (vI 4), (vR b35), (vR b98), (vR b111), .unset, .unset, .unset, .unset, .unset] [(.ref b111)])) rfl (by rw [hml]; rfl) (argsL := [(.ref b111)]) (rest := []) (lenOf pd19 rfl) rfl (by show 2 * 0 + _ ≤ _; exact Nat.le_of_eq rfl) (hb hby at_139) (fun _ _ => ⟨rfl, rfl, (by decide : 4 + 4 ≤ _), (by decide : 17 + 16 ≤ _)⟩)
   dsimp only [Pt.U, Pt.locs, Pt.cells, Pt.slots] at X113' hS113' hg113 l113 y113 z113 st113 hQ113 C113
   subst l113 y113 z113
   obtain ⟨X113, hS113, hZ113, hown113⟩ := rebS hS0 (f112_2) X113' hS113' hg113 hZ hown
   have hk113 : T113.heap.size ≤ T113.heap.size := Nat.le_refl _
   obtain ⟨r113, rfl, N113q, K113, D113⟩ := hQ113
   have N113 := Fr.app N112 N113q
   refine Go.by (fun t k => st113.trans k) ?_
   have f113_0 := Nat.le_trans f112_0 K113.1
   have f113_1 := CHr.trans f112_1 C113
   have f113_2 : T113.heap.size ≤ T113.heap.size := hk113
   have f113_3 := Keep.trans f112_3 K113 all0
   have f113_4 := Old.keep f112_4 K113 all0
   have f113_5 := CHr.safe C113 (f112_6.lt) f112_5
   have f113_6 := Arv.keep f112_6 K113 nin0
   have f113_7 := CHr.safe C113 (f112_8.lt) f112_7
   have f113_8 := Arv.keep f112_8 K113 nin0
   have f113_9 := StrV.keep0 S112 K113
   show oG p e below P m T113 142 #[(vI p0), (vI p1), (vI p2), (vI p3), (vI p4), (vI p5), (vI 4), (vR b35), (vR b98), (vR b111), .unset, .unset, .unset, .unset, .unset] [(.ref r113)]
   refine aT X113 hx hby at_142 rfl (l' := #[(vI p0), (vI p1), (vI p2), (vI p3), (vI p4), (vI p5), (vI 4), (vR b35), (vR b98), (vR b111), (vR r113), .unset, .unset, .unset, .unset]) rfl ?_
   refine iB X113 hx hby at_144 rfl ?_
   refine fN X113 hx hby at_146 (XT.i0_le_f (by decide : (0 : Int32) < (4 : Int32))) ?_
   refine aB X113 hx hby at_149 rfl rfl ?_
   refine iB X113 hx hby at_151 rfl ?_
   refine iC X113 hx hby at_153 (v := 1) rfl ?_
   refine iM X113 hx hby at_154 (v := 3) rfl ?_
   have av114 := f113_6
   obtain ⟨cl114, Ar114, -, Sz114, Nn114, Ha114, Gf114⟩ := av114
   have hin114 : ¬ ((3 : Int32) < 0 ∨ cl114.slots.size ≤ ((3 : Int32)).toNatClampNeg) := inb_of Sz114 ⟨by decide, by decide⟩
   have hat114 : cl114.slots[((3 : Int32)).toNatClampNeg]? = some (.int (own_pick p4)) := Ha114.at hin114 rfl
   refine Go.by (X113.caload hx (j := (3 : Int32)) (v := (.int (own_pick p4))) Ar114.1 (State.isArrayOf_alike hZ113.alike Ar114.2.1) Ar114.2.2 hin114 hat114 (g := (mkF m 155 #[(vI p0), (vI p1), (vI p2), (vI p3), (vI p4), (vI p5), (vI 4), (vR b35), (vR b98), (vR b111), (vR r113), .unset, .unset, .unset, .unset] [(.int 3), (.ref b35)])) rfl rfl (hb hby at_155)) ?_
   show oG p e below P m T113 156 #[(vI p0), (vI p1), (vI p2), (vI p3), (vI p4), (vI p5), (vI 4), (vR b35), (vR b98), (vR b111), (vR r113), .unset, .unset, .unset, .unset] [(.int (own_pick p4))]
   refine bC X113 hx hby at_156 (v := 47) rfl ?_
   by_cases hc158_115 : (own_pick p4) = (47 : Int32)
   · refine cN X113 hx hby at_158 (XT.ii_ne_f hc158_115) ?_
     refine iC X113 hx hby at_161 (v := 1) rfl ?_
     refine gO X113 hx hby at_162 (pc' := 166) (by decide) ?_
     refine iT X113 hx hby at_166 (l' := #[(vI p0), (vI p1), (vI p2), (vI p3), (vI p4), (vI p5), (vI 4), (vR b35), (vR b98), (vR b111), (vR r113), (vI 1), .unset, .unset, .unset]) rfl ?_
     refine iB X113 hx hby at_168 rfl ?_
     refine fN X113 hx hby at_170 (XT.i0_eq_f (by decide : ¬ (1 : Int32) = (0 : Int32))) ?_
     refine iB X113 hx hby at_173 rfl ?_
     refine iC X113 hx hby at_175 (v := 1) rfl ?_
     refine iM X113 hx hby at_176 (v := 3) rfl ?_
     refine gO X113 hx hby at_177 (pc' := 182) (by decide) ?_
     refine iT X113 hx hby at_182 (l' := #[(vI p0), (vI p1), (vI p2), (vI p3), (vI p4), (vI p5), (vI 4), (vR b35), (vR b98), (vR b111), (vR r113), (vI 1), (vI 3), .unset, .unset]) rfl ?_
     refine aB X113 hx hby at_184 rfl rfl ?_
     refine iB X113 hx hby at_186 rfl ?_
     refine c_stat 0 X113 hx hby hml hZ113 hown113 (tw_76 hw) (tw_77 hw) (tw_4 hw) (tw_78 hw) (rm_lastSlash3 l Z a0 hw [] b35 k35 (own_pick p1) (own_pick p2) (own_pick p3) (own_pick p4) (own_pick p5) T113.heap n0 f113_0 f113_6) rfl at_188 [(.ref b35), (.int 3)] [] (lenOf pd9 rfl) rfl rfl (by rfl) (by decide) ?_
     rintro _ T116 Lc116 ⟨rfl, N116q, q116⟩ X116
     have N116 := Fr.app N113 N116q
     show oG p e below P m T116 191 #[(vI p0), (vI p1), (vI p2), (vI p3), (vI p4), (vI p5), (vI 4), (vR b35), (vR b98), (vR b111), (vR r113), (vI 1), (vI 3), .unset, .unset] [(.int (own_l3 (own_pick p1) (own_pick p2) (own_pick p3)))]
     rcases D113 with ⟨hk, SG⟩ | ⟨hk, SG⟩ | ⟨hk, SG⟩ | ⟨hk, SG⟩
     · obtain ⟨dg, kdg, ESg, CSg, VSg, ASg⟩ := SG
       have ATg : Arv Z T113.heap dg kdg .byte (0 : Int32) [] (.int 0) := ASg
       rw [show (own_l3 (own_pick p1) (own_pick p2) (own_pick p3)) = (-1 : Int32) from ((own_lb3 p1 p2 p3).symm.trans hk)]
       show oG p e below P m T116 191 #[(vI p0), (vI p1), (vI p2), (vI p3), (vI p4), (vI p5), (vI 4), (vR b35), (vR b98), (vR b111), (vR r113), (vI 1), (vI 3), .unset, .unset] [(.int (-1))]
       refine iT X116 hx hby at_191 (l' := #[(vI p0), (vI p1), (vI p2), (vI p3), (vI p4), (vI p5), (vI 4), (vR b35), (vR b98), (vR b111), (vR r113), (vI 1), (vI 3), (vI (-1)), .unset]) rfl ?_
       refine iB X116 hx hby at_193 rfl ?_
       refine fN X116 hx hby at_195 (XT.i0_ge_f (by decide : (-1 : Int32) < (0 : Int32))) ?_
       refine iC X116 hx hby at_198 (v := 0) rfl ?_
       refine gO X116 hx hby at_199 (pc' := 204) (by decide) ?_
       refine iT X116 hx hby at_204 (l' := #[(vI p0), (vI p1), (vI p2), (vI p3), (vI p4), (vI p5), (vI 4), (vR b35), (vR b98), (vR b111), (vR r113), (vI 1), (vI 3), (vI (-1)), (vI 0)]) rfl ?_
       exact tail0 (4 : Int32) (1 : Int32) (3 : Int32) (-1 : Int32) b35 k35 b98 b111 r113 dg kdg (X116.more (by decide) (by decide)) q116 N116 f113_0 hS113 f113_2 hZ113 hown113 f113_1 f113_4 f113_6 ESg CSg VSg ATg
     · obtain ⟨dg, kdg, ESg, CSg, VSg, ASg⟩ := SG
       have ATg : Arv Z T113.heap dg kdg .byte (0 : Int32) [] (.int 0) := ASg
       rw [show (own_l3 (own_pick p1) (own_pick p2) (own_pick p3)) = (0 : Int32) from ((own_lb3 p1 p2 p3).symm.trans hk)]
       show oG p e below P m T116 191 #[(vI p0), (vI p1), (vI p2), (vI p3), (vI p4), (vI p5), (vI 4), (vR b35), (vR b98), (vR b111), (vR r113), (vI 1), (vI 3), .unset, .unset] [(.int 0)]
       refine iT X116 hx hby at_191 (l' := #[(vI p0), (vI p1), (vI p2), (vI p3), (vI p4), (vI p5), (vI 4), (vR b35), (vR b98), (vR b111), (vR r113), (vI 1), (vI 3), (vI 0), .unset]) rfl ?_
       refine iB X116 hx hby at_193 rfl ?_
       refine fY X116 hx hby at_195 (pc' := 202) (XT.i0_ge_t (by decide : ¬ (0 : Int32) < (0 : Int32))) (by decide) ?_
       refine iB X116 hx hby at_202 rfl ?_
       refine iT X116 hx hby at_204 (l' := #[(vI p0), (vI p1), (vI p2), (vI p3), (vI p4), (vI p5), (vI 4), (vR b35), (vR b98), (vR b111), (vR r113), (vI 1), (vI 3), (vI 0), (vI 0)]) rfl ?_
       exact tail0 (4 : Int32) (1 : Int32) (3 : Int32) (0 : Int32) b35 k35 b98 b111 r113 dg kdg (X116.more (by decide) (by decide)) q116 N116 f113_0 hS113 f113_2 hZ113 hown113 f113_1 f113_4 f113_6 ESg CSg VSg ATg
     · obtain ⟨dg, kdg, ESg, CSg, VSg, ASg⟩ := SG
       have ATg : Arv Z T113.heap dg kdg .byte (1 : Int32) [(.int ((own_pick p1).toInt8.toInt32))] (.int 0) := ASg
       rw [show (own_l3 (own_pick p1) (own_pick p2) (own_pick p3)) = (1 : Int32) from ((own_lb3 p1 p2 p3).symm.trans hk)]
       show oG p e below P m T116 191 #[(vI p0), (vI p1), (vI p2), (vI p3), (vI p4), (vI p5), (vI 4), (vR b35), (vR b98), (vR b111), (vR r113), (vI 1), (vI 3), .unset, .unset] [(.int 1)]
       refine iT X116 hx hby at_191 (l' := #[(vI p0), (vI p1), (vI p2), (vI p3), (vI p4), (vI p5), (vI 4), (vR b35), (vR b98), (vR b111), (vR r113), (vI 1), (vI 3), (vI 1), .unset]) rfl ?_
       refine iB X116 hx hby at_193 rfl ?_
       refine fY X116 hx hby at_195 (pc' := 202) (XT.i0_ge_t (by decide : ¬ (1 : Int32) < (0 : Int32))) (by decide) ?_
       refine iB X116 hx hby at_202 rfl ?_
       refine iT X116 hx hby at_204 (l' := #[(vI p0), (vI p1), (vI p2), (vI p3), (vI p4), (vI p5), (vI 4), (vR b35), (vR b98), (vR b111), (vR r113), (vI 1), (vI 3), (vI 1), (vI 1)]) rfl ?_
       exact tail1 (4 : Int32) (1 : Int32) (3 : Int32) (1 : Int32) b35 k35 b98 b111 r113 dg kdg (X116.more (by decide) (by decide)) q116 N116 f113_0 hS113 f113_2 hZ113 hown113 f113_1 f113_4 f113_6 ESg CSg VSg ATg
     · obtain ⟨dg, kdg, ESg, CSg, VSg, ASg⟩ := SG
       have ATg : Arv Z T113.heap dg kdg .byte (2 : Int32) [(.int ((own_pick p1).toInt8.toInt32)), (.int ((own_pick p2).toInt8.toInt32))] (.int 0) := ASg
       rw [show (own_l3 (own_pick p1) (own_pick p2) (own_pick p3)) = (2 : Int32) from ((own_lb3 p1 p2 p3).symm.trans hk)]
       show oG p e below P m T116 191 #[(vI p0), (vI p1), (vI p2), (vI p3), (vI p4), (vI p5), (vI 4), (vR b35), (vR b98), (vR b111), (vR r113), (vI 1), (vI 3), .unset, .unset] [(.int 2)]
       refine iT X116 hx hby at_191 (l' := #[(vI p0), (vI p1), (vI p2), (vI p3), (vI p4), (vI p5), (vI 4), (vR b35), (vR b98), (vR b111), (vR r113), (vI 1), (vI 3), (vI 2), .unset]) rfl ?_
       refine iB X116 hx hby at_193 rfl ?_
       refine fY X116 hx hby at_195 (pc' := 202) (XT.i0_ge_t (by decide : ¬ (2 : Int32) < (0 : Int32))) (by decide) ?_
       refine iB X116 hx hby at_202 rfl ?_
       refine iT X116 hx hby at_204 (l' := #[(vI p0), (vI p1), (vI p2), (vI p3), (vI p4), (vI p5), (vI 4), (vR b35), (vR b98), (vR b111), (vR r113), (vI 1), (vI 3), (vI 2), (vI 2)]) rfl ?_
       exact tail2 (4 : Int32) (1 : Int32) (3 : Int32) (2 : Int32) b35 k35 b98 b111 r113 dg kdg (X116.more (by decide) (by decide)) q116 N116 f113_0 hS113 f113_2 hZ113 hown113 f113_1 f113_4 f113_6 ESg CSg VSg ATg
   · refine cY X113 hx hby at_158 (pc' := 165) (XT.ii_ne_t hc158_115) (by decide) ?_
     refine iC X113 hx hby at_165 (v := 0) rfl ?_
     refine iT X113 hx hby at_166 (l' := #[(vI p0), (vI p1), (vI p2), (vI p3), (vI p4), (vI p5), (vI 4), (vR b35), (vR b98), (vR b111), (vR r113), (vI 0), .unset, .unset, .unset]) rfl ?_
     refine iB X113 hx hby at_168 rfl ?_
     refine fY X113 hx hby at_170 (pc' := 180) (XT.i0_eq_t (by decide : (0 : Int32) = (0 : Int32))) (by decide) ?_
     refine iB X113 hx hby at_180 rfl ?_
     refine iT X113 hx hby at_182 (l' := #[(vI p0), (vI p1), (vI p2), (vI p3), (vI p4), (vI p5), (vI 4), (vR b35), (vR b98), (vR b111), (vR r113), (vI 0), (vI 4), .unset, .unset]) rfl ?_
     refine aB X113 hx hby at_184 rfl rfl ?_
     refine iB X113 hx hby at_186 rfl ?_
     refine c_stat 0 X113 hx hby hml hZ113 hown113 (tw_76 hw) (tw_77 hw) (tw_4 hw) (tw_78 hw) (rm_lastSlash4 l Z a0 hw [] b35 k35 (own_pick p1) (own_pick p2) (own_pick p3) (own_pick p4) (own_pick p5) T113.heap n0 f113_0 f113_6) rfl at_188 [(.ref b35), (.int 4)] [] (lenOf pd9 rfl) rfl rfl (by rfl) (by decide) ?_
     rintro _ T117 Lc117 ⟨rfl, N117q, q117⟩ X117
     have N117 := Fr.app N113 N117q
     show oG p e below P m T117 191 #[(vI p0), (vI p1), (vI p2), (vI p3), (vI p4), (vI p5), (vI 4), (vR b35), (vR b98), (vR b111), (vR r113), (vI 0), (vI 4), .unset, .unset] [(.int (own_l4 (own_pick p1) (own_pick p2) (own_pick p3) (own_pick p4)))]
     rcases D113 with ⟨hk, SG⟩ | ⟨hk, SG⟩ | ⟨hk, SG⟩ | ⟨hk, SG⟩
     · obtain ⟨dg, kdg, ESg, CSg, VSg, ASg⟩ := SG
       have ATg : Arv Z T113.heap dg kdg .byte (0 : Int32) [] (.int 0) := ASg
       rw [show (own_l4 (own_pick p1) (own_pick p2) (own_pick p3) (own_pick p4)) = (-1 : Int32) from ((if_neg hc158_115).trans ((own_lb3 p1 p2 p3).symm.trans hk))]
       show oG p e below P m T117 191 #[(vI p0), (vI p1), (vI p2), (vI p3), (vI p4), (vI p5), (vI 4), (vR b35), (vR b98), (vR b111), (vR r113), (vI 0), (vI 4), .unset, .unset] [(.int (-1))]
       refine iT X117 hx hby at_191 (l' := #[(vI p0), (vI p1), (vI p2), (vI p3), (vI p4), (vI p5), (vI 4), (vR b35), (vR b98), (vR b111), (vR r113), (vI 0), (vI 4), (vI (-1)), .unset]) rfl ?_
       refine iB X117 hx hby at_193 rfl ?_
       refine fN X117 hx hby at_195 (XT.i0_ge_f (by decide : (-1 : Int32) < (0 : Int32))) ?_
       refine iC X117 hx hby at_198 (v := 0) rfl ?_
       refine gO X117 hx hby at_199 (pc' := 204) (by decide) ?_
       refine iT X117 hx hby at_204 (l' := #[(vI p0), (vI p1), (vI p2), (vI p3), (vI p4), (vI p5), (vI 4), (vR b35), (vR b98), (vR b111), (vR r113), (vI 0), (vI 4), (vI (-1)), (vI 0)]) rfl ?_
       exact tail0 (4 : Int32) (0 : Int32) (4 : Int32) (-1 : Int32) b35 k35 b98 b111 r113 dg kdg (X117.more (by decide) (by decide)) q117 N117 f113_0 hS113 f113_2 hZ113 hown113 f113_1 f113_4 f113_6 ESg CSg VSg ATg
     · obtain ⟨dg, kdg, ESg, CSg, VSg, ASg⟩ := SG
       have ATg : Arv Z T113.heap dg kdg .byte (0 : Int32) [] (.int 0) := ASg
       rw [show (own_l4 (own_pick p1) (own_pick p2) (own_pick p3) (own_pick p4)) = (0 : Int32) from ((if_neg hc158_115).trans ((own_lb3 p1 p2 p3).symm.trans hk))]
       show oG p e below P m T117 191 #[(vI p0), (vI p1), (vI p2), (vI p3), (vI p4), (vI p5), (vI 4), (vR b35), (vR b98), (vR b111), (vR r113), (vI 0), (vI 4), .unset, .unset] [(.int 0)]
       refine iT X117 hx hby at_191 (l' := #[(vI p0), (vI p1), (vI p2), (vI p3), (vI p4), (vI p5), (vI 4), (vR b35), (vR b98), (vR b111), (vR r113), (vI 0), (vI 4), (vI 0), .unset]) rfl ?_
       refine iB X117 hx hby at_193 rfl ?_
       refine fY X117 hx hby at_195 (pc' := 202) (XT.i0_ge_t (by decide : ¬ (0 : Int32) < (0 : Int32))) (by decide) ?_
       refine iB X117 hx hby at_202 rfl ?_
       refine iT X117 hx hby at_204 (l' := #[(vI p0), (vI p1), (vI p2), (vI p3), (vI p4), (vI p5), (vI 4), (vR b35), (vR b98), (vR b111), (vR r113), (vI 0), (vI 4), (vI 0), (vI 0)]) rfl ?_
       exact tail0 (4 : Int32) (0 : Int32) (4 : Int32) (0 : Int32) b35 k35 b98 b111 r113 dg kdg (X117.more (by decide) (by decide)) q117 N117 f113_0 hS113 f113_2 hZ113 hown113 f113_1 f113_4 f113_6 ESg CSg VSg ATg
     · obtain ⟨dg, kdg, ESg, CSg, VSg, ASg⟩ := SG
       have ATg : Arv Z T113.heap dg kdg .byte (1 : Int32) [(.int ((own_pick p1).toInt8.toInt32))] (.int 0) := ASg
       rw [show (own_l4 (own_pick p1) (own_pick p2) (own_pick p3) (own_pick p4)) = (1 : Int32) from ((if_neg hc158_115).trans ((own_lb3 p1 p2 p3).symm.trans hk))]
       show oG p e below P m T117 191 #[(vI p0), (vI p1), (vI p2), (vI p3), (vI p4), (vI p5), (vI 4), (vR b35), (vR b98), (vR b111), (vR r113), (vI 0), (vI 4), .unset, .unset] [(.int 1)]
       refine iT X117 hx hby at_191 (l' := #[(vI p0), (vI p1), (vI p2), (vI p3), (vI p4), (vI p5), (vI 4), (vR b35), (vR b98), (vR b111), (vR r113), (vI 0), (vI 4), (vI 1), .unset]) rfl ?_
       refine iB X117 hx hby at_193 rfl ?_
       refine fY X117 hx hby at_195 (pc' := 202) (XT.i0_ge_t (by decide : ¬ (1 : Int32) < (0 : Int32))) (by decide) ?_
       refine iB X117 hx hby at_202 rfl ?_
       refine iT X117 hx hby at_204 (l' := #[(vI p0), (vI p1), (vI p2), (vI p3), (vI p4), (vI p5), (vI 4), (vR b35), (vR b98), (vR b111), (vR r113), (vI 0), (vI 4), (vI 1), (vI 1)]) rfl ?_
       exact tail1 (4 : Int32) (0 : Int32) (4 : Int32) (1 : Int32) b35 k35 b98 b111 r113 dg kdg (X117.more (by decide) (by decide)) q117 N117 f113_0 hS113 f113_2 hZ113 hown113 f113_1 f113_4 f113_6 ESg CSg VSg ATg
     · obtain ⟨dg, kdg, ESg, CSg, VSg, ASg⟩ := SG
       have ATg : Arv Z T113.heap dg kdg .byte (2 : Int32) [(.int ((own_pick p1).toInt8.toInt32)), (.int ((own_pick p2).toInt8.toInt32))] (.int 0) := ASg
       rw [show (own_l4 (own_pick p1) (own_pick p2) (own_pick p3) (own_pick p4)) = (2 : Int32) from ((if_neg hc158_115).trans ((own_lb3 p1 p2 p3).symm.trans hk))]
       show oG p e below P m T117 191 #[(vI p0), (vI p1), (vI p2), (vI p3), (vI p4), (vI p5), (vI 4), (vR b35), (vR b98), (vR b111), (vR r113), (vI 0), (vI 4), .unset, .unset] [(.int 2)]
       refine iT X117 hx hby at_191 (l' := #[(vI p0), (vI p1), (vI p2), (vI p3), (vI p4), (vI p5), (vI 4), (vR b35), (vR b98), (vR b111), (vR r113), (vI 0), (vI 4), (vI 2), .unset]) rfl ?_
       refine iB X117 hx hby at_193 rfl ?_
       refine fY X117 hx hby at_195 (pc' := 202) (XT.i0_ge_t (by decide : ¬ (2 : Int32) < (0 : Int32))) (by decide) ?_
       refine iB X117 hx hby at_202 rfl ?_
       refine iT X117 hx hby at_204 (l' := #[(vI p0), (vI p1), (vI p2), (vI p3), (vI p4), (vI p5), (vI 4), (vR b35), (vR b98), (vR b111), (vR r113), (vI 0), (vI 4), (vI 2), (vI 2)]) rfl ?_
       exact tail2 (4 : Int32) (0 : Int32) (4 : Int32) (2 : Int32) b35 k35 b98 b111 r113 dg kdg (X117.more (by decide) (by decide)) q117 N117 f113_0 hS113 f113_2 hZ113 hown113 f113_1 f113_4 f113_6 ESg CSg VSg ATg
 · rw [hn]
   show oG p e below P m T50 51 #[(vI p0), (vI p1), (vI p2), (vI p3), (vI p4), (vI p5), (vI 5), (vR b35), .unset, .unset, .unset, .unset, .unset, .unset, .unset] []
   refine iB X50 hx hby at_51 rfl ?_
   obtain ⟨T118, h118, k118, X118, e118, E118, A118, st118⟩ := newP X50 hx hZ (aty := .char) (tw_1 hw) e50 (g := (mkF m 53 #[(vI p0), (vI p1), (vI p2), (vI p3), (vI p4), (vI p5), (vI 5), (vR b35), .unset, .unset, .unset, .unset, .unset, .unset, .unset] [(.int 5)])) rfl (hb hby at_53) rfl (by decide) (cap := 5) (by decide) (by decide) (by decide) (by decide)
   obtain ⟨b118, g118⟩ : ∃ z, z = h50.size := ⟨_, rfl⟩
   rw [← g118] at A118 st118
   have g_b118 : n0 ≤ b118 := Nat.le_trans f50_0 (Nat.le_of_eq g118.symm)
   have sz_b118 : h0.size ≤ b118 := Nat.le_trans f50_3.1 (Nat.le_of_eq g118.symm)
   have ne_b35_b118 : b35 ≠ b118 := Nat.ne_of_lt (Nat.lt_of_lt_of_le (V50.lt) (Nat.le_of_eq g118.symm))
   have sf_b118 : Safe Z own_EL s.vm h50 b118 := Safe.new (Nat.le_of_eq g118.symm)
   have f118_0 := Nat.le_trans f50_0 E118.1
   have f118_1 := CHr.trans f50_1 (CHr.ext E118 f50_1.1)
   have f118_2 := Nat.le_trans f50_2 E118.1
   have f118_3 := Keep.ext f50_3 E118
   have f118_4 := Old.ext f50_4 E118
   have f118_5 := Safe.ext E118 f50_1.1 f50_5
   have f118_6 := Arv.ext V50 E118
   have f118_7 := Safe.ext E118 f50_1.1 sf_b118
   refine Go.by st118 ?_
   have V118 : Arv Z h118 b118 k118 .char (5 : Int32) [(.int 0), (.int 0), (.int 0), (.int 0), (.int 0)] (.int 0) := (Arv.new A118 (by decide)).pad (pad_rep [] (.int 0) 5)
   show oG p e below P m T118 55 #[(vI p0), (vI p1), (vI p2), (vI p3), (vI p4), (vI p5), (vI 5), (vR b35), .unset, .unset, .unset, .unset, .unset, .unset, .unset] [(.ref b118)]
   refine aT X118 hx hby at_55 rfl (l' := #[(vI p0), (vI p1), (vI p2), (vI p3), (vI p4), (vI p5), (vI 5), (vR b35), (vR b118), .unset, .unset, .unset, .unset, .unset, .unset]) rfl ?_
   refine iB X118 hx hby at_57 rfl ?_
   refine fN X118 hx hby at_59 (XT.i0_le_f (by decide : (0 : Int32) < (5 : Int32))) ?_
   refine aB X118 hx hby at_62 rfl rfl ?_
   refine iC X118 hx hby at_64 (v := 0) rfl ?_
   refine aB X118 hx hby at_65 rfl rfl ?_
   refine iC X118 hx hby at_67 (v := 0) rfl ?_
   have av119 := f118_6
   obtain ⟨cl119, Ar119, -, Sz119, Nn119, Ha119, Gf119⟩ := av119
   have hin119 : ¬ ((0 : Int32) < 0 ∨ cl119.slots.size ≤ ((0 : Int32)).toNatClampNeg) := inb_of Sz119 ⟨by decide, by decide⟩
   have hat119 : cl119.slots[((0 : Int32)).toNatClampNeg]? = some (.int (own_pick p1)) := Ha119.at hin119 rfl
   refine Go.by (X118.caload hx (j := (0 : Int32)) (v := (.int (own_pick p1))) (by rw [e118]; exact Ar119.1) (State.isArrayOf_alike hZ.alike Ar119.2.1) Ar119.2.2 hin119 hat119 (g := (mkF m 68 #[(vI p0), (vI p1), (vI p2), (vI p3), (vI p4), (vI p5), (vI 5), (vR b35), (vR b118), .unset, .unset, .unset, .unset, .unset, .unset] [(.int 0), (.ref b35), (.int 0), (.ref b118)])) rfl rfl (hb hby at_68)) ?_
   have av120 := V118
   obtain ⟨cl120, Ar120, q120, Sz120, Nn120, Ha120, Gf120⟩ := av120
   have hin120 : ¬ ((0 : Int32) < 0 ∨ cl120.slots.size ≤ ((0 : Int32)).toNatClampNeg) := inb_of Sz120 ⟨by decide, by decide⟩
   obtain ⟨T121, h121, X121, e121, W121, st121⟩ := stC X118 hx hZ e118 Ar120 (j := (0 : Int32)) hin120 (g := (mkF m 69 #[(vI p0), (vI p1), (vI p2), (vI p3), (vI p4), (vI p5), (vI 5), (vR b35), (vR b118), .unset, .unset, .unset, .unset, .unset, .unset] [(.int (own_pick p1)), (.int 0), (.ref b118)])) rfl rfl (hb hby at_69)
   have W121' : Wr h118 h121 b118 ((0 : Int32)).toNatClampNeg (.int (own_pick p1)) := (by have q : Wr h118 h121 b118 ((0 : Int32)).toNatClampNeg (.int (nar .char (own_pick p1))) := W121; rw [own_chr _ (own_pickr p1).1 (own_pickr p1).2] at q; exact q)
   have V121 : Arv Z h121 b118 k118 .char (5 : Int32) [(.int (own_pick p1)), (.int 0), (.int 0), (.int 0), (.int 0)] (.int 0) := Arv.set Ar120 q120 Sz120 Nn120 Ha120 Gf120 (own_chf _ (own_pickr p1).1 (own_pickr p1).2) W121' 0 rfl (Nat.le_of_ble_eq_true rfl)
   have N121 := Fr.snoc X121 N50 g_b118
   have f121_0 := Nat.le_trans f118_0 (Keep.of_wr W121).1
   have f121_1 := CHr.trans f118_1 (CHr.wr W121 f118_7 f118_1.1)
   have f121_2 := Nat.le_trans f118_2 (Keep.of_wr W121).1
   have f121_3 := Keep.wr f118_3 W121 (Or.inr sz_b118)
   have f121_4 := Old.wr f118_4 W121 g_b118
   have f121_5 := Safe.wr W121 f118_7 f118_1.1 f118_5
   have f121_6 := Arv.other f118_6 W121 ne_b35_b118
   have f121_7 := Safe.wr W121 f118_7 f118_1.1 f118_7
   refine Go.by st121 ?_
   show oG p e below P m T121 70 #[(vI p0), (vI p1), (vI p2), (vI p3), (vI p4), (vI p5), (vI 5), (vR b35), (vR b118), .unset, .unset, .unset, .unset, .unset, .unset] []
   refine iB X121 hx hby at_70 rfl ?_
   refine iC X121 hx hby at_72 (v := 1) rfl ?_
   refine cN X121 hx hby at_73 (XT.ii_le_f (by decide : (1 : Int32) < (5 : Int32))) ?_
   refine aB X121 hx hby at_76 rfl rfl ?_
   refine iC X121 hx hby at_78 (v := 1) rfl ?_
   refine aB X121 hx hby at_79 rfl rfl ?_
   refine iC X121 hx hby at_81 (v := 1) rfl ?_
   have av122 := f121_6
   obtain ⟨cl122, Ar122, -, Sz122, Nn122, Ha122, Gf122⟩ := av122
   have hin122 : ¬ ((1 : Int32) < 0 ∨ cl122.slots.size ≤ ((1 : Int32)).toNatClampNeg) := inb_of Sz122 ⟨by decide, by decide⟩
   have hat122 : cl122.slots[((1 : Int32)).toNatClampNeg]? = some (.int (own_pick p2)) := Ha122.at hin122 rfl
   refine Go.by (X121.caload hx (j := (1 : Int32)) (v := (.int (own_pick p2))) (by rw [e121]; exact Ar122.1) (State.isArrayOf_alike hZ.alike Ar122.2.1) Ar122.2.2 hin122 hat122 (g := (mkF m 82 #[(vI p0), (vI p1), (vI p2), (vI p3), (vI p4), (vI p5), (vI 5), (vR b35), (vR b118), .unset, .unset, .unset, .unset, .unset, .unset] [(.int 1), (.ref b35), (.int 1), (.ref b118)])) rfl rfl (hb hby at_82)) ?_
   have av123 := V121
   obtain ⟨cl123, Ar123, q123, Sz123, Nn123, Ha123, Gf123⟩ := av123
   have hin123 : ¬ ((1 : Int32) < 0 ∨ cl123.slots.size ≤ ((1 : Int32)).toNatClampNeg) := inb_of Sz123 ⟨by decide, by decide⟩
   obtain ⟨T124, h124, X124, e124, W124, st124⟩ := stC X121 hx hZ e121 Ar123 (j := (1 : Int32)) hin123 (g := (mkF m 83 #[(vI p0), (vI p1), (vI p2), (vI p3), (vI p4), (vI p5), (vI 5), (vR b35), (vR b118), .unset, .unset, .unset, .unset, .unset, .unset] [(.int (own_pick p2)), (.int 1), (.ref b118)])) rfl rfl (hb hby at_83)
   have W124' : Wr h121 h124 b118 ((1 : Int32)).toNatClampNeg (.int (own_pick p2)) := (by have q : Wr h121 h124 b118 ((1 : Int32)).toNatClampNeg (.int (nar .char (own_pick p2))) := W124; rw [own_chr _ (own_pickr p2).1 (own_pickr p2).2] at q; exact q)
   have V124 : Arv Z h124 b118 k118 .char (5 : Int32) [(.int (own_pick p1)), (.int (own_pick p2)), (.int 0), (.int 0), (.int 0)] (.int 0) := Arv.set Ar123 q123 Sz123 Nn123 Ha123 Gf123 (own_chf _ (own_pickr p2).1 (own_pickr p2).2) W124' 1 rfl (Nat.le_of_ble_eq_true rfl)
   have N124 := Fr.snoc X124 N121 g_b118
   have f124_0 := Nat.le_trans f121_0 (Keep.of_wr W124).1
   have f124_1 := CHr.trans f121_1 (CHr.wr W124 f121_7 f121_1.1)
   have f124_2 := Nat.le_trans f121_2 (Keep.of_wr W124).1
   have f124_3 := Keep.wr f121_3 W124 (Or.inr sz_b118)
   have f124_4 := Old.wr f121_4 W124 g_b118
   have f124_5 := Safe.wr W124 f121_7 f121_1.1 f121_5
   have f124_6 := Arv.other f121_6 W124 ne_b35_b118
   have f124_7 := Safe.wr W124 f121_7 f121_1.1 f121_7
   refine Go.by st124 ?_
   show oG p e below P m T124 84 #[(vI p0), (vI p1), (vI p2), (vI p3), (vI p4), (vI p5), (vI 5), (vR b35), (vR b118), .unset, .unset, .unset, .unset, .unset, .unset] []
   refine iB X124 hx hby at_84 rfl ?_
   refine iC X124 hx hby at_86 (v := 2) rfl ?_
   refine cN X124 hx hby at_87 (XT.ii_le_f (by decide : (2 : Int32) < (5 : Int32))) ?_
   refine aB X124 hx hby at_90 rfl rfl ?_
   refine iC X124 hx hby at_92 (v := 2) rfl ?_
   refine aB X124 hx hby at_93 rfl rfl ?_
   refine iC X124 hx hby at_95 (v := 2) rfl ?_
   have av125 := f124_6
   obtain ⟨cl125, Ar125, -, Sz125, Nn125, Ha125, Gf125⟩ := av125
   have hin125 : ¬ ((2 : Int32) < 0 ∨ cl125.slots.size ≤ ((2 : Int32)).toNatClampNeg) := inb_of Sz125 ⟨by decide, by decide⟩
   have hat125 : cl125.slots[((2 : Int32)).toNatClampNeg]? = some (.int (own_pick p3)) := Ha125.at hin125 rfl
   refine Go.by (X124.caload hx (j := (2 : Int32)) (v := (.int (own_pick p3))) (by rw [e124]; exact Ar125.1) (State.isArrayOf_alike hZ.alike Ar125.2.1) Ar125.2.2 hin125 hat125 (g := (mkF m 96 #[(vI p0), (vI p1), (vI p2), (vI p3), (vI p4), (vI p5), (vI 5), (vR b35), (vR b118), .unset, .unset, .unset, .unset, .unset, .unset] [(.int 2), (.ref b35), (.int 2), (.ref b118)])) rfl rfl (hb hby at_96)) ?_
   have av126 := V124
   obtain ⟨cl126, Ar126, q126, Sz126, Nn126, Ha126, Gf126⟩ := av126
   have hin126 : ¬ ((2 : Int32) < 0 ∨ cl126.slots.size ≤ ((2 : Int32)).toNatClampNeg) := inb_of Sz126 ⟨by decide, by decide⟩
   obtain ⟨T127, h127, X127, e127, W127, st127⟩ := stC X124 hx hZ e124 Ar126 (j := (2 : Int32)) hin126 (g := (mkF m 97 #[(vI p0), (vI p1), (vI p2), (vI p3), (vI p4), (vI p5), (vI 5), (vR b35), (vR b118), .unset, .unset, .unset, .unset, .unset, .unset] [(.int (own_pick p3)), (.int 2), (.ref b118)])) rfl rfl (hb hby at_97)
   have W127' : Wr h124 h127 b118 ((2 : Int32)).toNatClampNeg (.int (own_pick p3)) := (by have q : Wr h124 h127 b118 ((2 : Int32)).toNatClampNeg (.int (nar .char (own_pick p3))) := W127; rw [own_chr _ (own_pickr p3).1 (own_pickr p3).2] at q; exact q)
   have V127 : Arv Z h127 b118 k118 .char (5 : Int32) [(.int (own_pick p1)), (.int (own_pick p2)), (.int (own_pick p3)), (.int 0), (.int 0)] (.int 0) := Arv.set Ar126 q126 Sz126 Nn126 Ha126 Gf126 (own_chf _ (own_pickr p3).1 (own_pickr p3).2) W127' 2 rfl (Nat.le_of_ble_eq_true rfl)
   have N127 := Fr.snoc X127 N124 g_b118
   have f127_0 := Nat.le_trans f124_0 (Keep.of_wr W127).1
   have f127_1 := CHr.trans f124_1 (CHr.wr W127 f124_7 f124_1.1)
   have f127_2 := Nat.le_trans f124_2 (Keep.of_wr W127).1
   have f127_3 := Keep.wr f124_3 W127 (Or.inr sz_b118)
   have f127_4 := Old.wr f124_4 W127 g_b118
   have f127_5 := Safe.wr W127 f124_7 f124_1.1 f124_5
   have f127_6 := Arv.other f124_6 W127 ne_b35_b118
   have f127_7 := Safe.wr W127 f124_7 f124_1.1 f124_7
   refine Go.by st127 ?_
   show oG p e below P m T127 98 #[(vI p0), (vI p1), (vI p2), (vI p3), (vI p4), (vI p5), (vI 5), (vR b35), (vR b118), .unset, .unset, .unset, .unset, .unset, .unset] []
   refine iB X127 hx hby at_98 rfl ?_
   refine iC X127 hx hby at_100 (v := 3) rfl ?_
   refine cN X127 hx hby at_101 (XT.ii_le_f (by decide : (3 : Int32) < (5 : Int32))) ?_
   refine aB X127 hx hby at_104 rfl rfl ?_
   refine iC X127 hx hby at_106 (v := 3) rfl ?_
   refine aB X127 hx hby at_107 rfl rfl ?_
   refine iC X127 hx hby at_109 (v := 3) rfl ?_
   have av128 := f127_6
   obtain ⟨cl128, Ar128, -, Sz128, Nn128, Ha128, Gf128⟩ := av128
   have hin128 : ¬ ((3 : Int32) < 0 ∨ cl128.slots.size ≤ ((3 : Int32)).toNatClampNeg) := inb_of Sz128 ⟨by decide, by decide⟩
   have hat128 : cl128.slots[((3 : Int32)).toNatClampNeg]? = some (.int (own_pick p4)) := Ha128.at hin128 rfl
   refine Go.by (X127.caload hx (j := (3 : Int32)) (v := (.int (own_pick p4))) (by rw [e127]; exact Ar128.1) (State.isArrayOf_alike hZ.alike Ar128.2.1) Ar128.2.2 hin128 hat128 (g := (mkF m 110 #[(vI p0), (vI p1), (vI p2), (vI p3), (vI p4), (vI p5), (vI 5), (vR b35), (vR b118), .unset, .unset, .unset, .unset, .unset, .unset] [(.int 3), (.ref b35), (.int 3), (.ref b118)])) rfl rfl (hb hby at_110)) ?_
   have av129 := V127
   obtain ⟨cl129, Ar129, q129, Sz129, Nn129, Ha129, Gf129⟩ := av129
   have hin129 : ¬ ((3 : Int32) < 0 ∨ cl129.slots.size ≤ ((3 : Int32)).toNatClampNeg) := inb_of Sz129 ⟨by decide, by decide⟩
   obtain ⟨T130, h130, X130, e130, W130, st130⟩ := stC X127 hx hZ e127 Ar129 (j := (3 : Int32)) hin129 (g := (mkF m 111 #[(vI p0), (vI p1), (vI p2), (vI p3), (vI p4), (vI p5), (vI 5), (vR b35), (vR b118), .unset, .unset, .unset, .unset, .unset, .unset] [(.int (own_pick p4)), (.int 3), (.ref b118)])) rfl rfl (hb hby at_111)
   have W130' : Wr h127 h130 b118 ((3 : Int32)).toNatClampNeg (.int (own_pick p4)) := (by have q : Wr h127 h130 b118 ((3 : Int32)).toNatClampNeg (.int (nar .char (own_pick p4))) := W130; rw [own_chr _ (own_pickr p4).1 (own_pickr p4).2] at q; exact q)
   have V130 : Arv Z h130 b118 k118 .char (5 : Int32) [(.int (own_pick p1)), (.int (own_pick p2)), (.int (own_pick p3)), (.int (own_pick p4)), (.int 0)] (.int 0) := Arv.set Ar129 q129 Sz129 Nn129 Ha129 Gf129 (own_chf _ (own_pickr p4).1 (own_pickr p4).2) W130' 3 rfl (Nat.le_of_ble_eq_true rfl)
   have N130 := Fr.snoc X130 N127 g_b118
   have f130_0 := Nat.le_trans f127_0 (Keep.of_wr W130).1
   have f130_1 := CHr.trans f127_1 (CHr.wr W130 f127_7 f127_1.1)
   have f130_2 := Nat.le_trans f127_2 (Keep.of_wr W130).1
   have f130_3 := Keep.wr f127_3 W130 (Or.inr sz_b118)
   have f130_4 := Old.wr f127_4 W130 g_b118
   have f130_5 := Safe.wr W130 f127_7 f127_1.1 f127_5
   have f130_6 := Arv.other f127_6 W130 ne_b35_b118
   have f130_7 := Safe.wr W130 f127_7 f127_1.1 f127_7
   refine Go.by st130 ?_
   show oG p e below P m T130 112 #[(vI p0), (vI p1), (vI p2), (vI p3), (vI p4), (vI p5), (vI 5), (vR b35), (vR b118), .unset, .unset, .unset, .unset, .unset, .unset] []
   refine iB X130 hx hby at_112 rfl ?_
   refine iC X130 hx hby at_114 (v := 4) rfl ?_
   refine cN X130 hx hby at_115 (XT.ii_le_f (by decide : (4 : Int32) < (5 : Int32))) ?_
   refine aB X130 hx hby at_118 rfl rfl ?_
   refine iC X130 hx hby at_120 (v := 4) rfl ?_
   refine aB X130 hx hby at_121 rfl rfl ?_
   refine iC X130 hx hby at_123 (v := 4) rfl ?_
   have av131 := f130_6
   obtain ⟨cl131, Ar131, -, Sz131, Nn131, Ha131, Gf131⟩ := av131
   have hin131 : ¬ ((4 : Int32) < 0 ∨ cl131.slots.size ≤ ((4 : Int32)).toNatClampNeg) := inb_of Sz131 ⟨by decide, by decide⟩
   have hat131 : cl131.slots[((4 : Int32)).toNatClampNeg]? = some (.int (own_pick p5)) := Ha131.at hin131 rfl
   refine Go.by (X130.caload hx (j := (4 : Int32)) (v := (.int (own_pick p5))) (by rw [e130]; exact Ar131.1) (State.isArrayOf_alike hZ.alike Ar131.2.1) Ar131.2.2 hin131 hat131 (g := (mkF m 124 #[(vI p0), (vI p1), (vI p2), (vI p3), (vI p4), (vI p5), (vI 5), (vR b35), (vR b118), .unset, .unset, .unset, .unset, .unset, .unset] [(.int 4), (.ref b35), (.int 4), (.ref b118)])) rfl rfl (hb hby at_124)) ?_
   have av132 := V130
   obtain ⟨cl132, Ar132, q132, Sz132, Nn132, Ha132, Gf132⟩ := av132
   have hin132 : ¬ ((4 : Int32) < 0 ∨ cl132.slots.size ≤ ((4 : Int32)).toNatClampNeg) := inb_of Sz132 ⟨by decide, by decide⟩
   obtain ⟨T133, h133, X133, e133, W133, st133⟩ := stC X130 hx hZ e130 Ar132 (j := (4 : Int32)) hin132 (g := (mkF m 125 #[(vI p0), (vI p1), (vI p2), (vI p3), (vI p4), (vI p5), (vI 5), (vR b35), (vR b118), .unset, .unset, .unset, .unset, .unset, .unset] [(.int (own_pick p5)), (.int 4), (.ref b118)])) rfl rfl (hb hby at_125)
   have W133' : Wr h130 h133 b118 ((4 : Int32)).toNatClampNeg (.int (own_pick p5)) := (by have q : Wr h130 h133 b118 ((4 : Int32)).toNatClampNeg (.int (nar .char (own_pick p5))) := W133; rw [own_chr _ (own_pickr p5).1 (own_pickr p5).2] at q; exact q)
   have V133 : Arv Z h133 b118 k118 .char (5 : Int32) [(.int (own_pick p1)), (.int (own_pick p2)), (.int (own_pick p3)), (.int (own_pick p4)), (.int (own_pick p5))] (.int 0) := Arv.set Ar132 q132 Sz132 Nn132 Ha132 Gf132 (own_chf _ (own_pickr p5).1 (own_pickr p5).2) W133' 4 rfl (Nat.le_of_ble_eq_true rfl)
   have N133 := Fr.snoc X133 N130 g_b118
   have f133_0 := Nat.le_trans f130_0 (Keep.of_wr W133).1
   have f133_1 := CHr.trans f130_1 (CHr.wr W133 f130_7 f130_1.1)
   have f133_2 := Nat.le_trans f130_2 (Keep.of_wr W133).1
   have f133_3 := Keep.wr f130_3 W133 (Or.inr sz_b118)
   have f133_4 := Old.wr f130_4 W133 g_b118
   have f133_5 := Safe.wr W133 f130_7 f130_1.1 f130_5
   have f133_6 := Arv.other f130_6 W133 ne_b35_b118
   have f133_7 := Safe.wr W133 f130_7 f130_1.1 f130_7
   refine Go.by st133 ?_
   obtain ⟨T134, h134, X134, e134, E134, A134, D134, U134, st134⟩ := newO X133 hx hZ hown (tw_6 hw) (tw_7 hw) (tw_8 hw) e133 (g := (mkF m 126 #[(vI p0), (vI p1), (vI p2), (vI p3), (vI p4), (vI p5), (vI 5), (vR b35), (vR b118), .unset, .unset, .unset, .unset, .unset, .unset] [])) rfl (hb hby at_126) (by decide) (by decide)
   obtain ⟨b134, g134⟩ : ∃ z, z = h133.size := ⟨_, rfl⟩
   rw [← g134] at A134 D134 U134 st134
   have g_b134 : n0 ≤ b134 := Nat.le_trans f133_0 (Nat.le_of_eq g134.symm)
   have sz_b134 : h0.size ≤ b134 := Nat.le_trans f133_3.1 (Nat.le_of_eq g134.symm)
   have ne_b35_b134 : b35 ≠ b134 := Nat.ne_of_lt (Nat.lt_of_lt_of_le (f133_6.lt) (Nat.le_of_eq g134.symm))
   have ne_b118_b134 : b118 ≠ b134 := Nat.ne_of_lt (Nat.lt_of_lt_of_le (V133.lt) (Nat.le_of_eq g134.symm))
   have sf_b134 : Safe Z own_EL s.vm h133 b134 := Safe.new (Nat.le_of_eq g134.symm)
   have f134_0 := Nat.le_trans f133_0 E134.1
   have f134_1 := CHr.trans f133_1 (CHr.ext E134 f133_1.1)
   have f134_2 := Nat.le_trans f133_2 E134.1
   have f134_3 := Keep.ext f133_3 E134
   have f134_4 := Old.ext f133_4 E134
   have f134_5 := Safe.ext E134 f133_1.1 f133_5
   have f134_6 := Arv.ext f133_6 E134
   have f134_7 := Safe.ext E134 f133_1.1 f133_7
   have f134_8 := Arv.ext V133 E134
   have f134_9 := Safe.ext E134 f133_1.1 sf_b134
   refine Go.by st134 ?_
   have F134_value : Fld Z h134 b134 "java/lang/String" "value" "[B" .null := D134 (Or.inr (tw_21 hw)) (ty := (.array .byte)) (by decide)
   have F134_coder : Fld Z h134 b134 "java/lang/String" "coder" "B" (.int 0) := D134 (Or.inr (tw_22 hw)) (ty := .byte) (by decide)
   show oG p e below P m T134 129 #[(vI p0), (vI p1), (vI p2), (vI p3), (vI p4), (vI p5), (vI 5), (vR b35), (vR b118), .unset, .unset, .unset, .unset, .unset, .unset] [(.ref b134)]
   refine dU X134 hx hby at_129 rfl ?_
   refine aB X134 hx hby at_130 rfl rfl ?_
   obtain ⟨_, _, ⟨T135, L135, k135, n135⟩, -, X135, ⟨Lc135, hQ135, l135, y135, z135⟩, st135⟩ := X134.specialBack hx (y := oY16) rfl hown (mvT hZ (tw_9 hw)) (mvT hZ (tw_10 hw)) (mvT hZ (tw_11 hw)) (by decide) (backOf (W := 1) (rm_si1_5 l Z a0 hw [] b134 b118 k118 (own_pick p1) (own_pick p2) (own_pick p3) (own_pick p4) (own_pick p5) cs h134 n0 f134_0 f134_4 Scs hcs A134 g_b134 F134_coder F134_value f134_8 (own_pickr p1).1 (own_pickr p1).2 (own_pickr p2).1 (own_pickr p2).2 (own_pickr p3).1 (own_pickr p3).2 (own_pickr p4).1 (own_pickr p4).2 (own_pickr p5).1 (own_pickr p5).2) hZ (tw_11 hw) (tw_8 hw) (by decide) (by decide)) (g := (mkF m 132 #[(vI p0), (vI p1), (vI p2), (vI p3), (vI p4), (vI p5), (vI 5), (vR b35), (vR b118), .unset, .unset, .unset, .unset, .unset, .unset] [(.ref b118), (.ref b134), (.ref b134)])) rfl (by rw [hml]; rfl) (Steps.refl _) (a := b134) (argsL := [(.ref b118)]) (rest := [(.ref b134)]) (lenOf pd18 rfl) rfl (by show 2 * 0 + _ ≤ _; exact Nat.le_of_eq rfl) (hb hby at_132) (fun _ _ => ⟨rfl, e134, (by decide : 3 + 1 ≤ _), (by decide : 14 + 5 ≤ _)⟩)
   dsimp only [Pt.U, Pt.locs, Pt.cells, Pt.slots] at X135 l135 y135 z135 st135 hQ135
   subst l135 y135 z135
   obtain ⟨rfl, N135q, K135, Gc135, d135, kd135, z135, Gv135, V135⟩ := hQ135
   have N135 := Fr.app N133 N135q
   refine Go.by (fun t k => st135.trans k) ?_
   have f135_0 := Nat.le_trans f134_0 K135.1
   have f135_1 := CHr.trans f134_1 (CHr.keep K135 (sfS f134_9 sf0) f134_1.1)
   have f135_2 := Nat.le_trans f134_2 K135.1
   have f135_3 := Keep.trans f134_3 K135 (allS (Or.inr sz_b134) all0)
   have f135_4 := Old.keep f134_4 K135 (allS g_b134 all0)
   have f135_5 := Safe.keep K135 (sfS f134_9 sf0) f134_1.1 f134_5
   have f135_6 := Arv.keep f134_6 K135 (ninS ne_b35_b134 nin0)
   have f135_7 := Safe.keep K135 (sfS f134_9 sf0) f134_1.1 f134_7
   have f135_8 := Arv.keep f134_8 K135 (ninS ne_b118_b134 nin0)
   have f135_9 := Safe.keep K135 (sfS f134_9 sf0) f134_1.1 f134_9
   have f135_10 := Exa.keep A134 K135
   have S135 : StrV Z T135.heap b134 [((own_pick p1).toInt8.toInt32), ((own_pick p2).toInt8.toInt32), ((own_pick p3).toInt8.toInt32), ((own_pick p4).toInt8.toInt32), ((own_pick p5).toInt8.toInt32)] := ⟨d135, kd135, f135_10, Gc135, Gv135, V135⟩
   show oG p e below P m T135 135 #[(vI p0), (vI p1), (vI p2), (vI p3), (vI p4), (vI p5), (vI 5), (vR b35), (vR b118), .unset, .unset, .unset, .unset, .unset, .unset] [(.ref b134)]
   refine aT X135 hx hby at_135 rfl (l' := #[(vI p0), (vI p1), (vI p2), (vI p3), (vI p4), (vI p5), (vI 5), (vR b35), (vR b118), (vR b134), .unset, .unset, .unset, .unset, .unset]) rfl ?_
   refine aB X135 hx hby at_137 rfl rfl ?_
   obtain ⟨_, _, ⟨T136, L136, k136, n136⟩, -, X136', hS136', hg136, ⟨Lc136, hQ136, l136, y136, z136, C136⟩, st136⟩ := Jvm.RoadKit.callSS X135 hx (y := oY14) hown (mvT hZ (tw_27 hw)) (mvT hZ (tw_28 hw)) (mvT hZ (tw_29 hw)) (mvT hZ (tw_30 hw)) (by decide) (own_backC (W := 0) (rm_dirOf5 l Z a0 hw hEL [] b134 ((own_pick p1).toInt8.toInt32) ((own_pick p2).toInt8.toInt32) ((own_pick p3).toInt8.toInt32) ((own_pick p4).toInt8.toInt32) ((own_pick p5).toInt8.toInt32) cs fm T135.heap n0 f135_0 f135_4 Scs hcs Sfm hfm S135) hZ (tw_30 hw) (tw_29 hw) (by decide) (by decide) hEL f135_1.1 own_ss0) (g := (mkF m 139 #[(vI p0), (vI p1), (vI p2), (vI p3), (vI p4), (vI p5), (vI 5), (vR b35), (vR b118), (vR b134), .unset, .unset, .unset, .unset, .unset] [(.ref b134)])) rfl (by rw [hml]; rfl) (argsL := [(.ref b134)]) (rest := []) (lenOf pd19 rfl) rfl (by show 2 * 0 + _ ≤ _; exact Nat.le_of_eq rfl) (hb hby at_139) (fun _ _ => ⟨rfl, rfl, (by decide : 4 + 4 ≤ _), (by decide : 19 + 16 ≤ _)⟩)
   dsimp only [Pt.U, Pt.locs, Pt.cells, Pt.slots] at X136' hS136' hg136 l136 y136 z136 st136 hQ136 C136
   subst l136 y136 z136
   obtain ⟨X136, hS136, hZ136, hown136⟩ := rebS hS0 (f135_2) X136' hS136' hg136 hZ hown
   have hk136 : T136.heap.size ≤ T136.heap.size := Nat.le_refl _
   obtain ⟨r136, rfl, N136q, K136, D136⟩ := hQ136
   have N136 := Fr.app N135 N136q
   refine Go.by (fun t k => st136.trans k) ?_
   have f136_0 := Nat.le_trans f135_0 K136.1
   have f136_1 := CHr.trans f135_1 C136
   have f136_2 : T136.heap.size ≤ T136.heap.size := hk136
   have f136_3 := Keep.trans f135_3 K136 all0
   have f136_4 := Old.keep f135_4 K136 all0
   have f136_5 := CHr.safe C136 (f135_6.lt) f135_5
   have f136_6 := Arv.keep f135_6 K136 nin0
   have f136_7 := CHr.safe C136 (f135_8.lt) f135_7
   have f136_8 := Arv.keep f135_8 K136 nin0
   have f136_9 := StrV.keep0 S135 K136
   show oG p e below P m T136 142 #[(vI p0), (vI p1), (vI p2), (vI p3), (vI p4), (vI p5), (vI 5), (vR b35), (vR b118), (vR b134), .unset, .unset, .unset, .unset, .unset] [(.ref r136)]
   refine aT X136 hx hby at_142 rfl (l' := #[(vI p0), (vI p1), (vI p2), (vI p3), (vI p4), (vI p5), (vI 5), (vR b35), (vR b118), (vR b134), (vR r136), .unset, .unset, .unset, .unset]) rfl ?_
   refine iB X136 hx hby at_144 rfl ?_
   refine fN X136 hx hby at_146 (XT.i0_le_f (by decide : (0 : Int32) < (5 : Int32))) ?_
   refine aB X136 hx hby at_149 rfl rfl ?_
   refine iB X136 hx hby at_151 rfl ?_
   refine iC X136 hx hby at_153 (v := 1) rfl ?_
   refine iM X136 hx hby at_154 (v := 4) rfl ?_
   have av137 := f136_6
   obtain ⟨cl137, Ar137, -, Sz137, Nn137, Ha137, Gf137⟩ := av137
   have hin137 : ¬ ((4 : Int32) < 0 ∨ cl137.slots.size ≤ ((4 : Int32)).toNatClampNeg) := inb_of Sz137 ⟨by decide, by decide⟩
   have hat137 : cl137.slots[((4 : Int32)).toNatClampNeg]? = some (.int (own_pick p5)) := Ha137.at hin137 rfl
   refine Go.by (X136.caload hx (j := (4 : Int32)) (v := (.int (own_pick p5))) Ar137.1 (State.isArrayOf_alike hZ136.alike Ar137.2.1) Ar137.2.2 hin137 hat137 (g := (mkF m 155 #[(vI p0), (vI p1), (vI p2), (vI p3), (vI p4), (vI p5), (vI 5), (vR b35), (vR b118), (vR b134), (vR r136), .unset, .unset, .unset, .unset] [(.int 4), (.ref b35)])) rfl rfl (hb hby at_155)) ?_
   show oG p e below P m T136 156 #[(vI p0), (vI p1), (vI p2), (vI p3), (vI p4), (vI p5), (vI 5), (vR b35), (vR b118), (vR b134), (vR r136), .unset, .unset, .unset, .unset] [(.int (own_pick p5))]
   refine bC X136 hx hby at_156 (v := 47) rfl ?_
   by_cases hc158_138 : (own_pick p5) = (47 : Int32)
   · refine cN X136 hx hby at_158 (XT.ii_ne_f hc158_138) ?_
     refine iC X136 hx hby at_161 (v := 1) rfl ?_
     refine gO X136 hx hby at_162 (pc' := 166) (by decide) ?_
     refine iT X136 hx hby at_166 (l' := #[(vI p0), (vI p1), (vI p2), (vI p3), (vI p4), (vI p5), (vI 5), (vR b35), (vR b118), (vR b134), (vR r136), (vI 1), .unset, .unset, .unset]) rfl ?_
     refine iB X136 hx hby at_168 rfl ?_
     refine fN X136 hx hby at_170 (XT.i0_eq_f (by decide : ¬ (1 : Int32) = (0 : Int32))) ?_
     refine iB X136 hx hby at_173 rfl ?_
     refine iC X136 hx hby at_175 (v := 1) rfl ?_
     refine iM X136 hx hby at_176 (v := 4) rfl ?_
     refine gO X136 hx hby at_177 (pc' := 182) (by decide) ?_
     refine iT X136 hx hby at_182 (l' := #[(vI p0), (vI p1), (vI p2), (vI p3), (vI p4), (vI p5), (vI 5), (vR b35), (vR b118), (vR b134), (vR r136), (vI 1), (vI 4), .unset, .unset]) rfl ?_
     refine aB X136 hx hby at_184 rfl rfl ?_
     refine iB X136 hx hby at_186 rfl ?_
     refine c_stat 0 X136 hx hby hml hZ136 hown136 (tw_76 hw) (tw_77 hw) (tw_4 hw) (tw_78 hw) (rm_lastSlash4 l Z a0 hw [] b35 k35 (own_pick p1) (own_pick p2) (own_pick p3) (own_pick p4) (own_pick p5) T136.heap n0 f136_0 f136_6) rfl at_188 [(.ref b35), (.int 4)] [] (lenOf pd9 rfl) rfl rfl (by rfl) (by decide) ?_
     rintro _ T139 Lc139 ⟨rfl, N139q, q139⟩ X139
     have N139 := Fr.app N136 N139q
     show oG p e below P m T139 191 #[(vI p0), (vI p1), (vI p2), (vI p3), (vI p4), (vI p5), (vI 5), (vR b35), (vR b118), (vR b134), (vR r136), (vI 1), (vI 4), .unset, .unset] [(.int (own_l4 (own_pick p1) (own_pick p2) (own_pick p3) (own_pick p4)))]
     rcases D136 with ⟨hk, SG⟩ | ⟨hk, SG⟩ | ⟨hk, SG⟩ | ⟨hk, SG⟩ | ⟨hk, SG⟩
     · obtain ⟨dg, kdg, ESg, CSg, VSg, ASg⟩ := SG
       have ATg : Arv Z T136.heap dg kdg .byte (0 : Int32) [] (.int 0) := ASg
       rw [show (own_l4 (own_pick p1) (own_pick p2) (own_pick p3) (own_pick p4)) = (-1 : Int32) from ((own_lb4 p1 p2 p3 p4).symm.trans hk)]
       show oG p e below P m T139 191 #[(vI p0), (vI p1), (vI p2), (vI p3), (vI p4), (vI p5), (vI 5), (vR b35), (vR b118), (vR b134), (vR r136), (vI 1), (vI 4), .unset, .unset] [(.int (-1))]
       refine iT X139 hx hby at_191 (l' := #[(vI p0), (vI p1), (vI p2), (vI p3), (vI p4), (vI p5), (vI 5), (vR b35), (vR b118), (vR b134), (vR r136), (vI 1), (vI 4), (vI (-1)), .unset]) rfl ?_
       refine iB X139 hx hby at_193 rfl ?_
       refine fN X139 hx hby at_195 (XT.i0_ge_f (by decide : (-1 : Int32) < (0 : Int32))) ?_
       refine iC X139 hx hby at_198 (v := 0) rfl ?_
       refine gO X139 hx hby at_199 (pc' := 204) (by decide) ?_
       refine iT X139 hx hby at_204 (l' := #[(vI p0), (vI p1), (vI p2), (vI p3), (vI p4), (vI p5), (vI 5), (vR b35), (vR b118), (vR b134), (vR r136), (vI 1), (vI 4), (vI (-1)), (vI 0)]) rfl ?_
       exact tail0 (5 : Int32) (1 : Int32) (4 : Int32) (-1 : Int32) b35 k35 b118 b134 r136 dg kdg (X139.more (by decide) (by decide)) q139 N139 f136_0 hS136 f136_2 hZ136 hown136 f136_1 f136_4 f136_6 ESg CSg VSg ATg
     · obtain ⟨dg, kdg, ESg, CSg, VSg, ASg⟩ := SG
       have ATg : Arv Z T136.heap dg kdg .byte (0 : Int32) [] (.int 0) := ASg
       rw [show (own_l4 (own_pick p1) (own_pick p2) (own_pick p3) (own_pick p4)) = (0 : Int32) from ((own_lb4 p1 p2 p3 p4).symm.trans hk)]
       show oG p e below P m T139 191 #[(vI p0), (vI p1), (vI p2), (vI p3), (vI p4), (vI p5), (vI 5), (vR b35), (vR b118), (vR b134), (vR r136), (vI 1), (vI 4), .unset, .unset] [(.int 0)]
       refine iT X139 hx hby at_191 (l' := #[(vI p0), (vI p1), (vI p2), (vI p3), (vI p4), (vI p5), (vI 5), (vR b35), (vR b118), (vR b134), (vR r136), (vI 1), (vI 4), (vI 0), .unset]) rfl ?_
       refine iB X139 hx hby at_193 rfl ?_
       refine fY X139 hx hby at_195 (pc' := 202) (XT.i0_ge_t (by decide : ¬ (0 : Int32) < (0 : Int32))) (by decide) ?_
       refine iB X139 hx hby at_202 rfl ?_
       refine iT X139 hx hby at_204 (l' := #[(vI p0), (vI p1), (vI p2), (vI p3), (vI p4), (vI p5), (vI 5), (vR b35), (vR b118), (vR b134), (vR r136), (vI 1), (vI 4), (vI 0), (vI 0)]) rfl ?_
       exact tail0 (5 : Int32) (1 : Int32) (4 : Int32) (0 : Int32) b35 k35 b118 b134 r136 dg kdg (X139.more (by decide) (by decide)) q139 N139 f136_0 hS136 f136_2 hZ136 hown136 f136_1 f136_4 f136_6 ESg CSg VSg ATg
     · obtain ⟨dg, kdg, ESg, CSg, VSg, ASg⟩ := SG
       have ATg : Arv Z T136.heap dg kdg .byte (1 : Int32) [(.int ((own_pick p1).toInt8.toInt32))] (.int 0) := ASg
       rw [show (own_l4 (own_pick p1) (own_pick p2) (own_pick p3) (own_pick p4)) = (1 : Int32) from ((own_lb4 p1 p2 p3 p4).symm.trans hk)]
       show oG p e below P m T139 191 #[(vI p0), (vI p1), (vI p2), (vI p3), (vI p4), (vI p5), (vI 5), (vR b35), (vR b118), (vR b134), (vR r136), (vI 1), (vI 4), .unset, .unset] [(.int 1)]
       refine iT X139 hx hby at_191 (l' := #[(vI p0), (vI p1), (vI p2), (vI p3), (vI p4), (vI p5), (vI 5), (vR b35), (vR b118), (vR b134), (vR r136), (vI 1), (vI 4), (vI 1), .unset]) rfl ?_
       refine iB X139 hx hby at_193 rfl ?_
       refine fY X139 hx hby at_195 (pc' := 202) (XT.i0_ge_t (by decide : ¬ (1 : Int32) < (0 : Int32))) (by decide) ?_
       refine iB X139 hx hby at_202 rfl ?_
       refine iT X139 hx hby at_204 (l' := #[(vI p0), (vI p1), (vI p2), (vI p3), (vI p4), (vI p5), (vI 5), (vR b35), (vR b118), (vR b134), (vR r136), (vI 1), (vI 4), (vI 1), (vI 1)]) rfl ?_
       exact tail1 (5 : Int32) (1 : Int32) (4 : Int32) (1 : Int32) b35 k35 b118 b134 r136 dg kdg (X139.more (by decide) (by decide)) q139 N139 f136_0 hS136 f136_2 hZ136 hown136 f136_1 f136_4 f136_6 ESg CSg VSg ATg
     · obtain ⟨dg, kdg, ESg, CSg, VSg, ASg⟩ := SG
       have ATg : Arv Z T136.heap dg kdg .byte (2 : Int32) [(.int ((own_pick p1).toInt8.toInt32)), (.int ((own_pick p2).toInt8.toInt32))] (.int 0) := ASg
       rw [show (own_l4 (own_pick p1) (own_pick p2) (own_pick p3) (own_pick p4)) = (2 : Int32) from ((own_lb4 p1 p2 p3 p4).symm.trans hk)]
       show oG p e below P m T139 191 #[(vI p0), (vI p1), (vI p2), (vI p3), (vI p4), (vI p5), (vI 5), (vR b35), (vR b118), (vR b134), (vR r136), (vI 1), (vI 4), .unset, .unset] [(.int 2)]
       refine iT X139 hx hby at_191 (l' := #[(vI p0), (vI p1), (vI p2), (vI p3), (vI p4), (vI p5), (vI 5), (vR b35), (vR b118), (vR b134), (vR r136), (vI 1), (vI 4), (vI 2), .unset]) rfl ?_
       refine iB X139 hx hby at_193 rfl ?_
       refine fY X139 hx hby at_195 (pc' := 202) (XT.i0_ge_t (by decide : ¬ (2 : Int32) < (0 : Int32))) (by decide) ?_
       refine iB X139 hx hby at_202 rfl ?_
       refine iT X139 hx hby at_204 (l' := #[(vI p0), (vI p1), (vI p2), (vI p3), (vI p4), (vI p5), (vI 5), (vR b35), (vR b118), (vR b134), (vR r136), (vI 1), (vI 4), (vI 2), (vI 2)]) rfl ?_
       exact tail2 (5 : Int32) (1 : Int32) (4 : Int32) (2 : Int32) b35 k35 b118 b134 r136 dg kdg (X139.more (by decide) (by decide)) q139 N139 f136_0 hS136 f136_2 hZ136 hown136 f136_1 f136_4 f136_6 ESg CSg VSg ATg
     · obtain ⟨dg, kdg, ESg, CSg, VSg, ASg⟩ := SG
       have ATg : Arv Z T136.heap dg kdg .byte (3 : Int32) [(.int ((own_pick p1).toInt8.toInt32)), (.int ((own_pick p2).toInt8.toInt32)), (.int ((own_pick p3).toInt8.toInt32))] (.int 0) := ASg
       rw [show (own_l4 (own_pick p1) (own_pick p2) (own_pick p3) (own_pick p4)) = (3 : Int32) from ((own_lb4 p1 p2 p3 p4).symm.trans hk)]
       show oG p e below P m T139 191 #[(vI p0), (vI p1), (vI p2), (vI p3), (vI p4), (vI p5), (vI 5), (vR b35), (vR b118), (vR b134), (vR r136), (vI 1), (vI 4), .unset, .unset] [(.int 3)]
       refine iT X139 hx hby at_191 (l' := #[(vI p0), (vI p1), (vI p2), (vI p3), (vI p4), (vI p5), (vI 5), (vR b35), (vR b118), (vR b134), (vR r136), (vI 1), (vI 4), (vI 3), .unset]) rfl ?_
       refine iB X139 hx hby at_193 rfl ?_
       refine fY X139 hx hby at_195 (pc' := 202) (XT.i0_ge_t (by decide : ¬ (3 : Int32) < (0 : Int32))) (by decide) ?_
       refine iB X139 hx hby at_202 rfl ?_
       refine iT X139 hx hby at_204 (l' := #[(vI p0), (vI p1), (vI p2), (vI p3), (vI p4), (vI p5), (vI 5), (vR b35), (vR b118), (vR b134), (vR r136), (vI 1), (vI 4), (vI 3), (vI 3)]) rfl ?_
       exact tail3 (5 : Int32) (1 : Int32) (4 : Int32) (3 : Int32) b35 k35 b118 b134 r136 dg kdg (X139.more (by decide) (by decide)) q139 N139 f136_0 hS136 f136_2 hZ136 hown136 f136_1 f136_4 f136_6 ESg CSg VSg ATg
   · refine cY X136 hx hby at_158 (pc' := 165) (XT.ii_ne_t hc158_138) (by decide) ?_
     refine iC X136 hx hby at_165 (v := 0) rfl ?_
     refine iT X136 hx hby at_166 (l' := #[(vI p0), (vI p1), (vI p2), (vI p3), (vI p4), (vI p5), (vI 5), (vR b35), (vR b118), (vR b134), (vR r136), (vI 0), .unset, .unset, .unset]) rfl ?_
     refine iB X136 hx hby at_168 rfl ?_
     refine fY X136 hx hby at_170 (pc' := 180) (XT.i0_eq_t (by decide : (0 : Int32) = (0 : Int32))) (by decide) ?_
     refine iB X136 hx hby at_180 rfl ?_
     refine iT X136 hx hby at_182 (l' := #[(vI p0), (vI p1), (vI p2), (vI p3), (vI p4), (vI p5), (vI 5), (vR b35), (vR b118), (vR b134), (vR r136), (vI 0), (vI 5), .unset, .unset]) rfl ?_
     refine aB X136 hx hby at_184 rfl rfl ?_
     refine iB X136 hx hby at_186 rfl ?_
     refine c_stat 0 X136 hx hby hml hZ136 hown136 (tw_76 hw) (tw_77 hw) (tw_4 hw) (tw_78 hw) (rm_lastSlash5 l Z a0 hw [] b35 k35 (own_pick p1) (own_pick p2) (own_pick p3) (own_pick p4) (own_pick p5) T136.heap n0 f136_0 f136_6) rfl at_188 [(.ref b35), (.int 5)] [] (lenOf pd9 rfl) rfl rfl (by rfl) (by decide) ?_
     rintro _ T140 Lc140 ⟨rfl, N140q, q140⟩ X140
     have N140 := Fr.app N136 N140q
     show oG p e below P m T140 191 #[(vI p0), (vI p1), (vI p2), (vI p3), (vI p4), (vI p5), (vI 5), (vR b35), (vR b118), (vR b134), (vR r136), (vI 0), (vI 5), .unset, .unset] [(.int (own_l5 (own_pick p1) (own_pick p2) (own_pick p3) (own_pick p4) (own_pick p5)))]
     rcases D136 with ⟨hk, SG⟩ | ⟨hk, SG⟩ | ⟨hk, SG⟩ | ⟨hk, SG⟩ | ⟨hk, SG⟩
     · obtain ⟨dg, kdg, ESg, CSg, VSg, ASg⟩ := SG
       have ATg : Arv Z T136.heap dg kdg .byte (0 : Int32) [] (.int 0) := ASg
       rw [show (own_l5 (own_pick p1) (own_pick p2) (own_pick p3) (own_pick p4) (own_pick p5)) = (-1 : Int32) from ((if_neg hc158_138).trans ((own_lb4 p1 p2 p3 p4).symm.trans hk))]
       show oG p e below P m T140 191 #[(vI p0), (vI p1), (vI p2), (vI p3), (vI p4), (vI p5), (vI 5), (vR b35), (vR b118), (vR b134), (vR r136), (vI 0), (vI 5), .unset, .unset] [(.int (-1))]
       refine iT X140 hx hby at_191 (l' := #[(vI p0), (vI p1), (vI p2), (vI p3), (vI p4), (vI p5), (vI 5), (vR b35), (vR b118), (vR b134), (vR r136), (vI 0), (vI 5), (vI (-1)), .unset]) rfl ?_
       refine iB X140 hx hby at_193 rfl ?_
       refine fN X140 hx hby at_195 (XT.i0_ge_f (by decide : (-1 : Int32) < (0 : Int32))) ?_
       refine iC X140 hx hby at_198 (v := 0) rfl ?_
       refine gO X140 hx hby at_199 (pc' := 204) (by decide) ?_
       refine iT X140 hx hby at_204 (l' := #[(vI p0), (vI p1), (vI p2), (vI p3), (vI p4), (vI p5), (vI 5), (vR b35), (vR b118), (vR b134), (vR r136), (vI 0), (vI 5), (vI (-1)), (vI 0)]) rfl ?_
       exact tail0 (5 : Int32) (0 : Int32) (5 : Int32) (-1 : Int32) b35 k35 b118 b134 r136 dg kdg (X140.more (by decide) (by decide)) q140 N140 f136_0 hS136 f136_2 hZ136 hown136 f136_1 f136_4 f136_6 ESg CSg VSg ATg
     · obtain ⟨dg, kdg, ESg, CSg, VSg, ASg⟩ := SG
       have ATg : Arv Z T136.heap dg kdg .byte (0 : Int32) [] (.int 0) := ASg
       rw [show (own_l5 (own_pick p1) (own_pick p2) (own_pick p3) (own_pick p4) (own_pick p5)) = (0 : Int32) from ((if_neg hc158_138).trans ((own_lb4 p1 p2 p3 p4).symm.trans hk))]
       show oG p e below P m T140 191 #[(vI p0), (vI p1), (vI p2), (vI p3), (vI p4), (vI p5), (vI 5), (vR b35), (vR b118), (vR b134), (vR r136), (vI 0), (vI 5), .unset, .unset] [(.int 0)]
       refine iT X140 hx hby at_191 (l' := #[(vI p0), (vI p1), (vI p2), (vI p3), (vI p4), (vI p5), (vI 5), (vR b35), (vR b118), (vR b134), (vR r136), (vI 0), (vI 5), (vI 0), .unset]) rfl ?_
       refine iB X140 hx hby at_193 rfl ?_
       refine fY X140 hx hby at_195 (pc' := 202) (XT.i0_ge_t (by decide : ¬ (0 : Int32) < (0 : Int32))) (by decide) ?_
       refine iB X140 hx hby at_202 rfl ?_
       refine iT X140 hx hby at_204 (l' := #[(vI p0), (vI p1), (vI p2), (vI p3), (vI p4), (vI p5), (vI 5), (vR b35), (vR b118), (vR b134), (vR r136), (vI 0), (vI 5), (vI 0), (vI 0)]) rfl ?_
       exact tail0 (5 : Int32) (0 : Int32) (5 : Int32) (0 : Int32) b35 k35 b118 b134 r136 dg kdg (X140.more (by decide) (by decide)) q140 N140 f136_0 hS136 f136_2 hZ136 hown136 f136_1 f136_4 f136_6 ESg CSg VSg ATg
     · obtain ⟨dg, kdg, ESg, CSg, VSg, ASg⟩ := SG
       have ATg : Arv Z T136.heap dg kdg .byte (1 : Int32) [(.int ((own_pick p1).toInt8.toInt32))] (.int 0) := ASg
       rw [show (own_l5 (own_pick p1) (own_pick p2) (own_pick p3) (own_pick p4) (own_pick p5)) = (1 : Int32) from ((if_neg hc158_138).trans ((own_lb4 p1 p2 p3 p4).symm.trans hk))]
       show oG p e below P m T140 191 #[(vI p0), (vI p1), (vI p2), (vI p3), (vI p4), (vI p5), (vI 5), (vR b35), (vR b118), (vR b134), (vR r136), (vI 0), (vI 5), .unset, .unset] [(.int 1)]
       refine iT X140 hx hby at_191 (l' := #[(vI p0), (vI p1), (vI p2), (vI p3), (vI p4), (vI p5), (vI 5), (vR b35), (vR b118), (vR b134), (vR r136), (vI 0), (vI 5), (vI 1), .unset]) rfl ?_
       refine iB X140 hx hby at_193 rfl ?_
       refine fY X140 hx hby at_195 (pc' := 202) (XT.i0_ge_t (by decide : ¬ (1 : Int32) < (0 : Int32))) (by decide) ?_
       refine iB X140 hx hby at_202 rfl ?_
       refine iT X140 hx hby at_204 (l' := #[(vI p0), (vI p1), (vI p2), (vI p3), (vI p4), (vI p5), (vI 5), (vR b35), (vR b118), (vR b134), (vR r136), (vI 0), (vI 5), (vI 1), (vI 1)]) rfl ?_
       exact tail1 (5 : Int32) (0 : Int32) (5 : Int32) (1 : Int32) b35 k35 b118 b134 r136 dg kdg (X140.more (by decide) (by decide)) q140 N140 f136_0 hS136 f136_2 hZ136 hown136 f136_1 f136_4 f136_6 ESg CSg VSg ATg
     · obtain ⟨dg, kdg, ESg, CSg, VSg, ASg⟩ := SG
       have ATg : Arv Z T136.heap dg kdg .byte (2 : Int32) [(.int ((own_pick p1).toInt8.toInt32)), (.int ((own_pick p2).toInt8.toInt32))] (.int 0) := ASg
       rw [show (own_l5 (own_pick p1) (own_pick p2) (own_pick p3) (own_pick p4) (own_pick p5)) = (2 : Int32) from ((if_neg hc158_138).trans ((own_lb4 p1 p2 p3 p4).symm.trans hk))]
       show oG p e below P m T140 191 #[(vI p0), (vI p1), (vI p2), (vI p3), (vI p4), (vI p5), (vI 5), (vR b35), (vR b118), (vR b134), (vR r136), (vI 0), (vI 5), .unset, .unset] [(.int 2)]
       refine iT X140 hx hby at_191 (l' := #[(vI p0), (vI p1), (vI p2), (vI p3), (vI p4), (vI p5), (vI 5), (vR b35), (vR b118), (vR b134), (vR r136), (vI 0), (vI 5), (vI 2), .unset]) rfl ?_
       refine iB X140 hx hby at_193 rfl ?_
       refine fY X140 hx hby at_195 (pc' := 202) (XT.i0_ge_t (by decide : ¬ (2 : Int32) < (0 : Int32))) (by decide) ?_
       refine iB X140 hx hby at_202 rfl ?_
       refine iT X140 hx hby at_204 (l' := #[(vI p0), (vI p1), (vI p2), (vI p3), (vI p4), (vI p5), (vI 5), (vR b35), (vR b118), (vR b134), (vR r136), (vI 0), (vI 5), (vI 2), (vI 2)]) rfl ?_
       exact tail2 (5 : Int32) (0 : Int32) (5 : Int32) (2 : Int32) b35 k35 b118 b134 r136 dg kdg (X140.more (by decide) (by decide)) q140 N140 f136_0 hS136 f136_2 hZ136 hown136 f136_1 f136_4 f136_6 ESg CSg VSg ATg
     · obtain ⟨dg, kdg, ESg, CSg, VSg, ASg⟩ := SG
       have ATg : Arv Z T136.heap dg kdg .byte (3 : Int32) [(.int ((own_pick p1).toInt8.toInt32)), (.int ((own_pick p2).toInt8.toInt32)), (.int ((own_pick p3).toInt8.toInt32))] (.int 0) := ASg
       rw [show (own_l5 (own_pick p1) (own_pick p2) (own_pick p3) (own_pick p4) (own_pick p5)) = (3 : Int32) from ((if_neg hc158_138).trans ((own_lb4 p1 p2 p3 p4).symm.trans hk))]
       show oG p e below P m T140 191 #[(vI p0), (vI p1), (vI p2), (vI p3), (vI p4), (vI p5), (vI 5), (vR b35), (vR b118), (vR b134), (vR r136), (vI 0), (vI 5), .unset, .unset] [(.int 3)]
       refine iT X140 hx hby at_191 (l' := #[(vI p0), (vI p1), (vI p2), (vI p3), (vI p4), (vI p5), (vI 5), (vR b35), (vR b118), (vR b134), (vR r136), (vI 0), (vI 5), (vI 3), .unset]) rfl ?_
       refine iB X140 hx hby at_193 rfl ?_
       refine fY X140 hx hby at_195 (pc' := 202) (XT.i0_ge_t (by decide : ¬ (3 : Int32) < (0 : Int32))) (by decide) ?_
       refine iB X140 hx hby at_202 rfl ?_
       refine iT X140 hx hby at_204 (l' := #[(vI p0), (vI p1), (vI p2), (vI p3), (vI p4), (vI p5), (vI 5), (vR b35), (vR b118), (vR b134), (vR r136), (vI 0), (vI 5), (vI 3), (vI 3)]) rfl ?_
       exact tail3 (5 : Int32) (0 : Int32) (5 : Int32) (3 : Int32) b35 k35 b118 b134 r136 dg kdg (X140.more (by decide) (by decide)) q140 N140 f136_0 hS136 f136_2 hZ136 hown136 f136_1 f136_4 f136_6 ESg CSg VSg ATg
theorem comes_1 {Post : Tables → Env → Array Value → State → Outcome → State → Prop} (hpost : ∀ tb e args s v u, (limb_1_1.after args s (.returned v) u = true ∧ limb_1_2.after args s (.returned v) u = true ∧ True) → ReturnedEndW s (.returned v) u (Jvm.fieldLocs frame_1_writes args s ++ Jvm.arrayLocs frame_1_arrays args s ++ Jvm.staticLocs frame_1_statics s) 32 4288 → Post tb e args s (.returned v) u) :
   ArmFor flags0 classFile x code maxLocals ret World_1 tables_1 room_1 Calls_1 rest_1 Pre_1 Post := by
 intro l hfl _ _ p e ha hc hk s m args below hf hA hF happ hP
 obtain ⟨hcalls, hrest, hpre⟩ := hP
 obtain ⟨-, -, -, hnamed, -, -, -, hat⟩ := (Spec.applies_iff hf).mp happ
 obtain ⟨hg, hn⟩ := and_e (Cond.before_iff.mp (show (Jvm.Cond.and given_1 narrow_1).before args s = true from hpre))
 obtain ⟨hg_0, hg_1⟩ := and_e hg
 obtain ⟨hg_2, hg_3⟩ := and_e hg_1
 obtain ⟨hg_4, hg_5⟩ := and_e hg_3
 obtain ⟨hg_6, hg_7⟩ := and_e hg_5
 obtain ⟨hg_8, hg_9⟩ := and_e hg_7
 obtain ⟨hg_10, hg_11⟩ := and_e hg_9
 obtain ⟨w0, w1, w2, w3, w4, w5, rfl⟩ : ∃ w0 w1 w2 w3 w4 w5 : Value, args = #[w0, w1, w2, w3, w4, w5] := by
   have hs : args.size = 6 := by simpa [Cond.value, given_1] using hg_0
   obtain ⟨L⟩ := args
   match L, hs with
   | [w0, w1, w2, w3, w4, w5], _ => exact ⟨w0, w1, w2, w3, w4, w5, rfl⟩
 have hw := fun d (hd : d ∈ tables_1) => atoms_spec (ws := Jvm.Cond.code x code maxLocals ret :: tables_1) hat d (List.mem_cons_of_mem _ hd)
 have hfit : Fit s := fun {y c} hc i hi => by
   obtain ⟨ha, rfl⟩ := Array.getElem?_eq_some_iff.mp hc
   have q := List.all_eq_true.mp ((Array.all_eq_true_iff_forall_mem.mp hF) _ (Array.getElem_mem ha)) i (List.mem_range.mpr hi)
   simpa [Array.getElem?_eq_getElem hi] using q
 obtain ⟨i0, ei0⟩ := is_v hg_2
 obtain rfl : w0 = (.int i0) := Option.some.inj ei0
 obtain ⟨i1, ei1⟩ := is_v hg_4
 obtain rfl : w1 = (.int i1) := Option.some.inj ei1
 obtain ⟨i2, ei2⟩ := is_v hg_6
 obtain rfl : w2 = (.int i2) := Option.some.inj ei2
 obtain ⟨i3, ei3⟩ := is_v hg_8
 obtain rfl : w3 = (.int i3) := Option.some.inj ei3
 obtain ⟨i4, ei4⟩ := is_v hg_10
 obtain rfl : w4 = (.int i4) := Option.some.inj ei4
 obtain ⟨i5, ei5⟩ := is_v hg_11
 obtain rfl : w5 = (.int i5) := Option.some.inj ei5
 obtain ⟨hsets, hown0⟩ := atoms_of _ (rest_1_c_eq ▸ (show rest_1_c.before _ s = true from hrest))
 obtain ⟨cs, evc⟩ := is_v (Cond.before_iff.mp (hsets _ (List.mem_of_getElem? (i := 1) rfl)))
 have Scs := Sta.start evc (Or.inl (hsets _ (List.mem_of_getElem? (i := 0) rfl)))
 have hcw : Jvm.Lit.compactW.before _ s = true := (hsets _ (List.mem_of_getElem? (i := 2) rfl))
 have hcs : ¬ cs = (0 : Int32) := by
   intro q
   have z := Cond.before_iff.mp hcw
   rw [q] at evc
   simp [Jvm.Lit.compactW, Cond.value, evc, Term.int_eval] at z
 obtain ⟨fm, evf, hfm⟩ := isR_v (Cond.before_iff.mp (hsets _ (List.mem_of_getElem? (i := 8) rfl)))
 have Sfm := Sta.start evf (Or.inl (hsets _ (List.mem_of_getElem? (i := 7) rfl)))
 have hEL := own_hEL hw
 have hCH : CHv s own_EL s.vm s.heap := CHv.start hEL (fun q hq => hcalls.1 q hq) hcw (tw_20 hw) (tw_7 hw)
 obtain ⟨n, o, h1, h2, h3, _, L, rfl, ⟨rfl, N⟩, -, hq⟩ := rm_law l s _ hw hEL tables_1 i0 i1 i2 i3 i4 i5 cs fm s.heap s.heap.size (Nat.le_refl _) (Old.start s) Scs hcs Sfm hfm p e ha hc hk s m _ below hf ((Spec.applies_iff_loose hf).mp happ).1 ⟨rfl, State.Warmed39.refl s, rfl, hCH, fun _ q => nomatch q⟩ trivial
 refine ⟨n, _, h1, h2, h3, hpost _ _ _ _ _ _ ⟨Cond.after_iff.mpr rfl, Cond.after_iff.mpr (eq_i res_at (Term.int_eval (1)) rfl), trivial⟩ ⟨hq.1, hq.2.1, hq.2.2.1, (hq.2.2.2.sift fun y hy => Or.inr (N y hy)).mono (by decide) (by decide)⟩⟩
theorem main_1_1 : Claimed_1_1 := comes_1 fun _ _ _ _ _ _ h hF => ⟨h.1, hF⟩
theorem main_1_2 : Claimed_1_2 := comes_1 fun _ _ _ _ _ _ h hF => ⟨h.2.1, hF⟩
end Jvm.Pilot.@@N@@
namespace Jvm.Pilot.@@N@@
open Jvm Jvm.ClassFile Sem Op Lib Jvm.Free Jvm.Stand Jvm.Pilot.@@N@@.Jvm.D
/-! MADE BY PROGRAM (witnessworld.py) out of the Statement's table words and the real class files: 25 classes; the members and pool entries that the words name. The judged class is class 1, her method 1. -/
namespace start1
open Jvm.ClassFile
def u (s : String) : CpInfo := .utf8 (stringToUtf16 s)
/-- a pool by its gaps: so many unusable entries, then the entry; so many at the end -/
def gap : Nat → List CpInfo → List CpInfo
  | 0, r => r
  | n + 1, r => .unusable :: gap n r
def poolList (es : List (Nat × CpInfo)) (last : Nat) : List CpInfo := es.foldr (fun e r => gap e.1 (e.2 :: r)) (gap last [])
def pool (es : List (Nat × CpInfo)) (last : Nat) : Array CpInfo := ⟨poolList es last⟩
def fileOf (pool : Array CpInfo) (this : Nat) (attrs : Array Attribute := #[]) (ms : Array MethodInfo := #[]) (fl : Nat := 33) (sup : Nat := 0) (ifs : Array Nat := #[]) (fds : Array FieldInfo := #[]) : ClassFile where
  minorVersion := 0
  majorVersion := 65
  constantPool := pool
  accessFlags := fl
  thisClass := this
  superClass := sup
  interfaces := ifs
  fields := fds
  methods := ms
  attributes := attrs
def plain (name : String) (sup : Option ClassId) : Class where
  name := name
  kind := .ordinary
  loader := none
  accessFlags := 33
  super := sup
  interfaces := #[]
  cf := none
  fields := #[]
  methods := #[]
  instanceTypes := #[]
  staticTypes := #[]
  resolved := #[]
  callSites := []
  init := .initialized
  statics := none
  mirror := none

def pool0 : Array CpInfo := pool [(5, u "<init>"), (0, u "()V"), (1, .class_ 10), (1, u "java/lang/Object")] 113

def k0c0 : Code := { maxStack := 0, maxLocals := 1, code := object_method_1_code, exceptionTable := #[], attributes := #[] }
def k0m0 : Method := { name := "<init>", desc := "()V", sig := { parameters := [], returnType := none }, accessFlags := 1, code := some k0c0 }
/-- java/lang/Object -/
def k0 : Class := { plain "java/lang/Object" none with
  accessFlags := 33
  interfaces := #[]
  cf := some (fileOf pool0 8 #[] #[{ accessFlags := 1, nameIndex := 5, descriptorIndex := 6, attributes := #[] }] 33 0 #[] #[])
  fields := #[]
  methods := #[k0m0]
  instanceTypes := #[]
  staticTypes := #[]
  resolved := Array.replicate 124 none
  statics := none }

def pool1 : Array CpInfo := pool [(2, .class_ 4), (1, u "java/lang/Object"), (0, u "<init>"), (0, u "()V"), (0, .integer 2147483647), (0, .methodref 9 10), (0, .class_ 11), (0, .nameAndType 12 13), (0, u "jarkeep/source/SourceDirectoryOfPinLaw"), (0, u "pick"), (0, u "(I)C"), (0, .class_ 15), (0, u "java/lang/String"), (0, .methodref 14 17), (0, .nameAndType 5 18), (0, u "([C)V"), (0, .interfaceMethodref 20 21), (0, .class_ 22), (0, .nameAndType 23 24), (0, u "jarkeep/source/Source"), (0, u "directoryOf"), (0, u "(Ljava/lang/String;)Ljava/lang/String;"), (0, .methodref 9 26), (0, .nameAndType 27 28), (0, u "lastSlash"), (0, u "([CI)I"), (0, .methodref 14 30), (0, .nameAndType 31 32), (0, u "length"), (0, u "()I"), (0, .methodref 9 34), (0, .nameAndType 35 36), (0, u "agree"), (0, u "(Ljava/lang/String;[CII)Z"), (0, .methodref 14 38), (0, .nameAndType 39 13), (0, u "charAt"), (2, u "law"), (0, u "(IIIIII)Z")] 5

def k1m0 : Method := { name := "<init>", desc := "()V", sig := { parameters := [], returnType := none }, accessFlags := 1, code := none }
def k1c1 : Code := { maxStack := 4, maxLocals := 15, code := code, exceptionTable := #[], attributes := #[] }
def k1m1 : Method := { name := "law", desc := "(IIIIII)Z", sig := { parameters := [.int, .int, .int, .int, .int, .int], returnType := some .boolean }, accessFlags := 9, code := some k1c1 }
def k1c2 : Code := { maxStack := 2, maxLocals := 1, code := method_3_code, exceptionTable := #[], attributes := #[] }
def k1m2 : Method := { name := "pick", desc := "(I)C", sig := { parameters := [.int], returnType := some .char }, accessFlags := 10, code := some k1c2 }
def k1c3 : Code := { maxStack := 2, maxLocals := 2, code := method_4_code, exceptionTable := #[], attributes := #[] }
def k1m3 : Method := { name := "lastSlash", desc := "([CI)I", sig := { parameters := [(.array .char), .int], returnType := some .int }, accessFlags := 10, code := some k1c3 }
def k1c4 : Code := { maxStack := 3, maxLocals := 4, code := method_5_code, exceptionTable := #[], attributes := #[] }
def k1m4 : Method := { name := "agree", desc := "(Ljava/lang/String;[CII)Z", sig := { parameters := [(.object "java/lang/String"), (.array .char), .int, .int], returnType := some .boolean }, accessFlags := 10, code := some k1c4 }
/-- jarkeep/source/SourceDirectoryOfPinLaw -/
def k1 : Class := { plain "jarkeep/source/SourceDirectoryOfPinLaw" (some 0) with
  accessFlags := 49
  interfaces := #[]
  cf := some (fileOf pool1 9 #[] #[{ accessFlags := 1, nameIndex := 5, descriptorIndex := 6, attributes := #[] }, { accessFlags := 9, nameIndex := 42, descriptorIndex := 43, attributes := #[] }, { accessFlags := 10, nameIndex := 12, descriptorIndex := 13, attributes := #[] }, { accessFlags := 10, nameIndex := 27, descriptorIndex := 28, attributes := #[] }, { accessFlags := 10, nameIndex := 35, descriptorIndex := 36, attributes := #[] }] 49 2 #[] #[])
  fields := #[]
  methods := #[k1m0, k1m1, k1m2, k1m3, k1m4]
  instanceTypes := #[]
  staticTypes := #[]
  resolved := Array.replicate 49 none
  statics := none }

def pool2 : Array CpInfo := pool [(1, .class_ 2), (0, u "java/io/Serializable"), (0, .class_ 4), (0, u "java/lang/Object")] 2

/-- java/io/Serializable -/
def k2 : Class := { plain "java/io/Serializable" (some 0) with
  accessFlags := 1537
  interfaces := #[]
  cf := some (fileOf pool2 1 #[] #[] 1537 3 #[] #[])
  fields := #[]
  methods := #[]
  instanceTypes := #[]
  staticTypes := #[]
  resolved := Array.replicate 7 none
  statics := none }

def pool3 : Array CpInfo := pool [(1, .class_ 2), (0, u "java/lang/Comparable"), (0, .class_ 4), (0, u "java/lang/Object")] 7

/-- java/lang/Comparable -/
def k3 : Class := { plain "java/lang/Comparable" (some 0) with
  accessFlags := 1537
  interfaces := #[]
  cf := some (fileOf pool3 1 #[] #[] 1537 3 #[] #[])
  fields := #[]
  methods := #[]
  instanceTypes := #[]
  staticTypes := #[]
  resolved := Array.replicate 12 none
  statics := none }

def pool4 : Array CpInfo := pool [(2, .class_ 4), (1, u "java/lang/CharSequence"), (42, .class_ 48), (0, u "java/lang/CharSequence$1CodePointIterator"), (10, .class_ 60), (0, u "java/lang/CharSequence$1CharIterator"), (5, .class_ 67), (0, u "java/lang/Object")] 63

/-- java/lang/CharSequence -/
def k4 : Class := { plain "java/lang/CharSequence" (some 0) with
  accessFlags := 1537
  interfaces := #[]
  cf := some (fileOf pool4 2 #[.nestMembers #[47, 59]] #[] 1537 66 #[] #[])
  fields := #[]
  methods := #[]
  instanceTypes := #[]
  staticTypes := #[]
  resolved := Array.replicate 131 none
  statics := none }

def pool5 : Array CpInfo := pool [(1, .class_ 2), (0, u "java/lang/constant/Constable"), (0, .class_ 4), (0, u "java/lang/Object")] 6

/-- java/lang/constant/Constable -/
def k5 : Class := { plain "java/lang/constant/Constable" (some 0) with
  accessFlags := 1537
  interfaces := #[]
  cf := some (fileOf pool5 1 #[] #[] 1537 3 #[] #[])
  fields := #[]
  methods := #[]
  instanceTypes := #[]
  staticTypes := #[]
  resolved := Array.replicate 11 none
  statics := none }

def pool6 : Array CpInfo := pool [(1, .class_ 2), (0, u "java/lang/constant/ConstantDesc"), (0, .class_ 4), (0, u "java/lang/Object")] 32

/-- java/lang/constant/ConstantDesc -/
def k6 : Class := { plain "java/lang/constant/ConstantDesc" (some 0) with
  accessFlags := 1537
  interfaces := #[]
  cf := some (fileOf pool6 1 #[] #[] 1537 3 #[] #[])
  fields := #[]
  methods := #[]
  instanceTypes := #[]
  staticTypes := #[]
  resolved := Array.replicate 37 none
  statics := none }

def pool7 : Array CpInfo := pool [(1, .methodref 2 3), (0, .class_ 4), (0, .nameAndType 5 6), (0, u "java/lang/Object"), (0, u "<init>"), (0, u "()V"), (0, .string 8), (0, u ""), (0, .fieldref 10 11), (0, .class_ 12), (0, .nameAndType 13 14), (0, u "java/lang/String"), (0, u "value"), (0, u "[B"), (0, .fieldref 10 16), (0, .nameAndType 17 18), (0, u "coder"), (0, u "B"), (2, u "hash"), (0, u "I"), (2, u "hashIsZero"), (0, u "Z"), (0, .methodref 10 28), (0, .nameAndType 5 29), (0, u "([CIILjava/lang/Void;)V"), (8, .fieldref 10 39), (0, .nameAndType 40 26), (0, u "COMPACT_STRINGS"), (1, .class_ 44), (1, u "java/lang/StringUTF16"), (0, u "compress"), (1, .methodref 42 48), (0, .nameAndType 49 50), (0, u "coderFromArrayLen"), (0, u "([BI)B"), (46, u "([BII)I"), (9, .class_ 109), (1, u "java/lang/StringLatin1"), (32, u "()Z"), (34, .methodref 42 178), (0, .nameAndType 45 179), (0, u "([CII)[B"), (31, u "([BB)V"), (122, u "()I"), (0, .methodref 10 336), (0, .nameAndType 17 337), (0, u "()B"), (25, u "([BI)C"), (12, u "([BI[BII)I"), (14, u "(II)V"), (35, u "(I)C"), (64, .methodref 10 493), (0, .nameAndType 494 142), (0, u "isLatin1"), (0, .methodref 107 496), (0, .nameAndType 497 363), (0, u "charAt"), (3, u "checkIndex"), (3, .methodref 10 506), (0, .nameAndType 507 334), (0, u "length"), (5, u "checkFromToIndex"), (7, .methodref 10 522), (0, .nameAndType 523 524), (0, u "checkBoundsBeginEnd"), (0, u "(III)V"), (34, .class_ 561), (1, u "jdk/internal/util/ArraysSupport"), (0, u "mismatch"), (12, .class_ 576), (0, u "java/lang/CharSequence"), (22, u "CASE_INSENSITIVE_ORDER"), (0, u "Ljava/util/Comparator;"), (6, .methodref 559 608), (0, .nameAndType 562 376), (15, .methodref 10 625), (0, .nameAndType 626 627), (0, u "startsWith"), (0, u "(Ljava/lang/String;I)Z"), (8, u "(II)I"), (6, u "lastIndexOf"), (0, .methodref 107 645), (0, .nameAndType 643 97), (37, u "substring"), (0, u "(II)Ljava/lang/String;"), (0, .methodref 107 686), (0, .nameAndType 687 688), (0, u "newString"), (0, u "([BII)Ljava/lang/String;"), (321, u "([C)V"), (42, .fieldref 1054 1055), (0, .class_ 1056), (0, .nameAndType 1057 1058), (0, u "jdk/internal/util/Preconditions"), (0, u "SIOOBE_FORMATTER"), (0, u "Ljava/util/function/BiFunction;"), (0, .methodref 1054 1060), (0, .nameAndType 501 1061), (0, u "(IILjava/util/function/BiFunction;)I"), (0, .methodref 1054 1063), (0, .nameAndType 513 1064), (0, u "(IIILjava/util/function/BiFunction;)I"), (36, u "serialPersistentFields"), (0, u "[Ljava/io/ObjectStreamField;"), (0, .class_ 1104), (0, u "java/lang/String$CaseInsensitiveComparator"), (1, .class_ 1107), (0, u "java/io/Serializable"), (0, .class_ 1109), (0, u "java/lang/Comparable"), (0, .class_ 1111), (0, u "java/lang/constant/Constable"), (0, .class_ 1113), (0, u "java/lang/constant/ConstantDesc"), (2, u "serialVersionUID"), (0, u "J"), (3, u "REPL"), (0, u "C"), (2, u "LATIN1"), (1, u "UTF16"), (129, u "(Ljava/lang/String;)Z"), (14, u "endsWith")] 178

def k7m0 : Method := { name := "<init>", desc := "()V", sig := { parameters := [], returnType := none }, accessFlags := 1, code := none }
def k7c1 : Code := { maxStack := 5, maxLocals := 2, code := jdk_42_method_3_code, exceptionTable := #[], attributes := #[] }
def k7m1 : Method := { name := "<init>", desc := "([C)V", sig := { parameters := [(.array .char)], returnType := none }, accessFlags := 1, code := some k7c1 }
def k7c2 : Code := { maxStack := 2, maxLocals := 1, code := jdk_42_method_54_code, exceptionTable := #[], attributes := #[] }
def k7m2 : Method := { name := "length", desc := "()I", sig := { parameters := [], returnType := some .int }, accessFlags := 1, code := some k7c2 }
def k7c3 : Code := { maxStack := 2, maxLocals := 2, code := jdk_42_method_56_code, exceptionTable := #[], attributes := #[] }
def k7m3 : Method := { name := "charAt", desc := "(I)C", sig := { parameters := [.int], returnType := some .char }, accessFlags := 1, code := some k7c3 }
def k7c4 : Code := { maxStack := 5, maxLocals := 8, code := jdk_42_method_75_code, exceptionTable := #[], attributes := #[] }
def k7m4 : Method := { name := "startsWith", desc := "(Ljava/lang/String;I)Z", sig := { parameters := [(.object "java/lang/String"), .int], returnType := some .boolean }, accessFlags := 1, code := some k7c4 }
def k7c5 : Code := { maxStack := 4, maxLocals := 2, code := jdk_42_method_77_code, exceptionTable := #[], attributes := #[] }
def k7m5 : Method := { name := "endsWith", desc := "(Ljava/lang/String;)Z", sig := { parameters := [(.object "java/lang/String")], returnType := some .boolean }, accessFlags := 1, code := some k7c5 }
def k7c6 : Code := { maxStack := 3, maxLocals := 3, code := jdk_42_method_83_code, exceptionTable := #[], attributes := #[] }
def k7m6 : Method := { name := "lastIndexOf", desc := "(II)I", sig := { parameters := [.int, .int], returnType := some .int }, accessFlags := 1, code := some k7c6 }
def k7c7 : Code := { maxStack := 3, maxLocals := 5, code := jdk_42_method_92_code, exceptionTable := #[], attributes := #[] }
def k7m7 : Method := { name := "substring", desc := "(II)Ljava/lang/String;", sig := { parameters := [.int, .int], returnType := some (.object "java/lang/String") }, accessFlags := 1, code := some k7c7 }
def k7c8 : Code := { maxStack := 4, maxLocals := 6, code := jdk_42_method_149_code, exceptionTable := #[], attributes := #[] }
def k7m8 : Method := { name := "<init>", desc := "([CIILjava/lang/Void;)V", sig := { parameters := [(.array .char), .int, .int, (.object "java/lang/Void")], returnType := none }, accessFlags := 2, code := some k7c8 }
def k7c9 : Code := { maxStack := 2, maxLocals := 3, code := jdk_42_method_151_code, exceptionTable := #[], attributes := #[] }
def k7m9 : Method := { name := "<init>", desc := "([BB)V", sig := { parameters := [(.array .byte), .byte], returnType := none }, accessFlags := 0, code := some k7c9 }
def k7c10 : Code := { maxStack := 1, maxLocals := 1, code := jdk_42_method_152_code, exceptionTable := #[], attributes := #[] }
def k7m10 : Method := { name := "coder", desc := "()B", sig := { parameters := [], returnType := some .byte }, accessFlags := 0, code := some k7c10 }
def k7c11 : Code := { maxStack := 1, maxLocals := 1, code := jdk_42_method_154_code, exceptionTable := #[], attributes := #[] }
def k7m11 : Method := { name := "isLatin1", desc := "()Z", sig := { parameters := [], returnType := some .boolean }, accessFlags := 0, code := some k7c11 }
def k7c12 : Code := { maxStack := 3, maxLocals := 2, code := jdk_42_method_155_code, exceptionTable := #[], attributes := #[] }
def k7m12 : Method := { name := "checkIndex", desc := "(II)V", sig := { parameters := [.int, .int], returnType := none }, accessFlags := 8, code := some k7c12 }
def k7c13 : Code := { maxStack := 4, maxLocals := 3, code := jdk_42_method_158_code, exceptionTable := #[], attributes := #[] }
def k7m13 : Method := { name := "checkBoundsBeginEnd", desc := "(III)V", sig := { parameters := [.int, .int, .int], returnType := none }, accessFlags := 8, code := some k7c13 }
/-- java/lang/String -/
def k7 : Class := { plain "java/lang/String" (some 0) with
  accessFlags := 49
  interfaces := #[2, 3, 4, 5, 6]
  cf := some (fileOf pool7 10 #[.nestMembers #[1103]] #[{ accessFlags := 1, nameIndex := 5, descriptorIndex := 6, attributes := #[] }, { accessFlags := 1, nameIndex := 5, descriptorIndex := 1010, attributes := #[] }, { accessFlags := 1, nameIndex := 507, descriptorIndex := 334, attributes := #[] }, { accessFlags := 1, nameIndex := 497, descriptorIndex := 427, attributes := #[] }, { accessFlags := 1, nameIndex := 626, descriptorIndex := 627, attributes := #[] }, { accessFlags := 1, nameIndex := 1272, descriptorIndex := 1257, attributes := #[] }, { accessFlags := 1, nameIndex := 643, descriptorIndex := 636, attributes := #[] }, { accessFlags := 1, nameIndex := 683, descriptorIndex := 684, attributes := #[] }, { accessFlags := 2, nameIndex := 5, descriptorIndex := 29, attributes := #[] }, { accessFlags := 0, nameIndex := 5, descriptorIndex := 211, attributes := #[] }, { accessFlags := 0, nameIndex := 17, descriptorIndex := 337, attributes := #[] }, { accessFlags := 0, nameIndex := 494, descriptorIndex := 142, attributes := #[] }, { accessFlags := 8, nameIndex := 501, descriptorIndex := 391, attributes := #[] }, { accessFlags := 8, nameIndex := 523, descriptorIndex := 524, attributes := #[] }] 49 2 #[1106, 1108, 575, 1110, 1112] #[{ accessFlags := 18, nameIndex := 13, descriptorIndex := 14, attributes := #[] }, { accessFlags := 18, nameIndex := 17, descriptorIndex := 18, attributes := #[] }, { accessFlags := 2, nameIndex := 21, descriptorIndex := 22, attributes := #[] }, { accessFlags := 2, nameIndex := 25, descriptorIndex := 26, attributes := #[] }, { accessFlags := 26, nameIndex := 1116, descriptorIndex := 1117, attributes := #[] }, { accessFlags := 24, nameIndex := 40, descriptorIndex := 26, attributes := #[] }, { accessFlags := 26, nameIndex := 1101, descriptorIndex := 1102, attributes := #[] }, { accessFlags := 26, nameIndex := 1121, descriptorIndex := 1122, attributes := #[] }, { accessFlags := 25, nameIndex := 599, descriptorIndex := 600, attributes := #[] }, { accessFlags := 24, nameIndex := 1125, descriptorIndex := 18, attributes := #[] }, { accessFlags := 24, nameIndex := 1127, descriptorIndex := 18, attributes := #[] }])
  fields := #[{ name := "value", type := (.array .byte), accessFlags := 18, slot := 0, constantValue := 0 }, { name := "coder", type := .byte, accessFlags := 18, slot := 1, constantValue := 0 }, { name := "hash", type := .int, accessFlags := 2, slot := 2, constantValue := 0 }, { name := "hashIsZero", type := .boolean, accessFlags := 2, slot := 3, constantValue := 0 }, { name := "serialVersionUID", type := .long, accessFlags := 26, slot := 0, constantValue := 0 }, { name := "COMPACT_STRINGS", type := .boolean, accessFlags := 24, slot := 1, constantValue := 0 }, { name := "serialPersistentFields", type := (.array (.object "java/io/ObjectStreamField")), accessFlags := 26, slot := 2, constantValue := 0 }, { name := "REPL", type := .char, accessFlags := 26, slot := 3, constantValue := 0 }, { name := "CASE_INSENSITIVE_ORDER", type := (.object "java/util/Comparator"), accessFlags := 25, slot := 4, constantValue := 0 }, { name := "LATIN1", type := .byte, accessFlags := 24, slot := 5, constantValue := 0 }, { name := "UTF16", type := .byte, accessFlags := 24, slot := 6, constantValue := 0 }]
  methods := #[k7m0, k7m1, k7m2, k7m3, k7m4, k7m5, k7m6, k7m7, k7m8, k7m9, k7m10, k7m11, k7m12, k7m13]
  instanceTypes := #[(.array .byte), .byte, .int, .boolean]
  staticTypes := #[.long, .boolean, (.array (.object "java/io/ObjectStreamField")), .char, (.object "java/util/Comparator"), .byte, .byte]
  resolved := Array.replicate 1451 none
  statics := some 0 }

def pool8 : Array CpInfo := pool [(1, .class_ 2), (0, u "java/lang/AutoCloseable"), (0, .class_ 4), (0, u "java/lang/Object")] 7

/-- java/lang/AutoCloseable -/
def k8 : Class := { plain "java/lang/AutoCloseable" (some 0) with
  accessFlags := 1537
  interfaces := #[]
  cf := some (fileOf pool8 1 #[] #[] 1537 3 #[] #[])
  fields := #[]
  methods := #[]
  instanceTypes := #[]
  staticTypes := #[]
  resolved := Array.replicate 12 none
  statics := none }

def pool9 : Array CpInfo := pool [(1, .class_ 2), (0, u "java/io/Closeable"), (0, .class_ 4), (0, u "java/lang/Object"), (0, .class_ 6), (0, u "java/lang/AutoCloseable")] 7

/-- java/io/Closeable -/
def k9 : Class := { plain "java/io/Closeable" (some 0) with
  accessFlags := 1537
  interfaces := #[8]
  cf := some (fileOf pool9 1 #[] #[] 1537 3 #[5] #[])
  fields := #[]
  methods := #[]
  instanceTypes := #[]
  staticTypes := #[]
  resolved := Array.replicate 14 none
  statics := none }

def pool10 : Array CpInfo := pool [(1, .string 2), (0, u "/"), (0, .methodref 4 5), (0, .class_ 6), (0, .nameAndType 7 8), (0, u "java/lang/String"), (0, u "endsWith"), (0, u "(Ljava/lang/String;)Z"), (0, .methodref 4 10), (0, .nameAndType 11 12), (0, u "length"), (0, u "()I"), (0, .methodref 4 14), (0, .nameAndType 15 16), (0, u "lastIndexOf"), (0, u "(II)I"), (0, .string 18), (0, u ""), (0, .methodref 4 20), (0, .nameAndType 21 22), (0, u "substring"), (0, u "(II)Ljava/lang/String;"), (16, .class_ 40), (0, u "java/io/Closeable"), (10, .class_ 52), (0, u "jarkeep/source/Source"), (0, .class_ 54), (0, u "java/lang/Object"), (17, u "directoryOf"), (0, u "(Ljava/lang/String;)Ljava/lang/String;"), (9, .class_ 84), (0, u "jarkeep/source/Source$Content")] 7

def k10c0 : Code := { maxStack := 4, maxLocals := 3, code := prog_42_method_9_code, exceptionTable := #[], attributes := #[] }
def k10m0 : Method := { name := "directoryOf", desc := "(Ljava/lang/String;)Ljava/lang/String;", sig := { parameters := [(.object "java/lang/String")], returnType := some (.object "java/lang/String") }, accessFlags := 9, code := some k10c0 }
/-- jarkeep/source/Source -/
def k10 : Class := { plain "jarkeep/source/Source" (some 0) with
  accessFlags := 1537
  interfaces := #[9]
  cf := some (fileOf pool10 51 #[.nestMembers #[83]] #[{ accessFlags := 9, nameIndex := 72, descriptorIndex := 73, attributes := #[] }] 1537 53 #[39] #[])
  fields := #[]
  methods := #[k10m0]
  instanceTypes := #[]
  staticTypes := #[]
  resolved := Array.replicate 92 none
  statics := none }

def pool11 : Array CpInfo := pool [(1, .class_ 2), (0, u "java/lang/String"), (1, .class_ 6), (1, u "java/lang/Object"), (0, u "<init>"), (0, u "()V"), (0, .methodref 1 10), (0, .nameAndType 11 12), (0, u "checkIndex"), (0, u "(II)V"), (1, .class_ 16), (1, u "java/lang/StringLatin1"), (21, .methodref 39 40), (0, .class_ 41), (0, .nameAndType 42 43), (0, u "java/lang/Math"), (0, u "min"), (0, u "(II)I"), (9, u "([BI)C"), (34, .methodref 14 89), (0, .nameAndType 90 91), (0, u "canEncode"), (0, u "(I)Z"), (20, .methodref 1 113), (0, .nameAndType 7 114), (0, u "([BB)V"), (6, u "$assertionsDisabled"), (0, u "Z"), (8, .class_ 133), (1, u "java/util/Arrays"), (17, .string 152), (0, u ""), (43, u "newString"), (0, u "([BII)Ljava/lang/String;"), (23, .class_ 223), (1, u "java/lang/StringLatin1$LinesSpliterator"), (8, .methodref 131 233), (0, .nameAndType 234 235), (0, u "copyOfRange"), (0, u "([BII)[B"), (16, u "charAt"), (8, u "([BII)I"), (47, u "lastIndexOf"), (80, .class_ 391), (0, u "java/lang/StringLatin1$CharsSpliterator")] 3

def k11m0 : Method := { name := "<init>", desc := "()V", sig := { parameters := [], returnType := none }, accessFlags := 0, code := none }
def k11c1 : Code := { maxStack := 2, maxLocals := 2, code := jdk_43_method_2_code, exceptionTable := #[], attributes := #[] }
def k11m1 : Method := { name := "charAt", desc := "([BI)C", sig := { parameters := [(.array .byte), .int], returnType := some .char }, accessFlags := 9, code := some k11c1 }
def k11c2 : Code := { maxStack := 2, maxLocals := 1, code := jdk_43_method_4_code, exceptionTable := #[], attributes := #[] }
def k11m2 : Method := { name := "canEncode", desc := "(I)Z", sig := { parameters := [.int], returnType := some .boolean }, accessFlags := 9, code := some k11c2 }
def k11c3 : Code := { maxStack := 3, maxLocals := 4, code := jdk_43_method_27_code, exceptionTable := #[], attributes := #[] }
def k11m3 : Method := { name := "lastIndexOf", desc := "([BII)I", sig := { parameters := [(.array .byte), .int, .int], returnType := some .int }, accessFlags := 9, code := some k11c3 }
def k11c4 : Code := { maxStack := 6, maxLocals := 3, code := jdk_43_method_47_code, exceptionTable := #[], attributes := #[] }
def k11m4 : Method := { name := "newString", desc := "([BII)Ljava/lang/String;", sig := { parameters := [(.array .byte), .int, .int], returnType := some (.object "java/lang/String") }, accessFlags := 9, code := some k11c4 }
/-- java/lang/StringLatin1 -/
def k11 : Class := { plain "java/lang/StringLatin1" (some 0) with
  accessFlags := 48
  interfaces := #[]
  cf := some (fileOf pool11 14 #[.nestMembers #[390, 221]] #[{ accessFlags := 0, nameIndex := 7, descriptorIndex := 8, attributes := #[] }, { accessFlags := 9, nameIndex := 252, descriptorIndex := 53, attributes := #[] }, { accessFlags := 9, nameIndex := 90, descriptorIndex := 91, attributes := #[] }, { accessFlags := 9, nameIndex := 309, descriptorIndex := 261, attributes := #[] }, { accessFlags := 9, nameIndex := 196, descriptorIndex := 197, attributes := #[] }] 48 4 #[] #[{ accessFlags := 4120, nameIndex := 121, descriptorIndex := 122, attributes := #[] }])
  fields := #[{ name := "$assertionsDisabled", type := .boolean, accessFlags := 4120, slot := 0, constantValue := 0 }]
  methods := #[k11m0, k11m1, k11m2, k11m3, k11m4]
  instanceTypes := #[]
  staticTypes := #[.boolean]
  resolved := Array.replicate 395 none
  statics := none }

def pool12 : Array CpInfo := pool [(1, .class_ 2), (0, u "java/lang/Math"), (1, .class_ 6), (1, u "java/lang/Object"), (0, u "<init>"), (0, u "()V"), (89, .class_ 100), (1, u "java/lang/Math$RandomNumberGeneratorHolder"), (71, u "negativeZeroFloatBits"), (0, u "J"), (2, u "negativeZeroDoubleBits"), (24, u "min"), (43, u "$assertionsDisabled"), (0, u "Z"), (88, u "(II)I"), (2, u "twoToTheDoubleScaleDown"), (0, u "D"), (4, u "twoToTheDoubleScaleUp"), (9, u "E"), (3, u "PI"), (2, u "TAU"), (2, u "DEGREES_TO_RADIANS"), (0, u "RADIANS_TO_DEGREES")] 94

def k12m0 : Method := { name := "<init>", desc := "()V", sig := { parameters := [], returnType := none }, accessFlags := 2, code := none }
def k12c1 : Code := { maxStack := 2, maxLocals := 2, code := jdk_29_method_69_code, exceptionTable := #[], attributes := #[] }
def k12m1 : Method := { name := "min", desc := "(II)I", sig := { parameters := [.int, .int], returnType := some .int }, accessFlags := 9, code := some k12c1 }
/-- java/lang/Math -/
def k12 : Class := { plain "java/lang/Math" (some 0) with
  accessFlags := 49
  interfaces := #[]
  cf := some (fileOf pool12 1 #[.nestMembers #[98]] #[{ accessFlags := 2, nameIndex := 7, descriptorIndex := 8, attributes := #[] }, { accessFlags := 9, nameIndex := 201, descriptorIndex := 335, attributes := #[] }] 49 4 #[] #[{ accessFlags := 25, nameIndex := 354, descriptorIndex := 339, attributes := #[] }, { accessFlags := 25, nameIndex := 358, descriptorIndex := 339, attributes := #[] }, { accessFlags := 25, nameIndex := 361, descriptorIndex := 339, attributes := #[] }, { accessFlags := 26, nameIndex := 364, descriptorIndex := 339, attributes := #[] }, { accessFlags := 26, nameIndex := 365, descriptorIndex := 339, attributes := #[] }, { accessFlags := 26, nameIndex := 172, descriptorIndex := 173, attributes := #[] }, { accessFlags := 26, nameIndex := 176, descriptorIndex := 173, attributes := #[] }, { accessFlags := 8, nameIndex := 344, descriptorIndex := 339, attributes := #[] }, { accessFlags := 8, nameIndex := 338, descriptorIndex := 339, attributes := #[] }, { accessFlags := 4120, nameIndex := 245, descriptorIndex := 246, attributes := #[] }])
  fields := #[{ name := "E", type := .double, accessFlags := 25, slot := 0, constantValue := 0 }, { name := "PI", type := .double, accessFlags := 25, slot := 1, constantValue := 0 }, { name := "TAU", type := .double, accessFlags := 25, slot := 2, constantValue := 0 }, { name := "DEGREES_TO_RADIANS", type := .double, accessFlags := 26, slot := 3, constantValue := 0 }, { name := "RADIANS_TO_DEGREES", type := .double, accessFlags := 26, slot := 4, constantValue := 0 }, { name := "negativeZeroFloatBits", type := .long, accessFlags := 26, slot := 5, constantValue := 0 }, { name := "negativeZeroDoubleBits", type := .long, accessFlags := 26, slot := 6, constantValue := 0 }, { name := "twoToTheDoubleScaleUp", type := .double, accessFlags := 8, slot := 7, constantValue := 0 }, { name := "twoToTheDoubleScaleDown", type := .double, accessFlags := 8, slot := 8, constantValue := 0 }, { name := "$assertionsDisabled", type := .boolean, accessFlags := 4120, slot := 9, constantValue := 0 }]
  methods := #[k12m0, k12m1]
  instanceTypes := #[]
  staticTypes := #[.double, .double, .double, .double, .double, .long, .long, .double, .double, .boolean]
  resolved := Array.replicate 460 none
  statics := none }

def pool13 : Array CpInfo := pool [(6, .class_ 8), (1, u "java/lang/Object"), (0, u "<init>"), (0, u "()V"), (1, .class_ 14), (1, u "java/lang/StringUTF16"), (31, u "$assertionsDisabled"), (0, u "Z"), (13, u "HI_BYTE_SHIFT"), (0, u "I"), (2, u "LO_BYTE_SHIFT"), (49, .methodref 12 116), (0, .nameAndType 117 118), (0, u "compress"), (0, u "([CI[BII)I"), (3, u "([CII)[B"), (138, u "coderFromArrayLen"), (0, u "([BI)B"), (106, .class_ 371), (1, u "java/lang/StringUTF16$LinesSpliterator"), (58, u "MAX_LENGTH"), (196, .class_ 628), (0, u "java/lang/StringUTF16$CodePointsSpliterator"), (0, .class_ 630), (0, u "java/lang/StringUTF16$CharsSpliterator")] 4

def k13m0 : Method := { name := "<init>", desc := "()V", sig := { parameters := [], returnType := none }, accessFlags := 0, code := none }
def k13c1 : Code := { maxStack := 2, maxLocals := 2, code := jdk_52_method_15_code, exceptionTable := #[], attributes := #[] }
def k13m1 : Method := { name := "coderFromArrayLen", desc := "([BI)B", sig := { parameters := [(.array .byte), .int], returnType := some .byte }, accessFlags := 8, code := some k13c1 }
def k13c2 : Code := { maxStack := 5, maxLocals := 6, code := jdk_52_method_16_code, exceptionTable := #[], attributes := #[] }
def k13m2 : Method := { name := "compress", desc := "([CII)[B", sig := { parameters := [(.array .char), .int, .int], returnType := some (.array .byte) }, accessFlags := 9, code := some k13c2 }
def k13c3 : Code := { maxStack := 3, maxLocals := 7, code := jdk_52_method_21_code, exceptionTable := #[], attributes := #[] }
def k13m3 : Method := { name := "compress", desc := "([CI[BII)I", sig := { parameters := [(.array .char), .int, (.array .byte), .int, .int], returnType := some .int }, accessFlags := 9, code := some k13c3 }
/-- java/lang/StringUTF16 -/
def k13 : Class := { plain "java/lang/StringUTF16" (some 0) with
  accessFlags := 48
  interfaces := #[]
  cf := some (fileOf pool13 12 #[.nestMembers #[627, 629, 369]] #[{ accessFlags := 0, nameIndex := 9, descriptorIndex := 10, attributes := #[] }, { accessFlags := 8, nameIndex := 261, descriptorIndex := 262, attributes := #[] }, { accessFlags := 9, nameIndex := 117, descriptorIndex := 122, attributes := #[] }, { accessFlags := 9, nameIndex := 117, descriptorIndex := 118, attributes := #[] }] 48 6 #[] #[{ accessFlags := 26, nameIndex := 61, descriptorIndex := 62, attributes := #[] }, { accessFlags := 26, nameIndex := 65, descriptorIndex := 62, attributes := #[] }, { accessFlags := 24, nameIndex := 430, descriptorIndex := 62, attributes := #[] }, { accessFlags := 4120, nameIndex := 46, descriptorIndex := 47, attributes := #[] }])
  fields := #[{ name := "HI_BYTE_SHIFT", type := .int, accessFlags := 26, slot := 0, constantValue := 0 }, { name := "LO_BYTE_SHIFT", type := .int, accessFlags := 26, slot := 1, constantValue := 0 }, { name := "MAX_LENGTH", type := .int, accessFlags := 24, slot := 2, constantValue := 0 }, { name := "$assertionsDisabled", type := .boolean, accessFlags := 4120, slot := 3, constantValue := 0 }]
  methods := #[k13m0, k13m1, k13m2, k13m3]
  instanceTypes := #[]
  staticTypes := #[.int, .int, .int, .boolean]
  resolved := Array.replicate 635 none
  statics := none }

def pool14 : Array CpInfo := pool [(9, u "<init>"), (6, .class_ 18), (1, u "java/lang/Object"), (0, u "()V"), (1, .class_ 23), (1, u "jdk/internal/util/ArraysSupport"), (0, u "LOG2_ARRAY_LONG_INDEX_SCALE"), (0, u "I"), (2, u "U"), (0, u "Ljdk/internal/misc/Unsafe;"), (8, u "BIG_ENDIAN"), (0, u "Z"), (8, u "LOG2_BYTE_BIT_SIZE"), (4, u "LOG2_ARRAY_INT_INDEX_SCALE"), (54, u "JLA"), (0, u "Ljdk/internal/access/JavaLangAccess;"), (11, u "LOG2_ARRAY_BOOLEAN_INDEX_SCALE"), (9, u "LOG2_ARRAY_BYTE_INDEX_SCALE"), (5, u "LOG2_ARRAY_CHAR_INDEX_SCALE"), (5, u "LOG2_ARRAY_SHORT_INDEX_SCALE"), (5, u "mismatch"), (12, u "LOG2_ARRAY_FLOAT_INDEX_SCALE"), (24, u "LOG2_ARRAY_DOUBLE_INDEX_SCALE"), (89, u "T_BOOLEAN"), (2, u "T_CHAR"), (1, u "T_FLOAT"), (1, u "T_DOUBLE"), (1, u "T_BYTE"), (1, u "T_SHORT"), (1, u "T_INT"), (1, u "T_LONG"), (1, u "SOFT_MAX_ARRAY_LENGTH"), (42, u "([BI[BII)I")] 40

def k14m0 : Method := { name := "<init>", desc := "()V", sig := { parameters := [], returnType := none }, accessFlags := 2, code := none }
def k14c1 : Code := { maxStack := 8, maxLocals := 8, code := jdk_48_method_14_code, exceptionTable := #[], attributes := #[] }
def k14m1 : Method := { name := "mismatch", desc := "([BI[BII)I", sig := { parameters := [(.array .byte), .int, (.array .byte), .int, .int], returnType := some .int }, accessFlags := 9, code := some k14c1 }
/-- jdk/internal/util/ArraysSupport -/
def k14 : Class := { plain "jdk/internal/util/ArraysSupport" (some 0) with
  accessFlags := 33
  interfaces := #[]
  cf := some (fileOf pool14 21 #[] #[{ accessFlags := 2, nameIndex := 9, descriptorIndex := 19, attributes := #[] }, { accessFlags := 9, nameIndex := 149, descriptorIndex := 337, attributes := #[] }] 33 16 #[] #[{ accessFlags := 24, nameIndex := 28, descriptorIndex := 29, attributes := #[] }, { accessFlags := 26, nameIndex := 38, descriptorIndex := 39, attributes := #[] }, { accessFlags := 25, nameIndex := 121, descriptorIndex := 25, attributes := #[] }, { accessFlags := 25, nameIndex := 131, descriptorIndex := 25, attributes := #[] }, { accessFlags := 25, nameIndex := 137, descriptorIndex := 25, attributes := #[] }, { accessFlags := 25, nameIndex := 143, descriptorIndex := 25, attributes := #[] }, { accessFlags := 25, nameIndex := 53, descriptorIndex := 25, attributes := #[] }, { accessFlags := 25, nameIndex := 24, descriptorIndex := 25, attributes := #[] }, { accessFlags := 25, nameIndex := 162, descriptorIndex := 25, attributes := #[] }, { accessFlags := 25, nameIndex := 187, descriptorIndex := 25, attributes := #[] }, { accessFlags := 26, nameIndex := 48, descriptorIndex := 25, attributes := #[] }, { accessFlags := 25, nameIndex := 277, descriptorIndex := 25, attributes := #[] }, { accessFlags := 25, nameIndex := 280, descriptorIndex := 25, attributes := #[] }, { accessFlags := 25, nameIndex := 282, descriptorIndex := 25, attributes := #[] }, { accessFlags := 25, nameIndex := 284, descriptorIndex := 25, attributes := #[] }, { accessFlags := 25, nameIndex := 286, descriptorIndex := 25, attributes := #[] }, { accessFlags := 25, nameIndex := 288, descriptorIndex := 25, attributes := #[] }, { accessFlags := 25, nameIndex := 290, descriptorIndex := 25, attributes := #[] }, { accessFlags := 25, nameIndex := 292, descriptorIndex := 25, attributes := #[] }, { accessFlags := 26, nameIndex := 108, descriptorIndex := 109, attributes := #[] }, { accessFlags := 25, nameIndex := 294, descriptorIndex := 25, attributes := #[] }])
  fields := #[{ name := "U", type := (.object "jdk/internal/misc/Unsafe"), accessFlags := 24, slot := 0, constantValue := 0 }, { name := "BIG_ENDIAN", type := .boolean, accessFlags := 26, slot := 1, constantValue := 0 }, { name := "LOG2_ARRAY_BOOLEAN_INDEX_SCALE", type := .int, accessFlags := 25, slot := 2, constantValue := 0 }, { name := "LOG2_ARRAY_BYTE_INDEX_SCALE", type := .int, accessFlags := 25, slot := 3, constantValue := 0 }, { name := "LOG2_ARRAY_CHAR_INDEX_SCALE", type := .int, accessFlags := 25, slot := 4, constantValue := 0 }, { name := "LOG2_ARRAY_SHORT_INDEX_SCALE", type := .int, accessFlags := 25, slot := 5, constantValue := 0 }, { name := "LOG2_ARRAY_INT_INDEX_SCALE", type := .int, accessFlags := 25, slot := 6, constantValue := 0 }, { name := "LOG2_ARRAY_LONG_INDEX_SCALE", type := .int, accessFlags := 25, slot := 7, constantValue := 0 }, { name := "LOG2_ARRAY_FLOAT_INDEX_SCALE", type := .int, accessFlags := 25, slot := 8, constantValue := 0 }, { name := "LOG2_ARRAY_DOUBLE_INDEX_SCALE", type := .int, accessFlags := 25, slot := 9, constantValue := 0 }, { name := "LOG2_BYTE_BIT_SIZE", type := .int, accessFlags := 26, slot := 10, constantValue := 0 }, { name := "T_BOOLEAN", type := .int, accessFlags := 25, slot := 11, constantValue := 0 }, { name := "T_CHAR", type := .int, accessFlags := 25, slot := 12, constantValue := 0 }, { name := "T_FLOAT", type := .int, accessFlags := 25, slot := 13, constantValue := 0 }, { name := "T_DOUBLE", type := .int, accessFlags := 25, slot := 14, constantValue := 0 }, { name := "T_BYTE", type := .int, accessFlags := 25, slot := 15, constantValue := 0 }, { name := "T_SHORT", type := .int, accessFlags := 25, slot := 16, constantValue := 0 }, { name := "T_INT", type := .int, accessFlags := 25, slot := 17, constantValue := 0 }, { name := "T_LONG", type := .int, accessFlags := 25, slot := 18, constantValue := 0 }, { name := "JLA", type := (.object "jdk/internal/access/JavaLangAccess"), accessFlags := 26, slot := 19, constantValue := 0 }, { name := "SOFT_MAX_ARRAY_LENGTH", type := .int, accessFlags := 25, slot := 20, constantValue := 0 }]
  methods := #[k14m0, k14m1]
  instanceTypes := #[]
  staticTypes := #[(.object "jdk/internal/misc/Unsafe"), .boolean, .int, .int, .int, .int, .int, .int, .int, .int, .int, .int, .int, .int, .int, .int, .int, .int, .int, (.object "jdk/internal/access/JavaLangAccess"), .int]
  resolved := Array.replicate 378 none
  statics := none }

def pool15 : Array CpInfo := pool [(2, .class_ 4), (1, u "java/lang/Object"), (0, u "<init>"), (0, u "()V"), (17, .class_ 26), (1, u "jdk/internal/util/Preconditions"), (6, u "checkIndex"), (13, u "checkFromToIndex"), (7, .class_ 56), (0, u "jdk/internal/util/Preconditions$4"), (57, .class_ 115), (0, u "jdk/internal/util/Preconditions$1"), (7, u "SIOOBE_FORMATTER"), (0, u "Ljava/util/function/BiFunction;"), (0, .class_ 126), (0, u "jdk/internal/util/Preconditions$2"), (3, u "AIOOBE_FORMATTER"), (0, .class_ 132), (0, u "jdk/internal/util/Preconditions$3"), (3, u "IOOBE_FORMATTER"), (41, u "(IILjava/util/function/BiFunction;)I"), (4, u "(IIILjava/util/function/BiFunction;)I")] 10

def k15m0 : Method := { name := "<init>", desc := "()V", sig := { parameters := [], returnType := none }, accessFlags := 1, code := none }
def k15c1 : Code := { maxStack := 3, maxLocals := 3, code := jdk_41_method_11_code, exceptionTable := #[], attributes := #[] }
def k15m1 : Method := { name := "checkIndex", desc := "(IILjava/util/function/BiFunction;)I", sig := { parameters := [.int, .int, (.object "java/util/function/BiFunction")], returnType := some .int }, accessFlags := 9, code := some k15c1 }
def k15c2 : Code := { maxStack := 4, maxLocals := 4, code := jdk_41_method_12_code, exceptionTable := #[], attributes := #[] }
def k15m2 : Method := { name := "checkFromToIndex", desc := "(IIILjava/util/function/BiFunction;)I", sig := { parameters := [.int, .int, .int, (.object "java/util/function/BiFunction")], returnType := some .int }, accessFlags := 9, code := some k15c2 }
/-- jdk/internal/util/Preconditions -/
def k15 : Class := { plain "jdk/internal/util/Preconditions" (some 0) with
  accessFlags := 33
  interfaces := #[]
  cf := some (fileOf pool15 24 #[.nestMembers #[55, 131, 125, 114]] #[{ accessFlags := 1, nameIndex := 5, descriptorIndex := 6, attributes := #[] }, { accessFlags := 9, nameIndex := 33, descriptorIndex := 178, attributes := #[] }, { accessFlags := 9, nameIndex := 47, descriptorIndex := 183, attributes := #[] }] 33 2 #[] #[{ accessFlags := 25, nameIndex := 123, descriptorIndex := 124, attributes := #[] }, { accessFlags := 25, nameIndex := 130, descriptorIndex := 124, attributes := #[] }, { accessFlags := 25, nameIndex := 136, descriptorIndex := 124, attributes := #[] }])
  fields := #[{ name := "SIOOBE_FORMATTER", type := (.object "java/util/function/BiFunction"), accessFlags := 25, slot := 0, constantValue := 0 }, { name := "AIOOBE_FORMATTER", type := (.object "java/util/function/BiFunction"), accessFlags := 25, slot := 1, constantValue := 0 }, { name := "IOOBE_FORMATTER", type := (.object "java/util/function/BiFunction"), accessFlags := 25, slot := 2, constantValue := 0 }]
  methods := #[k15m0, k15m1, k15m2]
  instanceTypes := #[]
  staticTypes := #[(.object "java/util/function/BiFunction"), (.object "java/util/function/BiFunction"), (.object "java/util/function/BiFunction")]
  resolved := Array.replicate 194 none
  statics := some 1 }

def pool16 : Array CpInfo := pool [(2, .class_ 4), (1, u "java/lang/Object"), (0, u "<init>"), (0, u "()V"), (7, .class_ 16), (1, u "java/util/Arrays"), (57, .class_ 76), (1, u "java/util/Arrays$NaturalOrder"), (36, .class_ 115), (1, u "java/util/Arrays$LegacyMergeSort"), (1, u "Z"), (21, u "copyOfRange"), (10, .methodref 151 152), (0, .class_ 153), (0, .nameAndType 154 155), (0, u "java/lang/System"), (0, u "arraycopy"), (0, u "(Ljava/lang/Object;ILjava/lang/Object;II)V"), (148, .methodref 305 306), (0, .class_ 307), (0, .nameAndType 308 309), (0, u "java/lang/Math"), (0, u "min"), (0, u "(II)I"), (29, .methodref 14 340), (0, .nameAndType 341 342), (0, u "copyOfRangeByte"), (0, u "([BII)[B"), (0, .methodref 14 344), (0, .nameAndType 345 346), (0, u "checkLength"), (0, u "(II)V"), (28, .class_ 376), (0, u "java/util/Arrays$ArrayList"), (68, u "$assertionsDisabled"), (269, u "MIN_ARRAY_SORT_GRAN"), (0, u "I"), (2, u "INSERTIONSORT_THRESHOLD"), (255, .class_ 976), (0, u "java/util/Arrays$ArrayItr")] 52

def k16m0 : Method := { name := "<init>", desc := "()V", sig := { parameters := [], returnType := none }, accessFlags := 2, code := none }
def k16c1 : Code := { maxStack := 4, maxLocals := 2, code := jdk_65_method_131_code, exceptionTable := #[], attributes := #[] }
def k16m1 : Method := { name := "checkLength", desc := "(II)V", sig := { parameters := [.int, .int], returnType := none }, accessFlags := 10, code := some k16c1 }
def k16c2 : Code := { maxStack := 3, maxLocals := 3, code := jdk_65_method_132_code, exceptionTable := #[], attributes := #[] }
def k16m2 : Method := { name := "copyOfRange", desc := "([BII)[B", sig := { parameters := [(.array .byte), .int, .int], returnType := some (.array .byte) }, accessFlags := 9, code := some k16c2 }
def k16c3 : Code := { maxStack := 6, maxLocals := 5, code := jdk_65_method_133_code, exceptionTable := #[], attributes := #[] }
def k16m3 : Method := { name := "copyOfRangeByte", desc := "([BII)[B", sig := { parameters := [(.array .byte), .int, .int], returnType := some (.array .byte) }, accessFlags := 10, code := some k16c3 }
/-- java/util/Arrays -/
def k16 : Class := { plain "java/util/Arrays" (some 0) with
  accessFlags := 49
  interfaces := #[]
  cf := some (fileOf pool16 14 #[.nestMembers #[975, 375, 113, 74]] #[{ accessFlags := 2, nameIndex := 5, descriptorIndex := 6, attributes := #[] }, { accessFlags := 10, nameIndex := 345, descriptorIndex := 346, attributes := #[] }, { accessFlags := 9, nameIndex := 139, descriptorIndex := 342, attributes := #[] }, { accessFlags := 10, nameIndex := 341, descriptorIndex := 342, attributes := #[] }] 49 2 #[] #[{ accessFlags := 26, nameIndex := 715, descriptorIndex := 716, attributes := #[] }, { accessFlags := 26, nameIndex := 719, descriptorIndex := 716, attributes := #[] }, { accessFlags := 4120, nameIndex := 445, descriptorIndex := 117, attributes := #[] }])
  fields := #[{ name := "MIN_ARRAY_SORT_GRAN", type := .int, accessFlags := 26, slot := 0, constantValue := 0 }, { name := "INSERTIONSORT_THRESHOLD", type := .int, accessFlags := 26, slot := 1, constantValue := 0 }, { name := "$assertionsDisabled", type := .boolean, accessFlags := 4120, slot := 2, constantValue := 0 }]
  methods := #[k16m0, k16m1, k16m2, k16m3]
  instanceTypes := #[]
  staticTypes := #[.int, .int, .boolean]
  resolved := Array.replicate 1029 none
  statics := none }

def pool17 : Array CpInfo := pool [(2, .class_ 4), (1, u "java/lang/Object"), (0, u "<init>"), (0, u "()V"), (1, .class_ 10), (1, u "java/lang/System"), (0, u "allowSecurityManager"), (0, u "I"), (16, u "cons"), (0, u "Ljava/io/Console;"), (77, .class_ 110), (1, u "java/lang/System$CallersHolder"), (43, u "initialErrStream"), (0, u "Ljava/io/PrintStream;"), (19, u "security"), (0, u "Ljava/lang/SecurityManager;"), (31, .class_ 209), (0, u "java/lang/System$1"), (7, u "props"), (0, u "Ljava/util/Properties;"), (2, u "lineSeparator"), (0, u "Ljava/lang/String;"), (96, .class_ 321), (1, u "java/lang/System$LoggerFinder"), (5, .class_ 328), (0, u "java/lang/System$Logger"), (67, u "err"), (2, u "out"), (91, u "notSupportedJnuEncoding"), (15, u "in"), (17, u "initialIn"), (0, u "Ljava/io/InputStream;"), (35, u "bootLayer"), (0, u "Ljava/lang/ModuleLayer;"), (99, .class_ 664), (0, u "java/lang/System$2"), (9, u "NEVER"), (2, u "MAYBE"), (49, u "arraycopy"), (0, u "(Ljava/lang/Object;ILjava/lang/Object;II)V"), (72, .class_ 802), (0, u "java/lang/System$Logger$Level")] 31

def k17m0 : Method := { name := "<init>", desc := "()V", sig := { parameters := [], returnType := none }, accessFlags := 2, code := none }
def k17m1 : Method := { name := "arraycopy", desc := "(Ljava/lang/Object;ILjava/lang/Object;II)V", sig := { parameters := [(.object "java/lang/Object"), .int, (.object "java/lang/Object"), .int, .int], returnType := none }, accessFlags := 265, code := none }
/-- java/lang/System -/
def k17 : Class := { plain "java/lang/System" (some 0) with
  accessFlags := 49
  interfaces := #[]
  cf := some (fileOf pool17 8 #[.nestMembers #[319, 327, 801, 108, 663, 208]] #[{ accessFlags := 2, nameIndex := 5, descriptorIndex := 6, attributes := #[] }, { accessFlags := 265, nameIndex := 727, descriptorIndex := 728, attributes := #[] }] 49 2 #[] #[{ accessFlags := 25, nameIndex := 507, descriptorIndex := 526, attributes := #[] }, { accessFlags := 25, nameIndex := 399, descriptorIndex := 155, attributes := #[] }, { accessFlags := 25, nameIndex := 396, descriptorIndex := 155, attributes := #[] }, { accessFlags := 10, nameIndex := 525, descriptorIndex := 526, attributes := #[] }, { accessFlags := 26, nameIndex := 674, descriptorIndex := 12, attributes := #[] }, { accessFlags := 26, nameIndex := 677, descriptorIndex := 12, attributes := #[] }, { accessFlags := 10, nameIndex := 11, descriptorIndex := 12, attributes := #[] }, { accessFlags := 74, nameIndex := 175, descriptorIndex := 176, attributes := #[] }, { accessFlags := 10, nameIndex := 491, descriptorIndex := 222, attributes := #[] }, { accessFlags := 74, nameIndex := 29, descriptorIndex := 30, attributes := #[] }, { accessFlags := 74, nameIndex := 154, descriptorIndex := 155, attributes := #[] }, { accessFlags := 10, nameIndex := 217, descriptorIndex := 218, attributes := #[] }, { accessFlags := 10, nameIndex := 221, descriptorIndex := 222, attributes := #[] }, { accessFlags := 8, nameIndex := 562, descriptorIndex := 563, attributes := #[] }])
  fields := #[{ name := "in", type := (.object "java/io/InputStream"), accessFlags := 25, slot := 0, constantValue := 0 }, { name := "out", type := (.object "java/io/PrintStream"), accessFlags := 25, slot := 1, constantValue := 0 }, { name := "err", type := (.object "java/io/PrintStream"), accessFlags := 25, slot := 2, constantValue := 0 }, { name := "initialIn", type := (.object "java/io/InputStream"), accessFlags := 10, slot := 3, constantValue := 0 }, { name := "NEVER", type := .int, accessFlags := 26, slot := 4, constantValue := 0 }, { name := "MAYBE", type := .int, accessFlags := 26, slot := 5, constantValue := 0 }, { name := "allowSecurityManager", type := .int, accessFlags := 10, slot := 6, constantValue := 0 }, { name := "security", type := (.object "java/lang/SecurityManager"), accessFlags := 74, slot := 7, constantValue := 0 }, { name := "notSupportedJnuEncoding", type := (.object "java/lang/String"), accessFlags := 10, slot := 8, constantValue := 0 }, { name := "cons", type := (.object "java/io/Console"), accessFlags := 74, slot := 9, constantValue := 0 }, { name := "initialErrStream", type := (.object "java/io/PrintStream"), accessFlags := 74, slot := 10, constantValue := 0 }, { name := "props", type := (.object "java/util/Properties"), accessFlags := 10, slot := 11, constantValue := 0 }, { name := "lineSeparator", type := (.object "java/lang/String"), accessFlags := 10, slot := 12, constantValue := 0 }, { name := "bootLayer", type := (.object "java/lang/ModuleLayer"), accessFlags := 8, slot := 13, constantValue := 0 }]
  methods := #[k17m0, k17m1]
  instanceTypes := #[]
  staticTypes := #[(.object "java/io/InputStream"), (.object "java/io/PrintStream"), (.object "java/io/PrintStream"), (.object "java/io/InputStream"), .int, .int, .int, (.object "java/lang/SecurityManager"), (.object "java/lang/String"), (.object "java/io/Console"), (.object "java/io/PrintStream"), (.object "java/util/Properties"), (.object "java/lang/String"), (.object "java/lang/ModuleLayer")]
  resolved := Array.replicate 834 none
  statics := none }

def pool18 : Array CpInfo := pool [(1, u "java/lang/Cloneable"), (0, .class_ 1), (0, u "java/lang/Object"), (0, .class_ 3)] 3

/-- java/lang/Cloneable -/
def k18 : Class := { plain "java/lang/Cloneable" (some 0) with
  accessFlags := 1537
  interfaces := #[]
  cf := some (fileOf pool18 2 #[] #[] 1537 4 #[] #[])
  fields := #[]
  methods := #[]
  instanceTypes := #[]
  staticTypes := #[]
  resolved := Array.replicate 8 none
  statics := none }

/-- the primitive byte -/
def k19 : Class := { plain "byte" none with kind := .primitive 'B', accessFlags := 0x411 }
/-- [B -/
def k20 : Class := { plain "[B" (some 0) with kind := .array 19 .byte, interfaces := #[18, 2], accessFlags := 1041 }

/-- the primitive char -/
def k21 : Class := { plain "char" none with kind := .primitive 'C', accessFlags := 0x411 }
/-- [C -/
def k22 : Class := { plain "[C" (some 0) with kind := .array 21 .char, interfaces := #[18, 2], accessFlags := 1041 }

/-- the primitive int -/
def k23 : Class := { plain "int" none with kind := .primitive 'I', accessFlags := 0x411 }
/-- [I -/
def k24 : Class := { plain "[I" (some 0) with kind := .array 23 .int, interfaces := #[18, 2], accessFlags := 1041 }

def heap : Heap := #[{ cls := 7, slots := #[.long 0, .int 1, .null, .int 0, .null, .int 0, .int 0], vm := .statics 7 },
  { cls := 15, slots := #[.null, .null, .null], vm := .statics 15 }]
def classes : Array Class := #[k0, k1, k2, k3, k4, k5, k6, k7, k8, k9, k10, k11, k12, k13, k14, k15, k16, k17, k18, k19, k20, k21, k22, k23, k24]
def interned : List (Array UInt16 × Addr) := []
def slotsUsed : Nat := 10
def theMethod : MethodId := ⟨1, 1⟩
def args0 : Array Value := #[.int 5, .int 2, .int 1, .int 4, .int 1, .int 6]
def aboutOver (below : List Frame) : State where
  vm := { classes := classes, interned := interned.toArray }
  heap := heap
  slotsUsed := slotsUsed
  threads := #[{ frames := .invoking theMethod args0 :: below }]
def below0 : List Frame := [.native { method := ⟨0, 0⟩, args := #[] }]
def about1 : State := aboutOver below0
def p0 : Program := .bare "" "" ""
def e0 : Env := launch0.env 0 0 0
theorem w_frames : about1.frames = Frame.invoking theMethod args0 :: below0 := rfl
set_option maxRecDepth 65536 in
theorem w_args : argsFit about1.vm theMethod args0 = true := by decide +kernel
set_option maxRecDepth 65536 in
theorem w_heap : heapFits about1 = true := by decide +kernel
set_option maxRecDepth 65536 in
theorem w_runnable : about1.curStatus? = some .runnable := by decide +kernel
set_option maxRecDepth 65536 in
theorem w_alone : about1.alone = true := by decide +kernel
set_option maxRecDepth 65536 in
theorem w_named : about1.methodNamed? x = some theMethod := by decide +kernel
set_option maxRecDepth 65536 in
theorem w_hears : about1.hears theMethod below0 = true := by decide +kernel
set_option maxRecDepth 65536 in
theorem w_ripe : about1.ripe theMethod args0 below0 = true := by decide +kernel
theorem w_running : about1.status = .running := rfl
set_option maxRecDepth 65536 in
theorem w_room : about1.hasRoom e0.platform room_1 = true :=
  launch0.hasRoom_least _ room_1 (by decide +kernel) (by decide +kernel) (by decide +kernel) (by decide +kernel) (by decide +kernel) (by decide +kernel)
theorem allAtoms_all (ts : List Jvm.Cond) (a : Array Jvm.Value) (st : Jvm.State) : (allAtoms ts).before a st = ts.all (fun c => c.before a st) := by
  induction ts with
  | nil => rfl
  | cons c t ih =>
    show (Jvm.Cond.and c (allAtoms t)).before a st = _
    rw [Jvm.Cond.before_and, ih, List.all_cons]
def words1 : List Jvm.Cond := Jvm.Cond.code x code maxLocals ret :: tables_1
/-- a 'code' word, met by the world's own term for the bytes: nothing is compared byte by byte -/
theorem code_word {y : MethodName} {bytes : ByteArray} {mx : Nat} {rt : Option FieldType} {a : Array Value} {s : State} {m : MethodId} {meth : Method} {c : Code} (h1 : s.methodNamed? y = some m) (h2 : s.vm.method? m = some meth) (h3 : meth.code = some c) (h4 : c.code = bytes)
    (h5 : (c.maxLocals == mx && c.exceptionTable.isEmpty && decide (c.maxStack ≤ mostOperands) && decide (meth.sig.returnType = rt) && !meth.locks && decide (parseMethodDescriptor y.desc = some meth.sig)) = true) : (Jvm.Cond.code y bytes mx rt).before a s = true := by
  simp only [Bool.and_eq_true, beq_iff_eq, Bool.not_eq_true', decide_eq_true_eq] at h5
  obtain ⟨⟨⟨⟨⟨g1, g2⟩, g3⟩, g4⟩, g5⟩, g6⟩ := h5
  simp [Cond.before, Cond.holds, Cond.value, h1, h2, h3, h4, g1, g2, g3, g4, g5, g6]
def isCode : Jvm.Cond → Bool
  | .code _ _ _ _ => true
  | _ => false
theorem all_split {L : List Jvm.Cond} {P : Jvm.Cond → Bool} (h1 : L.all (fun c => isCode c || P c) = true) (h2 : ∀ c ∈ L.filter isCode, P c = true) : L.all P = true := by
  refine List.all_eq_true.mpr fun c hc => ?_
  have h := List.all_eq_true.mp h1 c hc
  rcases Bool.eq_false_or_eq_true (isCode c) with hi | hi
  · exact h2 c (List.mem_filter.mpr ⟨hc, hi⟩)
  · simpa [hi] using h
set_option maxRecDepth 65536 in
theorem w_c0 : (Jvm.Cond.code x code maxLocals ret).before args0 about1 = true := code_word (m := ⟨1, 1⟩) (meth := k1m1) (c := k1c1) (by decide +kernel) rfl rfl rfl (by decide +kernel)
set_option maxRecDepth 65536 in
theorem w_c1 : (Jvm.Cond.code ({ cls := "jarkeep/source/SourceDirectoryOfPinLaw", name := "pick", desc := "(I)C" } : Jvm.MethodName) method_3_code (1 : Nat) (Option.some Jvm.ClassFile.FieldType.char)).before args0 about1 = true := code_word (m := ⟨1, 2⟩) (meth := k1m2) (c := k1c2) (by decide +kernel) rfl rfl rfl (by decide +kernel)
set_option maxRecDepth 65536 in
theorem w_c2 : (Jvm.Cond.code ({ cls := "java/lang/String", name := "<init>", desc := "([C)V" } : Jvm.MethodName) jdk_42_method_3_code (2 : Nat) (Option.none : Option Jvm.ClassFile.FieldType)).before args0 about1 = true := code_word (m := ⟨7, 1⟩) (meth := k7m1) (c := k7c1) (by decide +kernel) rfl rfl rfl (by decide +kernel)
set_option maxRecDepth 65536 in
theorem w_c3 : (Jvm.Cond.code ({ cls := "java/lang/String", name := "<init>", desc := "([CIILjava/lang/Void;)V" } : Jvm.MethodName) jdk_42_method_149_code (6 : Nat) (Option.none : Option Jvm.ClassFile.FieldType)).before args0 about1 = true := code_word (m := ⟨7, 8⟩) (meth := k7m8) (c := k7c8) (by decide +kernel) rfl rfl rfl (by decide +kernel)
set_option maxRecDepth 65536 in
theorem w_c4 : (Jvm.Cond.code ({ cls := "java/lang/Object", name := "<init>", desc := "()V" } : Jvm.MethodName) object_method_1_code (1 : Nat) (Option.none : Option Jvm.ClassFile.FieldType)).before args0 about1 = true := code_word (m := ⟨0, 0⟩) (meth := k0m0) (c := k0c0) (by decide +kernel) rfl rfl rfl (by decide +kernel)
set_option maxRecDepth 65536 in
theorem w_c5 : (Jvm.Cond.code ({ cls := "jarkeep/source/Source", name := "directoryOf", desc := "(Ljava/lang/String;)Ljava/lang/String;" } : Jvm.MethodName) prog_42_method_9_code (3 : Nat) (Option.some (Jvm.ClassFile.FieldType.object "java/lang/String"))).before args0 about1 = true := code_word (m := ⟨10, 0⟩) (meth := k10m0) (c := k10c0) (by decide +kernel) rfl rfl rfl (by decide +kernel)
set_option maxRecDepth 65536 in
theorem w_c6 : (Jvm.Cond.code ({ cls := "java/lang/String", name := "endsWith", desc := "(Ljava/lang/String;)Z" } : Jvm.MethodName) jdk_42_method_77_code (2 : Nat) (Option.some Jvm.ClassFile.FieldType.boolean)).before args0 about1 = true := code_word (m := ⟨7, 5⟩) (meth := k7m5) (c := k7c5) (by decide +kernel) rfl rfl rfl (by decide +kernel)
set_option maxRecDepth 65536 in
theorem w_c7 : (Jvm.Cond.code ({ cls := "java/lang/String", name := "length", desc := "()I" } : Jvm.MethodName) jdk_42_method_54_code (1 : Nat) (Option.some Jvm.ClassFile.FieldType.int)).before args0 about1 = true := code_word (m := ⟨7, 2⟩) (meth := k7m2) (c := k7c2) (by decide +kernel) rfl rfl rfl (by decide +kernel)
set_option maxRecDepth 65536 in
theorem w_c8 : (Jvm.Cond.code ({ cls := "java/lang/String", name := "coder", desc := "()B" } : Jvm.MethodName) jdk_42_method_152_code (1 : Nat) (Option.some Jvm.ClassFile.FieldType.byte)).before args0 about1 = true := code_word (m := ⟨7, 10⟩) (meth := k7m10) (c := k7c10) (by decide +kernel) rfl rfl rfl (by decide +kernel)
set_option maxRecDepth 65536 in
theorem w_c9 : (Jvm.Cond.code ({ cls := "java/lang/String", name := "startsWith", desc := "(Ljava/lang/String;I)Z" } : Jvm.MethodName) jdk_42_method_75_code (8 : Nat) (Option.some Jvm.ClassFile.FieldType.boolean)).before args0 about1 = true := code_word (m := ⟨7, 4⟩) (meth := k7m4) (c := k7c4) (by decide +kernel) rfl rfl rfl (by decide +kernel)
set_option maxRecDepth 65536 in
theorem w_c10 : (Jvm.Cond.code ({ cls := "java/lang/String", name := "lastIndexOf", desc := "(II)I" } : Jvm.MethodName) jdk_42_method_83_code (3 : Nat) (Option.some Jvm.ClassFile.FieldType.int)).before args0 about1 = true := code_word (m := ⟨7, 6⟩) (meth := k7m6) (c := k7c6) (by decide +kernel) rfl rfl rfl (by decide +kernel)
set_option maxRecDepth 65536 in
theorem w_c11 : (Jvm.Cond.code ({ cls := "java/lang/String", name := "isLatin1", desc := "()Z" } : Jvm.MethodName) jdk_42_method_154_code (1 : Nat) (Option.some Jvm.ClassFile.FieldType.boolean)).before args0 about1 = true := code_word (m := ⟨7, 11⟩) (meth := k7m11) (c := k7c11) (by decide +kernel) rfl rfl rfl (by decide +kernel)
set_option maxRecDepth 65536 in
theorem w_c12 : (Jvm.Cond.code ({ cls := "java/lang/StringLatin1", name := "lastIndexOf", desc := "([BII)I" } : Jvm.MethodName) jdk_43_method_27_code (4 : Nat) (Option.some Jvm.ClassFile.FieldType.int)).before args0 about1 = true := code_word (m := ⟨11, 3⟩) (meth := k11m3) (c := k11c3) (by decide +kernel) rfl rfl rfl (by decide +kernel)
set_option maxRecDepth 65536 in
theorem w_c13 : (Jvm.Cond.code ({ cls := "java/lang/StringLatin1", name := "canEncode", desc := "(I)Z" } : Jvm.MethodName) jdk_43_method_4_code (1 : Nat) (Option.some Jvm.ClassFile.FieldType.boolean)).before args0 about1 = true := code_word (m := ⟨11, 2⟩) (meth := k11m2) (c := k11c2) (by decide +kernel) rfl rfl rfl (by decide +kernel)
set_option maxRecDepth 65536 in
theorem w_c14 : (Jvm.Cond.code ({ cls := "java/lang/Math", name := "min", desc := "(II)I" } : Jvm.MethodName) jdk_29_method_69_code (2 : Nat) (Option.some Jvm.ClassFile.FieldType.int)).before args0 about1 = true := code_word (m := ⟨12, 1⟩) (meth := k12m1) (c := k12c1) (by decide +kernel) rfl rfl rfl (by decide +kernel)
set_option maxRecDepth 65536 in
theorem w_c15 : (Jvm.Cond.code ({ cls := "jarkeep/source/SourceDirectoryOfPinLaw", name := "lastSlash", desc := "([CI)I" } : Jvm.MethodName) method_4_code (2 : Nat) (Option.some Jvm.ClassFile.FieldType.int)).before args0 about1 = true := code_word (m := ⟨1, 3⟩) (meth := k1m3) (c := k1c3) (by decide +kernel) rfl rfl rfl (by decide +kernel)
set_option maxRecDepth 65536 in
theorem w_c16 : (Jvm.Cond.code ({ cls := "jarkeep/source/SourceDirectoryOfPinLaw", name := "agree", desc := "(Ljava/lang/String;[CII)Z" } : Jvm.MethodName) method_5_code (4 : Nat) (Option.some Jvm.ClassFile.FieldType.boolean)).before args0 about1 = true := code_word (m := ⟨1, 4⟩) (meth := k1m4) (c := k1c4) (by decide +kernel) rfl rfl rfl (by decide +kernel)
set_option maxRecDepth 65536 in
theorem w_c17 : (Jvm.Cond.code ({ cls := "java/lang/StringUTF16", name := "compress", desc := "([CII)[B" } : Jvm.MethodName) jdk_52_method_16_code (6 : Nat) (Option.some (Jvm.ClassFile.FieldType.array Jvm.ClassFile.FieldType.byte))).before args0 about1 = true := code_word (m := ⟨13, 2⟩) (meth := k13m2) (c := k13c2) (by decide +kernel) rfl rfl rfl (by decide +kernel)
set_option maxRecDepth 65536 in
theorem w_c18 : (Jvm.Cond.code ({ cls := "java/lang/StringUTF16", name := "compress", desc := "([CI[BII)I" } : Jvm.MethodName) jdk_52_method_21_code (7 : Nat) (Option.some Jvm.ClassFile.FieldType.int)).before args0 about1 = true := code_word (m := ⟨13, 3⟩) (meth := k13m3) (c := k13c3) (by decide +kernel) rfl rfl rfl (by decide +kernel)
set_option maxRecDepth 65536 in
theorem w_c19 : (Jvm.Cond.code ({ cls := "java/lang/StringUTF16", name := "coderFromArrayLen", desc := "([BI)B" } : Jvm.MethodName) jdk_52_method_15_code (2 : Nat) (Option.some Jvm.ClassFile.FieldType.byte)).before args0 about1 = true := code_word (m := ⟨13, 1⟩) (meth := k13m1) (c := k13c1) (by decide +kernel) rfl rfl rfl (by decide +kernel)
set_option maxRecDepth 65536 in
theorem w_c20 : (Jvm.Cond.code ({ cls := "jdk/internal/util/ArraysSupport", name := "mismatch", desc := "([BI[BII)I" } : Jvm.MethodName) jdk_48_method_14_code (8 : Nat) (Option.some Jvm.ClassFile.FieldType.int)).before args0 about1 = true := code_word (m := ⟨14, 1⟩) (meth := k14m1) (c := k14c1) (by decide +kernel) rfl rfl rfl (by decide +kernel)
set_option maxRecDepth 65536 in
theorem w_c21 : (Jvm.Cond.code ({ cls := "java/lang/String", name := "substring", desc := "(II)Ljava/lang/String;" } : Jvm.MethodName) jdk_42_method_92_code (5 : Nat) (Option.some (Jvm.ClassFile.FieldType.object "java/lang/String"))).before args0 about1 = true := code_word (m := ⟨7, 7⟩) (meth := k7m7) (c := k7c7) (by decide +kernel) rfl rfl rfl (by decide +kernel)
set_option maxRecDepth 65536 in
theorem w_c22 : (Jvm.Cond.code ({ cls := "java/lang/String", name := "checkBoundsBeginEnd", desc := "(III)V" } : Jvm.MethodName) jdk_42_method_158_code (3 : Nat) (Option.none : Option Jvm.ClassFile.FieldType)).before args0 about1 = true := code_word (m := ⟨7, 13⟩) (meth := k7m13) (c := k7c13) (by decide +kernel) rfl rfl rfl (by decide +kernel)
set_option maxRecDepth 65536 in
theorem w_c23 : (Jvm.Cond.code ({ cls := "jdk/internal/util/Preconditions", name := "checkFromToIndex", desc := "(IIILjava/util/function/BiFunction;)I" } : Jvm.MethodName) jdk_41_method_12_code (4 : Nat) (Option.some Jvm.ClassFile.FieldType.int)).before args0 about1 = true := code_word (m := ⟨15, 2⟩) (meth := k15m2) (c := k15c2) (by decide +kernel) rfl rfl rfl (by decide +kernel)
set_option maxRecDepth 65536 in
theorem w_c24 : (Jvm.Cond.code ({ cls := "java/lang/StringLatin1", name := "newString", desc := "([BII)Ljava/lang/String;" } : Jvm.MethodName) jdk_43_method_47_code (3 : Nat) (Option.some (Jvm.ClassFile.FieldType.object "java/lang/String"))).before args0 about1 = true := code_word (m := ⟨11, 4⟩) (meth := k11m4) (c := k11c4) (by decide +kernel) rfl rfl rfl (by decide +kernel)
set_option maxRecDepth 65536 in
theorem w_c25 : (Jvm.Cond.code ({ cls := "java/util/Arrays", name := "copyOfRange", desc := "([BII)[B" } : Jvm.MethodName) jdk_65_method_132_code (3 : Nat) (Option.some (Jvm.ClassFile.FieldType.array Jvm.ClassFile.FieldType.byte))).before args0 about1 = true := code_word (m := ⟨16, 2⟩) (meth := k16m2) (c := k16c2) (by decide +kernel) rfl rfl rfl (by decide +kernel)
set_option maxRecDepth 65536 in
theorem w_c26 : (Jvm.Cond.code ({ cls := "java/util/Arrays", name := "copyOfRangeByte", desc := "([BII)[B" } : Jvm.MethodName) jdk_65_method_133_code (5 : Nat) (Option.some (Jvm.ClassFile.FieldType.array Jvm.ClassFile.FieldType.byte))).before args0 about1 = true := code_word (m := ⟨16, 3⟩) (meth := k16m3) (c := k16c3) (by decide +kernel) rfl rfl rfl (by decide +kernel)
set_option maxRecDepth 65536 in
theorem w_c27 : (Jvm.Cond.code ({ cls := "java/util/Arrays", name := "checkLength", desc := "(II)V" } : Jvm.MethodName) jdk_65_method_131_code (2 : Nat) (Option.none : Option Jvm.ClassFile.FieldType)).before args0 about1 = true := code_word (m := ⟨16, 1⟩) (meth := k16m1) (c := k16c1) (by decide +kernel) rfl rfl rfl (by decide +kernel)
set_option maxRecDepth 65536 in
theorem w_c28 : (Jvm.Cond.code ({ cls := "java/lang/String", name := "<init>", desc := "([BB)V" } : Jvm.MethodName) jdk_42_method_151_code (3 : Nat) (Option.none : Option Jvm.ClassFile.FieldType)).before args0 about1 = true := code_word (m := ⟨7, 9⟩) (meth := k7m9) (c := k7c9) (by decide +kernel) rfl rfl rfl (by decide +kernel)
set_option maxRecDepth 65536 in
theorem w_c29 : (Jvm.Cond.code ({ cls := "java/lang/String", name := "charAt", desc := "(I)C" } : Jvm.MethodName) jdk_42_method_56_code (2 : Nat) (Option.some Jvm.ClassFile.FieldType.char)).before args0 about1 = true := code_word (m := ⟨7, 3⟩) (meth := k7m3) (c := k7c3) (by decide +kernel) rfl rfl rfl (by decide +kernel)
set_option maxRecDepth 65536 in
theorem w_c30 : (Jvm.Cond.code ({ cls := "java/lang/StringLatin1", name := "charAt", desc := "([BI)C" } : Jvm.MethodName) jdk_43_method_2_code (2 : Nat) (Option.some Jvm.ClassFile.FieldType.char)).before args0 about1 = true := code_word (m := ⟨11, 1⟩) (meth := k11m1) (c := k11c1) (by decide +kernel) rfl rfl rfl (by decide +kernel)
set_option maxRecDepth 65536 in
theorem w_c31 : (Jvm.Cond.code ({ cls := "java/lang/String", name := "checkIndex", desc := "(II)V" } : Jvm.MethodName) jdk_42_method_155_code (2 : Nat) (Option.none : Option Jvm.ClassFile.FieldType)).before args0 about1 = true := code_word (m := ⟨7, 12⟩) (meth := k7m12) (c := k7c12) (by decide +kernel) rfl rfl rfl (by decide +kernel)
set_option maxRecDepth 65536 in
theorem w_c32 : (Jvm.Cond.code ({ cls := "jdk/internal/util/Preconditions", name := "checkIndex", desc := "(IILjava/util/function/BiFunction;)I" } : Jvm.MethodName) jdk_41_method_11_code (3 : Nat) (Option.some Jvm.ClassFile.FieldType.int)).before args0 about1 = true := code_word (m := ⟨15, 1⟩) (meth := k15m1) (c := k15c1) (by decide +kernel) rfl rfl rfl (by decide +kernel)
def codes1 : List Jvm.Cond := [Jvm.Cond.code x code maxLocals ret, Jvm.Cond.code ({ cls := "jarkeep/source/SourceDirectoryOfPinLaw", name := "pick", desc := "(I)C" } : Jvm.MethodName) method_3_code (1 : Nat) (Option.some Jvm.ClassFile.FieldType.char), Jvm.Cond.code ({ cls := "java/lang/String", name := "<init>", desc := "([C)V" } : Jvm.MethodName) jdk_42_method_3_code (2 : Nat) (Option.none : Option Jvm.ClassFile.FieldType), Jvm.Cond.code ({ cls := "java/lang/String", name := "<init>", desc := "([CIILjava/lang/Void;)V" } : Jvm.MethodName) jdk_42_method_149_code (6 : Nat) (Option.none : Option Jvm.ClassFile.FieldType), Jvm.Cond.code ({ cls := "java/lang/Object", name := "<init>", desc := "()V" } : Jvm.MethodName) object_method_1_code (1 : Nat) (Option.none : Option Jvm.ClassFile.FieldType), Jvm.Cond.code ({ cls := "jarkeep/source/Source", name := "directoryOf", desc := "(Ljava/lang/String;)Ljava/lang/String;" } : Jvm.MethodName) prog_42_method_9_code (3 : Nat) (Option.some (Jvm.ClassFile.FieldType.object "java/lang/String")), Jvm.Cond.code ({ cls := "java/lang/String", name := "endsWith", desc := "(Ljava/lang/String;)Z" } : Jvm.MethodName) jdk_42_method_77_code (2 : Nat) (Option.some Jvm.ClassFile.FieldType.boolean), Jvm.Cond.code ({ cls := "java/lang/String", name := "length", desc := "()I" } : Jvm.MethodName) jdk_42_method_54_code (1 : Nat) (Option.some Jvm.ClassFile.FieldType.int), Jvm.Cond.code ({ cls := "java/lang/String", name := "coder", desc := "()B" } : Jvm.MethodName) jdk_42_method_152_code (1 : Nat) (Option.some Jvm.ClassFile.FieldType.byte), Jvm.Cond.code ({ cls := "java/lang/String", name := "startsWith", desc := "(Ljava/lang/String;I)Z" } : Jvm.MethodName) jdk_42_method_75_code (8 : Nat) (Option.some Jvm.ClassFile.FieldType.boolean), Jvm.Cond.code ({ cls := "java/lang/String", name := "lastIndexOf", desc := "(II)I" } : Jvm.MethodName) jdk_42_method_83_code (3 : Nat) (Option.some Jvm.ClassFile.FieldType.int), Jvm.Cond.code ({ cls := "java/lang/String", name := "isLatin1", desc := "()Z" } : Jvm.MethodName) jdk_42_method_154_code (1 : Nat) (Option.some Jvm.ClassFile.FieldType.boolean), Jvm.Cond.code ({ cls := "java/lang/StringLatin1", name := "lastIndexOf", desc := "([BII)I" } : Jvm.MethodName) jdk_43_method_27_code (4 : Nat) (Option.some Jvm.ClassFile.FieldType.int), Jvm.Cond.code ({ cls := "java/lang/StringLatin1", name := "canEncode", desc := "(I)Z" } : Jvm.MethodName) jdk_43_method_4_code (1 : Nat) (Option.some Jvm.ClassFile.FieldType.boolean), Jvm.Cond.code ({ cls := "java/lang/Math", name := "min", desc := "(II)I" } : Jvm.MethodName) jdk_29_method_69_code (2 : Nat) (Option.some Jvm.ClassFile.FieldType.int), Jvm.Cond.code ({ cls := "jarkeep/source/SourceDirectoryOfPinLaw", name := "lastSlash", desc := "([CI)I" } : Jvm.MethodName) method_4_code (2 : Nat) (Option.some Jvm.ClassFile.FieldType.int), Jvm.Cond.code ({ cls := "jarkeep/source/SourceDirectoryOfPinLaw", name := "agree", desc := "(Ljava/lang/String;[CII)Z" } : Jvm.MethodName) method_5_code (4 : Nat) (Option.some Jvm.ClassFile.FieldType.boolean), Jvm.Cond.code ({ cls := "java/lang/StringUTF16", name := "compress", desc := "([CII)[B" } : Jvm.MethodName) jdk_52_method_16_code (6 : Nat) (Option.some (Jvm.ClassFile.FieldType.array Jvm.ClassFile.FieldType.byte)), Jvm.Cond.code ({ cls := "java/lang/StringUTF16", name := "compress", desc := "([CI[BII)I" } : Jvm.MethodName) jdk_52_method_21_code (7 : Nat) (Option.some Jvm.ClassFile.FieldType.int), Jvm.Cond.code ({ cls := "java/lang/StringUTF16", name := "coderFromArrayLen", desc := "([BI)B" } : Jvm.MethodName) jdk_52_method_15_code (2 : Nat) (Option.some Jvm.ClassFile.FieldType.byte), Jvm.Cond.code ({ cls := "jdk/internal/util/ArraysSupport", name := "mismatch", desc := "([BI[BII)I" } : Jvm.MethodName) jdk_48_method_14_code (8 : Nat) (Option.some Jvm.ClassFile.FieldType.int), Jvm.Cond.code ({ cls := "java/lang/String", name := "substring", desc := "(II)Ljava/lang/String;" } : Jvm.MethodName) jdk_42_method_92_code (5 : Nat) (Option.some (Jvm.ClassFile.FieldType.object "java/lang/String")), Jvm.Cond.code ({ cls := "java/lang/String", name := "checkBoundsBeginEnd", desc := "(III)V" } : Jvm.MethodName) jdk_42_method_158_code (3 : Nat) (Option.none : Option Jvm.ClassFile.FieldType), Jvm.Cond.code ({ cls := "jdk/internal/util/Preconditions", name := "checkFromToIndex", desc := "(IIILjava/util/function/BiFunction;)I" } : Jvm.MethodName) jdk_41_method_12_code (4 : Nat) (Option.some Jvm.ClassFile.FieldType.int), Jvm.Cond.code ({ cls := "java/lang/StringLatin1", name := "newString", desc := "([BII)Ljava/lang/String;" } : Jvm.MethodName) jdk_43_method_47_code (3 : Nat) (Option.some (Jvm.ClassFile.FieldType.object "java/lang/String")), Jvm.Cond.code ({ cls := "java/util/Arrays", name := "copyOfRange", desc := "([BII)[B" } : Jvm.MethodName) jdk_65_method_132_code (3 : Nat) (Option.some (Jvm.ClassFile.FieldType.array Jvm.ClassFile.FieldType.byte)), Jvm.Cond.code ({ cls := "java/util/Arrays", name := "copyOfRangeByte", desc := "([BII)[B" } : Jvm.MethodName) jdk_65_method_133_code (5 : Nat) (Option.some (Jvm.ClassFile.FieldType.array Jvm.ClassFile.FieldType.byte)), Jvm.Cond.code ({ cls := "java/util/Arrays", name := "checkLength", desc := "(II)V" } : Jvm.MethodName) jdk_65_method_131_code (2 : Nat) (Option.none : Option Jvm.ClassFile.FieldType), Jvm.Cond.code ({ cls := "java/lang/String", name := "<init>", desc := "([BB)V" } : Jvm.MethodName) jdk_42_method_151_code (3 : Nat) (Option.none : Option Jvm.ClassFile.FieldType), Jvm.Cond.code ({ cls := "java/lang/String", name := "charAt", desc := "(I)C" } : Jvm.MethodName) jdk_42_method_56_code (2 : Nat) (Option.some Jvm.ClassFile.FieldType.char), Jvm.Cond.code ({ cls := "java/lang/StringLatin1", name := "charAt", desc := "([BI)C" } : Jvm.MethodName) jdk_43_method_2_code (2 : Nat) (Option.some Jvm.ClassFile.FieldType.char), Jvm.Cond.code ({ cls := "java/lang/String", name := "checkIndex", desc := "(II)V" } : Jvm.MethodName) jdk_42_method_155_code (2 : Nat) (Option.none : Option Jvm.ClassFile.FieldType), Jvm.Cond.code ({ cls := "jdk/internal/util/Preconditions", name := "checkIndex", desc := "(IILjava/util/function/BiFunction;)I" } : Jvm.MethodName) jdk_41_method_11_code (3 : Nat) (Option.some Jvm.ClassFile.FieldType.int)]
set_option maxRecDepth 65536 in
theorem codes_eq : words1.filter isCode = codes1 := rfl
theorem w_codes : ∀ c ∈ words1.filter isCode, c.before args0 about1 = true := by
  rw [codes_eq]
  intro c hc
  simp only [codes1, List.mem_cons, List.not_mem_nil, or_false] at hc
  rcases hc with rfl | rfl | rfl | rfl | rfl | rfl | rfl | rfl | rfl | rfl | rfl | rfl | rfl | rfl | rfl | rfl | rfl | rfl | rfl | rfl | rfl | rfl | rfl | rfl | rfl | rfl | rfl | rfl | rfl | rfl | rfl | rfl | rfl
  · exact w_c0
  · exact w_c1
  · exact w_c2
  · exact w_c3
  · exact w_c4
  · exact w_c5
  · exact w_c6
  · exact w_c7
  · exact w_c8
  · exact w_c9
  · exact w_c10
  · exact w_c11
  · exact w_c12
  · exact w_c13
  · exact w_c14
  · exact w_c15
  · exact w_c16
  · exact w_c17
  · exact w_c18
  · exact w_c19
  · exact w_c20
  · exact w_c21
  · exact w_c22
  · exact w_c23
  · exact w_c24
  · exact w_c25
  · exact w_c26
  · exact w_c27
  · exact w_c28
  · exact w_c29
  · exact w_c30
  · exact w_c31
  · exact w_c32
set_option maxRecDepth 65536 in
theorem w_t1 : (words1.take 24).all (fun c => isCode c || c.before args0 about1) = true := by decide +kernel
set_option maxRecDepth 65536 in
theorem w_t2 : ((words1.drop 24).take 24).all (fun c => isCode c || c.before args0 about1) = true := by decide +kernel
set_option maxRecDepth 65536 in
theorem w_t3 : (((words1.drop 24).drop 24).take 24).all (fun c => isCode c || c.before args0 about1) = true := by decide +kernel
set_option maxRecDepth 65536 in
theorem w_t4 : ((((words1.drop 24).drop 24).drop 24).take 24).all (fun c => isCode c || c.before args0 about1) = true := by decide +kernel
set_option maxRecDepth 65536 in
theorem w_t5 : (((((words1.drop 24).drop 24).drop 24).drop 24).take 24).all (fun c => isCode c || c.before args0 about1) = true := by decide +kernel
set_option maxRecDepth 65536 in
theorem w_t6 : ((((((words1.drop 24).drop 24).drop 24).drop 24).drop 24).take 24).all (fun c => isCode c || c.before args0 about1) = true := by decide +kernel
set_option maxRecDepth 65536 in
theorem w_t7 : ((((((words1.drop 24).drop 24).drop 24).drop 24).drop 24).drop 24).all (fun c => isCode c || c.before args0 about1) = true := by decide +kernel
theorem w_tables : (allAtoms (Jvm.Cond.code x code maxLocals ret :: tables_1)).before args0 about1 = true := by
  rw [allAtoms_all]
  show words1.all (fun c => c.before args0 about1) = true
  refine all_split ?_ w_codes
  rw [← List.take_append_drop 24 words1, List.all_append, w_t1, ← List.take_append_drop 24 (words1.drop 24), List.all_append, w_t2, ← List.take_append_drop 24 ((words1.drop 24).drop 24), List.all_append, w_t3, ← List.take_append_drop 24 (((words1.drop 24).drop 24).drop 24), List.all_append, w_t4, ← List.take_append_drop 24 ((((words1.drop 24).drop 24).drop 24).drop 24), List.all_append, w_t5, ← List.take_append_drop 24 (((((words1.drop 24).drop 24).drop 24).drop 24).drop 24), List.all_append, w_t6, w_t7]
  rfl
set_option maxRecDepth 65536 in
theorem w_rest : rest_1_c.before args0 about1 = true := by decide +kernel
set_option maxRecDepth 65536 in
theorem w_case : (Jvm.Cond.and given_1 narrow_1).before args0 about1 = true := by decide +kernel
set_option maxRecDepth 65536 in
theorem w_consts : constsHeld consts_1 about1 := Jvm.Lit.constsHeldB_iff.mp (by decide +kernel)
theorem w_applies : (headSpec (Jvm.Cond.code x code maxLocals ret :: tables_1) room_1).applies x e0.platform about1 = true :=
  (Spec.applies_iff w_frames).mpr ⟨w_running, w_runnable, w_alone, w_named, w_hears, w_ripe, w_room, w_tables⟩
theorem atStart : AtStart classFile x code maxLocals ret World_1 tables_1 room_1 Calls_1 rest_1 Pre_1 launch0 p0 e0 about1 theMethod args0 below0 :=
  ⟨lists_1, trivial, launch0.admits_env _ _ _, launch0.least_env, fairChoices_fair.cas, fairChoices_fair.clock, w_frames, w_args, w_heap, w_applies, ⟨w_consts, trivial⟩, w_rest, w_case⟩
end start1
theorem witness_1 : WitnessClaimed_1 := ⟨start1.p0, start1.e0, start1.about1, start1.theMethod, start1.args0, start1.below0, start1.atStart⟩
end Jvm.Pilot.@@N@@
