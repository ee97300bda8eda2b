import JvmDerived
import JvmDerived.Pilot.@@N@@Statement
import JvmDerived.Pilot.@@N@@Code
set_option linter.unusedVariables false
set_option linter.unusedSimpArgs false
@@BLOCK:NumsL.lean.txt@@
namespace Jvm.RoadKit
open Sem ClassFile Op Lib Jvm.Stand Jvm.Free Jvm.LawKit
section New
variable {p : Program} {l : Launch} {e : Env} {R : Room} {s : State} {m : MethodId} {args : Array Value} {below : List Frame} {meth : Method} {c : Code} {T : State} {locs : List Loc} {cells slots : Nat}
theorem retI (X : Stand p l e R s m args below meth c T locs cells slots) (hx : p.tables.exec = Jvm.exec) {pc : Nat} {Ls : Array Slot} {z : Int32} {rest : List Value} (hret : meth.sig.returnType = some .int) (hd : decode c.code pc = .ok (.ireturn, 1)) {fs : List Frame}
    (hl : ∀ (f : JFrame) (acts : List Action), f.method = m → f.locked = none → f.entered = [] → (doReturn e (T.setTop f) acts (some (.int z))).1 = T.setFrames fs) : Steps p.tables e below (T.setTop (mkF m pc Ls (.int z :: rest))) (T.setFrames fs) := by
  have hm' : T.vm.method? m = some meth := X.method'
  have hn : narrow .int (.int z) = .int z := rfl
  show Steps p.tables e below (T.setTop { method := m, pc := pc, locals := Ls, stack := _ :: rest, locked := none }) _
  jvm_step X.here [X.here.top, hx, hd, hm', hret, hn]
  first | (intro acts; rw [hl _ acts rfl rfl rfl]) | rw [hl _ _ rfl rfl rfl]
  exact Steps.refl _
end New
end Jvm.RoadKit
namespace Jvm.Pilot.@@N@@
open Jvm Jvm.ClassFile Sem Op Lib Jvm.Free Jvm.Stand Jvm.LawKit Jvm.RoadKit Bundle Jvm.Pilot.@@N@@.Jvm.D
theorem own_lcLt {x y : Int64} : lcmpW x y < 0 ↔ x < y := by rw [lcW]; exact lc_lt x y
theorem own_lcGt {x y : Int64} : 0 < lcmpW x y ↔ y < x := by rw [lcW]; exact lc_gt x y
theorem own_lcEq {x y : Int64} : lcmpW x y = 0 ↔ x = y := by rw [lcW]; exact lc_eq x y
abbrev vI (x : Int32) : Slot := .val (.int x)
abbrev vJ (x : Int64) : Slot := .val (.long x)
abbrev vR (x : Addr) : Slot := .val (.ref x)
abbrev vD (x : UInt64) : Slot := .val (.double x)
abbrev u_ : Slot := .unset
abbrev s_ : Slot := .second
abbrev SS (p : Program) (e : Env) (b : List Frame) (m : MethodId) (T : State) (n : Nat) (L : Array Slot) (S : List Value) (t : State) : Prop := Steps p.tables e b (T.setTop (mkF m n L S)) t
theorem gm (i : Nat) {l : List Jvm.Cond} {d : Jvm.Cond} (h : l[i]? = some d) : d ∈ l := List.mem_of_getElem? h
theorem ga (i : Nat) {l : List Addr} {d : Addr} (h : l[i]? = some d) : d ∈ l := List.mem_of_getElem? h
section Short
variable {p : Program} {l : Launch} {e : Env} {R : Room} {s : State} {m : MethodId} {args : Array Value} {below : List Frame} {meth : Method} {c : Code} {T : State} {locs : List Loc} {cells slots : Nat} {bn : ByteArray} {pc : Nat} {L l' : Array Slot} {S : List Value} {target : State}
theorem ziload (X : Stand p l e R s m args below meth c T locs cells slots) (hx : p.tables.exec = Jvm.exec) (hby : c.code = bn) {k : Nat} {v : Int32} (hd : decode bn pc = .ok (.iload k, 2)) (hl : L[k]? = some (.val (.int v))) (hr : Steps p.tables e below (T.setTop (mkF m (pc + 2) L (.int v :: S))) target) : Steps p.tables e below (T.setTop (mkF m pc L S)) target := XS.iload X.here hx rfl (hb hby hd) hl hr
theorem zistore (X : Stand p l e R s m args below meth c T locs cells slots) (hx : p.tables.exec = Jvm.exec) (hby : c.code = bn) {k : Nat} {x : Int32} (hd : decode bn pc = .ok (.istore k, 2)) (hl : storeLocals L k (.int x) = some l') (hr : Steps p.tables e below (T.setTop (mkF m (pc + 2) l' S)) target) : Steps p.tables e below (T.setTop (mkF m pc L (.int x :: S))) target := XS.istore X.here hx rfl (hb hby hd) rfl hl hr
theorem ziloadN (X : Stand p l e R s m args below meth c T locs cells slots) (hx : p.tables.exec = Jvm.exec) (hby : c.code = bn) {k : Fin 4} {v : Int32} (hd : decode bn pc = .ok (.iload_n k, 1)) (hl : L[k.val]? = some (.val (.int v))) (hr : Steps p.tables e below (T.setTop (mkF m (pc + 1) L (.int v :: S))) target) : Steps p.tables e below (T.setTop (mkF m pc L S)) target := XS.iloadN X.here hx rfl (hb hby hd) hl hr
theorem zistoreN (X : Stand p l e R s m args below meth c T locs cells slots) (hx : p.tables.exec = Jvm.exec) (hby : c.code = bn) {k : Fin 4} {x : Int32} (hd : decode bn pc = .ok (.istore_n k, 1)) (hl : storeLocals L k.val (.int x) = some l') (hr : Steps p.tables e below (T.setTop (mkF m (pc + 1) l' S)) target) : Steps p.tables e below (T.setTop (mkF m pc L (.int x :: S))) target := XS.istoreN X.here hx rfl (hb hby hd) rfl hl hr
theorem zlload (X : Stand p l e R s m args below meth c T locs cells slots) (hx : p.tables.exec = Jvm.exec) (hby : c.code = bn) {k : Nat} {v : Int64} (hd : decode bn pc = .ok (.lload k, 2)) (hl : L[k]? = some (.val (.long v))) (hr : Steps p.tables e below (T.setTop (mkF m (pc + 2) L (.long v :: S))) target) : Steps p.tables e below (T.setTop (mkF m pc L S)) target := XS.lload X.here hx rfl (hb hby hd) hl hr
theorem zlstore (X : Stand p l e R s m args below meth c T locs cells slots) (hx : p.tables.exec = Jvm.exec) (hby : c.code = bn) {k : Nat} {x : Int64} (hd : decode bn pc = .ok (.lstore k, 2)) (hl : storeLocals L k (.long x) = some l') (hr : Steps p.tables e below (T.setTop (mkF m (pc + 2) l' S)) target) : Steps p.tables e below (T.setTop (mkF m pc L (.long x :: S))) target := XS.lstore X.here hx rfl (hb hby hd) rfl hl hr
theorem zlloadN (X : Stand p l e R s m args below meth c T locs cells slots) (hx : p.tables.exec = Jvm.exec) (hby : c.code = bn) {k : Fin 4} {v : Int64} (hd : decode bn pc = .ok (.lload_n k, 1)) (hl : L[k.val]? = some (.val (.long v))) (hr : Steps p.tables e below (T.setTop (mkF m (pc + 1) L (.long v :: S))) target) : Steps p.tables e below (T.setTop (mkF m pc L S)) target := XS.lloadN X.here hx rfl (hb hby hd) hl hr
theorem zlstoreN (X : Stand p l e R s m args below meth c T locs cells slots) (hx : p.tables.exec = Jvm.exec) (hby : c.code = bn) {k : Fin 4} {x : Int64} (hd : decode bn pc = .ok (.lstore_n k, 1)) (hl : storeLocals L k.val (.long x) = some l') (hr : Steps p.tables e below (T.setTop (mkF m (pc + 1) l' S)) target) : Steps p.tables e below (T.setTop (mkF m pc L (.long x :: S))) target := XS.lstoreN X.here hx rfl (hb hby hd) rfl hl hr
theorem zdload (X : Stand p l e R s m args below meth c T locs cells slots) (hx : p.tables.exec = Jvm.exec) (hby : c.code = bn) {k : Nat} {v : UInt64} (hd : decode bn pc = .ok (.dload k, 2)) (hl : L[k]? = some (.val (.double v))) (hr : Steps p.tables e below (T.setTop (mkF m (pc + 2) L (.double v :: S))) target) : Steps p.tables e below (T.setTop (mkF m pc L S)) target := XS.dload X.here hx rfl (hb hby hd) hl hr
theorem zdstore (X : Stand p l e R s m args below meth c T locs cells slots) (hx : p.tables.exec = Jvm.exec) (hby : c.code = bn) {k : Nat} {x : UInt64} (hd : decode bn pc = .ok (.dstore k, 2)) (hl : storeLocals L k (.double x) = some l') (hr : Steps p.tables e below (T.setTop (mkF m (pc + 2) l' S)) target) : Steps p.tables e below (T.setTop (mkF m pc L (.double x :: S))) target := XS.dstore X.here hx rfl (hb hby hd) rfl hl hr
theorem zdloadN (X : Stand p l e R s m args below meth c T locs cells slots) (hx : p.tables.exec = Jvm.exec) (hby : c.code = bn) {k : Fin 4} {v : UInt64} (hd : decode bn pc = .ok (.dload_n k, 1)) (hl : L[k.val]? = some (.val (.double v))) (hr : Steps p.tables e below (T.setTop (mkF m (pc + 1) L (.double v :: S))) target) : Steps p.tables e below (T.setTop (mkF m pc L S)) target := XS.dloadN X.here hx rfl (hb hby hd) hl hr
theorem zdstoreN (X : Stand p l e R s m args below meth c T locs cells slots) (hx : p.tables.exec = Jvm.exec) (hby : c.code = bn) {k : Fin 4} {x : UInt64} (hd : decode bn pc = .ok (.dstore_n k, 1)) (hl : storeLocals L k.val (.double x) = some l') (hr : Steps p.tables e below (T.setTop (mkF m (pc + 1) l' S)) target) : Steps p.tables e below (T.setTop (mkF m pc L (.double x :: S))) target := XS.dstoreN X.here hx rfl (hb hby hd) rfl hl hr
theorem zaload (X : Stand p l e R s m args below meth c T locs cells slots) (hx : p.tables.exec = Jvm.exec) (hby : c.code = bn) {k : Nat} {v : Value} (hd : decode bn pc = .ok (.aload k, 2)) (hl : L[k]? = some (.val v)) (hv : v.isRef = true) (hr : Steps p.tables e below (T.setTop (mkF m (pc + 2) L (v :: S))) target) : Steps p.tables e below (T.setTop (mkF m pc L S)) target := XS.aload X.here hx rfl (hb hby hd) hl hv hr
theorem zastore (X : Stand p l e R s m args below meth c T locs cells slots) (hx : p.tables.exec = Jvm.exec) (hby : c.code = bn) {k : Nat} {x : Value} (hd : decode bn pc = .ok (.astore k, 2)) (hv : x.isRef = true) (hl : storeLocals L k x = some l') (hr : Steps p.tables e below (T.setTop (mkF m (pc + 2) l' S)) target) : Steps p.tables e below (T.setTop (mkF m pc L (x :: S))) target := XS.astore X.here hx rfl (hb hby hd) rfl hv hl hr
theorem zaloadN (X : Stand p l e R s m args below meth c T locs cells slots) (hx : p.tables.exec = Jvm.exec) (hby : c.code = bn) {k : Fin 4} {v : Value} (hd : decode bn pc = .ok (.aload_n k, 1)) (hl : L[k.val]? = some (.val v)) (hv : v.isRef = true) (hr : Steps p.tables e below (T.setTop (mkF m (pc + 1) L (v :: S))) target) : Steps p.tables e below (T.setTop (mkF m pc L S)) target := XS.aloadN X.here hx rfl (hb hby hd) hl hv hr
theorem zastoreN (X : Stand p l e R s m args below meth c T locs cells slots) (hx : p.tables.exec = Jvm.exec) (hby : c.code = bn) {k : Fin 4} {x : Value} (hd : decode bn pc = .ok (.astore_n k, 1)) (hv : x.isRef = true) (hl : storeLocals L k.val x = some l') (hr : Steps p.tables e below (T.setTop (mkF m (pc + 1) l' S)) target) : Steps p.tables e below (T.setTop (mkF m pc L (x :: S))) target := XS.astoreN X.here hx rfl (hb hby hd) rfl hv hl hr
theorem ziconst (X : Stand p l e R s m args below meth c T locs cells slots) (hx : p.tables.exec = Jvm.exec) (hby : c.code = bn) (z : Int32) {i : Int} (hd : decode bn pc = .ok (.iconst i, 1)) (hz : Int32.ofInt i = z) (hr : Steps p.tables e below (T.setTop (mkF m (pc + 1) L (.int z :: S))) target) : Steps p.tables e below (T.setTop (mkF m pc L S)) target := XS.iconst X.here hx rfl (hb hby hd) (by rw [hz]; exact hr)
theorem zbipush (X : Stand p l e R s m args below meth c T locs cells slots) (hx : p.tables.exec = Jvm.exec) (hby : c.code = bn) (z : Int32) {i : Int} (hd : decode bn pc = .ok (.bipush i, 2)) (hz : (Int8.ofInt i).toInt32 = z) (hr : Steps p.tables e below (T.setTop (mkF m (pc + 2) L (.int z :: S))) target) : Steps p.tables e below (T.setTop (mkF m pc L S)) target := XS.bipush X.here hx rfl (hb hby hd) (by rw [hz]; exact hr)
theorem zsipush (X : Stand p l e R s m args below meth c T locs cells slots) (hx : p.tables.exec = Jvm.exec) (hby : c.code = bn) (z : Int32) {i : Int} (hd : decode bn pc = .ok (.sipush i, 3)) (hz : (Int16.ofInt i).toInt32 = z) (hr : Steps p.tables e below (T.setTop (mkF m (pc + 3) L (.int z :: S))) target) : Steps p.tables e below (T.setTop (mkF m pc L S)) target := XS.sipush X.here hx rfl (hb hby hd) (by rw [hz]; exact hr)
theorem zgoto (X : Stand p l e R s m args below meth c T locs cells slots) (hx : p.tables.exec = Jvm.exec) (hby : c.code = bn) (pc0 pc' : Nat) {o : Int} (hpc : pc = pc0) (hd : decode bn pc = .ok (.goto o, 3)) (ho : 0 ≤ (pc0 : Int) + o) (hp : ((pc0 : Int) + o).toNat = pc') (hr : Steps p.tables e below (T.setTop (mkF m pc' L S)) target) : Steps p.tables e below (T.setTop (mkF m pc L S)) target := XS.goto X.here hx rfl (pc0 := pc0) (pc' := pc') hpc (hb hby hd) ho hp hr
theorem ziinc (X : Stand p l e R s m args below meth c T locs cells slots) (hx : p.tables.exec = Jvm.exec) (hby : c.code = bn) {k : Nat} {cst : Int} {x : Int32} (hd : decode bn pc = .ok (.iinc k cst, 3)) (hl : L[k]? = some (.val (.int x))) (hl' : storeLocals L k (.int (x + Int32.ofInt cst)) = some l') (hr : Steps p.tables e below (T.setTop (mkF m (pc + 3) l' S)) target) : Steps p.tables e below (T.setTop (mkF m pc L S)) target := XS.iinc X.here hx rfl (hb hby hd) hl hl' hr
theorem zicmpNo (X : Stand p l e R s m args below meth c T locs cells slots) (hx : p.tables.exec = Jvm.exec) (hby : c.code = bn) {cd : ClassFile.Cond} {o : Int} {x y : Int32} (hd : decode bn pc = .ok (.if_icmp cd o, 3)) (hc : if_icmp.holds cd x y = false) (hr : Steps p.tables e below (T.setTop (mkF m (pc + 3) L S)) target) : Steps p.tables e below (T.setTop (mkF m pc L (.int y :: .int x :: S))) target := XS.icmpNo X.here hx rfl (hb hby hd) rfl hc hr
theorem zicmpYes (X : Stand p l e R s m args below meth c T locs cells slots) (hx : p.tables.exec = Jvm.exec) (hby : c.code = bn) (pc0 pc' : Nat) {cd : ClassFile.Cond} {o : Int} {x y : Int32} (hpc : pc = pc0) (hd : decode bn pc = .ok (.if_icmp cd o, 3)) (hc : if_icmp.holds cd x y = true) (ho : 0 ≤ (pc0 : Int) + o) (hp : ((pc0 : Int) + o).toNat = pc') (hr : Steps p.tables e below (T.setTop (mkF m pc' L S)) target) : Steps p.tables e below (T.setTop (mkF m pc L (.int y :: .int x :: S))) target := XS.icmpYes X.here hx rfl (pc0 := pc0) (pc' := pc') hpc (hb hby hd) rfl hc ho hp hr
theorem zifNo (X : Stand p l e R s m args below meth c T locs cells slots) (hx : p.tables.exec = Jvm.exec) (hby : c.code = bn) {cd : ClassFile.Cond} {o : Int} {x : Int32} (hd : decode bn pc = .ok (.ifCond cd o, 3)) (hc : ifCond.holds cd x = false) (hr : Steps p.tables e below (T.setTop (mkF m (pc + 3) L S)) target) : Steps p.tables e below (T.setTop (mkF m pc L (.int x :: S))) target := XS.ifNo X.here hx rfl (hb hby hd) rfl hc hr
theorem zifYes (X : Stand p l e R s m args below meth c T locs cells slots) (hx : p.tables.exec = Jvm.exec) (hby : c.code = bn) (pc0 pc' : Nat) {cd : ClassFile.Cond} {o : Int} {x : Int32} (hpc : pc = pc0) (hd : decode bn pc = .ok (.ifCond cd o, 3)) (hc : ifCond.holds cd x = true) (ho : 0 ≤ (pc0 : Int) + o) (hp : ((pc0 : Int) + o).toNat = pc') (hr : Steps p.tables e below (T.setTop (mkF m pc' L S)) target) : Steps p.tables e below (T.setTop (mkF m pc L (.int x :: S))) target := XS.ifYes X.here hx rfl (pc0 := pc0) (pc' := pc') hpc (hb hby hd) rfl hc ho hp hr
end Short
abbrev RM (f c s l : Nat) : Room := { frames := f, cells := c, slots := s, locals := l }
abbrev y_0 : MethodName := ⟨"com/example/rosterhall/rosterhall/ResourceIdParsePinLaw", "isDash", "(I)Z"⟩
abbrev y_1 : MethodName := ⟨"com/example/rosterhall/rosterhall/ResourceIdParsePinLaw", "digitIndex", "(I)I"⟩
abbrev y_2 : MethodName := ⟨"com/example/rosterhall/rosterhall/ResourceIdParsePinLaw", "hexChar", "(I)C"⟩
abbrev y_3 : MethodName := ⟨"com/example/rosterhall/rosterhall/ResourceIdParsePinLaw", "digitChar", "(JJI)C"⟩
abbrev y_4 : MethodName := ⟨"com/example/rosterhall/rosterhall/ResourceIdParsePinLaw", "posChar", "(JJI)C"⟩
abbrev y_5 : MethodName := ⟨"com/example/rosterhall/rosterhall/ResourceIdParsePinLaw", "hexValue", "(C)I"⟩
abbrev y_6 : MethodName := ⟨"com/example/rosterhall/rosterhall/ResourceId", "hexDigit", "(C)I"⟩
abbrev y_7 : MethodName := ⟨"com/example/rosterhall/rosterhall/ResourceIdParsePinLaw", "put", "([CIJJ)V"⟩
abbrev y_8 : MethodName := ⟨"com/example/rosterhall/rosterhall/ResourceIdParsePinLaw", "draw", "(JJI)[C"⟩
abbrev y_9 : MethodName := ⟨"java/lang/StringUTF16", "compress", "([CI[BII)I"⟩
abbrev y_10 : MethodName := ⟨"java/lang/StringUTF16", "putChar", "([BII)V"⟩
abbrev y_11 : MethodName := ⟨"java/lang/StringUTF16", "newBytesLength", "(I)I"⟩
abbrev y_12 : MethodName := ⟨"java/lang/StringUTF16", "newBytesFor", "(I)[B"⟩
abbrev y_13 : MethodName := ⟨"java/lang/StringUTF16", "toBytes", "([CII)[B"⟩
abbrev y_14 : MethodName := ⟨"java/lang/StringUTF16", "getChar", "([BI)C"⟩
abbrev y_15 : MethodName := ⟨"java/lang/StringUTF16", "compress", "([CII)[B"⟩
abbrev y_16 : MethodName := ⟨"java/lang/StringUTF16", "coderFromArrayLen", "([BI)B"⟩
abbrev y_17 : MethodName := ⟨"java/lang/String", "<init>", "([CIILjava/lang/Void;)V"⟩
abbrev y_18 : MethodName := ⟨"java/lang/String", "<init>", "([C)V"⟩
abbrev y_19 : MethodName := ⟨"jdk/internal/util/Preconditions", "checkIndex", "(IILjava/util/function/BiFunction;)I"⟩
abbrev y_20 : MethodName := ⟨"java/lang/String", "checkIndex", "(II)V"⟩
abbrev y_21 : MethodName := ⟨"java/lang/StringUTF16", "length", "([B)I"⟩
abbrev y_22 : MethodName := ⟨"java/lang/StringUTF16", "checkIndex", "(I[B)V"⟩
abbrev y_23 : MethodName := ⟨"java/lang/StringUTF16", "charAt", "([BI)C"⟩
abbrev y_24 : MethodName := ⟨"java/lang/StringLatin1", "charAt", "([BI)C"⟩
abbrev y_25 : MethodName := ⟨"java/lang/String", "coder", "()B"⟩
abbrev y_26 : MethodName := ⟨"java/lang/String", "isLatin1", "()Z"⟩
abbrev y_27 : MethodName := ⟨"java/lang/String", "length", "()I"⟩
abbrev y_28 : MethodName := ⟨"java/lang/String", "charAt", "(I)C"⟩
abbrev y_29 : MethodName := ⟨"java/lang/Record", "<init>", "()V"⟩
abbrev y_30 : MethodName := ⟨"com/example/rosterhall/rosterhall/ResourceId", "<init>", "(JJ)V"⟩
abbrev y_31 : MethodName := ⟨"java/util/Objects", "requireNonNull", "(Ljava/lang/Object;)Ljava/lang/Object;"⟩
abbrev y_32 : MethodName := ⟨"java/util/Optional", "<init>", "(Ljava/lang/Object;)V"⟩
abbrev y_33 : MethodName := ⟨"java/util/Optional", "of", "(Ljava/lang/Object;)Ljava/util/Optional;"⟩
abbrev y_34 : MethodName := ⟨"java/util/Optional", "isPresent", "()Z"⟩
abbrev y_35 : MethodName := ⟨"java/util/Optional", "get", "()Ljava/lang/Object;"⟩
abbrev y_36 : MethodName := ⟨"com/example/rosterhall/rosterhall/ResourceId", "high", "()J"⟩
abbrev y_37 : MethodName := ⟨"com/example/rosterhall/rosterhall/ResourceId", "low", "()J"⟩
abbrev y_38 : MethodName := ⟨"java/util/Optional", "empty", "()Ljava/util/Optional;"⟩
abbrev y_39 : MethodName := ⟨"com/example/rosterhall/rosterhall/ResourceId", "parse", "(Ljava/lang/String;)Ljava/util/Optional;"⟩
abbrev b_4 : ByteArray := method_3_code
abbrev b_5 : ByteArray := method_4_code
abbrev b_7 : ByteArray := method_6_code
abbrev b_6 : ByteArray := method_7_code
abbrev b_3 : ByteArray := method_8_code
abbrev b_41 : ByteArray := method_5_code
abbrev b_22 : ByteArray := prog_20_method_6_code
abbrev b_2 : ByteArray := method_9_code
abbrev b_1 : ByteArray := method_10_code
abbrev b_12 : ByteArray := jdk_52_method_21_code
abbrev b_36 : ByteArray := jdk_52_method_4_code
abbrev b_35 : ByteArray := jdk_52_method_3_code
abbrev b_34 : ByteArray := jdk_52_method_2_code
abbrev b_33 : ByteArray := jdk_52_method_14_code
abbrev b_37 : ByteArray := jdk_52_method_5_code
abbrev b_11 : ByteArray := jdk_52_method_16_code
abbrev b_13 : ByteArray := jdk_52_method_15_code
abbrev b_9 : ByteArray := jdk_42_method_149_code
abbrev b_8 : ByteArray := jdk_42_method_3_code
abbrev b_21 : ByteArray := jdk_41_method_11_code
abbrev b_20 : ByteArray := jdk_42_method_155_code
abbrev b_40 : ByteArray := jdk_52_method_6_code
abbrev b_39 : ByteArray := jdk_52_method_91_code
abbrev b_38 : ByteArray := jdk_52_method_83_code
abbrev b_19 : ByteArray := jdk_43_method_2_code
abbrev b_16 : ByteArray := jdk_42_method_152_code
abbrev b_18 : ByteArray := jdk_42_method_154_code
abbrev b_15 : ByteArray := jdk_42_method_54_code
abbrev b_17 : ByteArray := jdk_42_method_56_code
abbrev b_24 : ByteArray := jdk_30_method_1_code
abbrev b_23 : ByteArray := prog_20_method_1_code
abbrev b_26 : ByteArray := jdk_31_method_10_code
abbrev b_27 : ByteArray := jdk_32_method_2_code
abbrev b_25 : ByteArray := jdk_32_method_3_code
abbrev b_28 : ByteArray := jdk_32_method_6_code
abbrev b_29 : ByteArray := jdk_32_method_5_code
abbrev b_30 : ByteArray := prog_20_method_10_code
abbrev b_31 : ByteArray := prog_20_method_11_code
abbrev b_32 : ByteArray := jdk_32_method_1_code
abbrev b_14 : ByteArray := prog_20_method_3_code
theorem own_pn0 : plainName "com/example/rosterhall/rosterhall/ResourceIdParsePinLaw" = true := by first | (simp [plainName, overriddenIn]; done) | decide +kernel
theorem own_ef_own_isd (m : MethodId) (p0 : Int32) : entryFrame m #[(.int p0)] 1 = mkF m 0 #[.val (.int p0)] [] := by first | (simp [entryFrame, mkF, argsToLocals, Value.category]; done) | rfl
theorem d4_0 : decode b_4 0 = .ok (.iload_n 0, 1) := by decide +kernel
theorem d4_1 : decode b_4 1 = .ok (.bipush 8, 2) := by decide +kernel
theorem d4_3 : decode b_4 3 = .ok (.if_icmp .eq 21, 3) := by decide +kernel
theorem d4_6 : decode b_4 6 = .ok (.iload_n 0, 1) := by decide +kernel
theorem d4_7 : decode b_4 7 = .ok (.bipush 13, 2) := by decide +kernel
theorem d4_9 : decode b_4 9 = .ok (.if_icmp .eq 15, 3) := by decide +kernel
theorem d4_12 : decode b_4 12 = .ok (.iload_n 0, 1) := by decide +kernel
theorem d4_13 : decode b_4 13 = .ok (.bipush 18, 2) := by decide +kernel
theorem d4_15 : decode b_4 15 = .ok (.if_icmp .eq 9, 3) := by decide +kernel
theorem d4_18 : decode b_4 18 = .ok (.iload_n 0, 1) := by decide +kernel
theorem d4_19 : decode b_4 19 = .ok (.bipush 23, 2) := by decide +kernel
theorem d4_21 : decode b_4 21 = .ok (.if_icmp .ne 7, 3) := by decide +kernel
theorem d4_24 : decode b_4 24 = .ok (.iconst 1, 1) := by decide +kernel
theorem d4_25 : decode b_4 25 = .ok (.goto 4, 3) := by decide +kernel
theorem d4_28 : decode b_4 28 = .ok (.iconst 0, 1) := by decide +kernel
theorem d4_29 : decode b_4 29 = .ok (.ireturn, 1) := by decide +kernel
def own_isd_f (p0 : Int32) : Int32 := (if p0 = (8 : Int32) then (1 : Int32) else (if p0 = (13 : Int32) then (1 : Int32) else (if p0 = (18 : Int32) then (1 : Int32) else (if p0 = (23 : Int32) then (1 : Int32) else (0 : Int32)))))
def Qown_isd (Z : State) (p0 : Int32) (h0 : Heap) (n0 : Nat) (v : Option Value) (h : Heap) (L : List Loc) : Prop := v = some (.int (own_isd_f p0)) ∧ Fr n0 L ∧ h = h0
set_option maxRecDepth 65536 in
set_option maxHeartbeats 40000000 in
theorem own_isd (l : Launch) (Z : State) (a0 : Array Value) (hw : ∀ d ∈ tables_1, d.before a0 Z = true) (ws : List Jvm.Cond) (p0 : Int32) (h0 : Heap) (n0 : Nat) (Z0 : n0 ≤ h0.size) :
    MetFree l y_0 (head1 (Jvm.Cond.code y_0 method_3_code 1 (some .boolean) :: ws) (RM 0 0 0 0)) (fun a U => a = #[(.int p0)] ∧ Z.Warmed39 U.vm ∧ U.heap = h0) (fun _ _ _ _ _ => True) (fun _ U o U' => ∃ v L, o = .returned v ∧ Qown_isd Z p0 h0 n0 v U'.heap L ∧ FrameEnd U o U' L (RM 0 0 0 0).cells (RM 0 0 0 0).slots) := by
  refine MetFree.of_bodySF (plainFor_of_name own_pn0) hisR ?_
  intro p e s m args below meth c s₁ Bd hml0 hP hK
  obtain ⟨rfl, hZ, hh⟩ := hP
  have hx := Bd.exec
  have hby := Bd.bytes
  have hml : c.maxLocals = 1 := hml0
  have hown : s.vm.findClass "com/example/rosterhall/rosterhall/ResourceIdParsePinLaw" = some m.cls := findClass_of_methodNamed Bd.named
  have X0 : Stand p l e (RM 0 0 0 0) s m #[(.int p0)] below meth c s₁ [] 0 0 := Stand.of_body Bd
  have e0 : s₁.heap = h0 := by rw [← hh, Bd.state]; rfl
  have N0 := Fr.nil n0
  have pre0 : ∀ t, Steps p.tables e below (s₁.setTop (mkF m 0 #[vI (p0)] [])) t → Steps p.tables e below (s₁.setTop (entryFrame m #[(.int p0)] 1)) t := fun t k => castTop (own_ef_own_isd m p0) k
  have pre4 : ∀ t, Steps p.tables e below (s₁.setTop (mkF m 3 #[vI (p0)] [(.int 8), (.int p0)])) t → Steps p.tables e below (s₁.setTop (entryFrame m #[(.int p0)] 1)) t := by
    intro t kt
    refine pre0 _ ?_
    show SS p e below m s₁ 0 #[vI (p0)] [] _
    refine ziloadN X0 hx hby d4_0 rfl ?_
    refine zbipush X0 hx hby (8) d4_1 rfl ?_
    exact kt
  by_cases hc3_5 : p0 = (8 : Int32)
  · obtain ⟨fs, hr, hrun, hended, hW, hsame⟩ := X0.leave (v := some (.int 1)) (fun h => by rw [Bd.returns] at h; cases h) (hlocks := BodyLoose.notSynchronized Bd)
    refine ⟨_, _, pre4 _ ?_, hrun, hended, _, _, rfl, ?_, ⟨_, rfl⟩, hW, hsame.mono (by decide) (by decide)⟩
    · show SS p e below m s₁ 3 #[vI (p0)] [(.int 8), (.int p0)] _
      refine zicmpYes X0 hx hby 3 24 rfl d4_3 (teq hc3_5).1 (by decide) (by decide) ?_
      refine ziconst X0 hx hby (1) d4_24 rfl ?_
      refine zgoto X0 hx hby 25 29 rfl d4_25 (by decide) (by decide) ?_
      exact retN X0 hx (t := .boolean) Bd.returns (by simp) (hb hby d4_29) hr
    · show Qown_isd Z p0 h0 n0 _ s₁.heap _
      rw [e0]
      have hv : (own_isd_f p0) = (1 : Int32) := by unfold own_isd_f; rw [if_pos hc3_5]
      exact ⟨(by rw [hv]), N0, rfl⟩
  · have pre12 : ∀ t, Steps p.tables e below (s₁.setTop (mkF m 9 #[vI (p0)] [(.int 13), (.int p0)])) t → Steps p.tables e below (s₁.setTop (entryFrame m #[(.int p0)] 1)) t := by
      intro t kt
      refine pre4 _ ?_
      show SS p e below m s₁ 3 #[vI (p0)] [(.int 8), (.int p0)] _
      refine zicmpNo X0 hx hby d4_3 (feq hc3_5).1 ?_
      refine ziloadN X0 hx hby d4_6 rfl ?_
      refine zbipush X0 hx hby (13) d4_7 rfl ?_
      exact kt
    by_cases hc9_13 : p0 = (13 : Int32)
    · obtain ⟨fs, hr, hrun, hended, hW, hsame⟩ := X0.leave (v := some (.int 1)) (fun h => by rw [Bd.returns] at h; cases h) (hlocks := BodyLoose.notSynchronized Bd)
      refine ⟨_, _, pre12 _ ?_, hrun, hended, _, _, rfl, ?_, ⟨_, rfl⟩, hW, hsame.mono (by decide) (by decide)⟩
      · show SS p e below m s₁ 9 #[vI (p0)] [(.int 13), (.int p0)] _
        refine zicmpYes X0 hx hby 9 24 rfl d4_9 (teq hc9_13).1 (by decide) (by decide) ?_
        refine ziconst X0 hx hby (1) d4_24 rfl ?_
        refine zgoto X0 hx hby 25 29 rfl d4_25 (by decide) (by decide) ?_
        exact retN X0 hx (t := .boolean) Bd.returns (by simp) (hb hby d4_29) hr
      · show Qown_isd Z p0 h0 n0 _ s₁.heap _
        rw [e0]
        have hv : (own_isd_f p0) = (1 : Int32) := by unfold own_isd_f; rw [if_neg hc3_5, if_pos hc9_13]
        exact ⟨(by rw [hv]), N0, rfl⟩
    · have pre20 : ∀ t, Steps p.tables e below (s₁.setTop (mkF m 15 #[vI (p0)] [(.int 18), (.int p0)])) t → Steps p.tables e below (s₁.setTop (entryFrame m #[(.int p0)] 1)) t := by
        intro t kt
        refine pre12 _ ?_
        show SS p e below m s₁ 9 #[vI (p0)] [(.int 13), (.int p0)] _
        refine zicmpNo X0 hx hby d4_9 (feq hc9_13).1 ?_
        refine ziloadN X0 hx hby d4_12 rfl ?_
        refine zbipush X0 hx hby (18) d4_13 rfl ?_
        exact kt
      by_cases hc15_21 : p0 = (18 : Int32)
      · obtain ⟨fs, hr, hrun, hended, hW, hsame⟩ := X0.leave (v := some (.int 1)) (fun h => by rw [Bd.returns] at h; cases h) (hlocks := BodyLoose.notSynchronized Bd)
        refine ⟨_, _, pre20 _ ?_, hrun, hended, _, _, rfl, ?_, ⟨_, rfl⟩, hW, hsame.mono (by decide) (by decide)⟩
        · show SS p e below m s₁ 15 #[vI (p0)] [(.int 18), (.int p0)] _
          refine zicmpYes X0 hx hby 15 24 rfl d4_15 (teq hc15_21).1 (by decide) (by decide) ?_
          refine ziconst X0 hx hby (1) d4_24 rfl ?_
          refine zgoto X0 hx hby 25 29 rfl d4_25 (by decide) (by decide) ?_
          exact retN X0 hx (t := .boolean) Bd.returns (by simp) (hb hby d4_29) hr
        · show Qown_isd Z p0 h0 n0 _ s₁.heap _
          rw [e0]
          have hv : (own_isd_f p0) = (1 : Int32) := by unfold own_isd_f; rw [if_neg hc3_5, if_neg hc9_13, if_pos hc15_21]
          exact ⟨(by rw [hv]), N0, rfl⟩
      · have pre28 : ∀ t, Steps p.tables e below (s₁.setTop (mkF m 21 #[vI (p0)] [(.int 23), (.int p0)])) t → Steps p.tables e below (s₁.setTop (entryFrame m #[(.int p0)] 1)) t := by
          intro t kt
          refine pre20 _ ?_
          show SS p e below m s₁ 15 #[vI (p0)] [(.int 18), (.int p0)] _
          refine zicmpNo X0 hx hby d4_15 (feq hc15_21).1 ?_
          refine ziloadN X0 hx hby d4_18 rfl ?_
          refine zbipush X0 hx hby (23) d4_19 rfl ?_
          exact kt
        by_cases hc21_29 : p0 = (23 : Int32)
        · obtain ⟨fs, hr, hrun, hended, hW, hsame⟩ := X0.leave (v := some (.int 1)) (fun h => by rw [Bd.returns] at h; cases h) (hlocks := BodyLoose.notSynchronized Bd)
          refine ⟨_, _, pre28 _ ?_, hrun, hended, _, _, rfl, ?_, ⟨_, rfl⟩, hW, hsame.mono (by decide) (by decide)⟩
          · show SS p e below m s₁ 21 #[vI (p0)] [(.int 23), (.int p0)] _
            refine zicmpNo X0 hx hby d4_21 (teq hc21_29).2 ?_
            refine ziconst X0 hx hby (1) d4_24 rfl ?_
            refine zgoto X0 hx hby 25 29 rfl d4_25 (by decide) (by decide) ?_
            exact retN X0 hx (t := .boolean) Bd.returns (by simp) (hb hby d4_29) hr
          · show Qown_isd Z p0 h0 n0 _ s₁.heap _
            rw [e0]
            have hv : (own_isd_f p0) = (1 : Int32) := by unfold own_isd_f; rw [if_neg hc3_5, if_neg hc9_13, if_neg hc15_21, if_pos hc21_29]
            exact ⟨(by rw [hv]), N0, rfl⟩
        · obtain ⟨fs, hr, hrun, hended, hW, hsame⟩ := X0.leave (v := some (.int 0)) (fun h => by rw [Bd.returns] at h; cases h) (hlocks := BodyLoose.notSynchronized Bd)
          refine ⟨_, _, pre28 _ ?_, hrun, hended, _, _, rfl, ?_, ⟨_, rfl⟩, hW, hsame.mono (by decide) (by decide)⟩
          · show SS p e below m s₁ 21 #[vI (p0)] [(.int 23), (.int p0)] _
            refine zicmpYes X0 hx hby 21 28 rfl d4_21 (feq hc21_29).2 (by decide) (by decide) ?_
            refine ziconst X0 hx hby (0) d4_28 rfl ?_
            exact retN X0 hx (t := .boolean) Bd.returns (by simp) (hb hby d4_29) hr
          · show Qown_isd Z p0 h0 n0 _ s₁.heap _
            rw [e0]
            have hv : (own_isd_f p0) = (0 : Int32) := by unfold own_isd_f; rw [if_neg hc3_5, if_neg hc9_13, if_neg hc15_21, if_neg hc21_29]
            exact ⟨(by rw [hv]), N0, rfl⟩
theorem own_ef_own_dix (m : MethodId) (p0 : Int32) : entryFrame m #[(.int p0)] 1 = mkF m 0 #[.val (.int p0)] [] := by first | (simp [entryFrame, mkF, argsToLocals, Value.category]; done) | rfl
theorem d5_0 : decode b_5 0 = .ok (.iload_n 0, 1) := by decide +kernel
theorem d5_1 : decode b_5 1 = .ok (.bipush 8, 2) := by decide +kernel
theorem d5_3 : decode b_5 3 = .ok (.if_icmp .ge 5, 3) := by decide +kernel
theorem d5_6 : decode b_5 6 = .ok (.iload_n 0, 1) := by decide +kernel
theorem d5_7 : decode b_5 7 = .ok (.ireturn, 1) := by decide +kernel
theorem d5_8 : decode b_5 8 = .ok (.iload_n 0, 1) := by decide +kernel
theorem d5_9 : decode b_5 9 = .ok (.bipush 13, 2) := by decide +kernel
theorem d5_11 : decode b_5 11 = .ok (.if_icmp .ge 7, 3) := by decide +kernel
theorem d5_14 : decode b_5 14 = .ok (.iload_n 0, 1) := by decide +kernel
theorem d5_15 : decode b_5 15 = .ok (.iconst 1, 1) := by decide +kernel
theorem d5_16 : decode b_5 16 = .ok (.isub, 1) := by decide +kernel
theorem d5_17 : decode b_5 17 = .ok (.ireturn, 1) := by decide +kernel
theorem d5_18 : decode b_5 18 = .ok (.iload_n 0, 1) := by decide +kernel
theorem d5_19 : decode b_5 19 = .ok (.bipush 18, 2) := by decide +kernel
theorem d5_21 : decode b_5 21 = .ok (.if_icmp .ge 7, 3) := by decide +kernel
theorem d5_24 : decode b_5 24 = .ok (.iload_n 0, 1) := by decide +kernel
theorem d5_25 : decode b_5 25 = .ok (.iconst 2, 1) := by decide +kernel
theorem d5_26 : decode b_5 26 = .ok (.isub, 1) := by decide +kernel
theorem d5_27 : decode b_5 27 = .ok (.ireturn, 1) := by decide +kernel
theorem d5_28 : decode b_5 28 = .ok (.iload_n 0, 1) := by decide +kernel
theorem d5_29 : decode b_5 29 = .ok (.bipush 23, 2) := by decide +kernel
theorem d5_31 : decode b_5 31 = .ok (.if_icmp .ge 7, 3) := by decide +kernel
theorem d5_34 : decode b_5 34 = .ok (.iload_n 0, 1) := by decide +kernel
theorem d5_35 : decode b_5 35 = .ok (.iconst 3, 1) := by decide +kernel
theorem d5_36 : decode b_5 36 = .ok (.isub, 1) := by decide +kernel
theorem d5_37 : decode b_5 37 = .ok (.ireturn, 1) := by decide +kernel
theorem d5_38 : decode b_5 38 = .ok (.iload_n 0, 1) := by decide +kernel
theorem d5_39 : decode b_5 39 = .ok (.iconst 4, 1) := by decide +kernel
theorem d5_40 : decode b_5 40 = .ok (.isub, 1) := by decide +kernel
theorem d5_41 : decode b_5 41 = .ok (.ireturn, 1) := by decide +kernel
def own_dix_f (p0 : Int32) : Int32 := (if p0 < (8 : Int32) then p0 else (if p0 < (13 : Int32) then (p0 - (1 : Int32)) else (if p0 < (18 : Int32) then (p0 - (2 : Int32)) else (if p0 < (23 : Int32) then (p0 - (3 : Int32)) else (p0 - (4 : Int32))))))
def Qown_dix (Z : State) (p0 : Int32) (h0 : Heap) (n0 : Nat) (v : Option Value) (h : Heap) (L : List Loc) : Prop := v = some (.int (own_dix_f p0)) ∧ Fr n0 L ∧ h = h0
set_option maxRecDepth 65536 in
set_option maxHeartbeats 40000000 in
theorem own_dix (l : Launch) (Z : State) (a0 : Array Value) (hw : ∀ d ∈ tables_1, d.before a0 Z = true) (ws : List Jvm.Cond) (p0 : Int32) (h0 : Heap) (n0 : Nat) (Z0 : n0 ≤ h0.size) :
    MetFree l y_1 (head1 (Jvm.Cond.code y_1 method_4_code 1 (some .int) :: ws) (RM 0 0 0 0)) (fun a U => a = #[(.int p0)] ∧ Z.Warmed39 U.vm ∧ U.heap = h0) (fun _ _ _ _ _ => True) (fun _ U o U' => ∃ v L, o = .returned v ∧ Qown_dix Z p0 h0 n0 v U'.heap L ∧ FrameEnd U o U' L (RM 0 0 0 0).cells (RM 0 0 0 0).slots) := by
  refine MetFree.of_bodySF (plainFor_of_name own_pn0) hisR ?_
  intro p e s m args below meth c s₁ Bd hml0 hP hK
  obtain ⟨rfl, hZ, hh⟩ := hP
  have hx := Bd.exec
  have hby := Bd.bytes
  have hml : c.maxLocals = 1 := hml0
  have hown : s.vm.findClass "com/example/rosterhall/rosterhall/ResourceIdParsePinLaw" = some m.cls := findClass_of_methodNamed Bd.named
  have X0 : Stand p l e (RM 0 0 0 0) s m #[(.int p0)] below meth c s₁ [] 0 0 := Stand.of_body Bd
  have e0 : s₁.heap = h0 := by rw [← hh, Bd.state]; rfl
  have N0 := Fr.nil n0
  have pre0 : ∀ t, Steps p.tables e below (s₁.setTop (mkF m 0 #[vI (p0)] [])) t → Steps p.tables e below (s₁.setTop (entryFrame m #[(.int p0)] 1)) t := fun t k => castTop (own_ef_own_dix m p0) k
  have pre4 : ∀ t, Steps p.tables e below (s₁.setTop (mkF m 3 #[vI (p0)] [(.int 8), (.int p0)])) t → Steps p.tables e below (s₁.setTop (entryFrame m #[(.int p0)] 1)) t := by
    intro t kt
    refine pre0 _ ?_
    show SS p e below m s₁ 0 #[vI (p0)] [] _
    refine ziloadN X0 hx hby d5_0 rfl ?_
    refine zbipush X0 hx hby (8) d5_1 rfl ?_
    exact kt
  by_cases hc3_5 : p0 < (8 : Int32)
  · obtain ⟨fs, hr, hrun, hended, hW, hsame⟩ := X0.leave (v := some (.int p0)) (fun h => by rw [Bd.returns] at h; cases h) (hlocks := BodyLoose.notSynchronized Bd)
    refine ⟨_, _, pre4 _ ?_, hrun, hended, _, _, rfl, ?_, ⟨_, rfl⟩, hW, hsame.mono (by decide) (by decide)⟩
    · show SS p e below m s₁ 3 #[vI (p0)] [(.int 8), (.int p0)] _
      refine zicmpNo X0 hx hby d5_3 (tlt hc3_5).2.1 ?_
      refine ziloadN X0 hx hby d5_6 rfl ?_
      exact retI X0 hx Bd.returns (hb hby d5_7) hr
    · show Qown_dix Z p0 h0 n0 _ s₁.heap _
      rw [e0]
      have hv : (own_dix_f p0) = p0 := by unfold own_dix_f; rw [if_pos hc3_5]
      exact ⟨(by rw [hv]), N0, rfl⟩
  · have pre11 : ∀ t, Steps p.tables e below (s₁.setTop (mkF m 11 #[vI (p0)] [(.int 13), (.int p0)])) t → Steps p.tables e below (s₁.setTop (entryFrame m #[(.int p0)] 1)) t := by
      intro t kt
      refine pre4 _ ?_
      show SS p e below m s₁ 3 #[vI (p0)] [(.int 8), (.int p0)] _
      refine zicmpYes X0 hx hby 3 8 rfl d5_3 (flt hc3_5).2.1 (by decide) (by decide) ?_
      refine ziloadN X0 hx hby d5_8 rfl ?_
      refine zbipush X0 hx hby (13) d5_9 rfl ?_
      exact kt
    by_cases hc11_12 : p0 < (13 : Int32)
    · obtain ⟨fs, hr, hrun, hended, hW, hsame⟩ := X0.leave (v := some (.int (p0 - (1 : Int32)))) (fun h => by rw [Bd.returns] at h; cases h) (hlocks := BodyLoose.notSynchronized Bd)
      refine ⟨_, _, pre11 _ ?_, hrun, hended, _, _, rfl, ?_, ⟨_, rfl⟩, hW, hsame.mono (by decide) (by decide)⟩
      · show SS p e below m s₁ 11 #[vI (p0)] [(.int 13), (.int p0)] _
        refine zicmpNo X0 hx hby d5_11 (tlt hc11_12).2.1 ?_
        refine ziloadN X0 hx hby d5_14 rfl ?_
        refine ziconst X0 hx hby (1) d5_15 rfl ?_
        show SS p e below m s₁ 16 #[vI (p0)] [(.int 1), (.int p0)] _
        refine XS.isub X0.here hx rfl (hb hby d5_16) rfl ?_
        show SS p e below m s₁ 17 #[vI (p0)] [(.int (p0 - (1 : Int32)))] _
        exact retI X0 hx Bd.returns (hb hby d5_17) hr
      · show Qown_dix Z p0 h0 n0 _ s₁.heap _
        rw [e0]
        have hv : (own_dix_f p0) = (p0 - (1 : Int32)) := by unfold own_dix_f; rw [if_neg hc3_5, if_pos hc11_12]
        exact ⟨(by rw [hv]), N0, rfl⟩
    · have pre20 : ∀ t, Steps p.tables e below (s₁.setTop (mkF m 21 #[vI (p0)] [(.int 18), (.int p0)])) t → Steps p.tables e below (s₁.setTop (entryFrame m #[(.int p0)] 1)) t := by
        intro t kt
        refine pre11 _ ?_
        show SS p e below m s₁ 11 #[vI (p0)] [(.int 13), (.int p0)] _
        refine zicmpYes X0 hx hby 11 18 rfl d5_11 (flt hc11_12).2.1 (by decide) (by decide) ?_
        refine ziloadN X0 hx hby d5_18 rfl ?_
        refine zbipush X0 hx hby (18) d5_19 rfl ?_
        exact kt
      by_cases hc21_21 : p0 < (18 : Int32)
      · obtain ⟨fs, hr, hrun, hended, hW, hsame⟩ := X0.leave (v := some (.int (p0 - (2 : Int32)))) (fun h => by rw [Bd.returns] at h; cases h) (hlocks := BodyLoose.notSynchronized Bd)
        refine ⟨_, _, pre20 _ ?_, hrun, hended, _, _, rfl, ?_, ⟨_, rfl⟩, hW, hsame.mono (by decide) (by decide)⟩
        · show SS p e below m s₁ 21 #[vI (p0)] [(.int 18), (.int p0)] _
          refine zicmpNo X0 hx hby d5_21 (tlt hc21_21).2.1 ?_
          refine ziloadN X0 hx hby d5_24 rfl ?_
          refine ziconst X0 hx hby (2) d5_25 rfl ?_
          show SS p e below m s₁ 26 #[vI (p0)] [(.int 2), (.int p0)] _
          refine XS.isub X0.here hx rfl (hb hby d5_26) rfl ?_
          show SS p e below m s₁ 27 #[vI (p0)] [(.int (p0 - (2 : Int32)))] _
          exact retI X0 hx Bd.returns (hb hby d5_27) hr
        · show Qown_dix Z p0 h0 n0 _ s₁.heap _
          rw [e0]
          have hv : (own_dix_f p0) = (p0 - (2 : Int32)) := by unfold own_dix_f; rw [if_neg hc3_5, if_neg hc11_12, if_pos hc21_21]
          exact ⟨(by rw [hv]), N0, rfl⟩
      · have pre29 : ∀ t, Steps p.tables e below (s₁.setTop (mkF m 31 #[vI (p0)] [(.int 23), (.int p0)])) t → Steps p.tables e below (s₁.setTop (entryFrame m #[(.int p0)] 1)) t := by
          intro t kt
          refine pre20 _ ?_
          show SS p e below m s₁ 21 #[vI (p0)] [(.int 18), (.int p0)] _
          refine zicmpYes X0 hx hby 21 28 rfl d5_21 (flt hc21_21).2.1 (by decide) (by decide) ?_
          refine ziloadN X0 hx hby d5_28 rfl ?_
          refine zbipush X0 hx hby (23) d5_29 rfl ?_
          exact kt
        by_cases hc31_30 : p0 < (23 : Int32)
        · obtain ⟨fs, hr, hrun, hended, hW, hsame⟩ := X0.leave (v := some (.int (p0 - (3 : Int32)))) (fun h => by rw [Bd.returns] at h; cases h) (hlocks := BodyLoose.notSynchronized Bd)
          refine ⟨_, _, pre29 _ ?_, hrun, hended, _, _, rfl, ?_, ⟨_, rfl⟩, hW, hsame.mono (by decide) (by decide)⟩
          · show SS p e below m s₁ 31 #[vI (p0)] [(.int 23), (.int p0)] _
            refine zicmpNo X0 hx hby d5_31 (tlt hc31_30).2.1 ?_
            refine ziloadN X0 hx hby d5_34 rfl ?_
            refine ziconst X0 hx hby (3) d5_35 rfl ?_
            show SS p e below m s₁ 36 #[vI (p0)] [(.int 3), (.int p0)] _
            refine XS.isub X0.here hx rfl (hb hby d5_36) rfl ?_
            show SS p e below m s₁ 37 #[vI (p0)] [(.int (p0 - (3 : Int32)))] _
            exact retI X0 hx Bd.returns (hb hby d5_37) hr
          · show Qown_dix Z p0 h0 n0 _ s₁.heap _
            rw [e0]
            have hv : (own_dix_f p0) = (p0 - (3 : Int32)) := by unfold own_dix_f; rw [if_neg hc3_5, if_neg hc11_12, if_neg hc21_21, if_pos hc31_30]
            exact ⟨(by rw [hv]), N0, rfl⟩
        · obtain ⟨fs, hr, hrun, hended, hW, hsame⟩ := X0.leave (v := some (.int (p0 - (4 : Int32)))) (fun h => by rw [Bd.returns] at h; cases h) (hlocks := BodyLoose.notSynchronized Bd)
          refine ⟨_, _, pre29 _ ?_, hrun, hended, _, _, rfl, ?_, ⟨_, rfl⟩, hW, hsame.mono (by decide) (by decide)⟩
          · show SS p e below m s₁ 31 #[vI (p0)] [(.int 23), (.int p0)] _
            refine zicmpYes X0 hx hby 31 38 rfl d5_31 (flt hc31_30).2.1 (by decide) (by decide) ?_
            refine ziloadN X0 hx hby d5_38 rfl ?_
            refine ziconst X0 hx hby (4) d5_39 rfl ?_
            show SS p e below m s₁ 40 #[vI (p0)] [(.int 4), (.int p0)] _
            refine XS.isub X0.here hx rfl (hb hby d5_40) rfl ?_
            show SS p e below m s₁ 41 #[vI (p0)] [(.int (p0 - (4 : Int32)))] _
            exact retI X0 hx Bd.returns (hb hby d5_41) hr
          · show Qown_dix Z p0 h0 n0 _ s₁.heap _
            rw [e0]
            have hv : (own_dix_f p0) = (p0 - (4 : Int32)) := by unfold own_dix_f; rw [if_neg hc3_5, if_neg hc11_12, if_neg hc21_21, if_neg hc31_30]
            exact ⟨(by rw [hv]), N0, rfl⟩
theorem own_ef_own_hxc (m : MethodId) (p0 : Int32) : entryFrame m #[(.int p0)] 1 = mkF m 0 #[.val (.int p0)] [] := by first | (simp [entryFrame, mkF, argsToLocals, Value.category]; done) | rfl
theorem d7_0 : decode b_7 0 = .ok (.iload_n 0, 1) := by decide +kernel
theorem d7_1 : decode b_7 1 = .ok (.bipush 10, 2) := by decide +kernel
theorem d7_3 : decode b_7 3 = .ok (.if_icmp .ge 9, 3) := by decide +kernel
theorem d7_6 : decode b_7 6 = .ok (.bipush 48, 2) := by decide +kernel
theorem d7_8 : decode b_7 8 = .ok (.iload_n 0, 1) := by decide +kernel
theorem d7_9 : decode b_7 9 = .ok (.iadd, 1) := by decide +kernel
theorem d7_10 : decode b_7 10 = .ok (.i2c, 1) := by decide +kernel
theorem d7_11 : decode b_7 11 = .ok (.ireturn, 1) := by decide +kernel
theorem d7_12 : decode b_7 12 = .ok (.bipush 97, 2) := by decide +kernel
theorem d7_14 : decode b_7 14 = .ok (.iload_n 0, 1) := by decide +kernel
theorem d7_15 : decode b_7 15 = .ok (.bipush 10, 2) := by decide +kernel
theorem d7_17 : decode b_7 17 = .ok (.isub, 1) := by decide +kernel
theorem d7_18 : decode b_7 18 = .ok (.iadd, 1) := by decide +kernel
theorem d7_19 : decode b_7 19 = .ok (.i2c, 1) := by decide +kernel
theorem d7_20 : decode b_7 20 = .ok (.ireturn, 1) := by decide +kernel
def own_hxc_f (p0 : Int32) : Int32 := (if p0 < (10 : Int32) then (nar .char (((48 : Int32) + p0).toUInt32.toUInt16.toUInt32.toInt32)) else (nar .char (((97 : Int32) + (p0 - (10 : Int32))).toUInt32.toUInt16.toUInt32.toInt32)))
def Qown_hxc (Z : State) (p0 : Int32) (h0 : Heap) (n0 : Nat) (v : Option Value) (h : Heap) (L : List Loc) : Prop := v = some (.int (own_hxc_f p0)) ∧ Fr n0 L ∧ h = h0
set_option maxRecDepth 65536 in
set_option maxHeartbeats 40000000 in
theorem own_hxc (l : Launch) (Z : State) (a0 : Array Value) (hw : ∀ d ∈ tables_1, d.before a0 Z = true) (ws : List Jvm.Cond) (p0 : Int32) (h0 : Heap) (n0 : Nat) (Z0 : n0 ≤ h0.size) :
    MetFree l y_2 (head1 (Jvm.Cond.code y_2 method_6_code 1 (some .char) :: ws) (RM 0 0 0 0)) (fun a U => a = #[(.int p0)] ∧ Z.Warmed39 U.vm ∧ U.heap = h0) (fun _ _ _ _ _ => True) (fun _ U o U' => ∃ v L, o = .returned v ∧ Qown_hxc Z p0 h0 n0 v U'.heap L ∧ FrameEnd U o U' L (RM 0 0 0 0).cells (RM 0 0 0 0).slots) := by
  refine MetFree.of_bodySF (plainFor_of_name own_pn0) hisR ?_
  intro p e s m args below meth c s₁ Bd hml0 hP hK
  obtain ⟨rfl, hZ, hh⟩ := hP
  have hx := Bd.exec
  have hby := Bd.bytes
  have hml : c.maxLocals = 1 := hml0
  have hown : s.vm.findClass "com/example/rosterhall/rosterhall/ResourceIdParsePinLaw" = some m.cls := findClass_of_methodNamed Bd.named
  have X0 : Stand p l e (RM 0 0 0 0) s m #[(.int p0)] below meth c s₁ [] 0 0 := Stand.of_body Bd
  have e0 : s₁.heap = h0 := by rw [← hh, Bd.state]; rfl
  have N0 := Fr.nil n0
  have pre0 : ∀ t, Steps p.tables e below (s₁.setTop (mkF m 0 #[vI (p0)] [])) t → Steps p.tables e below (s₁.setTop (entryFrame m #[(.int p0)] 1)) t := fun t k => castTop (own_ef_own_hxc m p0) k
  have pre4 : ∀ t, Steps p.tables e below (s₁.setTop (mkF m 3 #[vI (p0)] [(.int 10), (.int p0)])) t → Steps p.tables e below (s₁.setTop (entryFrame m #[(.int p0)] 1)) t := by
    intro t kt
    refine pre0 _ ?_
    show SS p e below m s₁ 0 #[vI (p0)] [] _
    refine ziloadN X0 hx hby d7_0 rfl ?_
    refine zbipush X0 hx hby (10) d7_1 rfl ?_
    exact kt
  by_cases hc3_5 : p0 < (10 : Int32)
  · obtain ⟨fs, hr, hrun, hended, hW, hsame⟩ := X0.leave (v := some (.int (nar .char (((48 : Int32) + p0).toUInt32.toUInt16.toUInt32.toInt32)))) (fun h => by rw [Bd.returns] at h; cases h) (hlocks := BodyLoose.notSynchronized Bd)
    refine ⟨_, _, pre4 _ ?_, hrun, hended, _, _, rfl, ?_, ⟨_, rfl⟩, hW, hsame.mono (by decide) (by decide)⟩
    · show SS p e below m s₁ 3 #[vI (p0)] [(.int 10), (.int p0)] _
      refine zicmpNo X0 hx hby d7_3 (tlt hc3_5).2.1 ?_
      refine zbipush X0 hx hby (48) d7_6 rfl ?_
      refine ziloadN X0 hx hby d7_8 rfl ?_
      show SS p e below m s₁ 9 #[vI (p0)] [(.int p0), (.int 48)] _
      refine XS.iadd X0.here hx rfl (hb hby d7_9) rfl ?_
      show SS p e below m s₁ 10 #[vI (p0)] [(.int ((48 : Int32) + p0))] _
      refine XS.i2c X0.here hx rfl (hb hby d7_10) rfl ?_
      show SS p e below m s₁ 11 #[vI (p0)] [(.int (((48 : Int32) + p0).toUInt32.toUInt16.toUInt32.toInt32))] _
      exact retN X0 hx (t := .char) Bd.returns (by simp) (hb hby d7_11) hr
    · show Qown_hxc Z p0 h0 n0 _ s₁.heap _
      rw [e0]
      have hv : (own_hxc_f p0) = (nar .char (((48 : Int32) + p0).toUInt32.toUInt16.toUInt32.toInt32)) := by unfold own_hxc_f; rw [if_pos hc3_5]
      exact ⟨(by rw [hv]), N0, rfl⟩
  · obtain ⟨fs, hr, hrun, hended, hW, hsame⟩ := X0.leave (v := some (.int (nar .char (((97 : Int32) + (p0 - (10 : Int32))).toUInt32.toUInt16.toUInt32.toInt32)))) (fun h => by rw [Bd.returns] at h; cases h) (hlocks := BodyLoose.notSynchronized Bd)
    refine ⟨_, _, pre4 _ ?_, hrun, hended, _, _, rfl, ?_, ⟨_, rfl⟩, hW, hsame.mono (by decide) (by decide)⟩
    · show SS p e below m s₁ 3 #[vI (p0)] [(.int 10), (.int p0)] _
      refine zicmpYes X0 hx hby 3 12 rfl d7_3 (flt hc3_5).2.1 (by decide) (by decide) ?_
      refine zbipush X0 hx hby (97) d7_12 rfl ?_
      refine ziloadN X0 hx hby d7_14 rfl ?_
      refine zbipush X0 hx hby (10) d7_15 rfl ?_
      show SS p e below m s₁ 17 #[vI (p0)] [(.int 10), (.int p0), (.int 97)] _
      refine XS.isub X0.here hx rfl (hb hby d7_17) rfl ?_
      show SS p e below m s₁ 18 #[vI (p0)] [(.int (p0 - (10 : Int32))), (.int 97)] _
      refine XS.iadd X0.here hx rfl (hb hby d7_18) rfl ?_
      show SS p e below m s₁ 19 #[vI (p0)] [(.int ((97 : Int32) + (p0 - (10 : Int32))))] _
      refine XS.i2c X0.here hx rfl (hb hby d7_19) rfl ?_
      show SS p e below m s₁ 20 #[vI (p0)] [(.int (((97 : Int32) + (p0 - (10 : Int32))).toUInt32.toUInt16.toUInt32.toInt32))] _
      exact retN X0 hx (t := .char) Bd.returns (by simp) (hb hby d7_20) hr
    · show Qown_hxc Z p0 h0 n0 _ s₁.heap _
      rw [e0]
      have hv : (own_hxc_f p0) = (nar .char (((97 : Int32) + (p0 - (10 : Int32))).toUInt32.toUInt16.toUInt32.toInt32)) := by unfold own_hxc_f; rw [if_neg hc3_5]
      exact ⟨(by rw [hv]), N0, rfl⟩
theorem own_ef_own_dgc (m : MethodId) (q0 : Int64) (q1 : Int64) (p2 : Int32) : entryFrame m #[(.long q0), (.long q1), (.int p2)] 7 = mkF m 0 #[.val (.long q0), .second, .val (.long q1), .second, .val (.int p2), .unset, .unset] [] := by first | (simp [entryFrame, mkF, argsToLocals, Value.category]; done) | rfl
theorem own_pd0 : parseMethodDescriptor "(I)C" = some ⟨[.int], some .char⟩ := by decide +kernel
theorem d6_0 : decode b_6 0 = .ok (.iload 4, 2) := by decide +kernel
theorem d6_2 : decode b_6 2 = .ok (.bipush 16, 2) := by decide +kernel
theorem d6_4 : decode b_6 4 = .ok (.if_icmp .ge 21, 3) := by decide +kernel
theorem d6_7 : decode b_6 7 = .ok (.lload_n 0, 1) := by decide +kernel
theorem d6_8 : decode b_6 8 = .ok (.bipush 60, 2) := by decide +kernel
theorem d6_10 : decode b_6 10 = .ok (.iconst 4, 1) := by decide +kernel
theorem d6_11 : decode b_6 11 = .ok (.iload 4, 2) := by decide +kernel
theorem d6_13 : decode b_6 13 = .ok (.imul, 1) := by decide +kernel
theorem d6_14 : decode b_6 14 = .ok (.isub, 1) := by decide +kernel
theorem d6_15 : decode b_6 15 = .ok (.lushr, 1) := by decide +kernel
theorem d6_16 : decode b_6 16 = .ok (.ldc2_w 44, 3) := by decide +kernel
theorem d6_19 : decode b_6 19 = .ok (.land, 1) := by decide +kernel
theorem d6_20 : decode b_6 20 = .ok (.lstore 5, 2) := by decide +kernel
theorem d6_22 : decode b_6 22 = .ok (.goto 21, 3) := by decide +kernel
theorem d6_25 : decode b_6 25 = .ok (.lload_n 2, 1) := by decide +kernel
theorem d6_26 : decode b_6 26 = .ok (.bipush 60, 2) := by decide +kernel
theorem d6_28 : decode b_6 28 = .ok (.iconst 4, 1) := by decide +kernel
theorem d6_29 : decode b_6 29 = .ok (.iload 4, 2) := by decide +kernel
theorem d6_31 : decode b_6 31 = .ok (.bipush 16, 2) := by decide +kernel
theorem d6_33 : decode b_6 33 = .ok (.isub, 1) := by decide +kernel
theorem d6_34 : decode b_6 34 = .ok (.imul, 1) := by decide +kernel
theorem d6_35 : decode b_6 35 = .ok (.isub, 1) := by decide +kernel
theorem d6_36 : decode b_6 36 = .ok (.lushr, 1) := by decide +kernel
theorem d6_37 : decode b_6 37 = .ok (.ldc2_w 44, 3) := by decide +kernel
theorem d6_40 : decode b_6 40 = .ok (.land, 1) := by decide +kernel
theorem d6_41 : decode b_6 41 = .ok (.lstore 5, 2) := by decide +kernel
theorem d6_43 : decode b_6 43 = .ok (.lload 5, 2) := by decide +kernel
theorem d6_45 : decode b_6 45 = .ok (.l2i, 1) := by decide +kernel
theorem d6_46 : decode b_6 46 = .ok (.invokestatic 59, 3) := by decide +kernel
theorem d6_49 : decode b_6 49 = .ok (.ireturn, 1) := by decide +kernel
def own_dgc_f (q0 : Int64) (q1 : Int64) (p2 : Int32) : Int32 := (if p2 < (16 : Int32) then (nar .char (own_hxc_f ((((q0.toUInt64 >>> (((60 : Int32) - ((4 : Int32) * p2)) &&& 0x3f).toInt64.toUInt64).toInt64) &&& (15 : Int64)).toInt32))) else (nar .char (own_hxc_f ((((q1.toUInt64 >>> (((60 : Int32) - ((4 : Int32) * (p2 - (16 : Int32)))) &&& 0x3f).toInt64.toUInt64).toInt64) &&& (15 : Int64)).toInt32))))
def Qown_dgc (Z : State) (q0 : Int64) (q1 : Int64) (p2 : Int32) (h0 : Heap) (n0 : Nat) (v : Option Value) (h : Heap) (L : List Loc) : Prop := v = some (.int (own_dgc_f q0 q1 p2)) ∧ Fr n0 L ∧ h = h0
set_option maxRecDepth 65536 in
set_option maxHeartbeats 40000000 in
theorem own_dgc (l : Launch) (Z : State) (a0 : Array Value) (hw : ∀ d ∈ tables_1, d.before a0 Z = true) (ws : List Jvm.Cond) (q0 : Int64) (q1 : Int64) (p2 : Int32) (h0 : Heap) (n0 : Nat) (Z0 : n0 ≤ h0.size) :
    MetFree l y_3 (head1 (Jvm.Cond.code y_3 method_7_code 7 (some .char) :: ws) (RM 1 0 0 12)) (fun a U => a = #[(.long q0), (.long q1), (.int p2)] ∧ Z.Warmed39 U.vm ∧ U.heap = h0) (fun _ _ _ _ _ => True) (fun _ U o U' => ∃ v L, o = .returned v ∧ Qown_dgc Z q0 q1 p2 h0 n0 v U'.heap L ∧ FrameEnd U o U' L (RM 1 0 0 12).cells (RM 1 0 0 12).slots) := by
  refine MetFree.of_bodySF (plainFor_of_name own_pn0) hisR ?_
  intro p e s m args below meth c s₁ Bd hml0 hP hK
  obtain ⟨rfl, hZ, hh⟩ := hP
  have hx := Bd.exec
  have hby := Bd.bytes
  have hml : c.maxLocals = 7 := hml0
  have hown : s.vm.findClass "com/example/rosterhall/rosterhall/ResourceIdParsePinLaw" = some m.cls := findClass_of_methodNamed Bd.named
  have X0 : Stand p l e (RM 1 0 0 12) s m #[(.long q0), (.long q1), (.int p2)] below meth c s₁ [] 0 0 := Stand.of_body Bd
  have e0 : s₁.heap = h0 := by rw [← hh, Bd.state]; rfl
  have N0 := Fr.nil n0
  have pre0 : ∀ t, Steps p.tables e below (s₁.setTop (mkF m 0 #[vJ (q0), s_, vJ (q1), s_, vI (p2), u_, u_] [])) t → Steps p.tables e below (s₁.setTop (entryFrame m #[(.long q0), (.long q1), (.int p2)] 7)) t := fun t k => castTop (own_ef_own_dgc m q0 q1 p2) k
  have pre4 : ∀ t, Steps p.tables e below (s₁.setTop (mkF m 4 #[vJ (q0), s_, vJ (q1), s_, vI (p2), u_, u_] [(.int 16), (.int p2)])) t → Steps p.tables e below (s₁.setTop (entryFrame m #[(.long q0), (.long q1), (.int p2)] 7)) t := by
    intro t kt
    refine pre0 _ ?_
    show SS p e below m s₁ 0 #[vJ (q0), s_, vJ (q1), s_, vI (p2), u_, u_] [] _
    refine ziload X0 hx hby d6_0 rfl ?_
    refine zbipush X0 hx hby (16) d6_2 rfl ?_
    exact kt
  by_cases hc4_5 : p2 < (16 : Int32)
  · obtain ⟨_, _, ⟨T20, L20, k20, n20⟩, -, X20, ⟨Lc20, hQ20, l20, y20, z20⟩, st20⟩ := Jvm.LawKit.callS X0 hx (y := y_2) hown (mvT hZ (hw _ (gm 23 rfl))) (mvT hZ (hw _ (gm 24 rfl))) (mvT hZ (hw _ (gm 4 rfl))) (mvT hZ (hw _ (gm 25 rfl))) (by decide) (backOf (W := 0) (own_hxc l Z a0 hw [] ((((q0.toUInt64 >>> (((60 : Int32) - ((4 : Int32) * p2)) &&& 0x3f).toInt64.toUInt64).toInt64) &&& (15 : Int64)).toInt32) h0 n0 Z0 ) hZ (hw _ (gm 25 rfl)) (hw _ (gm 4 rfl)) (by decide) (by decide)) (g := (mkF m 46 #[vJ (q0), s_, vJ (q1), s_, vI (p2), vJ ((((q0.toUInt64 >>> (((60 : Int32) - ((4 : Int32) * p2)) &&& 0x3f).toInt64.toUInt64).toInt64) &&& (15 : Int64))), s_] [(.int ((((q0.toUInt64 >>> (((60 : Int32) - ((4 : Int32) * p2)) &&& 0x3f).toInt64.toUInt64).toInt64) &&& (15 : Int64)).toInt32))])) rfl (by rw [hml]; rfl) (argsL := [(.int ((((q0.toUInt64 >>> (((60 : Int32) - ((4 : Int32) * p2)) &&& 0x3f).toInt64.toUInt64).toInt64) &&& (15 : Int64)).toInt32))]) (rest := []) (lenOf own_pd0 rfl) rfl (by show 2 * 0 + _ ≤ _; exact Nat.le_of_eq rfl) (hb hby d6_46) (fun _ _ => ⟨rfl, e0, (by decide : 0 + 0 ≤ _), (by decide : 0 + 0 ≤ _)⟩)
    dsimp only [Pt.U, Pt.locs, Pt.cells, Pt.slots] at X20 l20 y20 z20 st20 hQ20
    rw [l20, y20, z20] at X20
    obtain ⟨rfl, Nq20, eh20⟩ := hQ20
    have N21 := Fr.app N0 Nq20
    obtain ⟨fs, hr, hrun, hended, hW, hsame⟩ := X20.leave (v := some (.int (nar .char (own_hxc_f ((((q0.toUInt64 >>> (((60 : Int32) - ((4 : Int32) * p2)) &&& 0x3f).toInt64.toUInt64).toInt64) &&& (15 : Int64)).toInt32))))) (fun h => by rw [Bd.returns] at h; cases h) (hlocks := BodyLoose.notSynchronized Bd)
    refine ⟨_, _, pre4 _ ?_, hrun, hended, _, _, rfl, ?_, ⟨_, rfl⟩, hW, hsame.mono (by decide) (by decide)⟩
    · show SS p e below m s₁ 4 #[vJ (q0), s_, vJ (q1), s_, vI (p2), u_, u_] [(.int 16), (.int p2)] _
      refine zicmpNo X0 hx hby d6_4 (tlt hc4_5).2.1 ?_
      refine zlloadN X0 hx hby d6_7 rfl ?_
      refine zbipush X0 hx hby (60) d6_8 rfl ?_
      refine ziconst X0 hx hby (4) d6_10 rfl ?_
      refine ziload X0 hx hby d6_11 rfl ?_
      show SS p e below m s₁ 13 #[vJ (q0), s_, vJ (q1), s_, vI (p2), u_, u_] [(.int p2), (.int 4), (.int 60), (.long q0)] _
      refine XS.imul X0.here hx rfl (hb hby d6_13) rfl ?_
      show SS p e below m s₁ 14 #[vJ (q0), s_, vJ (q1), s_, vI (p2), u_, u_] [(.int ((4 : Int32) * p2)), (.int 60), (.long q0)] _
      refine XS.isub X0.here hx rfl (hb hby d6_14) rfl ?_
      show SS p e below m s₁ 15 #[vJ (q0), s_, vJ (q1), s_, vI (p2), u_, u_] [(.int ((60 : Int32) - ((4 : Int32) * p2))), (.long q0)] _
      refine XS.lushr X0.here hx rfl (hb hby d6_15) rfl ?_
      show SS p e below m s₁ 16 #[vJ (q0), s_, vJ (q1), s_, vI (p2), u_, u_] [(.long ((q0.toUInt64 >>> (((60 : Int32) - ((4 : Int32) * p2)) &&& 0x3f).toInt64.toUInt64).toInt64))] _
      refine X0.ldc2Long hx hown (mvT hZ (hw _ (gm 22 rfl))) (g := (mkF m 16 #[vJ (q0), s_, vJ (q1), s_, vI (p2), u_, u_] [(.long ((q0.toUInt64 >>> (((60 : Int32) - ((4 : Int32) * p2)) &&& 0x3f).toInt64.toUInt64).toInt64))])) rfl (hb hby d6_16) _ ?_
      show SS p e below m s₁ 19 #[vJ (q0), s_, vJ (q1), s_, vI (p2), u_, u_] [(.long 15), (.long ((q0.toUInt64 >>> (((60 : Int32) - ((4 : Int32) * p2)) &&& 0x3f).toInt64.toUInt64).toInt64))] _
      refine XS.land X0.here hx rfl (hb hby d6_19) rfl ?_
      show SS p e below m s₁ 20 #[vJ (q0), s_, vJ (q1), s_, vI (p2), u_, u_] [(.long (((q0.toUInt64 >>> (((60 : Int32) - ((4 : Int32) * p2)) &&& 0x3f).toInt64.toUInt64).toInt64) &&& (15 : Int64)))] _
      refine zlstore (l' := #[vJ (q0), s_, vJ (q1), s_, vI (p2), vJ ((((q0.toUInt64 >>> (((60 : Int32) - ((4 : Int32) * p2)) &&& 0x3f).toInt64.toUInt64).toInt64) &&& (15 : Int64))), s_]) X0 hx hby d6_20 rfl ?_
      refine zgoto X0 hx hby 22 43 rfl d6_22 (by decide) (by decide) ?_
      refine zlload X0 hx hby d6_43 rfl ?_
      show SS p e below m s₁ 45 #[vJ (q0), s_, vJ (q1), s_, vI (p2), vJ ((((q0.toUInt64 >>> (((60 : Int32) - ((4 : Int32) * p2)) &&& 0x3f).toInt64.toUInt64).toInt64) &&& (15 : Int64))), s_] [(.long (((q0.toUInt64 >>> (((60 : Int32) - ((4 : Int32) * p2)) &&& 0x3f).toInt64.toUInt64).toInt64) &&& (15 : Int64)))] _
      refine XS.l2i X0.here hx rfl (hb hby d6_45) rfl ?_
      show SS p e below m s₁ 46 #[vJ (q0), s_, vJ (q1), s_, vI (p2), vJ ((((q0.toUInt64 >>> (((60 : Int32) - ((4 : Int32) * p2)) &&& 0x3f).toInt64.toUInt64).toInt64) &&& (15 : Int64))), s_] [(.int ((((q0.toUInt64 >>> (((60 : Int32) - ((4 : Int32) * p2)) &&& 0x3f).toInt64.toUInt64).toInt64) &&& (15 : Int64)).toInt32))] _
      refine st20 _ ?_
      exact retN X20 hx (t := .char) Bd.returns (by simp) (hb hby d6_49) hr
    · show Qown_dgc Z q0 q1 p2 h0 n0 _ T20.heap _
      rw [eh20]
      have hv : (own_dgc_f q0 q1 p2) = (nar .char (own_hxc_f ((((q0.toUInt64 >>> (((60 : Int32) - ((4 : Int32) * p2)) &&& 0x3f).toInt64.toUInt64).toInt64) &&& (15 : Int64)).toInt32))) := by unfold own_dgc_f; rw [if_pos hc4_5]
      exact ⟨(by rw [hv]), N21, rfl⟩
  · obtain ⟨_, _, ⟨T38, L38, k38, n38⟩, -, X38, ⟨Lc38, hQ38, l38, y38, z38⟩, st38⟩ := Jvm.LawKit.callS X0 hx (y := y_2) hown (mvT hZ (hw _ (gm 23 rfl))) (mvT hZ (hw _ (gm 24 rfl))) (mvT hZ (hw _ (gm 4 rfl))) (mvT hZ (hw _ (gm 25 rfl))) (by decide) (backOf (W := 0) (own_hxc l Z a0 hw [] ((((q1.toUInt64 >>> (((60 : Int32) - ((4 : Int32) * (p2 - (16 : Int32)))) &&& 0x3f).toInt64.toUInt64).toInt64) &&& (15 : Int64)).toInt32) h0 n0 Z0 ) hZ (hw _ (gm 25 rfl)) (hw _ (gm 4 rfl)) (by decide) (by decide)) (g := (mkF m 46 #[vJ (q0), s_, vJ (q1), s_, vI (p2), vJ ((((q1.toUInt64 >>> (((60 : Int32) - ((4 : Int32) * (p2 - (16 : Int32)))) &&& 0x3f).toInt64.toUInt64).toInt64) &&& (15 : Int64))), s_] [(.int ((((q1.toUInt64 >>> (((60 : Int32) - ((4 : Int32) * (p2 - (16 : Int32)))) &&& 0x3f).toInt64.toUInt64).toInt64) &&& (15 : Int64)).toInt32))])) rfl (by rw [hml]; rfl) (argsL := [(.int ((((q1.toUInt64 >>> (((60 : Int32) - ((4 : Int32) * (p2 - (16 : Int32)))) &&& 0x3f).toInt64.toUInt64).toInt64) &&& (15 : Int64)).toInt32))]) (rest := []) (lenOf own_pd0 rfl) rfl (by show 2 * 0 + _ ≤ _; exact Nat.le_of_eq rfl) (hb hby d6_46) (fun _ _ => ⟨rfl, e0, (by decide : 0 + 0 ≤ _), (by decide : 0 + 0 ≤ _)⟩)
    dsimp only [Pt.U, Pt.locs, Pt.cells, Pt.slots] at X38 l38 y38 z38 st38 hQ38
    rw [l38, y38, z38] at X38
    obtain ⟨rfl, Nq38, eh38⟩ := hQ38
    have N39 := Fr.app N0 Nq38
    obtain ⟨fs, hr, hrun, hended, hW, hsame⟩ := X38.leave (v := some (.int (nar .char (own_hxc_f ((((q1.toUInt64 >>> (((60 : Int32) - ((4 : Int32) * (p2 - (16 : Int32)))) &&& 0x3f).toInt64.toUInt64).toInt64) &&& (15 : Int64)).toInt32))))) (fun h => by rw [Bd.returns] at h; cases h) (hlocks := BodyLoose.notSynchronized Bd)
    refine ⟨_, _, pre4 _ ?_, hrun, hended, _, _, rfl, ?_, ⟨_, rfl⟩, hW, hsame.mono (by decide) (by decide)⟩
    · show SS p e below m s₁ 4 #[vJ (q0), s_, vJ (q1), s_, vI (p2), u_, u_] [(.int 16), (.int p2)] _
      refine zicmpYes X0 hx hby 4 25 rfl d6_4 (flt hc4_5).2.1 (by decide) (by decide) ?_
      refine zlloadN X0 hx hby d6_25 rfl ?_
      refine zbipush X0 hx hby (60) d6_26 rfl ?_
      refine ziconst X0 hx hby (4) d6_28 rfl ?_
      refine ziload X0 hx hby d6_29 rfl ?_
      refine zbipush X0 hx hby (16) d6_31 rfl ?_
      show SS p e below m s₁ 33 #[vJ (q0), s_, vJ (q1), s_, vI (p2), u_, u_] [(.int 16), (.int p2), (.int 4), (.int 60), (.long q1)] _
      refine XS.isub X0.here hx rfl (hb hby d6_33) rfl ?_
      show SS p e below m s₁ 34 #[vJ (q0), s_, vJ (q1), s_, vI (p2), u_, u_] [(.int (p2 - (16 : Int32))), (.int 4), (.int 60), (.long q1)] _
      refine XS.imul X0.here hx rfl (hb hby d6_34) rfl ?_
      show SS p e below m s₁ 35 #[vJ (q0), s_, vJ (q1), s_, vI (p2), u_, u_] [(.int ((4 : Int32) * (p2 - (16 : Int32)))), (.int 60), (.long q1)] _
      refine XS.isub X0.here hx rfl (hb hby d6_35) rfl ?_
      show SS p e below m s₁ 36 #[vJ (q0), s_, vJ (q1), s_, vI (p2), u_, u_] [(.int ((60 : Int32) - ((4 : Int32) * (p2 - (16 : Int32))))), (.long q1)] _
      refine XS.lushr X0.here hx rfl (hb hby d6_36) rfl ?_
      show SS p e below m s₁ 37 #[vJ (q0), s_, vJ (q1), s_, vI (p2), u_, u_] [(.long ((q1.toUInt64 >>> (((60 : Int32) - ((4 : Int32) * (p2 - (16 : Int32)))) &&& 0x3f).toInt64.toUInt64).toInt64))] _
      refine X0.ldc2Long hx hown (mvT hZ (hw _ (gm 22 rfl))) (g := (mkF m 37 #[vJ (q0), s_, vJ (q1), s_, vI (p2), u_, u_] [(.long ((q1.toUInt64 >>> (((60 : Int32) - ((4 : Int32) * (p2 - (16 : Int32)))) &&& 0x3f).toInt64.toUInt64).toInt64))])) rfl (hb hby d6_37) _ ?_
      show SS p e below m s₁ 40 #[vJ (q0), s_, vJ (q1), s_, vI (p2), u_, u_] [(.long 15), (.long ((q1.toUInt64 >>> (((60 : Int32) - ((4 : Int32) * (p2 - (16 : Int32)))) &&& 0x3f).toInt64.toUInt64).toInt64))] _
      refine XS.land X0.here hx rfl (hb hby d6_40) rfl ?_
      show SS p e below m s₁ 41 #[vJ (q0), s_, vJ (q1), s_, vI (p2), u_, u_] [(.long (((q1.toUInt64 >>> (((60 : Int32) - ((4 : Int32) * (p2 - (16 : Int32)))) &&& 0x3f).toInt64.toUInt64).toInt64) &&& (15 : Int64)))] _
      refine zlstore (l' := #[vJ (q0), s_, vJ (q1), s_, vI (p2), vJ ((((q1.toUInt64 >>> (((60 : Int32) - ((4 : Int32) * (p2 - (16 : Int32)))) &&& 0x3f).toInt64.toUInt64).toInt64) &&& (15 : Int64))), s_]) X0 hx hby d6_41 rfl ?_
      refine zlload X0 hx hby d6_43 rfl ?_
      show SS p e below m s₁ 45 #[vJ (q0), s_, vJ (q1), s_, vI (p2), vJ ((((q1.toUInt64 >>> (((60 : Int32) - ((4 : Int32) * (p2 - (16 : Int32)))) &&& 0x3f).toInt64.toUInt64).toInt64) &&& (15 : Int64))), s_] [(.long (((q1.toUInt64 >>> (((60 : Int32) - ((4 : Int32) * (p2 - (16 : Int32)))) &&& 0x3f).toInt64.toUInt64).toInt64) &&& (15 : Int64)))] _
      refine XS.l2i X0.here hx rfl (hb hby d6_45) rfl ?_
      show SS p e below m s₁ 46 #[vJ (q0), s_, vJ (q1), s_, vI (p2), vJ ((((q1.toUInt64 >>> (((60 : Int32) - ((4 : Int32) * (p2 - (16 : Int32)))) &&& 0x3f).toInt64.toUInt64).toInt64) &&& (15 : Int64))), s_] [(.int ((((q1.toUInt64 >>> (((60 : Int32) - ((4 : Int32) * (p2 - (16 : Int32)))) &&& 0x3f).toInt64.toUInt64).toInt64) &&& (15 : Int64)).toInt32))] _
      refine st38 _ ?_
      exact retN X38 hx (t := .char) Bd.returns (by simp) (hb hby d6_49) hr
    · show Qown_dgc Z q0 q1 p2 h0 n0 _ T38.heap _
      rw [eh38]
      have hv : (own_dgc_f q0 q1 p2) = (nar .char (own_hxc_f ((((q1.toUInt64 >>> (((60 : Int32) - ((4 : Int32) * (p2 - (16 : Int32)))) &&& 0x3f).toInt64.toUInt64).toInt64) &&& (15 : Int64)).toInt32))) := by unfold own_dgc_f; rw [if_neg hc4_5]
      exact ⟨(by rw [hv]), N39, rfl⟩
theorem own_ef_own_pos (m : MethodId) (q0 : Int64) (q1 : Int64) (p2 : Int32) : entryFrame m #[(.long q0), (.long q1), (.int p2)] 5 = mkF m 0 #[.val (.long q0), .second, .val (.long q1), .second, .val (.int p2)] [] := by first | (simp [entryFrame, mkF, argsToLocals, Value.category]; done) | rfl
theorem own_pd1 : parseMethodDescriptor "(I)Z" = some ⟨[.int], some .boolean⟩ := by decide +kernel
theorem own_pd2 : parseMethodDescriptor "(I)I" = some ⟨[.int], some .int⟩ := by decide +kernel
theorem own_pd3 : parseMethodDescriptor "(JJI)C" = some ⟨[.long, .long, .int], some .char⟩ := by decide +kernel
theorem d3_0 : decode b_3 0 = .ok (.iload 4, 2) := by decide +kernel
theorem d3_2 : decode b_3 2 = .ok (.invokestatic 32, 3) := by decide +kernel
theorem d3_5 : decode b_3 5 = .ok (.ifCond .eq 6, 3) := by decide +kernel
theorem d3_8 : decode b_3 8 = .ok (.bipush 45, 2) := by decide +kernel
theorem d3_10 : decode b_3 10 = .ok (.ireturn, 1) := by decide +kernel
theorem d3_11 : decode b_3 11 = .ok (.lload_n 0, 1) := by decide +kernel
theorem d3_12 : decode b_3 12 = .ok (.lload_n 2, 1) := by decide +kernel
theorem d3_13 : decode b_3 13 = .ok (.iload 4, 2) := by decide +kernel
theorem d3_15 : decode b_3 15 = .ok (.invokestatic 40, 3) := by decide +kernel
theorem d3_18 : decode b_3 18 = .ok (.invokestatic 63, 3) := by decide +kernel
theorem d3_21 : decode b_3 21 = .ok (.ireturn, 1) := by decide +kernel
def own_pos_f (q0 : Int64) (q1 : Int64) (p2 : Int32) : Int32 := (if (own_isd_f p2) = (0 : Int32) then (nar .char (own_dgc_f q0 q1 (own_dix_f p2))) else (45 : Int32))
def Qown_pos (Z : State) (q0 : Int64) (q1 : Int64) (p2 : Int32) (h0 : Heap) (n0 : Nat) (v : Option Value) (h : Heap) (L : List Loc) : Prop := v = some (.int (own_pos_f q0 q1 p2)) ∧ Fr n0 L ∧ h = h0
set_option maxRecDepth 65536 in
set_option maxHeartbeats 40000000 in
theorem own_pos (l : Launch) (Z : State) (a0 : Array Value) (hw : ∀ d ∈ tables_1, d.before a0 Z = true) (ws : List Jvm.Cond) (q0 : Int64) (q1 : Int64) (p2 : Int32) (h0 : Heap) (n0 : Nat) (Z0 : n0 ≤ h0.size) :
    MetFree l y_4 (head1 (Jvm.Cond.code y_4 method_8_code 5 (some .char) :: ws) (RM 2 0 0 30)) (fun a U => a = #[(.long q0), (.long q1), (.int p2)] ∧ Z.Warmed39 U.vm ∧ U.heap = h0) (fun _ _ _ _ _ => True) (fun _ U o U' => ∃ v L, o = .returned v ∧ Qown_pos Z q0 q1 p2 h0 n0 v U'.heap L ∧ FrameEnd U o U' L (RM 2 0 0 30).cells (RM 2 0 0 30).slots) := by
  refine MetFree.of_bodySF (plainFor_of_name own_pn0) hisR ?_
  intro p e s m args below meth c s₁ Bd hml0 hP hK
  obtain ⟨rfl, hZ, hh⟩ := hP
  have hx := Bd.exec
  have hby := Bd.bytes
  have hml : c.maxLocals = 5 := hml0
  have hown : s.vm.findClass "com/example/rosterhall/rosterhall/ResourceIdParsePinLaw" = some m.cls := findClass_of_methodNamed Bd.named
  have X0 : Stand p l e (RM 2 0 0 30) s m #[(.long q0), (.long q1), (.int p2)] below meth c s₁ [] 0 0 := Stand.of_body Bd
  have e0 : s₁.heap = h0 := by rw [← hh, Bd.state]; rfl
  have N0 := Fr.nil n0
  have pre0 : ∀ t, Steps p.tables e below (s₁.setTop (mkF m 0 #[vJ (q0), s_, vJ (q1), s_, vI (p2)] [])) t → Steps p.tables e below (s₁.setTop (entryFrame m #[(.long q0), (.long q1), (.int p2)] 5)) t := fun t k => castTop (own_ef_own_pos m q0 q1 p2) k
  obtain ⟨_, _, ⟨T3, L3, k3, n3⟩, -, X3, ⟨Lc3, hQ3, l3, y3, z3⟩, st3⟩ := Jvm.LawKit.callS X0 hx (y := y_0) hown (mvT hZ (hw _ (gm 13 rfl))) (mvT hZ (hw _ (gm 14 rfl))) (mvT hZ (hw _ (gm 4 rfl))) (mvT hZ (hw _ (gm 15 rfl))) (by decide) (backOf (W := 0) (own_isd l Z a0 hw [] p2 h0 n0 Z0 ) hZ (hw _ (gm 15 rfl)) (hw _ (gm 4 rfl)) (by decide) (by decide)) (g := (mkF m 2 #[vJ (q0), s_, vJ (q1), s_, vI (p2)] [(.int p2)])) rfl (by rw [hml]; rfl) (argsL := [(.int p2)]) (rest := []) (lenOf own_pd1 rfl) rfl (by show 2 * 0 + _ ≤ _; exact Nat.le_of_eq rfl) (hb hby d3_2) (fun _ _ => ⟨rfl, e0, (by decide : 0 + 0 ≤ _), (by decide : 0 + 0 ≤ _)⟩)
  dsimp only [Pt.U, Pt.locs, Pt.cells, Pt.slots] at X3 l3 y3 z3 st3 hQ3
  rw [l3, y3, z3] at X3
  obtain ⟨rfl, Nq3, eh3⟩ := hQ3
  have N4 := Fr.app N0 Nq3
  have pre6 : ∀ t, Steps p.tables e below (T3.setTop (mkF m 5 #[vJ (q0), s_, vJ (q1), s_, vI (p2)] [(.int (own_isd_f p2))])) t → Steps p.tables e below (s₁.setTop (entryFrame m #[(.long q0), (.long q1), (.int p2)] 5)) t := by
    intro t kt
    refine pre0 _ ?_
    show SS p e below m s₁ 0 #[vJ (q0), s_, vJ (q1), s_, vI (p2)] [] _
    refine ziload X0 hx hby d3_0 rfl ?_
    refine st3 _ ?_
    exact kt
  by_cases hc5_7 : (own_isd_f p2) = (0 : Int32)
  · obtain ⟨_, _, ⟨T12, L12, k12, n12⟩, -, X12, ⟨Lc12, hQ12, l12, y12, z12⟩, st12⟩ := Jvm.LawKit.callS X3 hx (y := y_1) hown (mvT hZ (hw _ (gm 16 rfl))) (mvT hZ (hw _ (gm 17 rfl))) (mvT hZ (hw _ (gm 4 rfl))) (mvT hZ (hw _ (gm 18 rfl))) (by decide) (backOf (W := 4) (own_dix l Z a0 hw [] p2 h0 n0 Z0 ) hZ (hw _ (gm 18 rfl)) (hw _ (gm 4 rfl)) (by decide) (by decide)) (g := (mkF m 15 #[vJ (q0), s_, vJ (q1), s_, vI (p2)] [(.int p2), (.long q1), (.long q0)])) rfl (by rw [hml]; rfl) (argsL := [(.int p2)]) (rest := [(.long q1), (.long q0)]) (lenOf own_pd2 rfl) rfl (by show 2 * 0 + _ ≤ _; exact Nat.le_of_eq rfl) (hb hby d3_15) (fun _ _ => ⟨rfl, eh3, (by decide : 0 + 0 ≤ _), (by decide : 0 + 0 ≤ _)⟩)
    dsimp only [Pt.U, Pt.locs, Pt.cells, Pt.slots] at X12 l12 y12 z12 st12 hQ12
    rw [l12, y12, z12] at X12
    obtain ⟨rfl, Nq12, eh12⟩ := hQ12
    have N13 := Fr.app N4 Nq12
    obtain ⟨_, _, ⟨T15, L15, k15, n15⟩, -, X15, ⟨Lc15, hQ15, l15, y15, z15⟩, st15⟩ := Jvm.LawKit.callS X12 hx (y := y_3) hown (mvT hZ (hw _ (gm 19 rfl))) (mvT hZ (hw _ (gm 20 rfl))) (mvT hZ (hw _ (gm 4 rfl))) (mvT hZ (hw _ (gm 21 rfl))) (by decide) (backOf (W := 0) (own_dgc l Z a0 hw [] q0 q1 (own_dix_f p2) h0 n0 Z0 ) hZ (hw _ (gm 21 rfl)) (hw _ (gm 4 rfl)) (by decide) (by decide)) (g := (mkF m 18 #[vJ (q0), s_, vJ (q1), s_, vI (p2)] [(.int (own_dix_f p2)), (.long q1), (.long q0)])) rfl (by rw [hml]; rfl) (argsL := [(.long q0), (.long q1), (.int (own_dix_f p2))]) (rest := []) (lenOf own_pd3 rfl) rfl (by show 2 * 0 + _ ≤ _; exact Nat.le_of_eq rfl) (hb hby d3_18) (fun _ _ => ⟨rfl, eh12, (by decide : 0 + 0 ≤ _), (by decide : 0 + 0 ≤ _)⟩)
    dsimp only [Pt.U, Pt.locs, Pt.cells, Pt.slots] at X15 l15 y15 z15 st15 hQ15
    rw [l15, y15, z15] at X15
    obtain ⟨rfl, Nq15, eh15⟩ := hQ15
    have N16 := Fr.app N13 Nq15
    obtain ⟨fs, hr, hrun, hended, hW, hsame⟩ := X15.leave (v := some (.int (nar .char (own_dgc_f q0 q1 (own_dix_f p2))))) (fun h => by rw [Bd.returns] at h; cases h) (hlocks := BodyLoose.notSynchronized Bd)
    refine ⟨_, _, pre6 _ ?_, hrun, hended, _, _, rfl, ?_, ⟨_, rfl⟩, hW, hsame.mono (by decide) (by decide)⟩
    · show SS p e below m T3 5 #[vJ (q0), s_, vJ (q1), s_, vI (p2)] [(.int (own_isd_f p2))] _
      refine zifYes X3 hx hby 5 11 rfl d3_5 ((if0 _ _).trans (teq hc5_7).1) (by decide) (by decide) ?_
      refine zlloadN X3 hx hby d3_11 rfl ?_
      refine zlloadN X3 hx hby d3_12 rfl ?_
      refine ziload X3 hx hby d3_13 rfl ?_
      refine st12 _ ?_
      refine st15 _ ?_
      exact retN X15 hx (t := .char) Bd.returns (by simp) (hb hby d3_21) hr
    · show Qown_pos Z q0 q1 p2 h0 n0 _ T15.heap _
      rw [eh15]
      have hv : (own_pos_f q0 q1 p2) = (nar .char (own_dgc_f q0 q1 (own_dix_f p2))) := by unfold own_pos_f; rw [if_pos hc5_7]
      exact ⟨(by rw [hv]), N16, rfl⟩
  · obtain ⟨fs, hr, hrun, hended, hW, hsame⟩ := X3.leave (v := some (.int 45)) (fun h => by rw [Bd.returns] at h; cases h) (hlocks := BodyLoose.notSynchronized Bd)
    refine ⟨_, _, pre6 _ ?_, hrun, hended, _, _, rfl, ?_, ⟨_, rfl⟩, hW, hsame.mono (by decide) (by decide)⟩
    · show SS p e below m T3 5 #[vJ (q0), s_, vJ (q1), s_, vI (p2)] [(.int (own_isd_f p2))] _
      refine zifNo X3 hx hby d3_5 ((if0 _ _).trans (feq hc5_7).1) ?_
      refine zbipush X3 hx hby (45) d3_8 rfl ?_
      exact retN X3 hx (t := .char) Bd.returns (by simp) (hb hby d3_10) hr
    · show Qown_pos Z q0 q1 p2 h0 n0 _ T3.heap _
      rw [eh3]
      have hv : (own_pos_f q0 q1 p2) = (45 : Int32) := by unfold own_pos_f; rw [if_neg hc5_7]
      exact ⟨(by rw [hv]), N4, rfl⟩
theorem own_ef_own_hxv (m : MethodId) (p0 : Int32) : entryFrame m #[(.int p0)] 1 = mkF m 0 #[.val (.int p0)] [] := by first | (simp [entryFrame, mkF, argsToLocals, Value.category]; done) | rfl
theorem d41_0 : decode b_41 0 = .ok (.iload_n 0, 1) := by decide +kernel
theorem d41_1 : decode b_41 1 = .ok (.bipush 48, 2) := by decide +kernel
theorem d41_3 : decode b_41 3 = .ok (.if_icmp .lt 14, 3) := by decide +kernel
theorem d41_6 : decode b_41 6 = .ok (.iload_n 0, 1) := by decide +kernel
theorem d41_7 : decode b_41 7 = .ok (.bipush 57, 2) := by decide +kernel
theorem d41_9 : decode b_41 9 = .ok (.if_icmp .gt 8, 3) := by decide +kernel
theorem d41_12 : decode b_41 12 = .ok (.iload_n 0, 1) := by decide +kernel
theorem d41_13 : decode b_41 13 = .ok (.bipush 48, 2) := by decide +kernel
theorem d41_15 : decode b_41 15 = .ok (.isub, 1) := by decide +kernel
theorem d41_16 : decode b_41 16 = .ok (.ireturn, 1) := by decide +kernel
theorem d41_17 : decode b_41 17 = .ok (.iload_n 0, 1) := by decide +kernel
theorem d41_18 : decode b_41 18 = .ok (.bipush 97, 2) := by decide +kernel
theorem d41_20 : decode b_41 20 = .ok (.if_icmp .lt 17, 3) := by decide +kernel
theorem d41_23 : decode b_41 23 = .ok (.iload_n 0, 1) := by decide +kernel
theorem d41_24 : decode b_41 24 = .ok (.bipush 102, 2) := by decide +kernel
theorem d41_26 : decode b_41 26 = .ok (.if_icmp .gt 11, 3) := by decide +kernel
theorem d41_29 : decode b_41 29 = .ok (.iload_n 0, 1) := by decide +kernel
theorem d41_30 : decode b_41 30 = .ok (.bipush 97, 2) := by decide +kernel
theorem d41_32 : decode b_41 32 = .ok (.isub, 1) := by decide +kernel
theorem d41_33 : decode b_41 33 = .ok (.bipush 10, 2) := by decide +kernel
theorem d41_35 : decode b_41 35 = .ok (.iadd, 1) := by decide +kernel
theorem d41_36 : decode b_41 36 = .ok (.ireturn, 1) := by decide +kernel
theorem d41_37 : decode b_41 37 = .ok (.iconst (-1), 1) := by decide +kernel
theorem d41_38 : decode b_41 38 = .ok (.ireturn, 1) := by decide +kernel
def own_hxv_f (p0 : Int32) : Int32 := (if p0 < (48 : Int32) then (if p0 < (97 : Int32) then (-1 : Int32) else (if (102 : Int32) < p0 then (-1 : Int32) else ((p0 - (97 : Int32)) + (10 : Int32)))) else (if (57 : Int32) < p0 then (if p0 < (97 : Int32) then (-1 : Int32) else (if (102 : Int32) < p0 then (-1 : Int32) else ((p0 - (97 : Int32)) + (10 : Int32)))) else (p0 - (48 : Int32))))
def Qown_hxv (Z : State) (p0 : Int32) (h0 : Heap) (n0 : Nat) (v : Option Value) (h : Heap) (L : List Loc) : Prop := v = some (.int (own_hxv_f p0)) ∧ Fr n0 L ∧ h = h0
set_option maxRecDepth 65536 in
set_option maxHeartbeats 40000000 in
theorem own_hxv (l : Launch) (Z : State) (a0 : Array Value) (hw : ∀ d ∈ tables_1, d.before a0 Z = true) (ws : List Jvm.Cond) (p0 : Int32) (h0 : Heap) (n0 : Nat) (Z0 : n0 ≤ h0.size) :
    MetFree l y_5 (head1 (Jvm.Cond.code y_5 method_5_code 1 (some .int) :: ws) (RM 0 0 0 0)) (fun a U => a = #[(.int p0)] ∧ Z.Warmed39 U.vm ∧ U.heap = h0) (fun _ _ _ _ _ => True) (fun _ U o U' => ∃ v L, o = .returned v ∧ Qown_hxv Z p0 h0 n0 v U'.heap L ∧ FrameEnd U o U' L (RM 0 0 0 0).cells (RM 0 0 0 0).slots) := by
  refine MetFree.of_bodySF (plainFor_of_name own_pn0) hisR ?_
  intro p e s m args below meth c s₁ Bd hml0 hP hK
  obtain ⟨rfl, hZ, hh⟩ := hP
  have hx := Bd.exec
  have hby := Bd.bytes
  have hml : c.maxLocals = 1 := hml0
  have hown : s.vm.findClass "com/example/rosterhall/rosterhall/ResourceIdParsePinLaw" = some m.cls := findClass_of_methodNamed Bd.named
  have X0 : Stand p l e (RM 0 0 0 0) s m #[(.int p0)] below meth c s₁ [] 0 0 := Stand.of_body Bd
  have e0 : s₁.heap = h0 := by rw [← hh, Bd.state]; rfl
  have N0 := Fr.nil n0
  have pre0 : ∀ t, Steps p.tables e below (s₁.setTop (mkF m 0 #[vI (p0)] [])) t → Steps p.tables e below (s₁.setTop (entryFrame m #[(.int p0)] 1)) t := fun t k => castTop (own_ef_own_hxv m p0) k
  have pre4 : ∀ t, Steps p.tables e below (s₁.setTop (mkF m 3 #[vI (p0)] [(.int 48), (.int p0)])) t → Steps p.tables e below (s₁.setTop (entryFrame m #[(.int p0)] 1)) t := by
    intro t kt
    refine pre0 _ ?_
    show SS p e below m s₁ 0 #[vI (p0)] [] _
    refine ziloadN X0 hx hby d41_0 rfl ?_
    refine zbipush X0 hx hby (48) d41_1 rfl ?_
    exact kt
  by_cases hc3_5 : p0 < (48 : Int32)
  · have pre9 : ∀ t, Steps p.tables e below (s₁.setTop (mkF m 20 #[vI (p0)] [(.int 97), (.int p0)])) t → Steps p.tables e below (s₁.setTop (entryFrame m #[(.int p0)] 1)) t := by
      intro t kt
      refine pre4 _ ?_
      show SS p e below m s₁ 3 #[vI (p0)] [(.int 48), (.int p0)] _
      refine zicmpYes X0 hx hby 3 17 rfl d41_3 (tlt hc3_5).1 (by decide) (by decide) ?_
      refine ziloadN X0 hx hby d41_17 rfl ?_
      refine zbipush X0 hx hby (97) d41_18 rfl ?_
      exact kt
    by_cases hc20_10 : p0 < (97 : Int32)
    · obtain ⟨fs, hr, hrun, hended, hW, hsame⟩ := X0.leave (v := some (.int (-1 : Int32))) (fun h => by rw [Bd.returns] at h; cases h) (hlocks := BodyLoose.notSynchronized Bd)
      refine ⟨_, _, pre9 _ ?_, hrun, hended, _, _, rfl, ?_, ⟨_, rfl⟩, hW, hsame.mono (by decide) (by decide)⟩
      · show SS p e below m s₁ 20 #[vI (p0)] [(.int 97), (.int p0)] _
        refine zicmpYes X0 hx hby 20 37 rfl d41_20 (tlt hc20_10).1 (by decide) (by decide) ?_
        refine ziconst X0 hx hby (-1) d41_37 rfl ?_
        exact retI X0 hx Bd.returns (hb hby d41_38) hr
      · show Qown_hxv Z p0 h0 n0 _ s₁.heap _
        rw [e0]
        have hv : (own_hxv_f p0) = (-1 : Int32) := by unfold own_hxv_f; rw [if_pos hc3_5, if_pos hc20_10]
        exact ⟨(by rw [hv]), N0, rfl⟩
    · have pre16 : ∀ t, Steps p.tables e below (s₁.setTop (mkF m 26 #[vI (p0)] [(.int 102), (.int p0)])) t → Steps p.tables e below (s₁.setTop (entryFrame m #[(.int p0)] 1)) t := by
        intro t kt
        refine pre9 _ ?_
        show SS p e below m s₁ 20 #[vI (p0)] [(.int 97), (.int p0)] _
        refine zicmpNo X0 hx hby d41_20 (flt hc20_10).1 ?_
        refine ziloadN X0 hx hby d41_23 rfl ?_
        refine zbipush X0 hx hby (102) d41_24 rfl ?_
        exact kt
      by_cases hc26_17 : (102 : Int32) < p0
      · obtain ⟨fs, hr, hrun, hended, hW, hsame⟩ := X0.leave (v := some (.int (-1 : Int32))) (fun h => by rw [Bd.returns] at h; cases h) (hlocks := BodyLoose.notSynchronized Bd)
        refine ⟨_, _, pre16 _ ?_, hrun, hended, _, _, rfl, ?_, ⟨_, rfl⟩, hW, hsame.mono (by decide) (by decide)⟩
        · show SS p e below m s₁ 26 #[vI (p0)] [(.int 102), (.int p0)] _
          refine zicmpYes X0 hx hby 26 37 rfl d41_26 (tlt hc26_17).2.2.1 (by decide) (by decide) ?_
          refine ziconst X0 hx hby (-1) d41_37 rfl ?_
          exact retI X0 hx Bd.returns (hb hby d41_38) hr
        · show Qown_hxv Z p0 h0 n0 _ s₁.heap _
          rw [e0]
          have hv : (own_hxv_f p0) = (-1 : Int32) := by unfold own_hxv_f; rw [if_pos hc3_5, if_neg hc20_10, if_pos hc26_17]
          exact ⟨(by rw [hv]), N0, rfl⟩
      · obtain ⟨fs, hr, hrun, hended, hW, hsame⟩ := X0.leave (v := some (.int ((p0 - (97 : Int32)) + (10 : Int32)))) (fun h => by rw [Bd.returns] at h; cases h) (hlocks := BodyLoose.notSynchronized Bd)
        refine ⟨_, _, pre16 _ ?_, hrun, hended, _, _, rfl, ?_, ⟨_, rfl⟩, hW, hsame.mono (by decide) (by decide)⟩
        · show SS p e below m s₁ 26 #[vI (p0)] [(.int 102), (.int p0)] _
          refine zicmpNo X0 hx hby d41_26 (flt hc26_17).2.2.1 ?_
          refine ziloadN X0 hx hby d41_29 rfl ?_
          refine zbipush X0 hx hby (97) d41_30 rfl ?_
          show SS p e below m s₁ 32 #[vI (p0)] [(.int 97), (.int p0)] _
          refine XS.isub X0.here hx rfl (hb hby d41_32) rfl ?_
          show SS p e below m s₁ 33 #[vI (p0)] [(.int (p0 - (97 : Int32)))] _
          refine zbipush X0 hx hby (10) d41_33 rfl ?_
          show SS p e below m s₁ 35 #[vI (p0)] [(.int 10), (.int (p0 - (97 : Int32)))] _
          refine XS.iadd X0.here hx rfl (hb hby d41_35) rfl ?_
          show SS p e below m s₁ 36 #[vI (p0)] [(.int ((p0 - (97 : Int32)) + (10 : Int32)))] _
          exact retI X0 hx Bd.returns (hb hby d41_36) hr
        · show Qown_hxv Z p0 h0 n0 _ s₁.heap _
          rw [e0]
          have hv : (own_hxv_f p0) = ((p0 - (97 : Int32)) + (10 : Int32)) := by unfold own_hxv_f; rw [if_pos hc3_5, if_neg hc20_10, if_neg hc26_17]
          exact ⟨(by rw [hv]), N0, rfl⟩
  · have pre29 : ∀ t, Steps p.tables e below (s₁.setTop (mkF m 9 #[vI (p0)] [(.int 57), (.int p0)])) t → Steps p.tables e below (s₁.setTop (entryFrame m #[(.int p0)] 1)) t := by
      intro t kt
      refine pre4 _ ?_
      show SS p e below m s₁ 3 #[vI (p0)] [(.int 48), (.int p0)] _
      refine zicmpNo X0 hx hby d41_3 (flt hc3_5).1 ?_
      refine ziloadN X0 hx hby d41_6 rfl ?_
      refine zbipush X0 hx hby (57) d41_7 rfl ?_
      exact kt
    by_cases hc9_30 : (57 : Int32) < p0
    · have pre34 : ∀ t, Steps p.tables e below (s₁.setTop (mkF m 20 #[vI (p0)] [(.int 97), (.int p0)])) t → Steps p.tables e below (s₁.setTop (entryFrame m #[(.int p0)] 1)) t := by
        intro t kt
        refine pre29 _ ?_
        show SS p e below m s₁ 9 #[vI (p0)] [(.int 57), (.int p0)] _
        refine zicmpYes X0 hx hby 9 17 rfl d41_9 (tlt hc9_30).2.2.1 (by decide) (by decide) ?_
        refine ziloadN X0 hx hby d41_17 rfl ?_
        refine zbipush X0 hx hby (97) d41_18 rfl ?_
        exact kt
      by_cases hc20_35 : p0 < (97 : Int32)
      · obtain ⟨fs, hr, hrun, hended, hW, hsame⟩ := X0.leave (v := some (.int (-1 : Int32))) (fun h => by rw [Bd.returns] at h; cases h) (hlocks := BodyLoose.notSynchronized Bd)
        refine ⟨_, _, pre34 _ ?_, hrun, hended, _, _, rfl, ?_, ⟨_, rfl⟩, hW, hsame.mono (by decide) (by decide)⟩
        · show SS p e below m s₁ 20 #[vI (p0)] [(.int 97), (.int p0)] _
          refine zicmpYes X0 hx hby 20 37 rfl d41_20 (tlt hc20_35).1 (by decide) (by decide) ?_
          refine ziconst X0 hx hby (-1) d41_37 rfl ?_
          exact retI X0 hx Bd.returns (hb hby d41_38) hr
        · show Qown_hxv Z p0 h0 n0 _ s₁.heap _
          rw [e0]
          have hv : (own_hxv_f p0) = (-1 : Int32) := by unfold own_hxv_f; rw [if_neg hc3_5, if_pos hc9_30, if_pos hc20_35]
          exact ⟨(by rw [hv]), N0, rfl⟩
      · have pre41 : ∀ t, Steps p.tables e below (s₁.setTop (mkF m 26 #[vI (p0)] [(.int 102), (.int p0)])) t → Steps p.tables e below (s₁.setTop (entryFrame m #[(.int p0)] 1)) t := by
          intro t kt
          refine pre34 _ ?_
          show SS p e below m s₁ 20 #[vI (p0)] [(.int 97), (.int p0)] _
          refine zicmpNo X0 hx hby d41_20 (flt hc20_35).1 ?_
          refine ziloadN X0 hx hby d41_23 rfl ?_
          refine zbipush X0 hx hby (102) d41_24 rfl ?_
          exact kt
        by_cases hc26_42 : (102 : Int32) < p0
        · obtain ⟨fs, hr, hrun, hended, hW, hsame⟩ := X0.leave (v := some (.int (-1 : Int32))) (fun h => by rw [Bd.returns] at h; cases h) (hlocks := BodyLoose.notSynchronized Bd)
          refine ⟨_, _, pre41 _ ?_, hrun, hended, _, _, rfl, ?_, ⟨_, rfl⟩, hW, hsame.mono (by decide) (by decide)⟩
          · show SS p e below m s₁ 26 #[vI (p0)] [(.int 102), (.int p0)] _
            refine zicmpYes X0 hx hby 26 37 rfl d41_26 (tlt hc26_42).2.2.1 (by decide) (by decide) ?_
            refine ziconst X0 hx hby (-1) d41_37 rfl ?_
            exact retI X0 hx Bd.returns (hb hby d41_38) hr
          · show Qown_hxv Z p0 h0 n0 _ s₁.heap _
            rw [e0]
            have hv : (own_hxv_f p0) = (-1 : Int32) := by unfold own_hxv_f; rw [if_neg hc3_5, if_pos hc9_30, if_neg hc20_35, if_pos hc26_42]
            exact ⟨(by rw [hv]), N0, rfl⟩
        · obtain ⟨fs, hr, hrun, hended, hW, hsame⟩ := X0.leave (v := some (.int ((p0 - (97 : Int32)) + (10 : Int32)))) (fun h => by rw [Bd.returns] at h; cases h) (hlocks := BodyLoose.notSynchronized Bd)
          refine ⟨_, _, pre41 _ ?_, hrun, hended, _, _, rfl, ?_, ⟨_, rfl⟩, hW, hsame.mono (by decide) (by decide)⟩
          · show SS p e below m s₁ 26 #[vI (p0)] [(.int 102), (.int p0)] _
            refine zicmpNo X0 hx hby d41_26 (flt hc26_42).2.2.1 ?_
            refine ziloadN X0 hx hby d41_29 rfl ?_
            refine zbipush X0 hx hby (97) d41_30 rfl ?_
            show SS p e below m s₁ 32 #[vI (p0)] [(.int 97), (.int p0)] _
            refine XS.isub X0.here hx rfl (hb hby d41_32) rfl ?_
            show SS p e below m s₁ 33 #[vI (p0)] [(.int (p0 - (97 : Int32)))] _
            refine zbipush X0 hx hby (10) d41_33 rfl ?_
            show SS p e below m s₁ 35 #[vI (p0)] [(.int 10), (.int (p0 - (97 : Int32)))] _
            refine XS.iadd X0.here hx rfl (hb hby d41_35) rfl ?_
            show SS p e below m s₁ 36 #[vI (p0)] [(.int ((p0 - (97 : Int32)) + (10 : Int32)))] _
            exact retI X0 hx Bd.returns (hb hby d41_36) hr
          · show Qown_hxv Z p0 h0 n0 _ s₁.heap _
            rw [e0]
            have hv : (own_hxv_f p0) = ((p0 - (97 : Int32)) + (10 : Int32)) := by unfold own_hxv_f; rw [if_neg hc3_5, if_pos hc9_30, if_neg hc20_35, if_neg hc26_42]
            exact ⟨(by rw [hv]), N0, rfl⟩
    · obtain ⟨fs, hr, hrun, hended, hW, hsame⟩ := X0.leave (v := some (.int (p0 - (48 : Int32)))) (fun h => by rw [Bd.returns] at h; cases h) (hlocks := BodyLoose.notSynchronized Bd)
      refine ⟨_, _, pre29 _ ?_, hrun, hended, _, _, rfl, ?_, ⟨_, rfl⟩, hW, hsame.mono (by decide) (by decide)⟩
      · show SS p e below m s₁ 9 #[vI (p0)] [(.int 57), (.int p0)] _
        refine zicmpNo X0 hx hby d41_9 (flt hc9_30).2.2.1 ?_
        refine ziloadN X0 hx hby d41_12 rfl ?_
        refine zbipush X0 hx hby (48) d41_13 rfl ?_
        show SS p e below m s₁ 15 #[vI (p0)] [(.int 48), (.int p0)] _
        refine XS.isub X0.here hx rfl (hb hby d41_15) rfl ?_
        show SS p e below m s₁ 16 #[vI (p0)] [(.int (p0 - (48 : Int32)))] _
        exact retI X0 hx Bd.returns (hb hby d41_16) hr
      · show Qown_hxv Z p0 h0 n0 _ s₁.heap _
        rw [e0]
        have hv : (own_hxv_f p0) = (p0 - (48 : Int32)) := by unfold own_hxv_f; rw [if_neg hc3_5, if_neg hc9_30]
        exact ⟨(by rw [hv]), N0, rfl⟩
theorem own_pn1 : plainName "com/example/rosterhall/rosterhall/ResourceId" = true := by first | (simp [plainName, overriddenIn]; done) | decide +kernel
theorem own_ef_own_hxd (m : MethodId) (p0 : Int32) : entryFrame m #[(.int p0)] 1 = mkF m 0 #[.val (.int p0)] [] := by first | (simp [entryFrame, mkF, argsToLocals, Value.category]; done) | rfl
theorem d22_0 : decode b_22 0 = .ok (.iload_n 0, 1) := by decide +kernel
theorem d22_1 : decode b_22 1 = .ok (.bipush 48, 2) := by decide +kernel
theorem d22_3 : decode b_22 3 = .ok (.if_icmp .lt 14, 3) := by decide +kernel
theorem d22_6 : decode b_22 6 = .ok (.iload_n 0, 1) := by decide +kernel
theorem d22_7 : decode b_22 7 = .ok (.bipush 57, 2) := by decide +kernel
theorem d22_9 : decode b_22 9 = .ok (.if_icmp .gt 8, 3) := by decide +kernel
theorem d22_12 : decode b_22 12 = .ok (.iload_n 0, 1) := by decide +kernel
theorem d22_13 : decode b_22 13 = .ok (.bipush 48, 2) := by decide +kernel
theorem d22_15 : decode b_22 15 = .ok (.isub, 1) := by decide +kernel
theorem d22_16 : decode b_22 16 = .ok (.ireturn, 1) := by decide +kernel
theorem d22_17 : decode b_22 17 = .ok (.iload_n 0, 1) := by decide +kernel
theorem d22_18 : decode b_22 18 = .ok (.bipush 97, 2) := by decide +kernel
theorem d22_20 : decode b_22 20 = .ok (.if_icmp .lt 17, 3) := by decide +kernel
theorem d22_23 : decode b_22 23 = .ok (.iload_n 0, 1) := by decide +kernel
theorem d22_24 : decode b_22 24 = .ok (.bipush 102, 2) := by decide +kernel
theorem d22_26 : decode b_22 26 = .ok (.if_icmp .gt 11, 3) := by decide +kernel
theorem d22_29 : decode b_22 29 = .ok (.iload_n 0, 1) := by decide +kernel
theorem d22_30 : decode b_22 30 = .ok (.bipush 97, 2) := by decide +kernel
theorem d22_32 : decode b_22 32 = .ok (.isub, 1) := by decide +kernel
theorem d22_33 : decode b_22 33 = .ok (.bipush 10, 2) := by decide +kernel
theorem d22_35 : decode b_22 35 = .ok (.iadd, 1) := by decide +kernel
theorem d22_36 : decode b_22 36 = .ok (.ireturn, 1) := by decide +kernel
theorem d22_37 : decode b_22 37 = .ok (.iconst (-1), 1) := by decide +kernel
theorem d22_38 : decode b_22 38 = .ok (.ireturn, 1) := by decide +kernel
def own_hxd_f (p0 : Int32) : Int32 := (if p0 < (48 : Int32) then (if p0 < (97 : Int32) then (-1 : Int32) else (if (102 : Int32) < p0 then (-1 : Int32) else ((p0 - (97 : Int32)) + (10 : Int32)))) else (if (57 : Int32) < p0 then (if p0 < (97 : Int32) then (-1 : Int32) else (if (102 : Int32) < p0 then (-1 : Int32) else ((p0 - (97 : Int32)) + (10 : Int32)))) else (p0 - (48 : Int32))))
def Qown_hxd (Z : State) (p0 : Int32) (h0 : Heap) (n0 : Nat) (v : Option Value) (h : Heap) (L : List Loc) : Prop := v = some (.int (own_hxd_f p0)) ∧ Fr n0 L ∧ h = h0
set_option maxRecDepth 65536 in
set_option maxHeartbeats 40000000 in
theorem own_hxd (l : Launch) (Z : State) (a0 : Array Value) (hw : ∀ d ∈ tables_1, d.before a0 Z = true) (ws : List Jvm.Cond) (p0 : Int32) (h0 : Heap) (n0 : Nat) (Z0 : n0 ≤ h0.size) :
    MetFree l y_6 (head1 (Jvm.Cond.code y_6 prog_20_method_6_code 1 (some .int) :: ws) (RM 0 0 0 0)) (fun a U => a = #[(.int p0)] ∧ Z.Warmed39 U.vm ∧ U.heap = h0) (fun _ _ _ _ _ => True) (fun _ U o U' => ∃ v L, o = .returned v ∧ Qown_hxd Z p0 h0 n0 v U'.heap L ∧ FrameEnd U o U' L (RM 0 0 0 0).cells (RM 0 0 0 0).slots) := by
  refine MetFree.of_bodySF (plainFor_of_name own_pn1) hisR ?_
  intro p e s m args below meth c s₁ Bd hml0 hP hK
  obtain ⟨rfl, hZ, hh⟩ := hP
  have hx := Bd.exec
  have hby := Bd.bytes
  have hml : c.maxLocals = 1 := hml0
  have hown : s.vm.findClass "com/example/rosterhall/rosterhall/ResourceId" = some m.cls := findClass_of_methodNamed Bd.named
  have X0 : Stand p l e (RM 0 0 0 0) s m #[(.int p0)] below meth c s₁ [] 0 0 := Stand.of_body Bd
  have e0 : s₁.heap = h0 := by rw [← hh, Bd.state]; rfl
  have N0 := Fr.nil n0
  have pre0 : ∀ t, Steps p.tables e below (s₁.setTop (mkF m 0 #[vI (p0)] [])) t → Steps p.tables e below (s₁.setTop (entryFrame m #[(.int p0)] 1)) t := fun t k => castTop (own_ef_own_hxd m p0) k
  have pre4 : ∀ t, Steps p.tables e below (s₁.setTop (mkF m 3 #[vI (p0)] [(.int 48), (.int p0)])) t → Steps p.tables e below (s₁.setTop (entryFrame m #[(.int p0)] 1)) t := by
    intro t kt
    refine pre0 _ ?_
    show SS p e below m s₁ 0 #[vI (p0)] [] _
    refine ziloadN X0 hx hby d22_0 rfl ?_
    refine zbipush X0 hx hby (48) d22_1 rfl ?_
    exact kt
  by_cases hc3_5 : p0 < (48 : Int32)
  · have pre9 : ∀ t, Steps p.tables e below (s₁.setTop (mkF m 20 #[vI (p0)] [(.int 97), (.int p0)])) t → Steps p.tables e below (s₁.setTop (entryFrame m #[(.int p0)] 1)) t := by
      intro t kt
      refine pre4 _ ?_
      show SS p e below m s₁ 3 #[vI (p0)] [(.int 48), (.int p0)] _
      refine zicmpYes X0 hx hby 3 17 rfl d22_3 (tlt hc3_5).1 (by decide) (by decide) ?_
      refine ziloadN X0 hx hby d22_17 rfl ?_
      refine zbipush X0 hx hby (97) d22_18 rfl ?_
      exact kt
    by_cases hc20_10 : p0 < (97 : Int32)
    · obtain ⟨fs, hr, hrun, hended, hW, hsame⟩ := X0.leave (v := some (.int (-1 : Int32))) (fun h => by rw [Bd.returns] at h; cases h) (hlocks := BodyLoose.notSynchronized Bd)
      refine ⟨_, _, pre9 _ ?_, hrun, hended, _, _, rfl, ?_, ⟨_, rfl⟩, hW, hsame.mono (by decide) (by decide)⟩
      · show SS p e below m s₁ 20 #[vI (p0)] [(.int 97), (.int p0)] _
        refine zicmpYes X0 hx hby 20 37 rfl d22_20 (tlt hc20_10).1 (by decide) (by decide) ?_
        refine ziconst X0 hx hby (-1) d22_37 rfl ?_
        exact retI X0 hx Bd.returns (hb hby d22_38) hr
      · show Qown_hxd Z p0 h0 n0 _ s₁.heap _
        rw [e0]
        have hv : (own_hxd_f p0) = (-1 : Int32) := by unfold own_hxd_f; rw [if_pos hc3_5, if_pos hc20_10]
        exact ⟨(by rw [hv]), N0, rfl⟩
    · have pre16 : ∀ t, Steps p.tables e below (s₁.setTop (mkF m 26 #[vI (p0)] [(.int 102), (.int p0)])) t → Steps p.tables e below (s₁.setTop (entryFrame m #[(.int p0)] 1)) t := by
        intro t kt
        refine pre9 _ ?_
        show SS p e below m s₁ 20 #[vI (p0)] [(.int 97), (.int p0)] _
        refine zicmpNo X0 hx hby d22_20 (flt hc20_10).1 ?_
        refine ziloadN X0 hx hby d22_23 rfl ?_
        refine zbipush X0 hx hby (102) d22_24 rfl ?_
        exact kt
      by_cases hc26_17 : (102 : Int32) < p0
      · obtain ⟨fs, hr, hrun, hended, hW, hsame⟩ := X0.leave (v := some (.int (-1 : Int32))) (fun h => by rw [Bd.returns] at h; cases h) (hlocks := BodyLoose.notSynchronized Bd)
        refine ⟨_, _, pre16 _ ?_, hrun, hended, _, _, rfl, ?_, ⟨_, rfl⟩, hW, hsame.mono (by decide) (by decide)⟩
        · show SS p e below m s₁ 26 #[vI (p0)] [(.int 102), (.int p0)] _
          refine zicmpYes X0 hx hby 26 37 rfl d22_26 (tlt hc26_17).2.2.1 (by decide) (by decide) ?_
          refine ziconst X0 hx hby (-1) d22_37 rfl ?_
          exact retI X0 hx Bd.returns (hb hby d22_38) hr
        · show Qown_hxd Z p0 h0 n0 _ s₁.heap _
          rw [e0]
          have hv : (own_hxd_f p0) = (-1 : Int32) := by unfold own_hxd_f; rw [if_pos hc3_5, if_neg hc20_10, if_pos hc26_17]
          exact ⟨(by rw [hv]), N0, rfl⟩
      · obtain ⟨fs, hr, hrun, hended, hW, hsame⟩ := X0.leave (v := some (.int ((p0 - (97 : Int32)) + (10 : Int32)))) (fun h => by rw [Bd.returns] at h; cases h) (hlocks := BodyLoose.notSynchronized Bd)
        refine ⟨_, _, pre16 _ ?_, hrun, hended, _, _, rfl, ?_, ⟨_, rfl⟩, hW, hsame.mono (by decide) (by decide)⟩
        · show SS p e below m s₁ 26 #[vI (p0)] [(.int 102), (.int p0)] _
          refine zicmpNo X0 hx hby d22_26 (flt hc26_17).2.2.1 ?_
          refine ziloadN X0 hx hby d22_29 rfl ?_
          refine zbipush X0 hx hby (97) d22_30 rfl ?_
          show SS p e below m s₁ 32 #[vI (p0)] [(.int 97), (.int p0)] _
          refine XS.isub X0.here hx rfl (hb hby d22_32) rfl ?_
          show SS p e below m s₁ 33 #[vI (p0)] [(.int (p0 - (97 : Int32)))] _
          refine zbipush X0 hx hby (10) d22_33 rfl ?_
          show SS p e below m s₁ 35 #[vI (p0)] [(.int 10), (.int (p0 - (97 : Int32)))] _
          refine XS.iadd X0.here hx rfl (hb hby d22_35) rfl ?_
          show SS p e below m s₁ 36 #[vI (p0)] [(.int ((p0 - (97 : Int32)) + (10 : Int32)))] _
          exact retI X0 hx Bd.returns (hb hby d22_36) hr
        · show Qown_hxd Z p0 h0 n0 _ s₁.heap _
          rw [e0]
          have hv : (own_hxd_f p0) = ((p0 - (97 : Int32)) + (10 : Int32)) := by unfold own_hxd_f; rw [if_pos hc3_5, if_neg hc20_10, if_neg hc26_17]
          exact ⟨(by rw [hv]), N0, rfl⟩
  · have pre29 : ∀ t, Steps p.tables e below (s₁.setTop (mkF m 9 #[vI (p0)] [(.int 57), (.int p0)])) t → Steps p.tables e below (s₁.setTop (entryFrame m #[(.int p0)] 1)) t := by
      intro t kt
      refine pre4 _ ?_
      show SS p e below m s₁ 3 #[vI (p0)] [(.int 48), (.int p0)] _
      refine zicmpNo X0 hx hby d22_3 (flt hc3_5).1 ?_
      refine ziloadN X0 hx hby d22_6 rfl ?_
      refine zbipush X0 hx hby (57) d22_7 rfl ?_
      exact kt
    by_cases hc9_30 : (57 : Int32) < p0
    · have pre34 : ∀ t, Steps p.tables e below (s₁.setTop (mkF m 20 #[vI (p0)] [(.int 97), (.int p0)])) t → Steps p.tables e below (s₁.setTop (entryFrame m #[(.int p0)] 1)) t := by
        intro t kt
        refine pre29 _ ?_
        show SS p e below m s₁ 9 #[vI (p0)] [(.int 57), (.int p0)] _
        refine zicmpYes X0 hx hby 9 17 rfl d22_9 (tlt hc9_30).2.2.1 (by decide) (by decide) ?_
        refine ziloadN X0 hx hby d22_17 rfl ?_
        refine zbipush X0 hx hby (97) d22_18 rfl ?_
        exact kt
      by_cases hc20_35 : p0 < (97 : Int32)
      · obtain ⟨fs, hr, hrun, hended, hW, hsame⟩ := X0.leave (v := some (.int (-1 : Int32))) (fun h => by rw [Bd.returns] at h; cases h) (hlocks := BodyLoose.notSynchronized Bd)
        refine ⟨_, _, pre34 _ ?_, hrun, hended, _, _, rfl, ?_, ⟨_, rfl⟩, hW, hsame.mono (by decide) (by decide)⟩
        · show SS p e below m s₁ 20 #[vI (p0)] [(.int 97), (.int p0)] _
          refine zicmpYes X0 hx hby 20 37 rfl d22_20 (tlt hc20_35).1 (by decide) (by decide) ?_
          refine ziconst X0 hx hby (-1) d22_37 rfl ?_
          exact retI X0 hx Bd.returns (hb hby d22_38) hr
        · show Qown_hxd Z p0 h0 n0 _ s₁.heap _
          rw [e0]
          have hv : (own_hxd_f p0) = (-1 : Int32) := by unfold own_hxd_f; rw [if_neg hc3_5, if_pos hc9_30, if_pos hc20_35]
          exact ⟨(by rw [hv]), N0, rfl⟩
      · have pre41 : ∀ t, Steps p.tables e below (s₁.setTop (mkF m 26 #[vI (p0)] [(.int 102), (.int p0)])) t → Steps p.tables e below (s₁.setTop (entryFrame m #[(.int p0)] 1)) t := by
          intro t kt
          refine pre34 _ ?_
          show SS p e below m s₁ 20 #[vI (p0)] [(.int 97), (.int p0)] _
          refine zicmpNo X0 hx hby d22_20 (flt hc20_35).1 ?_
          refine ziloadN X0 hx hby d22_23 rfl ?_
          refine zbipush X0 hx hby (102) d22_24 rfl ?_
          exact kt
        by_cases hc26_42 : (102 : Int32) < p0
        · obtain ⟨fs, hr, hrun, hended, hW, hsame⟩ := X0.leave (v := some (.int (-1 : Int32))) (fun h => by rw [Bd.returns] at h; cases h) (hlocks := BodyLoose.notSynchronized Bd)
          refine ⟨_, _, pre41 _ ?_, hrun, hended, _, _, rfl, ?_, ⟨_, rfl⟩, hW, hsame.mono (by decide) (by decide)⟩
          · show SS p e below m s₁ 26 #[vI (p0)] [(.int 102), (.int p0)] _
            refine zicmpYes X0 hx hby 26 37 rfl d22_26 (tlt hc26_42).2.2.1 (by decide) (by decide) ?_
            refine ziconst X0 hx hby (-1) d22_37 rfl ?_
            exact retI X0 hx Bd.returns (hb hby d22_38) hr
          · show Qown_hxd Z p0 h0 n0 _ s₁.heap _
            rw [e0]
            have hv : (own_hxd_f p0) = (-1 : Int32) := by unfold own_hxd_f; rw [if_neg hc3_5, if_pos hc9_30, if_neg hc20_35, if_pos hc26_42]
            exact ⟨(by rw [hv]), N0, rfl⟩
        · obtain ⟨fs, hr, hrun, hended, hW, hsame⟩ := X0.leave (v := some (.int ((p0 - (97 : Int32)) + (10 : Int32)))) (fun h => by rw [Bd.returns] at h; cases h) (hlocks := BodyLoose.notSynchronized Bd)
          refine ⟨_, _, pre41 _ ?_, hrun, hended, _, _, rfl, ?_, ⟨_, rfl⟩, hW, hsame.mono (by decide) (by decide)⟩
          · show SS p e below m s₁ 26 #[vI (p0)] [(.int 102), (.int p0)] _
            refine zicmpNo X0 hx hby d22_26 (flt hc26_42).2.2.1 ?_
            refine ziloadN X0 hx hby d22_29 rfl ?_
            refine zbipush X0 hx hby (97) d22_30 rfl ?_
            show SS p e below m s₁ 32 #[vI (p0)] [(.int 97), (.int p0)] _
            refine XS.isub X0.here hx rfl (hb hby d22_32) rfl ?_
            show SS p e below m s₁ 33 #[vI (p0)] [(.int (p0 - (97 : Int32)))] _
            refine zbipush X0 hx hby (10) d22_33 rfl ?_
            show SS p e below m s₁ 35 #[vI (p0)] [(.int 10), (.int (p0 - (97 : Int32)))] _
            refine XS.iadd X0.here hx rfl (hb hby d22_35) rfl ?_
            show SS p e below m s₁ 36 #[vI (p0)] [(.int ((p0 - (97 : Int32)) + (10 : Int32)))] _
            exact retI X0 hx Bd.returns (hb hby d22_36) hr
          · show Qown_hxd Z p0 h0 n0 _ s₁.heap _
            rw [e0]
            have hv : (own_hxd_f p0) = ((p0 - (97 : Int32)) + (10 : Int32)) := by unfold own_hxd_f; rw [if_neg hc3_5, if_pos hc9_30, if_neg hc20_35, if_neg hc26_42]
            exact ⟨(by rw [hv]), N0, rfl⟩
    · obtain ⟨fs, hr, hrun, hended, hW, hsame⟩ := X0.leave (v := some (.int (p0 - (48 : Int32)))) (fun h => by rw [Bd.returns] at h; cases h) (hlocks := BodyLoose.notSynchronized Bd)
      refine ⟨_, _, pre29 _ ?_, hrun, hended, _, _, rfl, ?_, ⟨_, rfl⟩, hW, hsame.mono (by decide) (by decide)⟩
      · show SS p e below m s₁ 9 #[vI (p0)] [(.int 57), (.int p0)] _
        refine zicmpNo X0 hx hby d22_9 (flt hc9_30).2.2.1 ?_
        refine ziloadN X0 hx hby d22_12 rfl ?_
        refine zbipush X0 hx hby (48) d22_13 rfl ?_
        show SS p e below m s₁ 15 #[vI (p0)] [(.int 48), (.int p0)] _
        refine XS.isub X0.here hx rfl (hb hby d22_15) rfl ?_
        show SS p e below m s₁ 16 #[vI (p0)] [(.int (p0 - (48 : Int32)))] _
        exact retI X0 hx Bd.returns (hb hby d22_16) hr
      · show Qown_hxd Z p0 h0 n0 _ s₁.heap _
        rw [e0]
        have hv : (own_hxd_f p0) = (p0 - (48 : Int32)) := by unfold own_hxd_f; rw [if_neg hc3_5, if_neg hc9_30]
        exact ⟨(by rw [hv]), N0, rfl⟩
def own_sh (x : Int64) (n : Nat) : Int64 := Int64.ofBitVec (x.toBitVec >>> n)
def own_nv (x : Int64) (n : Nat) : BitVec 64 := (x.toBitVec >>> n) &&& 15#64
theorem own_nv_lt (x : Int64) (n : Nat) : (own_nv x n).toNat < 16 := by
  unfold own_nv; rw [BitVec.toNat_and]; exact Nat.lt_of_le_of_lt Nat.and_le_right (by decide)
theorem own_b15 (i : Nat) : (15#64).getLsbD i = decide (i < 4) := by
  by_cases h : i < 64
  · exact (by decide : ∀ i : Fin 64, (15#64).getLsbD i.val = decide (i.val < 4)) ⟨i, h⟩
  · rw [BitVec.getLsbD_of_ge _ _ (Nat.le_of_not_lt h), decide_eq_false (by omega)]
theorem own_shr (x : Int64) (n : Nat) (h : n < 64) : (x.toUInt64 >>> UInt64.ofNat n).toInt64 = own_sh x n := by
  apply Int64.toBitVec_inj.mp
  show x.toBitVec >>> ((BitVec.ofNat 64 n) % 64#64) = x.toBitVec >>> n
  rw [BitVec.ushiftRight_eq']
  congr 1
  rw [BitVec.toNat_umod, BitVec.toNat_ofNat]
  simp; omega
theorem own_amt : ∀ d : Fin 16, (((60 : Int32) - ((4 : Int32) * Int32.ofNat d.val)) &&& 0x3f).toInt64.toUInt64 = UInt64.ofNat (60 - 4 * d.val) := by decide +kernel
theorem own_amt' : ∀ d : Fin 16, (((60 : Int32) - ((4 : Int32) * (Int32.ofNat (d.val + 16) - (16 : Int32)))) &&& 0x3f).toInt64.toUInt64 = UInt64.ofNat (60 - 4 * d.val) := by decide +kernel
theorem own_low (y : BitVec 64) (h : y.toNat < 16) : (Int64.ofBitVec y).toInt32 = Int32.ofNat y.toNat := by
  apply Int32.toBitVec_inj.mp
  show BitVec.signExtend 32 y = BitVec.ofNat 32 y.toNat
  apply BitVec.eq_of_toNat_eq
  rw [BitVec.toNat_ofNat, BitVec.signExtend_eq_setWidth_of_le _ (by decide), BitVec.toNat_setWidth]
theorem own_up64 (n : Nat) (h : n < 16) : (Int32.ofNat n).toInt64 = Int64.ofBitVec (BitVec.ofNat 64 n) := by
  exact (by decide +kernel : ∀ n : Fin 16, (Int32.ofNat n.val).toInt64 = Int64.ofBitVec (BitVec.ofNat 64 n.val)) ⟨n, h⟩
theorem own_app (x : Int64) (n : Nat) : ((own_sh x (n + 4)) <<< ((4 : Int32) &&& 0x3f).toInt64) ||| (Int32.ofNat (own_nv x n).toNat).toInt64 = own_sh x n := by
  rw [own_up64 _ (own_nv_lt x n), BitVec.ofNat_toNat, BitVec.setWidth_eq]
  apply Int64.toBitVec_inj.mp
  show (((x.toBitVec >>> (n + 4)) <<< 4) ||| (own_nv x n)) = x.toBitVec >>> n
  apply BitVec.eq_of_getLsbD_eq
  intro i hi
  simp only [own_nv, BitVec.getLsbD_or, BitVec.getLsbD_shiftLeft, BitVec.getLsbD_ushiftRight, BitVec.getLsbD_and, own_b15]
  by_cases h : i < 4
  · simp [h]
  · have e : n + 4 + (i - 4) = n + i := by omega
    simp [h, hi, e]
theorem own_i32inj {i j : Nat} (hi : i < 2147483648) (hj : j < 2147483648) (h : Int32.ofNat i = Int32.ofNat j) : i = j := by
  have := congrArg Int32.toInt h
  rw [Int32.toInt_ofNat_of_lt hi, Int32.toInt_ofNat_of_lt hj] at this; omega
theorem own_ltN {i n : Nat} (h : i < n) (hn : n < 2147483648) : Int32.ofNat i < Int32.ofNat n := by
  rw [Int32.lt_iff_toInt_lt, Int32.toInt_ofNat_of_lt (by omega), Int32.toInt_ofNat_of_lt (by omega)]; omega
theorem own_nltN {i n : Nat} (h : n ≤ i) (hn : i < 2147483648) : ¬ Int32.ofNat i < Int32.ofNat n := by
  rw [Int32.lt_iff_toInt_lt, Int32.toInt_ofNat_of_lt (by omega), Int32.toInt_ofNat_of_lt (by omega)]; omega
theorem own_nneg {i : Nat} (hn : i < 2147483648) : ¬ Int32.ofNat i < 0 := own_nltN (n := 0) (Nat.zero_le _) hn
theorem own_one (i : Nat) : Int32.ofNat i + (1 : Int32) = Int32.ofNat (i + 1) := (Int32.ofNat_add i 1).symm
/-- the nibble at digit d (0 to 31) -/
def own_nd (H L : Int64) (d : Nat) : Nat := if d < 16 then (own_nv H (60 - 4 * d)).toNat else (own_nv L (60 - 4 * (d - 16))).toNat
theorem own_nd_lt (H L : Int64) (d : Nat) : own_nd H L d < 16 := by unfold own_nd; split <;> exact own_nv_lt _ _
def own_di (i : Nat) : Nat := if i < 8 then i else if i < 13 then i - 1 else if i < 18 then i - 2 else if i < 23 then i - 3 else i - 4
def own_cnt (i : Nat) : Nat := if i ≤ 8 then i else if i ≤ 13 then i - 1 else if i ≤ 18 then i - 2 else if i ≤ 23 then i - 3 else i - 4
theorem own_dixN : ∀ i : Fin 36, own_dix_f (Int32.ofNat i.val) = Int32.ofNat (own_di i.val) := by decide +kernel
theorem own_di_lt : ∀ i : Fin 36, own_di i.val < 32 := by decide +kernel
theorem own_di_cnt : ∀ i : Fin 36, own_isd_f (Int32.ofNat i.val) = (0 : Int32) → own_di i.val = own_cnt i.val ∧ own_cnt (i.val + 1) = own_cnt i.val + 1 ∧ own_cnt i.val < 32 := by decide +kernel
theorem own_da_cnt : ∀ i : Fin 36, ¬ own_isd_f (Int32.ofNat i.val) = (0 : Int32) → own_cnt (i.val + 1) = own_cnt i.val := by decide +kernel
theorem own_di_inj : ∀ i j : Fin 36, own_isd_f (Int32.ofNat i.val) = (0 : Int32) → own_isd_f (Int32.ofNat j.val) = (0 : Int32) → own_di i.val = own_di j.val → i = j := by decide +kernel
theorem own_hxN : ∀ v : Fin 16, own_hxd_f (nar .char (nar .char (nar .char (own_hxc_f (Int32.ofNat v.val))))) = Int32.ofNat v.val := by decide +kernel
theorem own_hx255 : ∀ v : Fin 16, ¬ (255 : Int32) < (nar .char (nar .char (nar .char (own_hxc_f (Int32.ofNat v.val))))) := by decide +kernel
theorem own_dgN (H L : Int64) (d : Nat) (hd : d < 32) : own_dgc_f H L (Int32.ofNat d) = nar .char (own_hxc_f (Int32.ofNat (own_nd H L d))) := by
  unfold own_dgc_f own_nd
  by_cases h : d < 16
  · rw [if_pos (show Int32.ofNat d < (16 : Int32) from own_ltN (n := 16) h (by decide)), if_pos h, own_amt ⟨d, h⟩, own_shr _ _ (by show 60 - 4 * d < 64; omega)]
    have e : (own_sh H (60 - 4 * d) &&& (15 : Int64)) = Int64.ofBitVec (own_nv H (60 - 4 * d)) := rfl
    show nar .char (own_hxc_f ((own_sh H (60 - 4 * d) &&& (15 : Int64)).toInt32)) = _
    rw [e, own_low _ (own_nv_lt _ _)]
  · have hd' : d - 16 < 16 := by omega
    have hq : Int32.ofNat d = Int32.ofNat (d - 16 + 16) := by rw [show d - 16 + 16 = d by omega]
    rw [if_neg (show ¬ Int32.ofNat d < (16 : Int32) from own_nltN (n := 16) (by omega) (by omega)), if_neg h, hq, own_amt' ⟨d - 16, hd'⟩, own_shr _ _ (by show 60 - 4 * (d - 16) < 64; omega)]
    have e : (own_sh L (60 - 4 * (d - 16)) &&& (15 : Int64)) = Int64.ofBitVec (own_nv L (60 - 4 * (d - 16))) := rfl
    show nar .char (own_hxc_f ((own_sh L (60 - 4 * (d - 16)) &&& (15 : Int64)).toInt32)) = _
    rw [e, own_low _ (own_nv_lt _ _)]
/-- what draw writes at place j -/
def own_dr (H L : Int64) (j : Nat) : Int32 := if j < 36 then nar .char (own_pos_f H L (Int32.ofNat j)) else 0
theorem own_drD (H L : Int64) (i : Fin 36) (h : own_isd_f (Int32.ofNat i.val) = (0 : Int32)) : own_dr H L i.val = nar .char (nar .char (nar .char (own_hxc_f (Int32.ofNat (own_nd H L (own_di i.val)))))) := by
  unfold own_dr own_pos_f; rw [if_pos i.isLt, if_pos h, own_dixN i, own_dgN H L _ (own_di_lt i)]
theorem own_drH (H L : Int64) (i : Fin 36) (h : own_isd_f (Int32.ofNat i.val) = (0 : Int32)) : own_hxd_f (own_dr H L i.val) = Int32.ofNat (own_nd H L (own_di i.val)) := by
  rw [own_drD H L i h]; exact own_hxN ⟨_, own_nd_lt _ _ _⟩
theorem own_drS (H L : Int64) (i : Fin 36) (h : ¬ own_isd_f (Int32.ofNat i.val) = (0 : Int32)) : own_dr H L i.val = (45 : Int32) := by
  unfold own_dr own_pos_f; rw [if_pos i.isLt, if_neg h]; rfl
theorem own_dr255 (H L : Int64) (j : Nat) : ¬ (255 : Int32) < own_dr H L j := by
  by_cases hj : j < 36
  · by_cases h : own_isd_f (Int32.ofNat j) = (0 : Int32)
    · rw [own_drD H L ⟨j, hj⟩ h]; exact own_hx255 ⟨_, own_nd_lt _ _ _⟩
    · rw [own_drS H L ⟨j, hj⟩ h]; decide
  · unfold own_dr; rw [if_neg hj]; decide
theorem own_nn (x : Int32) : nar .char (nar .char x) = nar .char x := by
  show (x.toUInt32.toUInt16.toUInt32.toInt32).toUInt32.toUInt16.toUInt32.toInt32 = x.toUInt32.toUInt16.toUInt32.toInt32
  rw [UInt32.toUInt32_toInt32, UInt16.toUInt16_toUInt32]
theorem own_drN (H L : Int64) (j : Nat) : nar .char (own_dr H L j) = own_dr H L j := by
  unfold own_dr; split
  · exact own_nn _
  · rfl
def own_pl (ch : Nat → Int32) : Nat → Nat → Int32 → Int64 → Int64 → Option (Int64 × Int64)
  | 0, _, _, hi, lo => some (hi, lo)
  | k + 1, i, d, hi, lo =>
    if (Int32.ofNat i) = (8 : Int32) then (if (ch i) = (45 : Int32) then own_pl ch k (i + 1) d hi lo else none)
    else if (Int32.ofNat i) = (13 : Int32) then (if (ch i) = (45 : Int32) then own_pl ch k (i + 1) d hi lo else none)
    else if (Int32.ofNat i) = (18 : Int32) then (if (ch i) = (45 : Int32) then own_pl ch k (i + 1) d hi lo else none)
    else if (Int32.ofNat i) = (23 : Int32) then (if (ch i) = (45 : Int32) then own_pl ch k (i + 1) d hi lo else none)
    else if (own_hxd_f (ch i)) < (0 : Int32) then none
    else if d < (16 : Int32) then own_pl ch k (i + 1) (d + (1 : Int32)) ((hi <<< ((4 : Int32) &&& 0x3f).toInt64) ||| ((own_hxd_f (ch i)).toInt64)) lo
    else own_pl ch k (i + 1) (d + (1 : Int32)) hi ((lo <<< ((4 : Int32) &&& 0x3f).toInt64) ||| ((own_hxd_f (ch i)).toInt64))
theorem own_plS (ch : Nat → Int32) (k i : Nat) (d : Int32) (hi lo : Int64) : own_pl ch (k + 1) i d hi lo = (if own_isd_f (Int32.ofNat i) = (0 : Int32) then (if (own_hxd_f (ch i)) < (0 : Int32) then none
    else if d < (16 : Int32) then own_pl ch k (i + 1) (d + (1 : Int32)) ((hi <<< ((4 : Int32) &&& 0x3f).toInt64) ||| ((own_hxd_f (ch i)).toInt64)) lo
    else own_pl ch k (i + 1) (d + (1 : Int32)) hi ((lo <<< ((4 : Int32) &&& 0x3f).toInt64) ||| ((own_hxd_f (ch i)).toInt64))) else (if (ch i) = (45 : Int32) then own_pl ch k (i + 1) d hi lo else none)) := by
  rw [own_pl]; unfold own_isd_f
  by_cases h1 : (Int32.ofNat i) = (8 : Int32)
  · simp only [if_pos h1]; rfl
  by_cases h2 : (Int32.ofNat i) = (13 : Int32)
  · simp only [if_neg h1, if_pos h2]; rfl
  by_cases h3 : (Int32.ofNat i) = (18 : Int32)
  · simp only [if_neg h1, if_neg h2, if_pos h3]; rfl
  by_cases h4 : (Int32.ofNat i) = (23 : Int32)
  · simp only [if_neg h1, if_neg h2, if_neg h3, if_pos h4]; rfl
  simp only [if_neg h1, if_neg h2, if_neg h3, if_neg h4]; rfl
theorem own_bad (ch : Nat → Int32) (j : Nat) (hb : (own_isd_f (Int32.ofNat j) = (0 : Int32) ∧ own_hxd_f (ch j) < (0 : Int32)) ∨ (¬ own_isd_f (Int32.ofNat j) = (0 : Int32) ∧ ¬ ch j = (45 : Int32))) :
    ∀ (k i : Nat) (d : Int32) (hi lo : Int64), i ≤ j → j < i + k → own_pl ch k i d hi lo = none := by
  intro k
  induction k with
  | zero => intro i d hi lo h1 h2; omega
  | succ k ih =>
    intro i d hi lo h1 h2
    rw [own_plS]
    by_cases e : i = j
    · subst e
      rcases hb with ⟨b1, b2⟩ | ⟨b1, b2⟩
      · rw [if_pos b1, if_pos b2]
      · rw [if_neg b1, if_neg b2]
    · split
      · split
        · rfl
        · split <;> exact ih _ _ _ _ (by omega) (by omega)
      · split
        · exact ih _ _ _ _ (by omega) (by omega)
        · rfl
theorem own_sh0 (x : Int64) : own_sh x 0 = x := by
  apply Int64.toBitVec_inj.mp
  show x.toBitVec >>> 0 = x.toBitVec
  simp
theorem own_sh64 (x : Int64) : own_sh x 64 = 0 := by
  apply Int64.toBitVec_inj.mp
  show x.toBitVec >>> 64 = 0#64
  apply BitVec.eq_of_getLsbD_eq
  intro i hi
  simp [BitVec.getLsbD_ushiftRight]
theorem own_good (ch : Nat → Int32) (H L : Int64) (hs : ∀ i : Fin 36, ¬ own_isd_f (Int32.ofNat i.val) = (0 : Int32) → ch i.val = (45 : Int32)) (hd : ∀ i : Fin 36, own_isd_f (Int32.ofNat i.val) = (0 : Int32) → own_hxd_f (ch i.val) = Int32.ofNat (own_nd H L (own_di i.val))) :
    own_pl ch 36 0 (0 : Int32) (0 : Int64) (0 : Int64) = some (H, L) := by
  have key : ∀ (k i : Nat), i + k = 36 → own_pl ch k i (Int32.ofNat (own_cnt i)) (own_sh H (64 - 4 * own_cnt i)) (own_sh L (64 - 4 * (own_cnt i - 16))) = some (H, L) := by
    intro k
    induction k with
    | zero =>
      intro i hi
      have e : i = 36 := by omega
      subst e
      rw [own_pl, show 64 - 4 * own_cnt 36 = 0 from rfl, show 64 - 4 * (own_cnt 36 - 16) = 0 from rfl, own_sh0, own_sh0]
    | succ k ih =>
      intro i hi
      have hl : i < 36 := by omega
      rw [own_plS]
      by_cases b : own_isd_f (Int32.ofNat i) = (0 : Int32)
      · obtain ⟨c1, c2, c3⟩ := own_di_cnt ⟨i, hl⟩ b
        have hv := own_nd_lt H L (own_di i)
        rw [if_pos b, hd ⟨i, hl⟩ b, if_neg (own_nneg (by show own_nd H L (own_di i) < _; omega))]
        have ih' := ih (i + 1) (by omega)
        simp only at c1 c2 c3
        rw [c2] at ih'
        rw [own_one]
        show (if Int32.ofNat (own_cnt i) < (16 : Int32) then _ else _) = _
        by_cases q : own_cnt i < 16
        · rw [if_pos (show Int32.ofNat (own_cnt i) < (16 : Int32) from own_ltN (n := 16) q (by decide))]
          have e1 : (Int32.ofNat (own_nd H L (own_di i))).toInt64 = (Int32.ofNat (own_nv H (60 - 4 * own_cnt i)).toNat).toInt64 := by
            unfold own_nd; rw [c1, if_pos q]
          have e2 : 64 - 4 * own_cnt i = (60 - 4 * own_cnt i) + 4 := by omega
          have e3 : 64 - 4 * (own_cnt i + 1) = 60 - 4 * own_cnt i := by omega
          have e4 : own_cnt i + 1 - 16 = own_cnt i - 16 := by omega
          rw [e3, e4] at ih'
          simp only [e1]
          rw [e2, own_app]
          exact ih'
        · rw [if_neg (show ¬ Int32.ofNat (own_cnt i) < (16 : Int32) from own_nltN (n := 16) (by omega) (by omega))]
          have e1 : (Int32.ofNat (own_nd H L (own_di i))).toInt64 = (Int32.ofNat (own_nv L (60 - 4 * (own_cnt i - 16))).toNat).toInt64 := by
            unfold own_nd; rw [c1, if_neg q]
          have e2 : 64 - 4 * (own_cnt i - 16) = (60 - 4 * (own_cnt i - 16)) + 4 := by omega
          have e3 : 64 - 4 * (own_cnt i + 1 - 16) = 60 - 4 * (own_cnt i - 16) := by omega
          have e4 : 64 - 4 * (own_cnt i + 1) = 64 - 4 * own_cnt i := by omega
          rw [e3, e4] at ih'
          simp only [e1]
          rw [e2, own_app]
          exact ih'
      · rw [if_neg b, if_pos (hs ⟨i, hl⟩ b)]
        have := own_da_cnt ⟨i, hl⟩ b
        have ih' := ih (i + 1) (by omega)
        simp only at this
        rw [this] at ih'
        exact ih'
  have := key 36 0 rfl
  rw [show own_cnt 0 = 0 from rfl, show 64 - 4 * 0 = 64 from rfl, own_sh64, own_sh64] at this
  exact this
theorem own_clamp {i : Nat} (h : i < 2147483648) : (Int32.ofNat i).toNatClampNeg = i := by
  rw [Int32.toNatClampNeg, Int32.toInt_ofNat_of_lt h]; rfl
def own_fl (n : Nat) (f : Nat → Value) : List Value := (List.range n).map f
theorem own_fl_len {n : Nat} {f : Nat → Value} : (own_fl n f).length = n := by simp [own_fl]
theorem own_fl_at {n i : Nat} {f : Nat → Value} {d : Value} (h : i < n) : (own_fl n f).getD i d = f i := by
  simp [own_fl, h]
theorem own_fl_atI {n i : Nat} {f : Nat → Value} {d : Value} (h : i < n) (hn : n < 2147483648) : (own_fl n f).getD (Int32.ofNat i).toNatClampNeg d = f i := by
  rw [own_clamp (by omega)]; exact own_fl_at h
def own_fi (g : Nat → Value) (i : Nat) : Nat → Value := fun j => if j < i then g j else .int (0 : Int32)
theorem own_fl_set {n i : Nat} {f : Nat → Value} {v : Value} : (own_fl n f).set i v = own_fl n (fun j => if j = i then v else f j) := by
  unfold own_fl
  apply List.ext_getElem?
  intro j
  rw [List.getElem?_set]
  by_cases h : i = j
  · subst h
    by_cases q : i < n
    · simp [q]
    · simp [q]
  · rw [if_neg h]
    by_cases q : j < n
    · simp [q, Ne.symm h]
    · simp [q]
theorem own_fl_ext {n : Nat} {f g : Nat → Value} (h : ∀ j, j < n → f j = g j) : own_fl n f = own_fl n g := by
  unfold own_fl
  apply List.map_congr_left
  intro j hj
  exact h j (List.mem_range.mp hj)
theorem own_fill {n i : Nat} {g : Nat → Value} : (own_fl n (own_fi g i)).set i (g i) = own_fl n (own_fi g (i + 1)) := by
  rw [own_fl_set]
  apply own_fl_ext
  intro j hj
  unfold own_fi
  by_cases h : j = i
  · subst h; simp
  · by_cases q : j < i
    · simp [h, q, Nat.lt_succ_of_lt q]
    · rw [if_neg h, if_neg q, if_neg (by omega)]
theorem own_fil {n i : Nat} {g : Nat → Value} (h : n ≤ i) : own_fl n (own_fi g i) = own_fl n (own_fi g (i + 1)) := by
  apply own_fl_ext
  intro j hj
  unfold own_fi
  rw [if_pos (by omega), if_pos (by omega)]
theorem own_fi0 {n : Nat} {g : Nat → Value} : ∀ j, (own_fl n (own_fi g 0)).getD j (.int 0) = ([] : List Value).getD j (.int 0) := by
  intro j
  by_cases h : j < n
  · rw [own_fl_at h]; rfl
  · simp [own_fl, h]
theorem own_fin {n : Nat} {g : Nat → Value} : own_fl n (own_fi g n) = own_fl n g := by
  apply own_fl_ext
  intro j hj
  exact if_pos hj
def own_g (H L : Int64) : Nat → Value := fun j => .int (nar .char (own_pos_f H L (Int32.ofNat j)))
theorem own_drl {n : Nat} {H L : Int64} : own_fl n (own_fi (own_g H L) 36) = own_fl n (fun j => .int (own_dr H L j)) := by
  apply own_fl_ext
  intro j hj
  unfold own_fi own_g own_dr
  split <;> rfl
def own_st (f : Nat → Int32) (p : Nat) (v : Int32) : Nat → Int32 := fun j => if j = p then v else f j
theorem own_setst {n p : Nat} {f : Nat → Int32} {v : Int32} : (own_fl n (fun j => .int (f j))).set p (.int v) = own_fl n (fun j => .int (own_st f p v j)) := by
  rw [own_fl_set]
  apply own_fl_ext
  intro j hj
  unfold own_st
  split <;> rfl
theorem own_chN {x : Int32} (h : nar .char x = x) : ∃ k : Nat, k < 65536 ∧ x = Int32.ofNat k := by
  refine ⟨x.toUInt32.toUInt16.toNat, x.toUInt32.toUInt16.toNat_lt, ?_⟩
  have e : nar .char x = x.toUInt32.toUInt16.toUInt32.toInt32 := rfl
  rw [← h, e]
  apply Int32.toBitVec_inj.mp
  apply BitVec.eq_of_toNat_eq
  show x.toUInt32.toUInt16.toUInt32.toNat = (BitVec.ofNat 32 _).toNat
  have := x.toUInt32.toUInt16.toNat_lt
  rw [BitVec.toNat_ofNat, UInt16.toNat_toUInt32, UInt32.toUInt32_toInt32, UInt16.toUInt16_toUInt32]
  omega
theorem own_l1 {x : Int32} (hx : ¬ (255 : Int32) < x) (hn : nar .char x = x) : nar .char (((nar .byte (x.toInt8.toInt32)) &&& (255 : Int32)).toUInt32.toUInt16.toUInt32.toInt32) = x := by
  obtain ⟨k, hk, rfl⟩ := own_chN hn
  have h : k < 256 := by
    apply Nat.lt_of_not_le; intro q
    exact hx (own_ltN (i := 255) (by omega) (by omega))
  exact (by decide +kernel : ∀ k : Fin 256, nar .char (((nar .byte ((Int32.ofNat k.val).toInt8.toInt32)) &&& (255 : Int32)).toUInt32.toUInt16.toUInt32.toInt32) = Int32.ofNat k.val) ⟨k, h⟩
def own_u0 (x : Int32) : Int32 := nar .byte ((x >>> ((0 : Int32) &&& 31)).toInt8.toInt32)
def own_u1 (x : Int32) : Int32 := nar .byte ((x >>> ((8 : Int32) &&& 31)).toInt8.toInt32)
theorem own_b255 (y : Int32) : (nar .byte (y.toInt8.toInt32)) &&& (255 : Int32) = y &&& (255 : Int32) := by
  apply Int32.toBitVec_inj.mp
  show (BitVec.signExtend 32 (BitVec.signExtend 8 (BitVec.signExtend 32 (BitVec.signExtend 8 y.toBitVec)))) &&& 255#32 = y.toBitVec &&& 255#32
  have hb : ∀ i : Fin 32, (255#32).getLsbD i.val = decide (i.val < 8) := by decide
  apply BitVec.eq_of_getLsbD_eq
  intro i hi
  rw [BitVec.getLsbD_and, BitVec.getLsbD_and, hb ⟨i, hi⟩]
  by_cases h : i < 8
  · have h32 : i < 32 := hi
    simp only [BitVec.getLsbD_signExtend, h, h32, if_true, decide_true, Bool.true_and]
  · simp only [h, decide_false, Bool.and_false]
theorem own_u16 {x : Int32} (hn : nar .char x = x) : nar .char (((((own_u0 x) &&& (255 : Int32)) <<< ((0 : Int32) &&& 31)) ||| (((own_u1 x) &&& (255 : Int32)) <<< ((8 : Int32) &&& 31))).toUInt32.toUInt16.toUInt32.toInt32) = x := by
  unfold own_u0 own_u1
  rw [own_b255, own_b255]
  have e : ∀ z : Int32, nar .char z = Int32.ofBitVec ((z.toBitVec.setWidth 16).setWidth 32) := fun z => rfl
  have key : nar .char (((((x >>> ((0 : Int32) &&& 31)) &&& (255 : Int32)) <<< ((0 : Int32) &&& 31)) ||| (((x >>> ((8 : Int32) &&& 31)) &&& (255 : Int32)) <<< ((8 : Int32) &&& 31)))) = nar .char x := by
    rw [e, e]
    congr 2
    show ((((x.toBitVec.sshiftRight 0) &&& 255#32) <<< 0) ||| (((x.toBitVec.sshiftRight 8) &&& 255#32) <<< 8)).setWidth 16 = x.toBitVec.setWidth 16
    have hb : ∀ i : Fin 32, (255#32).getLsbD i.val = decide (i.val < 8) := by decide
    apply BitVec.eq_of_getLsbD_eq
    intro i hi
    simp only [BitVec.getLsbD_setWidth, BitVec.getLsbD_or, BitVec.getLsbD_shiftLeft, BitVec.getLsbD_and, BitVec.getLsbD_sshiftRight]
    rw [hb ⟨i - 0, by omega⟩, hb ⟨i - 8, by omega⟩]
    by_cases h : i < 8
    · have h32 : i < 32 := by omega
      simp [h, hi, h32]
    · have h2 : i - 8 < 8 := by omega
      have h3 : i < 32 := by omega
      have h4 : 8 + (i - 8) = i := by omega
      have h5 : i - 8 < 32 := by omega
      simp [h, h2, hi, h3, h4, h5]
  show nar .char (nar .char _) = x
  rw [own_nn, key, hn]
theorem own_maskN (x : Int32) : ∃ n : Nat, n < 2147483648 ∧ (x &&& (2147483647 : Int32)) = Int32.ofNat n := by
  refine ⟨(x &&& 2147483647).toBitVec.toNat, ?_, ?_⟩
  · simp only [Int32.toBitVec_and, BitVec.toNat_and]
    exact Nat.lt_of_le_of_lt Nat.and_le_right (by decide)
  · apply Int32.toBitVec_inj.mp
    show _ = BitVec.ofNat 32 _
    rw [BitVec.ofNat_toNat]; simp
theorem own_modN (x : Int32) (m : Nat) (h0 : 0 < m) (hm : m < 2147483648) : ∃ n : Nat, n < m ∧ (x &&& (2147483647 : Int32)) % Int32.ofNat m = Int32.ofNat n := by
  obtain ⟨k, hk, e⟩ := own_maskN x
  refine ⟨k % m, Nat.mod_lt _ h0, ?_⟩
  rw [e]
  have hlt : k % m < 2147483648 := Nat.lt_trans (Nat.mod_lt _ h0) hm
  apply Int32.toInt_inj.mp
  rw [Int32.toInt_mod, Int32.toInt_ofNat_of_lt hk, Int32.toInt_ofNat_of_lt hm, Int32.toInt_ofNat_of_lt hlt]
  rfl
theorem own_dbl (i : Nat) : (Int32.ofNat i) <<< ((1 : Int32) &&& 31) = Int32.ofNat (2 * i) := by
  apply Int32.toBitVec_inj.mp
  show (BitVec.ofNat 32 i) <<< 1 = BitVec.ofNat 32 (2 * i)
  apply BitVec.eq_of_toNat_eq
  simp [BitVec.toNat_shiftLeft, Nat.shiftLeft_eq]
  omega
theorem own_shl (x : Int64) (n : Nat) (h : n < 64) : x <<< Int64.ofNat n = Int64.ofBitVec (x.toBitVec <<< n) := by
  apply Int64.toBitVec_inj.mp
  show x.toBitVec <<< ((BitVec.ofNat 64 n).smod 64#64) = x.toBitVec <<< n
  rw [(by decide +kernel : ∀ n : Fin 64, (BitVec.ofNat 64 n.val).smod 64#64 = BitVec.ofNat 64 n.val) ⟨n, h⟩, BitVec.shiftLeft_eq']
  congr 1
  rw [BitVec.toNat_ofNat]
  exact Nat.mod_eq_of_lt (Nat.lt_trans h (by decide))
theorem own_amL : ∀ d : Fin 16, (((60 : Int32) - ((4 : Int32) * Int32.ofNat d.val)) &&& 0x3f).toInt64 = Int64.ofNat (60 - 4 * d.val) := by decide +kernel
theorem own_amL' : ∀ d : Fin 16, (((60 : Int32) - ((4 : Int32) * (Int32.ofNat (d.val + 16) - (16 : Int32)))) &&& 0x3f).toInt64 = Int64.ofNat (60 - 4 * d.val) := by decide +kernel
/-- a nibble put at digit d -/
def own_put (x : Int64) (v : Int32) (S : Int64) : Int64 := ((x &&& (((15 : Int64) <<< S) ^^^ (-1 : Int64))) ||| ((v.toInt64) <<< S))
theorem own_v4 (v : Nat) (h : v < 16) (i : Nat) (hi : 4 ≤ i) : (BitVec.ofNat 64 v).getLsbD i = false := by
  by_cases q : i < 64
  · exact (by decide +kernel : ∀ (v : Fin 16) (i : Fin 64), 4 ≤ i.val → (BitVec.ofNat 64 v.val).getLsbD i.val = false) ⟨v, h⟩ ⟨i, q⟩ hi
  · exact BitVec.getLsbD_of_ge _ _ (by omega)
theorem own_m1 (i : Nat) : (BitVec.ofInt 64 (-1)).getLsbD i = decide (i < 64) := by
  by_cases q : i < 64
  · exact (by decide +kernel : ∀ (i : Fin 64), (BitVec.ofInt 64 (-1)).getLsbD i.val = decide (i.val < 64)) ⟨i, q⟩
  · rw [BitVec.getLsbD_of_ge _ _ (by omega), decide_eq_false q]
theorem own_put_nv (x : Int64) (v d e : Nat) (hv : v < 16) (hd : d < 16) (he : e < 16) : own_nv (own_put x (Int32.ofNat v) (Int64.ofNat (60 - 4 * d))) (60 - 4 * e) = if e = d then BitVec.ofNat 64 v else own_nv x (60 - 4 * e) := by
  have e1 : (own_put x (Int32.ofNat v) (Int64.ofNat (60 - 4 * d))).toBitVec = ((x.toBitVec &&& ((15#64 <<< (60 - 4 * d)) ^^^ (BitVec.ofInt 64 (-1)))) ||| ((BitVec.ofNat 64 v) <<< (60 - 4 * d))) := by
    unfold own_put
    rw [own_shl _ _ (by omega), own_shl _ _ (by omega), own_up64 _ hv]; rfl
  unfold own_nv
  rw [e1]
  apply BitVec.eq_of_getLsbD_eq
  intro i hi
  by_cases h4 : i < 4
  · have hi1 : 60 - 4 * e + i < 64 := by omega
    by_cases q : e = d
    · subst q
      rw [if_pos rfl]
      simp only [BitVec.getLsbD_and, BitVec.getLsbD_ushiftRight, BitVec.getLsbD_or, BitVec.getLsbD_xor, BitVec.getLsbD_shiftLeft, own_b15, own_m1]
      have h5 : ¬ 60 - 4 * e + i < 60 - 4 * e := by omega
      have h6 : 60 - 4 * e + i - (60 - 4 * e) = i := by omega
      simp [h4, hi1, h5, h6]
    · rw [if_neg q]
      simp only [BitVec.getLsbD_and, BitVec.getLsbD_ushiftRight, BitVec.getLsbD_or, BitVec.getLsbD_xor, BitVec.getLsbD_shiftLeft, own_b15, own_m1]
      by_cases h5 : 60 - 4 * e + i < 60 - 4 * d
      · simp [h4, hi1, h5]
      · have h7 : 4 ≤ 60 - 4 * e + i - (60 - 4 * d) := by omega
        have h8 : ¬ 60 - 4 * e + i - (60 - 4 * d) < 4 := by omega
        rw [own_v4 v hv _ h7]
        simp [h4, hi1, h5, h8]
  · by_cases q : e = d
    · rw [if_pos q, BitVec.getLsbD_and, own_b15, own_v4 v hv i (by omega)]; simp [h4]
    · rw [if_neg q, BitVec.getLsbD_and, BitVec.getLsbD_and, own_b15]; simp [h4]
theorem own_hv {c : Int32} (h : ¬ own_hxv_f c < (0 : Int32)) : ¬ (255 : Int32) < c ∧ ∃ v : Nat, v < 16 ∧ own_hxv_f c = Int32.ofNat v := by
  have t : ∀ z w : Int32, ¬ z < w ↔ w.toInt ≤ z.toInt := fun z w => by rw [Int32.lt_iff_toInt_lt]; omega
  have key : ∀ k : Fin 256, ¬ own_hxv_f (Int32.ofNat k.val) < (0 : Int32) → ∃ v : Fin 16, own_hxv_f (Int32.ofNat k.val) = Int32.ofNat v.val := by decide +kernel
  have h0 : (0 : Int32).toInt = 0 := rfl
  have h48 : (48 : Int32).toInt = 48 := rfl
  have h57 : (57 : Int32).toInt = 57 := rfl
  have h97 : (97 : Int32).toInt = 97 := rfl
  have h102 : (102 : Int32).toInt = 102 := rfl
  have h255 : (255 : Int32).toInt = 255 := rfl
  have hb : 0 ≤ c.toInt ∧ c.toInt < 256 := by
    unfold own_hxv_f at h
    by_cases a1 : c < (48 : Int32)
    · rw [if_pos a1] at h
      by_cases a2 : c < (97 : Int32)
      · rw [if_pos a2] at h; exact absurd (by decide) h
      · rw [Int32.lt_iff_toInt_lt] at a1 a2; omega
    · rw [if_neg a1] at h
      by_cases a2 : (57 : Int32) < c
      · rw [if_pos a2] at h
        by_cases a3 : c < (97 : Int32)
        · rw [if_pos a3] at h; exact absurd (by decide) h
        · rw [if_neg a3] at h
          by_cases a4 : (102 : Int32) < c
          · rw [if_pos a4] at h; exact absurd (by decide) h
          · rw [Int32.lt_iff_toInt_lt] at a3 a4; omega
      · rw [Int32.lt_iff_toInt_lt] at a1 a2; omega
  have e : c = Int32.ofNat c.toInt.toNat := by
    apply Int32.toInt_inj.mp
    rw [Int32.toInt_ofNat_of_lt (by omega)]; omega
  refine ⟨by rw [Int32.lt_iff_toInt_lt]; omega, ?_⟩
  rw [e] at h ⊢
  obtain ⟨v, hv⟩ := key ⟨c.toInt.toNat, by omega⟩ h
  exact ⟨v.val, v.isLt, hv⟩
theorem own_seven (P c : Int32) : (¬ own_isd_f P = (0 : Int32) ∧ c = (45 : Int32) ∧ ¬ (255 : Int32) < c) ∨ (¬ own_isd_f P = (0 : Int32) ∧ ¬ c = (45 : Int32) ∧ ¬ (255 : Int32) < c) ∨ (¬ own_isd_f P = (0 : Int32) ∧ ¬ c = (45 : Int32) ∧ (255 : Int32) < c)
    ∨ (own_isd_f P = (0 : Int32) ∧ own_hxv_f c < (0 : Int32) ∧ ¬ (255 : Int32) < c) ∨ (own_isd_f P = (0 : Int32) ∧ own_hxv_f c < (0 : Int32) ∧ (255 : Int32) < c)
    ∨ (own_isd_f P = (0 : Int32) ∧ ¬ own_hxv_f c < (0 : Int32) ∧ own_dix_f P < (16 : Int32) ∧ ¬ (255 : Int32) < c) ∨ (own_isd_f P = (0 : Int32) ∧ ¬ own_hxv_f c < (0 : Int32) ∧ ¬ own_dix_f P < (16 : Int32) ∧ ¬ (255 : Int32) < c) := by
  by_cases a : own_isd_f P = (0 : Int32)
  · by_cases b : own_hxv_f c < (0 : Int32)
    · by_cases d : (255 : Int32) < c
      · exact Or.inr (Or.inr (Or.inr (Or.inr (Or.inl ⟨a, b, d⟩))))
      · exact Or.inr (Or.inr (Or.inr (Or.inl ⟨a, b, d⟩)))
    · have d := (own_hv b).1
      by_cases e : own_dix_f P < (16 : Int32)
      · exact Or.inr (Or.inr (Or.inr (Or.inr (Or.inr (Or.inl ⟨a, b, e, d⟩)))))
      · exact Or.inr (Or.inr (Or.inr (Or.inr (Or.inr (Or.inr ⟨a, b, e, d⟩)))))
  · by_cases b : c = (45 : Int32)
    · exact Or.inl ⟨a, b, by rw [b]; decide⟩
    · by_cases d : (255 : Int32) < c
      · exact Or.inr (Or.inr (Or.inl ⟨a, b, d⟩))
      · exact Or.inr (Or.inl ⟨a, b, d⟩)
theorem own_st_at {f : Nat → Int32} {p : Nat} {v : Int32} : own_st f p v p = v := if_pos rfl
theorem own_st_ne {f : Nat → Int32} {p j : Nat} {v : Int32} (h : j ≠ p) : own_st f p v j = f j := if_neg h
theorem own_st255 {f : Nat → Int32} {p : Nat} {v : Int32} (hf : ∀ j, ¬ (255 : Int32) < f j) (hv : ¬ (255 : Int32) < v) (j : Nat) : ¬ (255 : Int32) < own_st f p v j := by
  unfold own_st; split
  · exact hv
  · exact hf j
theorem own_stlt {f : Nat → Int32} {p : Nat} {v : Int32} (hf : ∀ j, ¬ (255 : Int32) < f j) (j : Nat) (h : j < p) : ¬ (255 : Int32) < own_st f p v j := by
  rw [own_st_ne (Nat.ne_of_lt h)]; exact hf j
theorem own_stN {f : Nat → Int32} {p : Nat} {v : Int32} (hf : ∀ j, nar .char (f j) = f j) (hv : nar .char v = v) (j : Nat) : nar .char (own_st f p v j) = own_st f p v j := by
  unfold own_st; split
  · exact hv
  · exact hf j
theorem own_L0 (H L : Int64) : own_pl (own_dr H L) 36 0 (0 : Int32) (0 : Int64) (0 : Int64) = some (H, L) :=
  own_good _ H L (fun i h => own_drS H L i h) (fun i h => own_drH H L i h)
theorem own_L1 (H L : Int64) (p : Nat) (v : Int32) (hp : p < 36) (hs : ¬ own_isd_f (Int32.ofNat p) = (0 : Int32)) (hv : v = (45 : Int32)) : own_pl (own_st (own_dr H L) p v) 36 0 (0 : Int32) (0 : Int64) (0 : Int64) = some (H, L) := by
  refine own_good _ H L (fun i h => ?_) (fun i h => ?_)
  · by_cases e : i.val = p
    · rw [e, own_st_at, hv]
    · rw [own_st_ne e]; exact own_drS H L i h
  · by_cases e : i.val = p
    · rw [e] at h; exact absurd h hs
    · rw [own_st_ne e]; exact own_drH H L i h
theorem own_LB (H L : Int64) (p : Nat) (v : Int32) (hp : p < 36) (hb : (own_isd_f (Int32.ofNat p) = (0 : Int32) ∧ own_hxv_f v < (0 : Int32)) ∨ (¬ own_isd_f (Int32.ofNat p) = (0 : Int32) ∧ ¬ v = (45 : Int32))) : own_pl (own_st (own_dr H L) p v) 36 0 (0 : Int32) (0 : Int64) (0 : Int64) = none :=
  own_bad _ p (by rw [own_st_at]; exact hb) 36 0 _ _ _ (Nat.zero_le _) (by omega)
theorem own_L6 (H L : Int64) (p : Nat) (v : Int32) (hp : p < 36) (hs : own_isd_f (Int32.ofNat p) = (0 : Int32)) (hv : ¬ own_hxv_f v < (0 : Int32)) (hd : own_dix_f (Int32.ofNat p) < (16 : Int32)) : own_pl (own_st (own_dr H L) p v) 36 0 (0 : Int32) (0 : Int64) (0 : Int64) = some ((own_put H (own_hxv_f v) (((60 : Int32) - ((4 : Int32) * (own_dix_f (Int32.ofNat p)))) &&& 0x3f).toInt64), L) := by
  obtain ⟨-, w, hw, ew⟩ := own_hv hv
  have h32 := own_di_lt ⟨p, hp⟩
  rw [own_dixN ⟨p, hp⟩] at hd ⊢
  have h16 : own_di p < 16 := by
    apply Nat.lt_of_not_le; intro q
    exact own_nltN (n := 16) q (by simp only at h32; omega) hd
  rw [own_amL ⟨own_di p, h16⟩, ew]
  refine own_good _ _ L (fun i h => ?_) (fun i h => ?_)
  · by_cases e : i.val = p
    · rw [e] at h; exact absurd hs h
    · rw [own_st_ne e]; exact own_drS H L i h
  · by_cases e : i.val = p
    · rw [e, own_st_at]
      show own_hxv_f v = _
      rw [ew]; unfold own_nd
      rw [if_pos h16, own_put_nv H w _ _ hw h16 h16, if_pos rfl, BitVec.toNat_ofNat, Nat.mod_eq_of_lt (by omega)]
    · rw [own_st_ne e, own_drH H L i h]; unfold own_nd
      by_cases q : own_di i.val < 16
      · rw [if_pos q, if_pos q, own_put_nv H w _ _ hw h16 q, if_neg (fun z => e (congrArg Fin.val (own_di_inj i ⟨p, hp⟩ h hs z)))]
      · rw [if_neg q, if_neg q]
theorem own_L7 (H L : Int64) (p : Nat) (v : Int32) (hp : p < 36) (hs : own_isd_f (Int32.ofNat p) = (0 : Int32)) (hv : ¬ own_hxv_f v < (0 : Int32)) (hd : ¬ own_dix_f (Int32.ofNat p) < (16 : Int32)) : own_pl (own_st (own_dr H L) p v) 36 0 (0 : Int32) (0 : Int64) (0 : Int64) = some (H, (own_put L (own_hxv_f v) (((60 : Int32) - ((4 : Int32) * ((own_dix_f (Int32.ofNat p)) - (16 : Int32)))) &&& 0x3f).toInt64)) := by
  obtain ⟨-, w, hw, ew⟩ := own_hv hv
  have h32 := own_di_lt ⟨p, hp⟩
  simp only at h32
  rw [own_dixN ⟨p, hp⟩] at hd ⊢
  have h16 : ¬ own_di p < 16 := fun q => hd (own_ltN (n := 16) q (by omega))
  have h17 : own_di p - 16 < 16 := by omega
  have hq : Int32.ofNat (own_di p) = Int32.ofNat (own_di p - 16 + 16) := by rw [show own_di p - 16 + 16 = own_di p by omega]
  rw [hq, own_amL' ⟨own_di p - 16, h17⟩, ew]
  refine own_good _ H _ (fun i h => ?_) (fun i h => ?_)
  · by_cases e : i.val = p
    · rw [e] at h; exact absurd hs h
    · rw [own_st_ne e]; exact own_drS H L i h
  · by_cases e : i.val = p
    · rw [e, own_st_at]
      show own_hxv_f v = _
      rw [ew]; unfold own_nd
      rw [if_neg h16, own_put_nv L w _ _ hw h17 h17, if_pos rfl, BitVec.toNat_ofNat, Nat.mod_eq_of_lt (by omega)]
    · rw [own_st_ne e, own_drH H L i h]; unfold own_nd
      by_cases q : own_di i.val < 16
      · rw [if_pos q, if_pos q]
      · have hi32 := own_di_lt i
        have hq17 : own_di i.val - 16 < 16 := by omega
        rw [if_neg q, if_neg q, own_put_nv L w _ _ hw h17 hq17, if_neg (fun z => e (congrArg Fin.val (own_di_inj i ⟨p, hp⟩ h hs (by simp only; omega))))]
def own_sl : Option Int32 → Slot
  | none => u_
  | some x => vI (x)
theorem own_finE {n i : Nat} {g : Nat → Value} (h : i = n) : own_fl n (own_fi g i) = own_fl n g := by subst h; exact own_fin
def own_cl (n : Nat) (ch : Nat → Int32) : List Value := own_fl n (fun j => .int (ch j))
theorem own_cl_len {n : Nat} {ch : Nat → Int32} : (own_cl n ch).length = n := own_fl_len
theorem own_cl_atI {n i : Nat} {ch : Nat → Int32} {d : Value} (h : i < n) (hn : n < 2147483648) : (own_cl n ch).getD (Int32.ofNat i).toNatClampNeg d = .int (ch i) := own_fl_atI h hn
theorem own_cl_set {n p : Nat} {f : Nat → Int32} {v : Int32} : (own_cl n f).set p (.int v) = own_cl n (own_st f p v) := own_setst
def own_bg (ch : Nat → Int32) : Nat → Value := fun j => .int (nar .byte ((ch j).toInt8.toInt32))
def own_ug (ch : Nat → Int32) : Nat → Value := fun j => if j % 2 = 0 then .int (own_u0 (ch (j / 2))) else .int (own_u1 (ch (j / 2)))
theorem own_ug0 (ch : Nat → Int32) (i : Nat) : own_ug ch (2 * i) = .int (own_u0 (ch i)) := by
  unfold own_ug; rw [if_pos (by omega), show 2 * i / 2 = i by omega]
theorem own_ug1 (ch : Nat → Int32) (i : Nat) : own_ug ch (2 * i + 1) = .int (own_u1 (ch i)) := by
  unfold own_ug; rw [if_neg (by omega), show (2 * i + 1) / 2 = i by omega]
theorem own_ltI {i n : Nat} (h : Int32.ofNat i < Int32.ofNat n) (hi : i < 2147483648) : i < n := by
  apply Nat.lt_of_not_le; intro q; exact own_nltN q hi h
theorem own_geI {i n : Nat} (h : ¬ Int32.ofNat i < Int32.ofNat n) (hn : n < 2147483648) : n ≤ i := by
  apply Nat.le_of_not_lt; intro q; exact h (own_ltN q hn)
theorem own_cap {z : Int32} {n : Nat} (hz : z = Int32.ofNat n) (hn : n ≤ 37) : z.toNatClampNeg ≤ 37 := by
  subst hz; rw [own_clamp (by omega)]; exact hn
theorem own_nnz {z : Int32} {n : Nat} (hz : z = Int32.ofNat n) (hn : n ≤ 37) : ¬ z < 0 := by
  subst hz; exact own_nneg (by omega)
theorem own_ef_own_putA (m : MethodId) (a_c : Addr) (q2 : Int64) (q4 : Int64) (i : Nat) : entryFrame m #[(.ref a_c), (.int (Int32.ofNat i)), (.long q2), (.long q4)] 6 = mkF m 0 #[.val (.ref a_c), .val (.int (Int32.ofNat i)), .val (.long q2), .second, .val (.long q4), .second] [] := by first | (simp [entryFrame, mkF, argsToLocals, Value.category]; done) | rfl
theorem d2_0 : decode b_2 0 = .ok (.iload_n 1, 1) := by decide +kernel
theorem d2_1 : decode b_2 1 = .ok (.aload_n 0, 1) := by decide +kernel
theorem d2_2 : decode b_2 2 = .ok (.arraylength, 1) := by decide +kernel
theorem d2_3 : decode b_2 3 = .ok (.if_icmp .ge 13, 3) := by decide +kernel
theorem d2_6 : decode b_2 6 = .ok (.aload_n 0, 1) := by decide +kernel
theorem d2_7 : decode b_2 7 = .ok (.iload_n 1, 1) := by decide +kernel
theorem d2_8 : decode b_2 8 = .ok (.lload_n 2, 1) := by decide +kernel
theorem d2_9 : decode b_2 9 = .ok (.lload 4, 2) := by decide +kernel
theorem d2_11 : decode b_2 11 = .ok (.iload_n 1, 1) := by decide +kernel
theorem d2_12 : decode b_2 12 = .ok (.invokestatic 67, 3) := by decide +kernel
theorem d2_15 : decode b_2 15 = .ok (.castore, 1) := by decide +kernel
theorem d2_16 : decode b_2 16 = .ok (.return_, 1) := by decide +kernel
def Qown_putA (Z : State) (a_c : Addr) (i : Nat) (n : Nat) (q2 : Int64) (q4 : Int64) (k_c : ClassId) (z : Int32) (h0 : Heap) (n0 : Nat) (v : Option Value) (h : Heap) (L : List Loc) : Prop := v = none ∧ Fr n0 L ∧ Keep h0 h [a_c] ∧ Arv Z h a_c k_c .char z (own_fl n (own_fi (own_g q2 q4) (i + 1))) (.int 0)
set_option maxRecDepth 65536 in
set_option maxHeartbeats 40000000 in
theorem own_putA (l : Launch) (Z : State) (a0 : Array Value) (hw : ∀ d ∈ tables_1, d.before a0 Z = true) (ws : List Jvm.Cond) (a_c : Addr) (i : Nat) (n : Nat) (q2 : Int64) (q4 : Int64) (k_c : ClassId) (z : Int32) (h0 : Heap) (n0 : Nat) (Z0 : n0 ≤ h0.size) (hA : Arv Z h0 a_c k_c .char z (own_fl n (own_fi (own_g q2 q4) i)) (.int 0)) (hg : n0 ≤ a_c) (hz : z = Int32.ofNat n) (hn : n < 2147483648) (hi2 : i < 2147483648) :
    MetFree l y_7 (head1 (Jvm.Cond.code y_7 method_9_code 6 none :: ws) (RM 3 0 0 48)) (fun a U => a = #[(.ref a_c), (.int (Int32.ofNat i)), (.long q2), (.long q4)] ∧ Z.Warmed39 U.vm ∧ U.heap = h0) (fun _ _ _ _ _ => True) (fun _ U o U' => ∃ v L, o = .returned v ∧ Qown_putA Z a_c i n q2 q4 k_c z h0 n0 v U'.heap L ∧ FrameEnd U o U' L (RM 3 0 0 48).cells (RM 3 0 0 48).slots) := by
  refine MetFree.of_bodySF (plainFor_of_name own_pn0) hisR ?_
  intro p e s m args below meth c s₁ Bd hml0 hP hK
  obtain ⟨rfl, hZ, hh⟩ := hP
  have hx := Bd.exec
  have hby := Bd.bytes
  have hml : c.maxLocals = 6 := hml0
  have hown : s.vm.findClass "com/example/rosterhall/rosterhall/ResourceIdParsePinLaw" = some m.cls := findClass_of_methodNamed Bd.named
  have X0 : Stand p l e (RM 3 0 0 48) s m #[(.ref a_c), (.int (Int32.ofNat i)), (.long q2), (.long q4)] below meth c s₁ [] 0 0 := Stand.of_body Bd
  have e0 : s₁.heap = h0 := by rw [← hh, Bd.state]; rfl
  have N0 := Fr.nil n0
  have pre0 : ∀ t, Steps p.tables e below (s₁.setTop (mkF m 0 #[vR (a_c), vI ((Int32.ofNat i)), vJ (q2), s_, vJ (q4), s_] [])) t → Steps p.tables e below (s₁.setTop (entryFrame m #[(.ref a_c), (.int (Int32.ofNat i)), (.long q2), (.long q4)] 6)) t := fun t k => castTop (own_ef_own_putA m a_c q2 q4 i) k
  obtain ⟨cl4, Ar4, -, S4, M4, -, -⟩ := id hA
  have pre6 : ∀ t, Steps p.tables e below (s₁.setTop (mkF m 3 #[vR (a_c), vI ((Int32.ofNat i)), vJ (q2), s_, vJ (q4), s_] [(.int z), (.int (Int32.ofNat i))])) t → Steps p.tables e below (s₁.setTop (entryFrame m #[(.ref a_c), (.int (Int32.ofNat i)), (.long q2), (.long q4)] 6)) t := by
    intro t kt
    refine pre0 _ ?_
    show SS p e below m s₁ 0 #[vR (a_c), vI ((Int32.ofNat i)), vJ (q2), s_, vJ (q4), s_] [] _
    refine ziloadN X0 hx hby d2_0 rfl ?_
    refine zaloadN X0 hx hby d2_1 rfl rfl ?_
    show SS p e below m s₁ 2 #[vR (a_c), vI ((Int32.ofNat i)), vJ (q2), s_, vJ (q4), s_] [(.ref a_c), (.int (Int32.ofNat i))] _
    refine X0.arraylength hx (by rw [e0]; exact Ar4.1) (State.isArrayOf_alike hZ.alike Ar4.2.1) (g := (mkF m 2 #[vR (a_c), vI ((Int32.ofNat i)), vJ (q2), s_, vJ (q4), s_] [(.ref a_c), (.int (Int32.ofNat i))])) rfl rfl (hb hby d2_2) _ ?_
    rw [len_of S4 M4]
    exact kt
  by_cases hc3_7 : (Int32.ofNat i) < z
  · obtain ⟨_, _, ⟨T14, L14, k14, n14⟩, -, X14, ⟨Lc14, hQ14, l14, y14, z14⟩, st14⟩ := Jvm.LawKit.callS X0 hx (y := y_4) hown (mvT hZ (hw _ (gm 10 rfl))) (mvT hZ (hw _ (gm 11 rfl))) (mvT hZ (hw _ (gm 4 rfl))) (mvT hZ (hw _ (gm 12 rfl))) (by decide) (backOf (W := 2) (own_pos l Z a0 hw [] q2 q4 (Int32.ofNat i) h0 n0 Z0 ) hZ (hw _ (gm 12 rfl)) (hw _ (gm 4 rfl)) (by decide) (by decide)) (g := (mkF m 12 #[vR (a_c), vI ((Int32.ofNat i)), vJ (q2), s_, vJ (q4), s_] [(.int (Int32.ofNat i)), (.long q4), (.long q2), (.int (Int32.ofNat i)), (.ref a_c)])) rfl (by rw [hml]; rfl) (argsL := [(.long q2), (.long q4), (.int (Int32.ofNat i))]) (rest := [(.int (Int32.ofNat i)), (.ref a_c)]) (lenOf own_pd3 rfl) rfl (by show 2 * 0 + _ ≤ _; exact Nat.le_of_eq rfl) (hb hby d2_12) (fun _ _ => ⟨rfl, e0, (by decide : 0 + 0 ≤ _), (by decide : 0 + 0 ≤ _)⟩)
    dsimp only [Pt.U, Pt.locs, Pt.cells, Pt.slots] at X14 l14 y14 z14 st14 hQ14
    rw [l14, y14, z14] at X14
    obtain ⟨rfl, Nq14, eh14⟩ := hQ14
    have N15 := Fr.app N0 Nq14
    obtain ⟨cl17, Ar17, q17, S17, M17, H17, G17⟩ := id hA
    have hin17 : ¬ ((Int32.ofNat i) < 0 ∨ cl17.slots.size ≤ ((Int32.ofNat i)).toNatClampNeg) := inb_of S17 ⟨own_nneg hi2, hc3_7⟩
    obtain ⟨T18, h18, X18, e18, W18, st18⟩ := stC X14 hx hZ eh14 Ar17 (j := (Int32.ofNat i)) hin17 (g := (mkF m 15 #[vR (a_c), vI ((Int32.ofNat i)), vJ (q2), s_, vJ (q4), s_] [(.int (own_pos_f q2 q4 (Int32.ofNat i))), (.int (Int32.ofNat i)), (.ref a_c)])) rfl rfl (hb hby d2_15)
    have Kc20 : Keep h0 h18 [a_c] := (Keep.refl h0 [a_c]).wr W18 (Or.inl (ga 0 rfl))
    have N22 := Fr.snoc X18 N15 hg
    have Vm19 : Arv Z h18 a_c k_c .char z ((own_fl n (own_fi (own_g q2 q4) i)).set i (.int (nar .char (own_pos_f q2 q4 (Int32.ofNat i))))) (.int 0) := Arv.set Ar17 q17 S17 M17 H17 G17 (fits_nar_char _) W18 i (own_clamp hi2) (by rw [own_fl_len]; exact own_ltI (hz ▸ hc3_7) hi2)
    obtain ⟨fs, hr, hrun, hended, hW, hsame⟩ := X18.leave (v := none) (fun _ => rfl) (hlocks := BodyLoose.notSynchronized Bd)
    refine ⟨_, _, pre6 _ ?_, hrun, hended, _, _, rfl, ?_, ⟨_, rfl⟩, hW, hsame.mono (by decide) (by decide)⟩
    · show SS p e below m s₁ 3 #[vR (a_c), vI ((Int32.ofNat i)), vJ (q2), s_, vJ (q4), s_] [(.int z), (.int (Int32.ofNat i))] _
      refine zicmpNo X0 hx hby d2_3 (tlt hc3_7).2.1 ?_
      refine zaloadN X0 hx hby d2_6 rfl rfl ?_
      refine ziloadN X0 hx hby d2_7 rfl ?_
      refine zlloadN X0 hx hby d2_8 rfl ?_
      refine zlload X0 hx hby d2_9 rfl ?_
      refine ziloadN X0 hx hby d2_11 rfl ?_
      refine st14 _ ?_
      refine st18 _ ?_
      exact X18.returnOut hx Bd.returns (hb hby d2_16) hr
    · show Qown_putA Z a_c i n q2 q4 k_c z h0 n0 _ T18.heap _
      rw [e18]
      exact ⟨rfl, N22, Kc20, (by rw [← own_fill]; exact Vm19)⟩
  · obtain ⟨fs, hr, hrun, hended, hW, hsame⟩ := X0.leave (v := none) (fun _ => rfl) (hlocks := BodyLoose.notSynchronized Bd)
    refine ⟨_, _, pre6 _ ?_, hrun, hended, _, _, rfl, ?_, ⟨_, rfl⟩, hW, hsame.mono (by decide) (by decide)⟩
    · show SS p e below m s₁ 3 #[vR (a_c), vI ((Int32.ofNat i)), vJ (q2), s_, vJ (q4), s_] [(.int z), (.int (Int32.ofNat i))] _
      refine zicmpYes X0 hx hby 3 16 rfl d2_3 (flt hc3_7).2.1 (by decide) (by decide) ?_
      exact X0.returnOut hx Bd.returns (hb hby d2_16) hr
    · show Qown_putA Z a_c i n q2 q4 k_c z h0 n0 _ s₁.heap _
      rw [e0]
      exact ⟨rfl, N0, (Keep.refl h0 [a_c]), (by rw [← own_fil (own_geI (hz ▸ hc3_7) hn)]; exact hA)⟩
theorem own_ef_own_draw (m : MethodId) (q0 : Int64) (q1 : Int64) (z : Int32) : entryFrame m #[(.long q0), (.long q1), (.int z)] 6 = mkF m 0 #[.val (.long q0), .second, .val (.long q1), .second, .val (.int z), .unset] [] := by first | (simp [entryFrame, mkF, argsToLocals, Value.category]; done) | rfl
theorem own_pd4 : parseMethodDescriptor "([CIJJ)V" = some ⟨[(.array .char), .int, .long, .long], none⟩ := by decide +kernel
theorem d1_0 : decode b_1 0 = .ok (.iload 4, 2) := by decide +kernel
theorem d1_2 : decode b_1 2 = .ok (.newarray .char, 2) := by decide +kernel
theorem d1_4 : decode b_1 4 = .ok (.astore 5, 2) := by decide +kernel
theorem d1_6 : decode b_1 6 = .ok (.aload 5, 2) := by decide +kernel
theorem d1_8 : decode b_1 8 = .ok (.iconst 0, 1) := by decide +kernel
theorem d1_9 : decode b_1 9 = .ok (.lload_n 0, 1) := by decide +kernel
theorem d1_10 : decode b_1 10 = .ok (.lload_n 2, 1) := by decide +kernel
theorem d1_11 : decode b_1 11 = .ok (.invokestatic 70, 3) := by decide +kernel
theorem d1_14 : decode b_1 14 = .ok (.aload 5, 2) := by decide +kernel
theorem d1_16 : decode b_1 16 = .ok (.iconst 1, 1) := by decide +kernel
theorem d1_17 : decode b_1 17 = .ok (.lload_n 0, 1) := by decide +kernel
theorem d1_18 : decode b_1 18 = .ok (.lload_n 2, 1) := by decide +kernel
theorem d1_19 : decode b_1 19 = .ok (.invokestatic 70, 3) := by decide +kernel
theorem d1_22 : decode b_1 22 = .ok (.aload 5, 2) := by decide +kernel
theorem d1_24 : decode b_1 24 = .ok (.iconst 2, 1) := by decide +kernel
theorem d1_25 : decode b_1 25 = .ok (.lload_n 0, 1) := by decide +kernel
theorem d1_26 : decode b_1 26 = .ok (.lload_n 2, 1) := by decide +kernel
theorem d1_27 : decode b_1 27 = .ok (.invokestatic 70, 3) := by decide +kernel
theorem d1_30 : decode b_1 30 = .ok (.aload 5, 2) := by decide +kernel
theorem d1_32 : decode b_1 32 = .ok (.iconst 3, 1) := by decide +kernel
theorem d1_33 : decode b_1 33 = .ok (.lload_n 0, 1) := by decide +kernel
theorem d1_34 : decode b_1 34 = .ok (.lload_n 2, 1) := by decide +kernel
theorem d1_35 : decode b_1 35 = .ok (.invokestatic 70, 3) := by decide +kernel
theorem d1_38 : decode b_1 38 = .ok (.aload 5, 2) := by decide +kernel
theorem d1_40 : decode b_1 40 = .ok (.iconst 4, 1) := by decide +kernel
theorem d1_41 : decode b_1 41 = .ok (.lload_n 0, 1) := by decide +kernel
theorem d1_42 : decode b_1 42 = .ok (.lload_n 2, 1) := by decide +kernel
theorem d1_43 : decode b_1 43 = .ok (.invokestatic 70, 3) := by decide +kernel
theorem d1_46 : decode b_1 46 = .ok (.aload 5, 2) := by decide +kernel
theorem d1_48 : decode b_1 48 = .ok (.iconst 5, 1) := by decide +kernel
theorem d1_49 : decode b_1 49 = .ok (.lload_n 0, 1) := by decide +kernel
theorem d1_50 : decode b_1 50 = .ok (.lload_n 2, 1) := by decide +kernel
theorem d1_51 : decode b_1 51 = .ok (.invokestatic 70, 3) := by decide +kernel
theorem d1_54 : decode b_1 54 = .ok (.aload 5, 2) := by decide +kernel
theorem d1_56 : decode b_1 56 = .ok (.bipush 6, 2) := by decide +kernel
theorem d1_58 : decode b_1 58 = .ok (.lload_n 0, 1) := by decide +kernel
theorem d1_59 : decode b_1 59 = .ok (.lload_n 2, 1) := by decide +kernel
theorem d1_60 : decode b_1 60 = .ok (.invokestatic 70, 3) := by decide +kernel
theorem d1_63 : decode b_1 63 = .ok (.aload 5, 2) := by decide +kernel
theorem d1_65 : decode b_1 65 = .ok (.bipush 7, 2) := by decide +kernel
theorem d1_67 : decode b_1 67 = .ok (.lload_n 0, 1) := by decide +kernel
theorem d1_68 : decode b_1 68 = .ok (.lload_n 2, 1) := by decide +kernel
theorem d1_69 : decode b_1 69 = .ok (.invokestatic 70, 3) := by decide +kernel
theorem d1_72 : decode b_1 72 = .ok (.aload 5, 2) := by decide +kernel
theorem d1_74 : decode b_1 74 = .ok (.bipush 8, 2) := by decide +kernel
theorem d1_76 : decode b_1 76 = .ok (.lload_n 0, 1) := by decide +kernel
theorem d1_77 : decode b_1 77 = .ok (.lload_n 2, 1) := by decide +kernel
theorem d1_78 : decode b_1 78 = .ok (.invokestatic 70, 3) := by decide +kernel
theorem d1_81 : decode b_1 81 = .ok (.aload 5, 2) := by decide +kernel
theorem d1_83 : decode b_1 83 = .ok (.bipush 9, 2) := by decide +kernel
theorem d1_85 : decode b_1 85 = .ok (.lload_n 0, 1) := by decide +kernel
theorem d1_86 : decode b_1 86 = .ok (.lload_n 2, 1) := by decide +kernel
theorem d1_87 : decode b_1 87 = .ok (.invokestatic 70, 3) := by decide +kernel
theorem d1_90 : decode b_1 90 = .ok (.aload 5, 2) := by decide +kernel
theorem d1_92 : decode b_1 92 = .ok (.bipush 10, 2) := by decide +kernel
theorem d1_94 : decode b_1 94 = .ok (.lload_n 0, 1) := by decide +kernel
theorem d1_95 : decode b_1 95 = .ok (.lload_n 2, 1) := by decide +kernel
theorem d1_96 : decode b_1 96 = .ok (.invokestatic 70, 3) := by decide +kernel
theorem d1_99 : decode b_1 99 = .ok (.aload 5, 2) := by decide +kernel
theorem d1_101 : decode b_1 101 = .ok (.bipush 11, 2) := by decide +kernel
theorem d1_103 : decode b_1 103 = .ok (.lload_n 0, 1) := by decide +kernel
theorem d1_104 : decode b_1 104 = .ok (.lload_n 2, 1) := by decide +kernel
theorem d1_105 : decode b_1 105 = .ok (.invokestatic 70, 3) := by decide +kernel
theorem d1_108 : decode b_1 108 = .ok (.aload 5, 2) := by decide +kernel
theorem d1_110 : decode b_1 110 = .ok (.bipush 12, 2) := by decide +kernel
theorem d1_112 : decode b_1 112 = .ok (.lload_n 0, 1) := by decide +kernel
theorem d1_113 : decode b_1 113 = .ok (.lload_n 2, 1) := by decide +kernel
theorem d1_114 : decode b_1 114 = .ok (.invokestatic 70, 3) := by decide +kernel
theorem d1_117 : decode b_1 117 = .ok (.aload 5, 2) := by decide +kernel
theorem d1_119 : decode b_1 119 = .ok (.bipush 13, 2) := by decide +kernel
theorem d1_121 : decode b_1 121 = .ok (.lload_n 0, 1) := by decide +kernel
theorem d1_122 : decode b_1 122 = .ok (.lload_n 2, 1) := by decide +kernel
theorem d1_123 : decode b_1 123 = .ok (.invokestatic 70, 3) := by decide +kernel
theorem d1_126 : decode b_1 126 = .ok (.aload 5, 2) := by decide +kernel
theorem d1_128 : decode b_1 128 = .ok (.bipush 14, 2) := by decide +kernel
theorem d1_130 : decode b_1 130 = .ok (.lload_n 0, 1) := by decide +kernel
theorem d1_131 : decode b_1 131 = .ok (.lload_n 2, 1) := by decide +kernel
theorem d1_132 : decode b_1 132 = .ok (.invokestatic 70, 3) := by decide +kernel
theorem d1_135 : decode b_1 135 = .ok (.aload 5, 2) := by decide +kernel
theorem d1_137 : decode b_1 137 = .ok (.bipush 15, 2) := by decide +kernel
theorem d1_139 : decode b_1 139 = .ok (.lload_n 0, 1) := by decide +kernel
theorem d1_140 : decode b_1 140 = .ok (.lload_n 2, 1) := by decide +kernel
theorem d1_141 : decode b_1 141 = .ok (.invokestatic 70, 3) := by decide +kernel
theorem d1_144 : decode b_1 144 = .ok (.aload 5, 2) := by decide +kernel
theorem d1_146 : decode b_1 146 = .ok (.bipush 16, 2) := by decide +kernel
theorem d1_148 : decode b_1 148 = .ok (.lload_n 0, 1) := by decide +kernel
theorem d1_149 : decode b_1 149 = .ok (.lload_n 2, 1) := by decide +kernel
theorem d1_150 : decode b_1 150 = .ok (.invokestatic 70, 3) := by decide +kernel
theorem d1_153 : decode b_1 153 = .ok (.aload 5, 2) := by decide +kernel
theorem d1_155 : decode b_1 155 = .ok (.bipush 17, 2) := by decide +kernel
theorem d1_157 : decode b_1 157 = .ok (.lload_n 0, 1) := by decide +kernel
theorem d1_158 : decode b_1 158 = .ok (.lload_n 2, 1) := by decide +kernel
theorem d1_159 : decode b_1 159 = .ok (.invokestatic 70, 3) := by decide +kernel
theorem d1_162 : decode b_1 162 = .ok (.aload 5, 2) := by decide +kernel
theorem d1_164 : decode b_1 164 = .ok (.bipush 18, 2) := by decide +kernel
theorem d1_166 : decode b_1 166 = .ok (.lload_n 0, 1) := by decide +kernel
theorem d1_167 : decode b_1 167 = .ok (.lload_n 2, 1) := by decide +kernel
theorem d1_168 : decode b_1 168 = .ok (.invokestatic 70, 3) := by decide +kernel
theorem d1_171 : decode b_1 171 = .ok (.aload 5, 2) := by decide +kernel
theorem d1_173 : decode b_1 173 = .ok (.bipush 19, 2) := by decide +kernel
theorem d1_175 : decode b_1 175 = .ok (.lload_n 0, 1) := by decide +kernel
theorem d1_176 : decode b_1 176 = .ok (.lload_n 2, 1) := by decide +kernel
theorem d1_177 : decode b_1 177 = .ok (.invokestatic 70, 3) := by decide +kernel
theorem d1_180 : decode b_1 180 = .ok (.aload 5, 2) := by decide +kernel
theorem d1_182 : decode b_1 182 = .ok (.bipush 20, 2) := by decide +kernel
theorem d1_184 : decode b_1 184 = .ok (.lload_n 0, 1) := by decide +kernel
theorem d1_185 : decode b_1 185 = .ok (.lload_n 2, 1) := by decide +kernel
theorem d1_186 : decode b_1 186 = .ok (.invokestatic 70, 3) := by decide +kernel
theorem d1_189 : decode b_1 189 = .ok (.aload 5, 2) := by decide +kernel
theorem d1_191 : decode b_1 191 = .ok (.bipush 21, 2) := by decide +kernel
theorem d1_193 : decode b_1 193 = .ok (.lload_n 0, 1) := by decide +kernel
theorem d1_194 : decode b_1 194 = .ok (.lload_n 2, 1) := by decide +kernel
theorem d1_195 : decode b_1 195 = .ok (.invokestatic 70, 3) := by decide +kernel
theorem d1_198 : decode b_1 198 = .ok (.aload 5, 2) := by decide +kernel
theorem d1_200 : decode b_1 200 = .ok (.bipush 22, 2) := by decide +kernel
theorem d1_202 : decode b_1 202 = .ok (.lload_n 0, 1) := by decide +kernel
theorem d1_203 : decode b_1 203 = .ok (.lload_n 2, 1) := by decide +kernel
theorem d1_204 : decode b_1 204 = .ok (.invokestatic 70, 3) := by decide +kernel
theorem d1_207 : decode b_1 207 = .ok (.aload 5, 2) := by decide +kernel
theorem d1_209 : decode b_1 209 = .ok (.bipush 23, 2) := by decide +kernel
theorem d1_211 : decode b_1 211 = .ok (.lload_n 0, 1) := by decide +kernel
theorem d1_212 : decode b_1 212 = .ok (.lload_n 2, 1) := by decide +kernel
theorem d1_213 : decode b_1 213 = .ok (.invokestatic 70, 3) := by decide +kernel
theorem d1_216 : decode b_1 216 = .ok (.aload 5, 2) := by decide +kernel
theorem d1_218 : decode b_1 218 = .ok (.bipush 24, 2) := by decide +kernel
theorem d1_220 : decode b_1 220 = .ok (.lload_n 0, 1) := by decide +kernel
theorem d1_221 : decode b_1 221 = .ok (.lload_n 2, 1) := by decide +kernel
theorem d1_222 : decode b_1 222 = .ok (.invokestatic 70, 3) := by decide +kernel
theorem d1_225 : decode b_1 225 = .ok (.aload 5, 2) := by decide +kernel
theorem d1_227 : decode b_1 227 = .ok (.bipush 25, 2) := by decide +kernel
theorem d1_229 : decode b_1 229 = .ok (.lload_n 0, 1) := by decide +kernel
theorem d1_230 : decode b_1 230 = .ok (.lload_n 2, 1) := by decide +kernel
theorem d1_231 : decode b_1 231 = .ok (.invokestatic 70, 3) := by decide +kernel
theorem d1_234 : decode b_1 234 = .ok (.aload 5, 2) := by decide +kernel
theorem d1_236 : decode b_1 236 = .ok (.bipush 26, 2) := by decide +kernel
theorem d1_238 : decode b_1 238 = .ok (.lload_n 0, 1) := by decide +kernel
theorem d1_239 : decode b_1 239 = .ok (.lload_n 2, 1) := by decide +kernel
theorem d1_240 : decode b_1 240 = .ok (.invokestatic 70, 3) := by decide +kernel
theorem d1_243 : decode b_1 243 = .ok (.aload 5, 2) := by decide +kernel
theorem d1_245 : decode b_1 245 = .ok (.bipush 27, 2) := by decide +kernel
theorem d1_247 : decode b_1 247 = .ok (.lload_n 0, 1) := by decide +kernel
theorem d1_248 : decode b_1 248 = .ok (.lload_n 2, 1) := by decide +kernel
theorem d1_249 : decode b_1 249 = .ok (.invokestatic 70, 3) := by decide +kernel
theorem d1_252 : decode b_1 252 = .ok (.aload 5, 2) := by decide +kernel
theorem d1_254 : decode b_1 254 = .ok (.bipush 28, 2) := by decide +kernel
theorem d1_256 : decode b_1 256 = .ok (.lload_n 0, 1) := by decide +kernel
theorem d1_257 : decode b_1 257 = .ok (.lload_n 2, 1) := by decide +kernel
theorem d1_258 : decode b_1 258 = .ok (.invokestatic 70, 3) := by decide +kernel
theorem d1_261 : decode b_1 261 = .ok (.aload 5, 2) := by decide +kernel
theorem d1_263 : decode b_1 263 = .ok (.bipush 29, 2) := by decide +kernel
theorem d1_265 : decode b_1 265 = .ok (.lload_n 0, 1) := by decide +kernel
theorem d1_266 : decode b_1 266 = .ok (.lload_n 2, 1) := by decide +kernel
theorem d1_267 : decode b_1 267 = .ok (.invokestatic 70, 3) := by decide +kernel
theorem d1_270 : decode b_1 270 = .ok (.aload 5, 2) := by decide +kernel
theorem d1_272 : decode b_1 272 = .ok (.bipush 30, 2) := by decide +kernel
theorem d1_274 : decode b_1 274 = .ok (.lload_n 0, 1) := by decide +kernel
theorem d1_275 : decode b_1 275 = .ok (.lload_n 2, 1) := by decide +kernel
theorem d1_276 : decode b_1 276 = .ok (.invokestatic 70, 3) := by decide +kernel
theorem d1_279 : decode b_1 279 = .ok (.aload 5, 2) := by decide +kernel
theorem d1_281 : decode b_1 281 = .ok (.bipush 31, 2) := by decide +kernel
theorem d1_283 : decode b_1 283 = .ok (.lload_n 0, 1) := by decide +kernel
theorem d1_284 : decode b_1 284 = .ok (.lload_n 2, 1) := by decide +kernel
theorem d1_285 : decode b_1 285 = .ok (.invokestatic 70, 3) := by decide +kernel
theorem d1_288 : decode b_1 288 = .ok (.aload 5, 2) := by decide +kernel
theorem d1_290 : decode b_1 290 = .ok (.bipush 32, 2) := by decide +kernel
theorem d1_292 : decode b_1 292 = .ok (.lload_n 0, 1) := by decide +kernel
theorem d1_293 : decode b_1 293 = .ok (.lload_n 2, 1) := by decide +kernel
theorem d1_294 : decode b_1 294 = .ok (.invokestatic 70, 3) := by decide +kernel
theorem d1_297 : decode b_1 297 = .ok (.aload 5, 2) := by decide +kernel
theorem d1_299 : decode b_1 299 = .ok (.bipush 33, 2) := by decide +kernel
theorem d1_301 : decode b_1 301 = .ok (.lload_n 0, 1) := by decide +kernel
theorem d1_302 : decode b_1 302 = .ok (.lload_n 2, 1) := by decide +kernel
theorem d1_303 : decode b_1 303 = .ok (.invokestatic 70, 3) := by decide +kernel
theorem d1_306 : decode b_1 306 = .ok (.aload 5, 2) := by decide +kernel
theorem d1_308 : decode b_1 308 = .ok (.bipush 34, 2) := by decide +kernel
theorem d1_310 : decode b_1 310 = .ok (.lload_n 0, 1) := by decide +kernel
theorem d1_311 : decode b_1 311 = .ok (.lload_n 2, 1) := by decide +kernel
theorem d1_312 : decode b_1 312 = .ok (.invokestatic 70, 3) := by decide +kernel
theorem d1_315 : decode b_1 315 = .ok (.aload 5, 2) := by decide +kernel
theorem d1_317 : decode b_1 317 = .ok (.bipush 35, 2) := by decide +kernel
theorem d1_319 : decode b_1 319 = .ok (.lload_n 0, 1) := by decide +kernel
theorem d1_320 : decode b_1 320 = .ok (.lload_n 2, 1) := by decide +kernel
theorem d1_321 : decode b_1 321 = .ok (.invokestatic 70, 3) := by decide +kernel
theorem d1_324 : decode b_1 324 = .ok (.aload 5, 2) := by decide +kernel
theorem d1_326 : decode b_1 326 = .ok (.areturn, 1) := by decide +kernel
def Qown_draw (Z : State) (q0 : Int64) (q1 : Int64) (z : Int32) (n : Nat) (h0 : Heap) (n0 : Nat) (v : Option Value) (h : Heap) (L : List Loc) : Prop := ∃ r_o : Addr, ∃ k_r : ClassId, v = some (.ref r_o) ∧ Fr n0 L ∧ h0.size ≤ r_o ∧ Keep h0 h [] ∧ Arv Z h r_o k_r .char z (own_cl n (own_dr q0 q1)) (.int 0)
set_option maxRecDepth 65536 in
set_option maxHeartbeats 40000000 in
theorem own_draw (l : Launch) (Z : State) (a0 : Array Value) (hw : ∀ d ∈ tables_1, d.before a0 Z = true) (ws : List Jvm.Cond) (q0 : Int64) (q1 : Int64) (z : Int32) (n : Nat) (h0 : Heap) (n0 : Nat) (Z0 : n0 ≤ h0.size) (hz : z = Int32.ofNat n) (hn : n ≤ 37) :
    MetFree l y_8 (head1 (Jvm.Cond.code y_8 method_10_code 6 (some (.array .char)) :: ws) (RM 4 1 37 65)) (fun a U => a = #[(.long q0), (.long q1), (.int z)] ∧ Z.Warmed39 U.vm ∧ U.heap = h0) (fun _ _ _ _ _ => True) (fun _ U o U' => ∃ v L, o = .returned v ∧ Qown_draw Z q0 q1 z n h0 n0 v U'.heap L ∧ FrameEnd U o U' L (RM 4 1 37 65).cells (RM 4 1 37 65).slots) := by
  refine MetFree.of_bodySF (plainFor_of_name own_pn0) hisR ?_
  intro p e s m args below meth c s₁ Bd hml0 hP hK
  obtain ⟨rfl, hZ, hh⟩ := hP
  have hx := Bd.exec
  have hby := Bd.bytes
  have hml : c.maxLocals = 6 := hml0
  have hown : s.vm.findClass "com/example/rosterhall/rosterhall/ResourceIdParsePinLaw" = some m.cls := findClass_of_methodNamed Bd.named
  have X0 : Stand p l e (RM 4 1 37 65) s m #[(.long q0), (.long q1), (.int z)] below meth c s₁ [] 0 0 := Stand.of_body Bd
  have e0 : s₁.heap = h0 := by rw [← hh, Bd.state]; rfl
  have N0 := Fr.nil n0
  have pre0 : ∀ t, Steps p.tables e below (s₁.setTop (mkF m 0 #[vJ (q0), s_, vJ (q1), s_, vI (z), u_] [])) t → Steps p.tables e below (s₁.setTop (entryFrame m #[(.long q0), (.long q1), (.int z)] 6)) t := fun t k => castTop (own_ef_own_draw m q0 q1 z) k
  obtain ⟨T3, h3, k3, X3, e3, E3, A3, Y3, st3⟩ := newPE X0 hx hZ (hw _ (gm 6 rfl)) e0 (g := (mkF m 2 #[vJ (q0), s_, vJ (q1), s_, vI (z), u_] [(.int z)])) rfl (hb hby d1_2) rfl (own_nnz hz hn) (cap := 37) (own_cap hz hn) (by decide) (by decide) (by decide) (ad := "[C") (by first | rfl | decide)
  obtain ⟨b3, g3⟩ : ∃ z, z = h0.size := ⟨_, rfl⟩
  rw [← g3] at A3 Y3 st3
  have Ge4 : n0 ≤ b3 := Nat.le_trans Z0 (Nat.le_of_eq g3.symm)
  have Sz5 : h0.size ≤ b3 := Nat.le_trans (Keep.refl h0 []).1 (Nat.le_of_eq g3.symm)
  have Kc6 : Keep h0 h3 [] := (Keep.refl h0 []).ext E3
  have Zs7 : n0 ≤ h3.size := (Nat.le_trans Z0 E3.1)
  have V3 : Arv Z h3 b3 k3 .char z [] (.int 0) := (Arv.new A3 (own_nnz hz hn))
  have Vz9 : Arv Z h3 b3 k3 .char z (own_fl n (own_fi (own_g q0 q1) 0)) (.int 0) := (V3).pad own_fi0
  obtain ⟨_, _, ⟨T15, L15, k15, n15⟩, -, X15, ⟨Lc15, hQ15, l15, y15, z15⟩, st15⟩ := Jvm.LawKit.callS X3 hx (y := y_7) hown (mvT hZ (hw _ (gm 7 rfl))) (mvT hZ (hw _ (gm 8 rfl))) (mvT hZ (hw _ (gm 4 rfl))) (mvT hZ (hw _ (gm 9 rfl))) (by decide) (backOf (W := 0) (own_putA l Z a0 hw [] b3 0 n q0 q1 k3 z h3 n0 Zs7 Vz9 Ge4 hz (by omega) (by first | assumption | decide : 0 < 2147483648)) hZ (hw _ (gm 9 rfl)) (hw _ (gm 4 rfl)) (by decide) (by decide)) (g := (mkF m 11 #[vJ (q0), s_, vJ (q1), s_, vI (z), vR (b3)] [(.long q1), (.long q0), (.int 0), (.ref b3)])) rfl (by rw [hml]; rfl) (argsL := [(.ref b3), (.int 0), (.long q0), (.long q1)]) (rest := []) (lenOf own_pd4 rfl) rfl (by show 2 * 0 + _ ≤ _; exact Nat.le_of_eq rfl) (hb hby d1_11) (fun _ _ => ⟨rfl, e3, (by decide : 1 + 0 ≤ _), (by decide : 37 + 0 ≤ _)⟩)
  dsimp only [Pt.U, Pt.locs, Pt.cells, Pt.slots] at X15 l15 y15 z15 st15 hQ15
  rw [l15, y15, z15] at X15
  obtain ⟨rfl, Nq15, K15, Pf15_0⟩ := hQ15
  have N16 := Fr.app N0 Nq15
  have Kc17 : Keep h0 T15.heap [] := Kc6.trans K15 (allS (Or.inr Sz5) all0)
  have Zs18 : n0 ≤ T15.heap.size := Nat.le_trans Zs7 K15.1
  obtain ⟨_, _, ⟨T24, L24, k24, n24⟩, -, X24, ⟨Lc24, hQ24, l24, y24, z24⟩, st24⟩ := Jvm.LawKit.callS X15 hx (y := y_7) hown (mvT hZ (hw _ (gm 7 rfl))) (mvT hZ (hw _ (gm 8 rfl))) (mvT hZ (hw _ (gm 4 rfl))) (mvT hZ (hw _ (gm 9 rfl))) (by decide) (backOf (W := 0) (own_putA l Z a0 hw [] b3 1 n q0 q1 k3 z T15.heap n0 Zs18 Pf15_0 Ge4 hz (by omega) (by first | assumption | decide : 1 < 2147483648)) hZ (hw _ (gm 9 rfl)) (hw _ (gm 4 rfl)) (by decide) (by decide)) (g := (mkF m 19 #[vJ (q0), s_, vJ (q1), s_, vI (z), vR (b3)] [(.long q1), (.long q0), (.int 1), (.ref b3)])) rfl (by rw [hml]; rfl) (argsL := [(.ref b3), (.int 1), (.long q0), (.long q1)]) (rest := []) (lenOf own_pd4 rfl) rfl (by show 2 * 0 + _ ≤ _; exact Nat.le_of_eq rfl) (hb hby d1_19) (fun _ _ => ⟨rfl, rfl, (by decide : 1 + 0 ≤ _), (by decide : 37 + 0 ≤ _)⟩)
  dsimp only [Pt.U, Pt.locs, Pt.cells, Pt.slots] at X24 l24 y24 z24 st24 hQ24
  rw [l24, y24, z24] at X24
  obtain ⟨rfl, Nq24, K24, Pf24_0⟩ := hQ24
  have N25 := Fr.app N16 Nq24
  have Kc26 : Keep h0 T24.heap [] := Kc17.trans K24 (allS (Or.inr Sz5) all0)
  have Zs27 : n0 ≤ T24.heap.size := Nat.le_trans Zs18 K24.1
  obtain ⟨_, _, ⟨T33, L33, k33, n33⟩, -, X33, ⟨Lc33, hQ33, l33, y33, z33⟩, st33⟩ := Jvm.LawKit.callS X24 hx (y := y_7) hown (mvT hZ (hw _ (gm 7 rfl))) (mvT hZ (hw _ (gm 8 rfl))) (mvT hZ (hw _ (gm 4 rfl))) (mvT hZ (hw _ (gm 9 rfl))) (by decide) (backOf (W := 0) (own_putA l Z a0 hw [] b3 2 n q0 q1 k3 z T24.heap n0 Zs27 Pf24_0 Ge4 hz (by omega) (by first | assumption | decide : 2 < 2147483648)) hZ (hw _ (gm 9 rfl)) (hw _ (gm 4 rfl)) (by decide) (by decide)) (g := (mkF m 27 #[vJ (q0), s_, vJ (q1), s_, vI (z), vR (b3)] [(.long q1), (.long q0), (.int 2), (.ref b3)])) rfl (by rw [hml]; rfl) (argsL := [(.ref b3), (.int 2), (.long q0), (.long q1)]) (rest := []) (lenOf own_pd4 rfl) rfl (by show 2 * 0 + _ ≤ _; exact Nat.le_of_eq rfl) (hb hby d1_27) (fun _ _ => ⟨rfl, rfl, (by decide : 1 + 0 ≤ _), (by decide : 37 + 0 ≤ _)⟩)
  dsimp only [Pt.U, Pt.locs, Pt.cells, Pt.slots] at X33 l33 y33 z33 st33 hQ33
  rw [l33, y33, z33] at X33
  obtain ⟨rfl, Nq33, K33, Pf33_0⟩ := hQ33
  have N34 := Fr.app N25 Nq33
  have Kc35 : Keep h0 T33.heap [] := Kc26.trans K33 (allS (Or.inr Sz5) all0)
  have Zs36 : n0 ≤ T33.heap.size := Nat.le_trans Zs27 K33.1
  obtain ⟨_, _, ⟨T42, L42, k42, n42⟩, -, X42, ⟨Lc42, hQ42, l42, y42, z42⟩, st42⟩ := Jvm.LawKit.callS X33 hx (y := y_7) hown (mvT hZ (hw _ (gm 7 rfl))) (mvT hZ (hw _ (gm 8 rfl))) (mvT hZ (hw _ (gm 4 rfl))) (mvT hZ (hw _ (gm 9 rfl))) (by decide) (backOf (W := 0) (own_putA l Z a0 hw [] b3 3 n q0 q1 k3 z T33.heap n0 Zs36 Pf33_0 Ge4 hz (by omega) (by first | assumption | decide : 3 < 2147483648)) hZ (hw _ (gm 9 rfl)) (hw _ (gm 4 rfl)) (by decide) (by decide)) (g := (mkF m 35 #[vJ (q0), s_, vJ (q1), s_, vI (z), vR (b3)] [(.long q1), (.long q0), (.int 3), (.ref b3)])) rfl (by rw [hml]; rfl) (argsL := [(.ref b3), (.int 3), (.long q0), (.long q1)]) (rest := []) (lenOf own_pd4 rfl) rfl (by show 2 * 0 + _ ≤ _; exact Nat.le_of_eq rfl) (hb hby d1_35) (fun _ _ => ⟨rfl, rfl, (by decide : 1 + 0 ≤ _), (by decide : 37 + 0 ≤ _)⟩)
  dsimp only [Pt.U, Pt.locs, Pt.cells, Pt.slots] at X42 l42 y42 z42 st42 hQ42
  rw [l42, y42, z42] at X42
  obtain ⟨rfl, Nq42, K42, Pf42_0⟩ := hQ42
  have N43 := Fr.app N34 Nq42
  have Kc44 : Keep h0 T42.heap [] := Kc35.trans K42 (allS (Or.inr Sz5) all0)
  have Zs45 : n0 ≤ T42.heap.size := Nat.le_trans Zs36 K42.1
  obtain ⟨_, _, ⟨T51, L51, k51, n51⟩, -, X51, ⟨Lc51, hQ51, l51, y51, z51⟩, st51⟩ := Jvm.LawKit.callS X42 hx (y := y_7) hown (mvT hZ (hw _ (gm 7 rfl))) (mvT hZ (hw _ (gm 8 rfl))) (mvT hZ (hw _ (gm 4 rfl))) (mvT hZ (hw _ (gm 9 rfl))) (by decide) (backOf (W := 0) (own_putA l Z a0 hw [] b3 4 n q0 q1 k3 z T42.heap n0 Zs45 Pf42_0 Ge4 hz (by omega) (by first | assumption | decide : 4 < 2147483648)) hZ (hw _ (gm 9 rfl)) (hw _ (gm 4 rfl)) (by decide) (by decide)) (g := (mkF m 43 #[vJ (q0), s_, vJ (q1), s_, vI (z), vR (b3)] [(.long q1), (.long q0), (.int 4), (.ref b3)])) rfl (by rw [hml]; rfl) (argsL := [(.ref b3), (.int 4), (.long q0), (.long q1)]) (rest := []) (lenOf own_pd4 rfl) rfl (by show 2 * 0 + _ ≤ _; exact Nat.le_of_eq rfl) (hb hby d1_43) (fun _ _ => ⟨rfl, rfl, (by decide : 1 + 0 ≤ _), (by decide : 37 + 0 ≤ _)⟩)
  dsimp only [Pt.U, Pt.locs, Pt.cells, Pt.slots] at X51 l51 y51 z51 st51 hQ51
  rw [l51, y51, z51] at X51
  obtain ⟨rfl, Nq51, K51, Pf51_0⟩ := hQ51
  have N52 := Fr.app N43 Nq51
  have Kc53 : Keep h0 T51.heap [] := Kc44.trans K51 (allS (Or.inr Sz5) all0)
  have Zs54 : n0 ≤ T51.heap.size := Nat.le_trans Zs45 K51.1
  obtain ⟨_, _, ⟨T60, L60, k60, n60⟩, -, X60, ⟨Lc60, hQ60, l60, y60, z60⟩, st60⟩ := Jvm.LawKit.callS X51 hx (y := y_7) hown (mvT hZ (hw _ (gm 7 rfl))) (mvT hZ (hw _ (gm 8 rfl))) (mvT hZ (hw _ (gm 4 rfl))) (mvT hZ (hw _ (gm 9 rfl))) (by decide) (backOf (W := 0) (own_putA l Z a0 hw [] b3 5 n q0 q1 k3 z T51.heap n0 Zs54 Pf51_0 Ge4 hz (by omega) (by first | assumption | decide : 5 < 2147483648)) hZ (hw _ (gm 9 rfl)) (hw _ (gm 4 rfl)) (by decide) (by decide)) (g := (mkF m 51 #[vJ (q0), s_, vJ (q1), s_, vI (z), vR (b3)] [(.long q1), (.long q0), (.int 5), (.ref b3)])) rfl (by rw [hml]; rfl) (argsL := [(.ref b3), (.int 5), (.long q0), (.long q1)]) (rest := []) (lenOf own_pd4 rfl) rfl (by show 2 * 0 + _ ≤ _; exact Nat.le_of_eq rfl) (hb hby d1_51) (fun _ _ => ⟨rfl, rfl, (by decide : 1 + 0 ≤ _), (by decide : 37 + 0 ≤ _)⟩)
  dsimp only [Pt.U, Pt.locs, Pt.cells, Pt.slots] at X60 l60 y60 z60 st60 hQ60
  rw [l60, y60, z60] at X60
  obtain ⟨rfl, Nq60, K60, Pf60_0⟩ := hQ60
  have N61 := Fr.app N52 Nq60
  have Kc62 : Keep h0 T60.heap [] := Kc53.trans K60 (allS (Or.inr Sz5) all0)
  have Zs63 : n0 ≤ T60.heap.size := Nat.le_trans Zs54 K60.1
  obtain ⟨_, _, ⟨T69, L69, k69, n69⟩, -, X69, ⟨Lc69, hQ69, l69, y69, z69⟩, st69⟩ := Jvm.LawKit.callS X60 hx (y := y_7) hown (mvT hZ (hw _ (gm 7 rfl))) (mvT hZ (hw _ (gm 8 rfl))) (mvT hZ (hw _ (gm 4 rfl))) (mvT hZ (hw _ (gm 9 rfl))) (by decide) (backOf (W := 0) (own_putA l Z a0 hw [] b3 6 n q0 q1 k3 z T60.heap n0 Zs63 Pf60_0 Ge4 hz (by omega) (by first | assumption | decide : 6 < 2147483648)) hZ (hw _ (gm 9 rfl)) (hw _ (gm 4 rfl)) (by decide) (by decide)) (g := (mkF m 60 #[vJ (q0), s_, vJ (q1), s_, vI (z), vR (b3)] [(.long q1), (.long q0), (.int 6), (.ref b3)])) rfl (by rw [hml]; rfl) (argsL := [(.ref b3), (.int 6), (.long q0), (.long q1)]) (rest := []) (lenOf own_pd4 rfl) rfl (by show 2 * 0 + _ ≤ _; exact Nat.le_of_eq rfl) (hb hby d1_60) (fun _ _ => ⟨rfl, rfl, (by decide : 1 + 0 ≤ _), (by decide : 37 + 0 ≤ _)⟩)
  dsimp only [Pt.U, Pt.locs, Pt.cells, Pt.slots] at X69 l69 y69 z69 st69 hQ69
  rw [l69, y69, z69] at X69
  obtain ⟨rfl, Nq69, K69, Pf69_0⟩ := hQ69
  have N70 := Fr.app N61 Nq69
  have Kc71 : Keep h0 T69.heap [] := Kc62.trans K69 (allS (Or.inr Sz5) all0)
  have Zs72 : n0 ≤ T69.heap.size := Nat.le_trans Zs63 K69.1
  obtain ⟨_, _, ⟨T78, L78, k78, n78⟩, -, X78, ⟨Lc78, hQ78, l78, y78, z78⟩, st78⟩ := Jvm.LawKit.callS X69 hx (y := y_7) hown (mvT hZ (hw _ (gm 7 rfl))) (mvT hZ (hw _ (gm 8 rfl))) (mvT hZ (hw _ (gm 4 rfl))) (mvT hZ (hw _ (gm 9 rfl))) (by decide) (backOf (W := 0) (own_putA l Z a0 hw [] b3 7 n q0 q1 k3 z T69.heap n0 Zs72 Pf69_0 Ge4 hz (by omega) (by first | assumption | decide : 7 < 2147483648)) hZ (hw _ (gm 9 rfl)) (hw _ (gm 4 rfl)) (by decide) (by decide)) (g := (mkF m 69 #[vJ (q0), s_, vJ (q1), s_, vI (z), vR (b3)] [(.long q1), (.long q0), (.int 7), (.ref b3)])) rfl (by rw [hml]; rfl) (argsL := [(.ref b3), (.int 7), (.long q0), (.long q1)]) (rest := []) (lenOf own_pd4 rfl) rfl (by show 2 * 0 + _ ≤ _; exact Nat.le_of_eq rfl) (hb hby d1_69) (fun _ _ => ⟨rfl, rfl, (by decide : 1 + 0 ≤ _), (by decide : 37 + 0 ≤ _)⟩)
  dsimp only [Pt.U, Pt.locs, Pt.cells, Pt.slots] at X78 l78 y78 z78 st78 hQ78
  rw [l78, y78, z78] at X78
  obtain ⟨rfl, Nq78, K78, Pf78_0⟩ := hQ78
  have N79 := Fr.app N70 Nq78
  have Kc80 : Keep h0 T78.heap [] := Kc71.trans K78 (allS (Or.inr Sz5) all0)
  have Zs81 : n0 ≤ T78.heap.size := Nat.le_trans Zs72 K78.1
  obtain ⟨_, _, ⟨T87, L87, k87, n87⟩, -, X87, ⟨Lc87, hQ87, l87, y87, z87⟩, st87⟩ := Jvm.LawKit.callS X78 hx (y := y_7) hown (mvT hZ (hw _ (gm 7 rfl))) (mvT hZ (hw _ (gm 8 rfl))) (mvT hZ (hw _ (gm 4 rfl))) (mvT hZ (hw _ (gm 9 rfl))) (by decide) (backOf (W := 0) (own_putA l Z a0 hw [] b3 8 n q0 q1 k3 z T78.heap n0 Zs81 Pf78_0 Ge4 hz (by omega) (by first | assumption | decide : 8 < 2147483648)) hZ (hw _ (gm 9 rfl)) (hw _ (gm 4 rfl)) (by decide) (by decide)) (g := (mkF m 78 #[vJ (q0), s_, vJ (q1), s_, vI (z), vR (b3)] [(.long q1), (.long q0), (.int 8), (.ref b3)])) rfl (by rw [hml]; rfl) (argsL := [(.ref b3), (.int 8), (.long q0), (.long q1)]) (rest := []) (lenOf own_pd4 rfl) rfl (by show 2 * 0 + _ ≤ _; exact Nat.le_of_eq rfl) (hb hby d1_78) (fun _ _ => ⟨rfl, rfl, (by decide : 1 + 0 ≤ _), (by decide : 37 + 0 ≤ _)⟩)
  dsimp only [Pt.U, Pt.locs, Pt.cells, Pt.slots] at X87 l87 y87 z87 st87 hQ87
  rw [l87, y87, z87] at X87
  obtain ⟨rfl, Nq87, K87, Pf87_0⟩ := hQ87
  have N88 := Fr.app N79 Nq87
  have Kc89 : Keep h0 T87.heap [] := Kc80.trans K87 (allS (Or.inr Sz5) all0)
  have Zs90 : n0 ≤ T87.heap.size := Nat.le_trans Zs81 K87.1
  obtain ⟨_, _, ⟨T96, L96, k96, n96⟩, -, X96, ⟨Lc96, hQ96, l96, y96, z96⟩, st96⟩ := Jvm.LawKit.callS X87 hx (y := y_7) hown (mvT hZ (hw _ (gm 7 rfl))) (mvT hZ (hw _ (gm 8 rfl))) (mvT hZ (hw _ (gm 4 rfl))) (mvT hZ (hw _ (gm 9 rfl))) (by decide) (backOf (W := 0) (own_putA l Z a0 hw [] b3 9 n q0 q1 k3 z T87.heap n0 Zs90 Pf87_0 Ge4 hz (by omega) (by first | assumption | decide : 9 < 2147483648)) hZ (hw _ (gm 9 rfl)) (hw _ (gm 4 rfl)) (by decide) (by decide)) (g := (mkF m 87 #[vJ (q0), s_, vJ (q1), s_, vI (z), vR (b3)] [(.long q1), (.long q0), (.int 9), (.ref b3)])) rfl (by rw [hml]; rfl) (argsL := [(.ref b3), (.int 9), (.long q0), (.long q1)]) (rest := []) (lenOf own_pd4 rfl) rfl (by show 2 * 0 + _ ≤ _; exact Nat.le_of_eq rfl) (hb hby d1_87) (fun _ _ => ⟨rfl, rfl, (by decide : 1 + 0 ≤ _), (by decide : 37 + 0 ≤ _)⟩)
  dsimp only [Pt.U, Pt.locs, Pt.cells, Pt.slots] at X96 l96 y96 z96 st96 hQ96
  rw [l96, y96, z96] at X96
  obtain ⟨rfl, Nq96, K96, Pf96_0⟩ := hQ96
  have N97 := Fr.app N88 Nq96
  have Kc98 : Keep h0 T96.heap [] := Kc89.trans K96 (allS (Or.inr Sz5) all0)
  have Zs99 : n0 ≤ T96.heap.size := Nat.le_trans Zs90 K96.1
  obtain ⟨_, _, ⟨T105, L105, k105, n105⟩, -, X105, ⟨Lc105, hQ105, l105, y105, z105⟩, st105⟩ := Jvm.LawKit.callS X96 hx (y := y_7) hown (mvT hZ (hw _ (gm 7 rfl))) (mvT hZ (hw _ (gm 8 rfl))) (mvT hZ (hw _ (gm 4 rfl))) (mvT hZ (hw _ (gm 9 rfl))) (by decide) (backOf (W := 0) (own_putA l Z a0 hw [] b3 10 n q0 q1 k3 z T96.heap n0 Zs99 Pf96_0 Ge4 hz (by omega) (by first | assumption | decide : 10 < 2147483648)) hZ (hw _ (gm 9 rfl)) (hw _ (gm 4 rfl)) (by decide) (by decide)) (g := (mkF m 96 #[vJ (q0), s_, vJ (q1), s_, vI (z), vR (b3)] [(.long q1), (.long q0), (.int 10), (.ref b3)])) rfl (by rw [hml]; rfl) (argsL := [(.ref b3), (.int 10), (.long q0), (.long q1)]) (rest := []) (lenOf own_pd4 rfl) rfl (by show 2 * 0 + _ ≤ _; exact Nat.le_of_eq rfl) (hb hby d1_96) (fun _ _ => ⟨rfl, rfl, (by decide : 1 + 0 ≤ _), (by decide : 37 + 0 ≤ _)⟩)
  dsimp only [Pt.U, Pt.locs, Pt.cells, Pt.slots] at X105 l105 y105 z105 st105 hQ105
  rw [l105, y105, z105] at X105
  obtain ⟨rfl, Nq105, K105, Pf105_0⟩ := hQ105
  have N106 := Fr.app N97 Nq105
  have Kc107 : Keep h0 T105.heap [] := Kc98.trans K105 (allS (Or.inr Sz5) all0)
  have Zs108 : n0 ≤ T105.heap.size := Nat.le_trans Zs99 K105.1
  obtain ⟨_, _, ⟨T114, L114, k114, n114⟩, -, X114, ⟨Lc114, hQ114, l114, y114, z114⟩, st114⟩ := Jvm.LawKit.callS X105 hx (y := y_7) hown (mvT hZ (hw _ (gm 7 rfl))) (mvT hZ (hw _ (gm 8 rfl))) (mvT hZ (hw _ (gm 4 rfl))) (mvT hZ (hw _ (gm 9 rfl))) (by decide) (backOf (W := 0) (own_putA l Z a0 hw [] b3 11 n q0 q1 k3 z T105.heap n0 Zs108 Pf105_0 Ge4 hz (by omega) (by first | assumption | decide : 11 < 2147483648)) hZ (hw _ (gm 9 rfl)) (hw _ (gm 4 rfl)) (by decide) (by decide)) (g := (mkF m 105 #[vJ (q0), s_, vJ (q1), s_, vI (z), vR (b3)] [(.long q1), (.long q0), (.int 11), (.ref b3)])) rfl (by rw [hml]; rfl) (argsL := [(.ref b3), (.int 11), (.long q0), (.long q1)]) (rest := []) (lenOf own_pd4 rfl) rfl (by show 2 * 0 + _ ≤ _; exact Nat.le_of_eq rfl) (hb hby d1_105) (fun _ _ => ⟨rfl, rfl, (by decide : 1 + 0 ≤ _), (by decide : 37 + 0 ≤ _)⟩)
  dsimp only [Pt.U, Pt.locs, Pt.cells, Pt.slots] at X114 l114 y114 z114 st114 hQ114
  rw [l114, y114, z114] at X114
  obtain ⟨rfl, Nq114, K114, Pf114_0⟩ := hQ114
  have N115 := Fr.app N106 Nq114
  have Kc116 : Keep h0 T114.heap [] := Kc107.trans K114 (allS (Or.inr Sz5) all0)
  have Zs117 : n0 ≤ T114.heap.size := Nat.le_trans Zs108 K114.1
  obtain ⟨_, _, ⟨T123, L123, k123, n123⟩, -, X123, ⟨Lc123, hQ123, l123, y123, z123⟩, st123⟩ := Jvm.LawKit.callS X114 hx (y := y_7) hown (mvT hZ (hw _ (gm 7 rfl))) (mvT hZ (hw _ (gm 8 rfl))) (mvT hZ (hw _ (gm 4 rfl))) (mvT hZ (hw _ (gm 9 rfl))) (by decide) (backOf (W := 0) (own_putA l Z a0 hw [] b3 12 n q0 q1 k3 z T114.heap n0 Zs117 Pf114_0 Ge4 hz (by omega) (by first | assumption | decide : 12 < 2147483648)) hZ (hw _ (gm 9 rfl)) (hw _ (gm 4 rfl)) (by decide) (by decide)) (g := (mkF m 114 #[vJ (q0), s_, vJ (q1), s_, vI (z), vR (b3)] [(.long q1), (.long q0), (.int 12), (.ref b3)])) rfl (by rw [hml]; rfl) (argsL := [(.ref b3), (.int 12), (.long q0), (.long q1)]) (rest := []) (lenOf own_pd4 rfl) rfl (by show 2 * 0 + _ ≤ _; exact Nat.le_of_eq rfl) (hb hby d1_114) (fun _ _ => ⟨rfl, rfl, (by decide : 1 + 0 ≤ _), (by decide : 37 + 0 ≤ _)⟩)
  dsimp only [Pt.U, Pt.locs, Pt.cells, Pt.slots] at X123 l123 y123 z123 st123 hQ123
  rw [l123, y123, z123] at X123
  obtain ⟨rfl, Nq123, K123, Pf123_0⟩ := hQ123
  have N124 := Fr.app N115 Nq123
  have Kc125 : Keep h0 T123.heap [] := Kc116.trans K123 (allS (Or.inr Sz5) all0)
  have Zs126 : n0 ≤ T123.heap.size := Nat.le_trans Zs117 K123.1
  obtain ⟨_, _, ⟨T132, L132, k132, n132⟩, -, X132, ⟨Lc132, hQ132, l132, y132, z132⟩, st132⟩ := Jvm.LawKit.callS X123 hx (y := y_7) hown (mvT hZ (hw _ (gm 7 rfl))) (mvT hZ (hw _ (gm 8 rfl))) (mvT hZ (hw _ (gm 4 rfl))) (mvT hZ (hw _ (gm 9 rfl))) (by decide) (backOf (W := 0) (own_putA l Z a0 hw [] b3 13 n q0 q1 k3 z T123.heap n0 Zs126 Pf123_0 Ge4 hz (by omega) (by first | assumption | decide : 13 < 2147483648)) hZ (hw _ (gm 9 rfl)) (hw _ (gm 4 rfl)) (by decide) (by decide)) (g := (mkF m 123 #[vJ (q0), s_, vJ (q1), s_, vI (z), vR (b3)] [(.long q1), (.long q0), (.int 13), (.ref b3)])) rfl (by rw [hml]; rfl) (argsL := [(.ref b3), (.int 13), (.long q0), (.long q1)]) (rest := []) (lenOf own_pd4 rfl) rfl (by show 2 * 0 + _ ≤ _; exact Nat.le_of_eq rfl) (hb hby d1_123) (fun _ _ => ⟨rfl, rfl, (by decide : 1 + 0 ≤ _), (by decide : 37 + 0 ≤ _)⟩)
  dsimp only [Pt.U, Pt.locs, Pt.cells, Pt.slots] at X132 l132 y132 z132 st132 hQ132
  rw [l132, y132, z132] at X132
  obtain ⟨rfl, Nq132, K132, Pf132_0⟩ := hQ132
  have N133 := Fr.app N124 Nq132
  have Kc134 : Keep h0 T132.heap [] := Kc125.trans K132 (allS (Or.inr Sz5) all0)
  have Zs135 : n0 ≤ T132.heap.size := Nat.le_trans Zs126 K132.1
  obtain ⟨_, _, ⟨T141, L141, k141, n141⟩, -, X141, ⟨Lc141, hQ141, l141, y141, z141⟩, st141⟩ := Jvm.LawKit.callS X132 hx (y := y_7) hown (mvT hZ (hw _ (gm 7 rfl))) (mvT hZ (hw _ (gm 8 rfl))) (mvT hZ (hw _ (gm 4 rfl))) (mvT hZ (hw _ (gm 9 rfl))) (by decide) (backOf (W := 0) (own_putA l Z a0 hw [] b3 14 n q0 q1 k3 z T132.heap n0 Zs135 Pf132_0 Ge4 hz (by omega) (by first | assumption | decide : 14 < 2147483648)) hZ (hw _ (gm 9 rfl)) (hw _ (gm 4 rfl)) (by decide) (by decide)) (g := (mkF m 132 #[vJ (q0), s_, vJ (q1), s_, vI (z), vR (b3)] [(.long q1), (.long q0), (.int 14), (.ref b3)])) rfl (by rw [hml]; rfl) (argsL := [(.ref b3), (.int 14), (.long q0), (.long q1)]) (rest := []) (lenOf own_pd4 rfl) rfl (by show 2 * 0 + _ ≤ _; exact Nat.le_of_eq rfl) (hb hby d1_132) (fun _ _ => ⟨rfl, rfl, (by decide : 1 + 0 ≤ _), (by decide : 37 + 0 ≤ _)⟩)
  dsimp only [Pt.U, Pt.locs, Pt.cells, Pt.slots] at X141 l141 y141 z141 st141 hQ141
  rw [l141, y141, z141] at X141
  obtain ⟨rfl, Nq141, K141, Pf141_0⟩ := hQ141
  have N142 := Fr.app N133 Nq141
  have Kc143 : Keep h0 T141.heap [] := Kc134.trans K141 (allS (Or.inr Sz5) all0)
  have Zs144 : n0 ≤ T141.heap.size := Nat.le_trans Zs135 K141.1
  obtain ⟨_, _, ⟨T150, L150, k150, n150⟩, -, X150, ⟨Lc150, hQ150, l150, y150, z150⟩, st150⟩ := Jvm.LawKit.callS X141 hx (y := y_7) hown (mvT hZ (hw _ (gm 7 rfl))) (mvT hZ (hw _ (gm 8 rfl))) (mvT hZ (hw _ (gm 4 rfl))) (mvT hZ (hw _ (gm 9 rfl))) (by decide) (backOf (W := 0) (own_putA l Z a0 hw [] b3 15 n q0 q1 k3 z T141.heap n0 Zs144 Pf141_0 Ge4 hz (by omega) (by first | assumption | decide : 15 < 2147483648)) hZ (hw _ (gm 9 rfl)) (hw _ (gm 4 rfl)) (by decide) (by decide)) (g := (mkF m 141 #[vJ (q0), s_, vJ (q1), s_, vI (z), vR (b3)] [(.long q1), (.long q0), (.int 15), (.ref b3)])) rfl (by rw [hml]; rfl) (argsL := [(.ref b3), (.int 15), (.long q0), (.long q1)]) (rest := []) (lenOf own_pd4 rfl) rfl (by show 2 * 0 + _ ≤ _; exact Nat.le_of_eq rfl) (hb hby d1_141) (fun _ _ => ⟨rfl, rfl, (by decide : 1 + 0 ≤ _), (by decide : 37 + 0 ≤ _)⟩)
  dsimp only [Pt.U, Pt.locs, Pt.cells, Pt.slots] at X150 l150 y150 z150 st150 hQ150
  rw [l150, y150, z150] at X150
  obtain ⟨rfl, Nq150, K150, Pf150_0⟩ := hQ150
  have N151 := Fr.app N142 Nq150
  have Kc152 : Keep h0 T150.heap [] := Kc143.trans K150 (allS (Or.inr Sz5) all0)
  have Zs153 : n0 ≤ T150.heap.size := Nat.le_trans Zs144 K150.1
  obtain ⟨_, _, ⟨T159, L159, k159, n159⟩, -, X159, ⟨Lc159, hQ159, l159, y159, z159⟩, st159⟩ := Jvm.LawKit.callS X150 hx (y := y_7) hown (mvT hZ (hw _ (gm 7 rfl))) (mvT hZ (hw _ (gm 8 rfl))) (mvT hZ (hw _ (gm 4 rfl))) (mvT hZ (hw _ (gm 9 rfl))) (by decide) (backOf (W := 0) (own_putA l Z a0 hw [] b3 16 n q0 q1 k3 z T150.heap n0 Zs153 Pf150_0 Ge4 hz (by omega) (by first | assumption | decide : 16 < 2147483648)) hZ (hw _ (gm 9 rfl)) (hw _ (gm 4 rfl)) (by decide) (by decide)) (g := (mkF m 150 #[vJ (q0), s_, vJ (q1), s_, vI (z), vR (b3)] [(.long q1), (.long q0), (.int 16), (.ref b3)])) rfl (by rw [hml]; rfl) (argsL := [(.ref b3), (.int 16), (.long q0), (.long q1)]) (rest := []) (lenOf own_pd4 rfl) rfl (by show 2 * 0 + _ ≤ _; exact Nat.le_of_eq rfl) (hb hby d1_150) (fun _ _ => ⟨rfl, rfl, (by decide : 1 + 0 ≤ _), (by decide : 37 + 0 ≤ _)⟩)
  dsimp only [Pt.U, Pt.locs, Pt.cells, Pt.slots] at X159 l159 y159 z159 st159 hQ159
  rw [l159, y159, z159] at X159
  obtain ⟨rfl, Nq159, K159, Pf159_0⟩ := hQ159
  have N160 := Fr.app N151 Nq159
  have Kc161 : Keep h0 T159.heap [] := Kc152.trans K159 (allS (Or.inr Sz5) all0)
  have Zs162 : n0 ≤ T159.heap.size := Nat.le_trans Zs153 K159.1
  obtain ⟨_, _, ⟨T168, L168, k168, n168⟩, -, X168, ⟨Lc168, hQ168, l168, y168, z168⟩, st168⟩ := Jvm.LawKit.callS X159 hx (y := y_7) hown (mvT hZ (hw _ (gm 7 rfl))) (mvT hZ (hw _ (gm 8 rfl))) (mvT hZ (hw _ (gm 4 rfl))) (mvT hZ (hw _ (gm 9 rfl))) (by decide) (backOf (W := 0) (own_putA l Z a0 hw [] b3 17 n q0 q1 k3 z T159.heap n0 Zs162 Pf159_0 Ge4 hz (by omega) (by first | assumption | decide : 17 < 2147483648)) hZ (hw _ (gm 9 rfl)) (hw _ (gm 4 rfl)) (by decide) (by decide)) (g := (mkF m 159 #[vJ (q0), s_, vJ (q1), s_, vI (z), vR (b3)] [(.long q1), (.long q0), (.int 17), (.ref b3)])) rfl (by rw [hml]; rfl) (argsL := [(.ref b3), (.int 17), (.long q0), (.long q1)]) (rest := []) (lenOf own_pd4 rfl) rfl (by show 2 * 0 + _ ≤ _; exact Nat.le_of_eq rfl) (hb hby d1_159) (fun _ _ => ⟨rfl, rfl, (by decide : 1 + 0 ≤ _), (by decide : 37 + 0 ≤ _)⟩)
  dsimp only [Pt.U, Pt.locs, Pt.cells, Pt.slots] at X168 l168 y168 z168 st168 hQ168
  rw [l168, y168, z168] at X168
  obtain ⟨rfl, Nq168, K168, Pf168_0⟩ := hQ168
  have N169 := Fr.app N160 Nq168
  have Kc170 : Keep h0 T168.heap [] := Kc161.trans K168 (allS (Or.inr Sz5) all0)
  have Zs171 : n0 ≤ T168.heap.size := Nat.le_trans Zs162 K168.1
  obtain ⟨_, _, ⟨T177, L177, k177, n177⟩, -, X177, ⟨Lc177, hQ177, l177, y177, z177⟩, st177⟩ := Jvm.LawKit.callS X168 hx (y := y_7) hown (mvT hZ (hw _ (gm 7 rfl))) (mvT hZ (hw _ (gm 8 rfl))) (mvT hZ (hw _ (gm 4 rfl))) (mvT hZ (hw _ (gm 9 rfl))) (by decide) (backOf (W := 0) (own_putA l Z a0 hw [] b3 18 n q0 q1 k3 z T168.heap n0 Zs171 Pf168_0 Ge4 hz (by omega) (by first | assumption | decide : 18 < 2147483648)) hZ (hw _ (gm 9 rfl)) (hw _ (gm 4 rfl)) (by decide) (by decide)) (g := (mkF m 168 #[vJ (q0), s_, vJ (q1), s_, vI (z), vR (b3)] [(.long q1), (.long q0), (.int 18), (.ref b3)])) rfl (by rw [hml]; rfl) (argsL := [(.ref b3), (.int 18), (.long q0), (.long q1)]) (rest := []) (lenOf own_pd4 rfl) rfl (by show 2 * 0 + _ ≤ _; exact Nat.le_of_eq rfl) (hb hby d1_168) (fun _ _ => ⟨rfl, rfl, (by decide : 1 + 0 ≤ _), (by decide : 37 + 0 ≤ _)⟩)
  dsimp only [Pt.U, Pt.locs, Pt.cells, Pt.slots] at X177 l177 y177 z177 st177 hQ177
  rw [l177, y177, z177] at X177
  obtain ⟨rfl, Nq177, K177, Pf177_0⟩ := hQ177
  have N178 := Fr.app N169 Nq177
  have Kc179 : Keep h0 T177.heap [] := Kc170.trans K177 (allS (Or.inr Sz5) all0)
  have Zs180 : n0 ≤ T177.heap.size := Nat.le_trans Zs171 K177.1
  obtain ⟨_, _, ⟨T186, L186, k186, n186⟩, -, X186, ⟨Lc186, hQ186, l186, y186, z186⟩, st186⟩ := Jvm.LawKit.callS X177 hx (y := y_7) hown (mvT hZ (hw _ (gm 7 rfl))) (mvT hZ (hw _ (gm 8 rfl))) (mvT hZ (hw _ (gm 4 rfl))) (mvT hZ (hw _ (gm 9 rfl))) (by decide) (backOf (W := 0) (own_putA l Z a0 hw [] b3 19 n q0 q1 k3 z T177.heap n0 Zs180 Pf177_0 Ge4 hz (by omega) (by first | assumption | decide : 19 < 2147483648)) hZ (hw _ (gm 9 rfl)) (hw _ (gm 4 rfl)) (by decide) (by decide)) (g := (mkF m 177 #[vJ (q0), s_, vJ (q1), s_, vI (z), vR (b3)] [(.long q1), (.long q0), (.int 19), (.ref b3)])) rfl (by rw [hml]; rfl) (argsL := [(.ref b3), (.int 19), (.long q0), (.long q1)]) (rest := []) (lenOf own_pd4 rfl) rfl (by show 2 * 0 + _ ≤ _; exact Nat.le_of_eq rfl) (hb hby d1_177) (fun _ _ => ⟨rfl, rfl, (by decide : 1 + 0 ≤ _), (by decide : 37 + 0 ≤ _)⟩)
  dsimp only [Pt.U, Pt.locs, Pt.cells, Pt.slots] at X186 l186 y186 z186 st186 hQ186
  rw [l186, y186, z186] at X186
  obtain ⟨rfl, Nq186, K186, Pf186_0⟩ := hQ186
  have N187 := Fr.app N178 Nq186
  have Kc188 : Keep h0 T186.heap [] := Kc179.trans K186 (allS (Or.inr Sz5) all0)
  have Zs189 : n0 ≤ T186.heap.size := Nat.le_trans Zs180 K186.1
  obtain ⟨_, _, ⟨T195, L195, k195, n195⟩, -, X195, ⟨Lc195, hQ195, l195, y195, z195⟩, st195⟩ := Jvm.LawKit.callS X186 hx (y := y_7) hown (mvT hZ (hw _ (gm 7 rfl))) (mvT hZ (hw _ (gm 8 rfl))) (mvT hZ (hw _ (gm 4 rfl))) (mvT hZ (hw _ (gm 9 rfl))) (by decide) (backOf (W := 0) (own_putA l Z a0 hw [] b3 20 n q0 q1 k3 z T186.heap n0 Zs189 Pf186_0 Ge4 hz (by omega) (by first | assumption | decide : 20 < 2147483648)) hZ (hw _ (gm 9 rfl)) (hw _ (gm 4 rfl)) (by decide) (by decide)) (g := (mkF m 186 #[vJ (q0), s_, vJ (q1), s_, vI (z), vR (b3)] [(.long q1), (.long q0), (.int 20), (.ref b3)])) rfl (by rw [hml]; rfl) (argsL := [(.ref b3), (.int 20), (.long q0), (.long q1)]) (rest := []) (lenOf own_pd4 rfl) rfl (by show 2 * 0 + _ ≤ _; exact Nat.le_of_eq rfl) (hb hby d1_186) (fun _ _ => ⟨rfl, rfl, (by decide : 1 + 0 ≤ _), (by decide : 37 + 0 ≤ _)⟩)
  dsimp only [Pt.U, Pt.locs, Pt.cells, Pt.slots] at X195 l195 y195 z195 st195 hQ195
  rw [l195, y195, z195] at X195
  obtain ⟨rfl, Nq195, K195, Pf195_0⟩ := hQ195
  have N196 := Fr.app N187 Nq195
  have Kc197 : Keep h0 T195.heap [] := Kc188.trans K195 (allS (Or.inr Sz5) all0)
  have Zs198 : n0 ≤ T195.heap.size := Nat.le_trans Zs189 K195.1
  obtain ⟨_, _, ⟨T204, L204, k204, n204⟩, -, X204, ⟨Lc204, hQ204, l204, y204, z204⟩, st204⟩ := Jvm.LawKit.callS X195 hx (y := y_7) hown (mvT hZ (hw _ (gm 7 rfl))) (mvT hZ (hw _ (gm 8 rfl))) (mvT hZ (hw _ (gm 4 rfl))) (mvT hZ (hw _ (gm 9 rfl))) (by decide) (backOf (W := 0) (own_putA l Z a0 hw [] b3 21 n q0 q1 k3 z T195.heap n0 Zs198 Pf195_0 Ge4 hz (by omega) (by first | assumption | decide : 21 < 2147483648)) hZ (hw _ (gm 9 rfl)) (hw _ (gm 4 rfl)) (by decide) (by decide)) (g := (mkF m 195 #[vJ (q0), s_, vJ (q1), s_, vI (z), vR (b3)] [(.long q1), (.long q0), (.int 21), (.ref b3)])) rfl (by rw [hml]; rfl) (argsL := [(.ref b3), (.int 21), (.long q0), (.long q1)]) (rest := []) (lenOf own_pd4 rfl) rfl (by show 2 * 0 + _ ≤ _; exact Nat.le_of_eq rfl) (hb hby d1_195) (fun _ _ => ⟨rfl, rfl, (by decide : 1 + 0 ≤ _), (by decide : 37 + 0 ≤ _)⟩)
  dsimp only [Pt.U, Pt.locs, Pt.cells, Pt.slots] at X204 l204 y204 z204 st204 hQ204
  rw [l204, y204, z204] at X204
  obtain ⟨rfl, Nq204, K204, Pf204_0⟩ := hQ204
  have N205 := Fr.app N196 Nq204
  have Kc206 : Keep h0 T204.heap [] := Kc197.trans K204 (allS (Or.inr Sz5) all0)
  have Zs207 : n0 ≤ T204.heap.size := Nat.le_trans Zs198 K204.1
  obtain ⟨_, _, ⟨T213, L213, k213, n213⟩, -, X213, ⟨Lc213, hQ213, l213, y213, z213⟩, st213⟩ := Jvm.LawKit.callS X204 hx (y := y_7) hown (mvT hZ (hw _ (gm 7 rfl))) (mvT hZ (hw _ (gm 8 rfl))) (mvT hZ (hw _ (gm 4 rfl))) (mvT hZ (hw _ (gm 9 rfl))) (by decide) (backOf (W := 0) (own_putA l Z a0 hw [] b3 22 n q0 q1 k3 z T204.heap n0 Zs207 Pf204_0 Ge4 hz (by omega) (by first | assumption | decide : 22 < 2147483648)) hZ (hw _ (gm 9 rfl)) (hw _ (gm 4 rfl)) (by decide) (by decide)) (g := (mkF m 204 #[vJ (q0), s_, vJ (q1), s_, vI (z), vR (b3)] [(.long q1), (.long q0), (.int 22), (.ref b3)])) rfl (by rw [hml]; rfl) (argsL := [(.ref b3), (.int 22), (.long q0), (.long q1)]) (rest := []) (lenOf own_pd4 rfl) rfl (by show 2 * 0 + _ ≤ _; exact Nat.le_of_eq rfl) (hb hby d1_204) (fun _ _ => ⟨rfl, rfl, (by decide : 1 + 0 ≤ _), (by decide : 37 + 0 ≤ _)⟩)
  dsimp only [Pt.U, Pt.locs, Pt.cells, Pt.slots] at X213 l213 y213 z213 st213 hQ213
  rw [l213, y213, z213] at X213
  obtain ⟨rfl, Nq213, K213, Pf213_0⟩ := hQ213
  have N214 := Fr.app N205 Nq213
  have Kc215 : Keep h0 T213.heap [] := Kc206.trans K213 (allS (Or.inr Sz5) all0)
  have Zs216 : n0 ≤ T213.heap.size := Nat.le_trans Zs207 K213.1
  obtain ⟨_, _, ⟨T222, L222, k222, n222⟩, -, X222, ⟨Lc222, hQ222, l222, y222, z222⟩, st222⟩ := Jvm.LawKit.callS X213 hx (y := y_7) hown (mvT hZ (hw _ (gm 7 rfl))) (mvT hZ (hw _ (gm 8 rfl))) (mvT hZ (hw _ (gm 4 rfl))) (mvT hZ (hw _ (gm 9 rfl))) (by decide) (backOf (W := 0) (own_putA l Z a0 hw [] b3 23 n q0 q1 k3 z T213.heap n0 Zs216 Pf213_0 Ge4 hz (by omega) (by first | assumption | decide : 23 < 2147483648)) hZ (hw _ (gm 9 rfl)) (hw _ (gm 4 rfl)) (by decide) (by decide)) (g := (mkF m 213 #[vJ (q0), s_, vJ (q1), s_, vI (z), vR (b3)] [(.long q1), (.long q0), (.int 23), (.ref b3)])) rfl (by rw [hml]; rfl) (argsL := [(.ref b3), (.int 23), (.long q0), (.long q1)]) (rest := []) (lenOf own_pd4 rfl) rfl (by show 2 * 0 + _ ≤ _; exact Nat.le_of_eq rfl) (hb hby d1_213) (fun _ _ => ⟨rfl, rfl, (by decide : 1 + 0 ≤ _), (by decide : 37 + 0 ≤ _)⟩)
  dsimp only [Pt.U, Pt.locs, Pt.cells, Pt.slots] at X222 l222 y222 z222 st222 hQ222
  rw [l222, y222, z222] at X222
  obtain ⟨rfl, Nq222, K222, Pf222_0⟩ := hQ222
  have N223 := Fr.app N214 Nq222
  have Kc224 : Keep h0 T222.heap [] := Kc215.trans K222 (allS (Or.inr Sz5) all0)
  have Zs225 : n0 ≤ T222.heap.size := Nat.le_trans Zs216 K222.1
  obtain ⟨_, _, ⟨T231, L231, k231, n231⟩, -, X231, ⟨Lc231, hQ231, l231, y231, z231⟩, st231⟩ := Jvm.LawKit.callS X222 hx (y := y_7) hown (mvT hZ (hw _ (gm 7 rfl))) (mvT hZ (hw _ (gm 8 rfl))) (mvT hZ (hw _ (gm 4 rfl))) (mvT hZ (hw _ (gm 9 rfl))) (by decide) (backOf (W := 0) (own_putA l Z a0 hw [] b3 24 n q0 q1 k3 z T222.heap n0 Zs225 Pf222_0 Ge4 hz (by omega) (by first | assumption | decide : 24 < 2147483648)) hZ (hw _ (gm 9 rfl)) (hw _ (gm 4 rfl)) (by decide) (by decide)) (g := (mkF m 222 #[vJ (q0), s_, vJ (q1), s_, vI (z), vR (b3)] [(.long q1), (.long q0), (.int 24), (.ref b3)])) rfl (by rw [hml]; rfl) (argsL := [(.ref b3), (.int 24), (.long q0), (.long q1)]) (rest := []) (lenOf own_pd4 rfl) rfl (by show 2 * 0 + _ ≤ _; exact Nat.le_of_eq rfl) (hb hby d1_222) (fun _ _ => ⟨rfl, rfl, (by decide : 1 + 0 ≤ _), (by decide : 37 + 0 ≤ _)⟩)
  dsimp only [Pt.U, Pt.locs, Pt.cells, Pt.slots] at X231 l231 y231 z231 st231 hQ231
  rw [l231, y231, z231] at X231
  obtain ⟨rfl, Nq231, K231, Pf231_0⟩ := hQ231
  have N232 := Fr.app N223 Nq231
  have Kc233 : Keep h0 T231.heap [] := Kc224.trans K231 (allS (Or.inr Sz5) all0)
  have Zs234 : n0 ≤ T231.heap.size := Nat.le_trans Zs225 K231.1
  obtain ⟨_, _, ⟨T240, L240, k240, n240⟩, -, X240, ⟨Lc240, hQ240, l240, y240, z240⟩, st240⟩ := Jvm.LawKit.callS X231 hx (y := y_7) hown (mvT hZ (hw _ (gm 7 rfl))) (mvT hZ (hw _ (gm 8 rfl))) (mvT hZ (hw _ (gm 4 rfl))) (mvT hZ (hw _ (gm 9 rfl))) (by decide) (backOf (W := 0) (own_putA l Z a0 hw [] b3 25 n q0 q1 k3 z T231.heap n0 Zs234 Pf231_0 Ge4 hz (by omega) (by first | assumption | decide : 25 < 2147483648)) hZ (hw _ (gm 9 rfl)) (hw _ (gm 4 rfl)) (by decide) (by decide)) (g := (mkF m 231 #[vJ (q0), s_, vJ (q1), s_, vI (z), vR (b3)] [(.long q1), (.long q0), (.int 25), (.ref b3)])) rfl (by rw [hml]; rfl) (argsL := [(.ref b3), (.int 25), (.long q0), (.long q1)]) (rest := []) (lenOf own_pd4 rfl) rfl (by show 2 * 0 + _ ≤ _; exact Nat.le_of_eq rfl) (hb hby d1_231) (fun _ _ => ⟨rfl, rfl, (by decide : 1 + 0 ≤ _), (by decide : 37 + 0 ≤ _)⟩)
  dsimp only [Pt.U, Pt.locs, Pt.cells, Pt.slots] at X240 l240 y240 z240 st240 hQ240
  rw [l240, y240, z240] at X240
  obtain ⟨rfl, Nq240, K240, Pf240_0⟩ := hQ240
  have N241 := Fr.app N232 Nq240
  have Kc242 : Keep h0 T240.heap [] := Kc233.trans K240 (allS (Or.inr Sz5) all0)
  have Zs243 : n0 ≤ T240.heap.size := Nat.le_trans Zs234 K240.1
  obtain ⟨_, _, ⟨T249, L249, k249, n249⟩, -, X249, ⟨Lc249, hQ249, l249, y249, z249⟩, st249⟩ := Jvm.LawKit.callS X240 hx (y := y_7) hown (mvT hZ (hw _ (gm 7 rfl))) (mvT hZ (hw _ (gm 8 rfl))) (mvT hZ (hw _ (gm 4 rfl))) (mvT hZ (hw _ (gm 9 rfl))) (by decide) (backOf (W := 0) (own_putA l Z a0 hw [] b3 26 n q0 q1 k3 z T240.heap n0 Zs243 Pf240_0 Ge4 hz (by omega) (by first | assumption | decide : 26 < 2147483648)) hZ (hw _ (gm 9 rfl)) (hw _ (gm 4 rfl)) (by decide) (by decide)) (g := (mkF m 240 #[vJ (q0), s_, vJ (q1), s_, vI (z), vR (b3)] [(.long q1), (.long q0), (.int 26), (.ref b3)])) rfl (by rw [hml]; rfl) (argsL := [(.ref b3), (.int 26), (.long q0), (.long q1)]) (rest := []) (lenOf own_pd4 rfl) rfl (by show 2 * 0 + _ ≤ _; exact Nat.le_of_eq rfl) (hb hby d1_240) (fun _ _ => ⟨rfl, rfl, (by decide : 1 + 0 ≤ _), (by decide : 37 + 0 ≤ _)⟩)
  dsimp only [Pt.U, Pt.locs, Pt.cells, Pt.slots] at X249 l249 y249 z249 st249 hQ249
  rw [l249, y249, z249] at X249
  obtain ⟨rfl, Nq249, K249, Pf249_0⟩ := hQ249
  have N250 := Fr.app N241 Nq249
  have Kc251 : Keep h0 T249.heap [] := Kc242.trans K249 (allS (Or.inr Sz5) all0)
  have Zs252 : n0 ≤ T249.heap.size := Nat.le_trans Zs243 K249.1
  obtain ⟨_, _, ⟨T258, L258, k258, n258⟩, -, X258, ⟨Lc258, hQ258, l258, y258, z258⟩, st258⟩ := Jvm.LawKit.callS X249 hx (y := y_7) hown (mvT hZ (hw _ (gm 7 rfl))) (mvT hZ (hw _ (gm 8 rfl))) (mvT hZ (hw _ (gm 4 rfl))) (mvT hZ (hw _ (gm 9 rfl))) (by decide) (backOf (W := 0) (own_putA l Z a0 hw [] b3 27 n q0 q1 k3 z T249.heap n0 Zs252 Pf249_0 Ge4 hz (by omega) (by first | assumption | decide : 27 < 2147483648)) hZ (hw _ (gm 9 rfl)) (hw _ (gm 4 rfl)) (by decide) (by decide)) (g := (mkF m 249 #[vJ (q0), s_, vJ (q1), s_, vI (z), vR (b3)] [(.long q1), (.long q0), (.int 27), (.ref b3)])) rfl (by rw [hml]; rfl) (argsL := [(.ref b3), (.int 27), (.long q0), (.long q1)]) (rest := []) (lenOf own_pd4 rfl) rfl (by show 2 * 0 + _ ≤ _; exact Nat.le_of_eq rfl) (hb hby d1_249) (fun _ _ => ⟨rfl, rfl, (by decide : 1 + 0 ≤ _), (by decide : 37 + 0 ≤ _)⟩)
  dsimp only [Pt.U, Pt.locs, Pt.cells, Pt.slots] at X258 l258 y258 z258 st258 hQ258
  rw [l258, y258, z258] at X258
  obtain ⟨rfl, Nq258, K258, Pf258_0⟩ := hQ258
  have N259 := Fr.app N250 Nq258
  have Kc260 : Keep h0 T258.heap [] := Kc251.trans K258 (allS (Or.inr Sz5) all0)
  have Zs261 : n0 ≤ T258.heap.size := Nat.le_trans Zs252 K258.1
  obtain ⟨_, _, ⟨T267, L267, k267, n267⟩, -, X267, ⟨Lc267, hQ267, l267, y267, z267⟩, st267⟩ := Jvm.LawKit.callS X258 hx (y := y_7) hown (mvT hZ (hw _ (gm 7 rfl))) (mvT hZ (hw _ (gm 8 rfl))) (mvT hZ (hw _ (gm 4 rfl))) (mvT hZ (hw _ (gm 9 rfl))) (by decide) (backOf (W := 0) (own_putA l Z a0 hw [] b3 28 n q0 q1 k3 z T258.heap n0 Zs261 Pf258_0 Ge4 hz (by omega) (by first | assumption | decide : 28 < 2147483648)) hZ (hw _ (gm 9 rfl)) (hw _ (gm 4 rfl)) (by decide) (by decide)) (g := (mkF m 258 #[vJ (q0), s_, vJ (q1), s_, vI (z), vR (b3)] [(.long q1), (.long q0), (.int 28), (.ref b3)])) rfl (by rw [hml]; rfl) (argsL := [(.ref b3), (.int 28), (.long q0), (.long q1)]) (rest := []) (lenOf own_pd4 rfl) rfl (by show 2 * 0 + _ ≤ _; exact Nat.le_of_eq rfl) (hb hby d1_258) (fun _ _ => ⟨rfl, rfl, (by decide : 1 + 0 ≤ _), (by decide : 37 + 0 ≤ _)⟩)
  dsimp only [Pt.U, Pt.locs, Pt.cells, Pt.slots] at X267 l267 y267 z267 st267 hQ267
  rw [l267, y267, z267] at X267
  obtain ⟨rfl, Nq267, K267, Pf267_0⟩ := hQ267
  have N268 := Fr.app N259 Nq267
  have Kc269 : Keep h0 T267.heap [] := Kc260.trans K267 (allS (Or.inr Sz5) all0)
  have Zs270 : n0 ≤ T267.heap.size := Nat.le_trans Zs261 K267.1
  obtain ⟨_, _, ⟨T276, L276, k276, n276⟩, -, X276, ⟨Lc276, hQ276, l276, y276, z276⟩, st276⟩ := Jvm.LawKit.callS X267 hx (y := y_7) hown (mvT hZ (hw _ (gm 7 rfl))) (mvT hZ (hw _ (gm 8 rfl))) (mvT hZ (hw _ (gm 4 rfl))) (mvT hZ (hw _ (gm 9 rfl))) (by decide) (backOf (W := 0) (own_putA l Z a0 hw [] b3 29 n q0 q1 k3 z T267.heap n0 Zs270 Pf267_0 Ge4 hz (by omega) (by first | assumption | decide : 29 < 2147483648)) hZ (hw _ (gm 9 rfl)) (hw _ (gm 4 rfl)) (by decide) (by decide)) (g := (mkF m 267 #[vJ (q0), s_, vJ (q1), s_, vI (z), vR (b3)] [(.long q1), (.long q0), (.int 29), (.ref b3)])) rfl (by rw [hml]; rfl) (argsL := [(.ref b3), (.int 29), (.long q0), (.long q1)]) (rest := []) (lenOf own_pd4 rfl) rfl (by show 2 * 0 + _ ≤ _; exact Nat.le_of_eq rfl) (hb hby d1_267) (fun _ _ => ⟨rfl, rfl, (by decide : 1 + 0 ≤ _), (by decide : 37 + 0 ≤ _)⟩)
  dsimp only [Pt.U, Pt.locs, Pt.cells, Pt.slots] at X276 l276 y276 z276 st276 hQ276
  rw [l276, y276, z276] at X276
  obtain ⟨rfl, Nq276, K276, Pf276_0⟩ := hQ276
  have N277 := Fr.app N268 Nq276
  have Kc278 : Keep h0 T276.heap [] := Kc269.trans K276 (allS (Or.inr Sz5) all0)
  have Zs279 : n0 ≤ T276.heap.size := Nat.le_trans Zs270 K276.1
  obtain ⟨_, _, ⟨T285, L285, k285, n285⟩, -, X285, ⟨Lc285, hQ285, l285, y285, z285⟩, st285⟩ := Jvm.LawKit.callS X276 hx (y := y_7) hown (mvT hZ (hw _ (gm 7 rfl))) (mvT hZ (hw _ (gm 8 rfl))) (mvT hZ (hw _ (gm 4 rfl))) (mvT hZ (hw _ (gm 9 rfl))) (by decide) (backOf (W := 0) (own_putA l Z a0 hw [] b3 30 n q0 q1 k3 z T276.heap n0 Zs279 Pf276_0 Ge4 hz (by omega) (by first | assumption | decide : 30 < 2147483648)) hZ (hw _ (gm 9 rfl)) (hw _ (gm 4 rfl)) (by decide) (by decide)) (g := (mkF m 276 #[vJ (q0), s_, vJ (q1), s_, vI (z), vR (b3)] [(.long q1), (.long q0), (.int 30), (.ref b3)])) rfl (by rw [hml]; rfl) (argsL := [(.ref b3), (.int 30), (.long q0), (.long q1)]) (rest := []) (lenOf own_pd4 rfl) rfl (by show 2 * 0 + _ ≤ _; exact Nat.le_of_eq rfl) (hb hby d1_276) (fun _ _ => ⟨rfl, rfl, (by decide : 1 + 0 ≤ _), (by decide : 37 + 0 ≤ _)⟩)
  dsimp only [Pt.U, Pt.locs, Pt.cells, Pt.slots] at X285 l285 y285 z285 st285 hQ285
  rw [l285, y285, z285] at X285
  obtain ⟨rfl, Nq285, K285, Pf285_0⟩ := hQ285
  have N286 := Fr.app N277 Nq285
  have Kc287 : Keep h0 T285.heap [] := Kc278.trans K285 (allS (Or.inr Sz5) all0)
  have Zs288 : n0 ≤ T285.heap.size := Nat.le_trans Zs279 K285.1
  obtain ⟨_, _, ⟨T294, L294, k294, n294⟩, -, X294, ⟨Lc294, hQ294, l294, y294, z294⟩, st294⟩ := Jvm.LawKit.callS X285 hx (y := y_7) hown (mvT hZ (hw _ (gm 7 rfl))) (mvT hZ (hw _ (gm 8 rfl))) (mvT hZ (hw _ (gm 4 rfl))) (mvT hZ (hw _ (gm 9 rfl))) (by decide) (backOf (W := 0) (own_putA l Z a0 hw [] b3 31 n q0 q1 k3 z T285.heap n0 Zs288 Pf285_0 Ge4 hz (by omega) (by first | assumption | decide : 31 < 2147483648)) hZ (hw _ (gm 9 rfl)) (hw _ (gm 4 rfl)) (by decide) (by decide)) (g := (mkF m 285 #[vJ (q0), s_, vJ (q1), s_, vI (z), vR (b3)] [(.long q1), (.long q0), (.int 31), (.ref b3)])) rfl (by rw [hml]; rfl) (argsL := [(.ref b3), (.int 31), (.long q0), (.long q1)]) (rest := []) (lenOf own_pd4 rfl) rfl (by show 2 * 0 + _ ≤ _; exact Nat.le_of_eq rfl) (hb hby d1_285) (fun _ _ => ⟨rfl, rfl, (by decide : 1 + 0 ≤ _), (by decide : 37 + 0 ≤ _)⟩)
  dsimp only [Pt.U, Pt.locs, Pt.cells, Pt.slots] at X294 l294 y294 z294 st294 hQ294
  rw [l294, y294, z294] at X294
  obtain ⟨rfl, Nq294, K294, Pf294_0⟩ := hQ294
  have N295 := Fr.app N286 Nq294
  have Kc296 : Keep h0 T294.heap [] := Kc287.trans K294 (allS (Or.inr Sz5) all0)
  have Zs297 : n0 ≤ T294.heap.size := Nat.le_trans Zs288 K294.1
  obtain ⟨_, _, ⟨T303, L303, k303, n303⟩, -, X303, ⟨Lc303, hQ303, l303, y303, z303⟩, st303⟩ := Jvm.LawKit.callS X294 hx (y := y_7) hown (mvT hZ (hw _ (gm 7 rfl))) (mvT hZ (hw _ (gm 8 rfl))) (mvT hZ (hw _ (gm 4 rfl))) (mvT hZ (hw _ (gm 9 rfl))) (by decide) (backOf (W := 0) (own_putA l Z a0 hw [] b3 32 n q0 q1 k3 z T294.heap n0 Zs297 Pf294_0 Ge4 hz (by omega) (by first | assumption | decide : 32 < 2147483648)) hZ (hw _ (gm 9 rfl)) (hw _ (gm 4 rfl)) (by decide) (by decide)) (g := (mkF m 294 #[vJ (q0), s_, vJ (q1), s_, vI (z), vR (b3)] [(.long q1), (.long q0), (.int 32), (.ref b3)])) rfl (by rw [hml]; rfl) (argsL := [(.ref b3), (.int 32), (.long q0), (.long q1)]) (rest := []) (lenOf own_pd4 rfl) rfl (by show 2 * 0 + _ ≤ _; exact Nat.le_of_eq rfl) (hb hby d1_294) (fun _ _ => ⟨rfl, rfl, (by decide : 1 + 0 ≤ _), (by decide : 37 + 0 ≤ _)⟩)
  dsimp only [Pt.U, Pt.locs, Pt.cells, Pt.slots] at X303 l303 y303 z303 st303 hQ303
  rw [l303, y303, z303] at X303
  obtain ⟨rfl, Nq303, K303, Pf303_0⟩ := hQ303
  have N304 := Fr.app N295 Nq303
  have Kc305 : Keep h0 T303.heap [] := Kc296.trans K303 (allS (Or.inr Sz5) all0)
  have Zs306 : n0 ≤ T303.heap.size := Nat.le_trans Zs297 K303.1
  obtain ⟨_, _, ⟨T312, L312, k312, n312⟩, -, X312, ⟨Lc312, hQ312, l312, y312, z312⟩, st312⟩ := Jvm.LawKit.callS X303 hx (y := y_7) hown (mvT hZ (hw _ (gm 7 rfl))) (mvT hZ (hw _ (gm 8 rfl))) (mvT hZ (hw _ (gm 4 rfl))) (mvT hZ (hw _ (gm 9 rfl))) (by decide) (backOf (W := 0) (own_putA l Z a0 hw [] b3 33 n q0 q1 k3 z T303.heap n0 Zs306 Pf303_0 Ge4 hz (by omega) (by first | assumption | decide : 33 < 2147483648)) hZ (hw _ (gm 9 rfl)) (hw _ (gm 4 rfl)) (by decide) (by decide)) (g := (mkF m 303 #[vJ (q0), s_, vJ (q1), s_, vI (z), vR (b3)] [(.long q1), (.long q0), (.int 33), (.ref b3)])) rfl (by rw [hml]; rfl) (argsL := [(.ref b3), (.int 33), (.long q0), (.long q1)]) (rest := []) (lenOf own_pd4 rfl) rfl (by show 2 * 0 + _ ≤ _; exact Nat.le_of_eq rfl) (hb hby d1_303) (fun _ _ => ⟨rfl, rfl, (by decide : 1 + 0 ≤ _), (by decide : 37 + 0 ≤ _)⟩)
  dsimp only [Pt.U, Pt.locs, Pt.cells, Pt.slots] at X312 l312 y312 z312 st312 hQ312
  rw [l312, y312, z312] at X312
  obtain ⟨rfl, Nq312, K312, Pf312_0⟩ := hQ312
  have N313 := Fr.app N304 Nq312
  have Kc314 : Keep h0 T312.heap [] := Kc305.trans K312 (allS (Or.inr Sz5) all0)
  have Zs315 : n0 ≤ T312.heap.size := Nat.le_trans Zs306 K312.1
  obtain ⟨_, _, ⟨T321, L321, k321, n321⟩, -, X321, ⟨Lc321, hQ321, l321, y321, z321⟩, st321⟩ := Jvm.LawKit.callS X312 hx (y := y_7) hown (mvT hZ (hw _ (gm 7 rfl))) (mvT hZ (hw _ (gm 8 rfl))) (mvT hZ (hw _ (gm 4 rfl))) (mvT hZ (hw _ (gm 9 rfl))) (by decide) (backOf (W := 0) (own_putA l Z a0 hw [] b3 34 n q0 q1 k3 z T312.heap n0 Zs315 Pf312_0 Ge4 hz (by omega) (by first | assumption | decide : 34 < 2147483648)) hZ (hw _ (gm 9 rfl)) (hw _ (gm 4 rfl)) (by decide) (by decide)) (g := (mkF m 312 #[vJ (q0), s_, vJ (q1), s_, vI (z), vR (b3)] [(.long q1), (.long q0), (.int 34), (.ref b3)])) rfl (by rw [hml]; rfl) (argsL := [(.ref b3), (.int 34), (.long q0), (.long q1)]) (rest := []) (lenOf own_pd4 rfl) rfl (by show 2 * 0 + _ ≤ _; exact Nat.le_of_eq rfl) (hb hby d1_312) (fun _ _ => ⟨rfl, rfl, (by decide : 1 + 0 ≤ _), (by decide : 37 + 0 ≤ _)⟩)
  dsimp only [Pt.U, Pt.locs, Pt.cells, Pt.slots] at X321 l321 y321 z321 st321 hQ321
  rw [l321, y321, z321] at X321
  obtain ⟨rfl, Nq321, K321, Pf321_0⟩ := hQ321
  have N322 := Fr.app N313 Nq321
  have Kc323 : Keep h0 T321.heap [] := Kc314.trans K321 (allS (Or.inr Sz5) all0)
  have Zs324 : n0 ≤ T321.heap.size := Nat.le_trans Zs315 K321.1
  obtain ⟨_, _, ⟨T330, L330, k330, n330⟩, -, X330, ⟨Lc330, hQ330, l330, y330, z330⟩, st330⟩ := Jvm.LawKit.callS X321 hx (y := y_7) hown (mvT hZ (hw _ (gm 7 rfl))) (mvT hZ (hw _ (gm 8 rfl))) (mvT hZ (hw _ (gm 4 rfl))) (mvT hZ (hw _ (gm 9 rfl))) (by decide) (backOf (W := 0) (own_putA l Z a0 hw [] b3 35 n q0 q1 k3 z T321.heap n0 Zs324 Pf321_0 Ge4 hz (by omega) (by first | assumption | decide : 35 < 2147483648)) hZ (hw _ (gm 9 rfl)) (hw _ (gm 4 rfl)) (by decide) (by decide)) (g := (mkF m 321 #[vJ (q0), s_, vJ (q1), s_, vI (z), vR (b3)] [(.long q1), (.long q0), (.int 35), (.ref b3)])) rfl (by rw [hml]; rfl) (argsL := [(.ref b3), (.int 35), (.long q0), (.long q1)]) (rest := []) (lenOf own_pd4 rfl) rfl (by show 2 * 0 + _ ≤ _; exact Nat.le_of_eq rfl) (hb hby d1_321) (fun _ _ => ⟨rfl, rfl, (by decide : 1 + 0 ≤ _), (by decide : 37 + 0 ≤ _)⟩)
  dsimp only [Pt.U, Pt.locs, Pt.cells, Pt.slots] at X330 l330 y330 z330 st330 hQ330
  rw [l330, y330, z330] at X330
  obtain ⟨rfl, Nq330, K330, Pf330_0⟩ := hQ330
  have N331 := Fr.app N322 Nq330
  have Kc332 : Keep h0 T330.heap [] := Kc323.trans K330 (allS (Or.inr Sz5) all0)
  obtain ⟨fs, hr, hrun, hended, hW, hsame⟩ := X330.leave (v := some (.ref b3)) (fun h => by rw [Bd.returns] at h; cases h) (hlocks := BodyLoose.notSynchronized Bd)
  refine ⟨_, _, pre0 _ ?_, hrun, hended, _, _, rfl, ?_, ⟨_, rfl⟩, hW, hsame.mono (by decide) (by decide)⟩
  · show SS p e below m s₁ 0 #[vJ (q0), s_, vJ (q1), s_, vI (z), u_] [] _
    refine ziload X0 hx hby d1_0 rfl ?_
    refine st3 _ ?_
    refine zastore (l' := #[vJ (q0), s_, vJ (q1), s_, vI (z), vR (b3)]) X3 hx hby d1_4 rfl rfl ?_
    refine zaload X3 hx hby d1_6 rfl rfl ?_
    refine ziconst X3 hx hby (0) d1_8 rfl ?_
    refine zlloadN X3 hx hby d1_9 rfl ?_
    refine zlloadN X3 hx hby d1_10 rfl ?_
    refine st15 _ ?_
    refine zaload X15 hx hby d1_14 rfl rfl ?_
    refine ziconst X15 hx hby (1) d1_16 rfl ?_
    refine zlloadN X15 hx hby d1_17 rfl ?_
    refine zlloadN X15 hx hby d1_18 rfl ?_
    show SS p e below m T15 19 #[vJ (q0), s_, vJ (q1), s_, vI (z), vR (b3)] [(.long q1), (.long q0), (.int 1), (.ref b3)] _
    refine st24 _ ?_
    refine zaload X24 hx hby d1_22 rfl rfl ?_
    refine ziconst X24 hx hby (2) d1_24 rfl ?_
    refine zlloadN X24 hx hby d1_25 rfl ?_
    refine zlloadN X24 hx hby d1_26 rfl ?_
    refine st33 _ ?_
    refine zaload X33 hx hby d1_30 rfl rfl ?_
    refine ziconst X33 hx hby (3) d1_32 rfl ?_
    refine zlloadN X33 hx hby d1_33 rfl ?_
    refine zlloadN X33 hx hby d1_34 rfl ?_
    refine st42 _ ?_
    refine zaload X42 hx hby d1_38 rfl rfl ?_
    show SS p e below m T42 40 #[vJ (q0), s_, vJ (q1), s_, vI (z), vR (b3)] [(.ref b3)] _
    refine ziconst X42 hx hby (4) d1_40 rfl ?_
    refine zlloadN X42 hx hby d1_41 rfl ?_
    refine zlloadN X42 hx hby d1_42 rfl ?_
    refine st51 _ ?_
    refine zaload X51 hx hby d1_46 rfl rfl ?_
    refine ziconst X51 hx hby (5) d1_48 rfl ?_
    refine zlloadN X51 hx hby d1_49 rfl ?_
    refine zlloadN X51 hx hby d1_50 rfl ?_
    refine st60 _ ?_
    refine zaload X60 hx hby d1_54 rfl rfl ?_
    refine zbipush X60 hx hby (6) d1_56 rfl ?_
    refine zlloadN X60 hx hby d1_58 rfl ?_
    show SS p e below m T60 59 #[vJ (q0), s_, vJ (q1), s_, vI (z), vR (b3)] [(.long q0), (.int 6), (.ref b3)] _
    refine zlloadN X60 hx hby d1_59 rfl ?_
    refine st69 _ ?_
    refine zaload X69 hx hby d1_63 rfl rfl ?_
    refine zbipush X69 hx hby (7) d1_65 rfl ?_
    refine zlloadN X69 hx hby d1_67 rfl ?_
    refine zlloadN X69 hx hby d1_68 rfl ?_
    refine st78 _ ?_
    refine zaload X78 hx hby d1_72 rfl rfl ?_
    refine zbipush X78 hx hby (8) d1_74 rfl ?_
    refine zlloadN X78 hx hby d1_76 rfl ?_
    refine zlloadN X78 hx hby d1_77 rfl ?_
    refine st87 _ ?_
    show SS p e below m T87 81 #[vJ (q0), s_, vJ (q1), s_, vI (z), vR (b3)] [] _
    refine zaload X87 hx hby d1_81 rfl rfl ?_
    refine zbipush X87 hx hby (9) d1_83 rfl ?_
    refine zlloadN X87 hx hby d1_85 rfl ?_
    refine zlloadN X87 hx hby d1_86 rfl ?_
    refine st96 _ ?_
    refine zaload X96 hx hby d1_90 rfl rfl ?_
    refine zbipush X96 hx hby (10) d1_92 rfl ?_
    refine zlloadN X96 hx hby d1_94 rfl ?_
    refine zlloadN X96 hx hby d1_95 rfl ?_
    refine st105 _ ?_
    refine zaload X105 hx hby d1_99 rfl rfl ?_
    refine zbipush X105 hx hby (11) d1_101 rfl ?_
    show SS p e below m T105 103 #[vJ (q0), s_, vJ (q1), s_, vI (z), vR (b3)] [(.int 11), (.ref b3)] _
    refine zlloadN X105 hx hby d1_103 rfl ?_
    refine zlloadN X105 hx hby d1_104 rfl ?_
    refine st114 _ ?_
    refine zaload X114 hx hby d1_108 rfl rfl ?_
    refine zbipush X114 hx hby (12) d1_110 rfl ?_
    refine zlloadN X114 hx hby d1_112 rfl ?_
    refine zlloadN X114 hx hby d1_113 rfl ?_
    refine st123 _ ?_
    refine zaload X123 hx hby d1_117 rfl rfl ?_
    refine zbipush X123 hx hby (13) d1_119 rfl ?_
    refine zlloadN X123 hx hby d1_121 rfl ?_
    refine zlloadN X123 hx hby d1_122 rfl ?_
    show SS p e below m T123 123 #[vJ (q0), s_, vJ (q1), s_, vI (z), vR (b3)] [(.long q1), (.long q0), (.int 13), (.ref b3)] _
    refine st132 _ ?_
    refine zaload X132 hx hby d1_126 rfl rfl ?_
    refine zbipush X132 hx hby (14) d1_128 rfl ?_
    refine zlloadN X132 hx hby d1_130 rfl ?_
    refine zlloadN X132 hx hby d1_131 rfl ?_
    refine st141 _ ?_
    refine zaload X141 hx hby d1_135 rfl rfl ?_
    refine zbipush X141 hx hby (15) d1_137 rfl ?_
    refine zlloadN X141 hx hby d1_139 rfl ?_
    refine zlloadN X141 hx hby d1_140 rfl ?_
    refine st150 _ ?_
    refine zaload X150 hx hby d1_144 rfl rfl ?_
    show SS p e below m T150 146 #[vJ (q0), s_, vJ (q1), s_, vI (z), vR (b3)] [(.ref b3)] _
    refine zbipush X150 hx hby (16) d1_146 rfl ?_
    refine zlloadN X150 hx hby d1_148 rfl ?_
    refine zlloadN X150 hx hby d1_149 rfl ?_
    refine st159 _ ?_
    refine zaload X159 hx hby d1_153 rfl rfl ?_
    refine zbipush X159 hx hby (17) d1_155 rfl ?_
    refine zlloadN X159 hx hby d1_157 rfl ?_
    refine zlloadN X159 hx hby d1_158 rfl ?_
    refine st168 _ ?_
    refine zaload X168 hx hby d1_162 rfl rfl ?_
    refine zbipush X168 hx hby (18) d1_164 rfl ?_
    refine zlloadN X168 hx hby d1_166 rfl ?_
    show SS p e below m T168 167 #[vJ (q0), s_, vJ (q1), s_, vI (z), vR (b3)] [(.long q0), (.int 18), (.ref b3)] _
    refine zlloadN X168 hx hby d1_167 rfl ?_
    refine st177 _ ?_
    refine zaload X177 hx hby d1_171 rfl rfl ?_
    refine zbipush X177 hx hby (19) d1_173 rfl ?_
    refine zlloadN X177 hx hby d1_175 rfl ?_
    refine zlloadN X177 hx hby d1_176 rfl ?_
    refine st186 _ ?_
    refine zaload X186 hx hby d1_180 rfl rfl ?_
    refine zbipush X186 hx hby (20) d1_182 rfl ?_
    refine zlloadN X186 hx hby d1_184 rfl ?_
    refine zlloadN X186 hx hby d1_185 rfl ?_
    refine st195 _ ?_
    show SS p e below m T195 189 #[vJ (q0), s_, vJ (q1), s_, vI (z), vR (b3)] [] _
    refine zaload X195 hx hby d1_189 rfl rfl ?_
    refine zbipush X195 hx hby (21) d1_191 rfl ?_
    refine zlloadN X195 hx hby d1_193 rfl ?_
    refine zlloadN X195 hx hby d1_194 rfl ?_
    refine st204 _ ?_
    refine zaload X204 hx hby d1_198 rfl rfl ?_
    refine zbipush X204 hx hby (22) d1_200 rfl ?_
    refine zlloadN X204 hx hby d1_202 rfl ?_
    refine zlloadN X204 hx hby d1_203 rfl ?_
    refine st213 _ ?_
    refine zaload X213 hx hby d1_207 rfl rfl ?_
    refine zbipush X213 hx hby (23) d1_209 rfl ?_
    show SS p e below m T213 211 #[vJ (q0), s_, vJ (q1), s_, vI (z), vR (b3)] [(.int 23), (.ref b3)] _
    refine zlloadN X213 hx hby d1_211 rfl ?_
    refine zlloadN X213 hx hby d1_212 rfl ?_
    refine st222 _ ?_
    refine zaload X222 hx hby d1_216 rfl rfl ?_
    refine zbipush X222 hx hby (24) d1_218 rfl ?_
    refine zlloadN X222 hx hby d1_220 rfl ?_
    refine zlloadN X222 hx hby d1_221 rfl ?_
    refine st231 _ ?_
    refine zaload X231 hx hby d1_225 rfl rfl ?_
    refine zbipush X231 hx hby (25) d1_227 rfl ?_
    refine zlloadN X231 hx hby d1_229 rfl ?_
    refine zlloadN X231 hx hby d1_230 rfl ?_
    show SS p e below m T231 231 #[vJ (q0), s_, vJ (q1), s_, vI (z), vR (b3)] [(.long q1), (.long q0), (.int 25), (.ref b3)] _
    refine st240 _ ?_
    refine zaload X240 hx hby d1_234 rfl rfl ?_
    refine zbipush X240 hx hby (26) d1_236 rfl ?_
    refine zlloadN X240 hx hby d1_238 rfl ?_
    refine zlloadN X240 hx hby d1_239 rfl ?_
    refine st249 _ ?_
    refine zaload X249 hx hby d1_243 rfl rfl ?_
    refine zbipush X249 hx hby (27) d1_245 rfl ?_
    refine zlloadN X249 hx hby d1_247 rfl ?_
    refine zlloadN X249 hx hby d1_248 rfl ?_
    refine st258 _ ?_
    refine zaload X258 hx hby d1_252 rfl rfl ?_
    show SS p e below m T258 254 #[vJ (q0), s_, vJ (q1), s_, vI (z), vR (b3)] [(.ref b3)] _
    refine zbipush X258 hx hby (28) d1_254 rfl ?_
    refine zlloadN X258 hx hby d1_256 rfl ?_
    refine zlloadN X258 hx hby d1_257 rfl ?_
    refine st267 _ ?_
    refine zaload X267 hx hby d1_261 rfl rfl ?_
    refine zbipush X267 hx hby (29) d1_263 rfl ?_
    refine zlloadN X267 hx hby d1_265 rfl ?_
    refine zlloadN X267 hx hby d1_266 rfl ?_
    refine st276 _ ?_
    refine zaload X276 hx hby d1_270 rfl rfl ?_
    refine zbipush X276 hx hby (30) d1_272 rfl ?_
    refine zlloadN X276 hx hby d1_274 rfl ?_
    show SS p e below m T276 275 #[vJ (q0), s_, vJ (q1), s_, vI (z), vR (b3)] [(.long q0), (.int 30), (.ref b3)] _
    refine zlloadN X276 hx hby d1_275 rfl ?_
    refine st285 _ ?_
    refine zaload X285 hx hby d1_279 rfl rfl ?_
    refine zbipush X285 hx hby (31) d1_281 rfl ?_
    refine zlloadN X285 hx hby d1_283 rfl ?_
    refine zlloadN X285 hx hby d1_284 rfl ?_
    refine st294 _ ?_
    refine zaload X294 hx hby d1_288 rfl rfl ?_
    refine zbipush X294 hx hby (32) d1_290 rfl ?_
    refine zlloadN X294 hx hby d1_292 rfl ?_
    refine zlloadN X294 hx hby d1_293 rfl ?_
    refine st303 _ ?_
    show SS p e below m T303 297 #[vJ (q0), s_, vJ (q1), s_, vI (z), vR (b3)] [] _
    refine zaload X303 hx hby d1_297 rfl rfl ?_
    refine zbipush X303 hx hby (33) d1_299 rfl ?_
    refine zlloadN X303 hx hby d1_301 rfl ?_
    refine zlloadN X303 hx hby d1_302 rfl ?_
    refine st312 _ ?_
    refine zaload X312 hx hby d1_306 rfl rfl ?_
    refine zbipush X312 hx hby (34) d1_308 rfl ?_
    refine zlloadN X312 hx hby d1_310 rfl ?_
    refine zlloadN X312 hx hby d1_311 rfl ?_
    refine st321 _ ?_
    refine zaload X321 hx hby d1_315 rfl rfl ?_
    refine zbipush X321 hx hby (35) d1_317 rfl ?_
    show SS p e below m T321 319 #[vJ (q0), s_, vJ (q1), s_, vI (z), vR (b3)] [(.int 35), (.ref b3)] _
    refine zlloadN X321 hx hby d1_319 rfl ?_
    refine zlloadN X321 hx hby d1_320 rfl ?_
    refine st330 _ ?_
    refine zaload X330 hx hby d1_324 rfl rfl ?_
    show SS p e below m T330 326 #[vJ (q0), s_, vJ (q1), s_, vI (z), vR (b3)] [(.ref b3)] _
    jvm_step X330.here [X330.here.top, hx, (hb hby d1_326), X330.method', Bd.returns, Value.isRef, FieldType.isReference]
    first | (intro acts; rw [hr _ acts rfl rfl rfl]) | rw [hr _ _ rfl rfl rfl]
    exact Steps.refl _
  · show Qown_draw Z q0 q1 z n h0 n0 _ T330.heap _
    exact ⟨b3, k3, rfl, N331, Sz5, Kc332, (by show Arv _ _ _ _ _ _ (own_fl n (fun j => .int (own_dr q0 q1 j))) _; rw [← own_drl]; exact Pf330_0)⟩
theorem own_pn2 : plainName "java/lang/StringUTF16" = true := by first | (simp [plainName, overriddenIn]; done) | decide +kernel
theorem own_ef_own_comp5L (m : MethodId) (a_c : Addr) (b_o : Addr) (z : Int32) : entryFrame m #[(.ref a_c), (.int (0 : Int32)), (.ref b_o), (.int (0 : Int32)), (.int z)] 7 = mkF m 0 #[.val (.ref a_c), .val (.int (0 : Int32)), .val (.ref b_o), .val (.int (0 : Int32)), .val (.int z), .unset, .unset] [] := by first | (simp [entryFrame, mkF, argsToLocals, Value.category]; done) | rfl
theorem d12_0 : decode b_12 0 = .ok (.iconst 0, 1) := by decide +kernel
theorem d12_1 : decode b_12 1 = .ok (.istore 5, 2) := by decide +kernel
theorem d12_3 : decode b_12 3 = .ok (.iload 5, 2) := by decide +kernel
theorem d12_5 : decode b_12 5 = .ok (.iload 4, 2) := by decide +kernel
theorem d12_7 : decode b_12 7 = .ok (.if_icmp .ge 37, 3) := by decide +kernel
theorem d12_10 : decode b_12 10 = .ok (.aload_n 0, 1) := by decide +kernel
theorem d12_11 : decode b_12 11 = .ok (.iload_n 1, 1) := by decide +kernel
theorem d12_12 : decode b_12 12 = .ok (.caload, 1) := by decide +kernel
theorem d12_13 : decode b_12 13 = .ok (.istore 6, 2) := by decide +kernel
theorem d12_15 : decode b_12 15 = .ok (.iload 6, 2) := by decide +kernel
theorem d12_17 : decode b_12 17 = .ok (.sipush 255, 3) := by decide +kernel
theorem d12_20 : decode b_12 20 = .ok (.if_icmp .le 6, 3) := by decide +kernel
theorem d12_26 : decode b_12 26 = .ok (.aload_n 2, 1) := by decide +kernel
theorem d12_27 : decode b_12 27 = .ok (.iload_n 3, 1) := by decide +kernel
theorem d12_28 : decode b_12 28 = .ok (.iload 6, 2) := by decide +kernel
theorem d12_30 : decode b_12 30 = .ok (.i2b, 1) := by decide +kernel
theorem d12_31 : decode b_12 31 = .ok (.bastore, 1) := by decide +kernel
theorem d12_32 : decode b_12 32 = .ok (.iinc 1 1, 3) := by decide +kernel
theorem d12_35 : decode b_12 35 = .ok (.iinc 3 1, 3) := by decide +kernel
theorem d12_38 : decode b_12 38 = .ok (.iinc 5 1, 3) := by decide +kernel
theorem d12_41 : decode b_12 41 = .ok (.goto (-38), 3) := by decide +kernel
theorem d12_44 : decode b_12 44 = .ok (.iload 4, 2) := by decide +kernel
theorem d12_46 : decode b_12 46 = .ok (.ireturn, 1) := by decide +kernel
def Qown_comp5L (Z : State) (a_c : Addr) (k_c : ClassId) (ch : Nat → Int32) (b_o : Addr) (k_b : ClassId) (z : Int32) (n : Nat) (h0 : Heap) (n0 : Nat) (v : Option Value) (h : Heap) (L : List Loc) : Prop := v = some (.int z) ∧ Fr n0 L ∧ Keep h0 h [b_o] ∧ Arv Z h b_o k_b .byte z (own_fl n (own_bg ch)) (.int 0)
set_option maxRecDepth 65536 in
set_option maxHeartbeats 40000000 in
theorem own_comp5L (l : Launch) (Z : State) (a0 : Array Value) (hw : ∀ d ∈ tables_1, d.before a0 Z = true) (ws : List Jvm.Cond) (a_c : Addr) (k_c : ClassId) (ch : Nat → Int32) (b_o : Addr) (k_b : ClassId) (z : Int32) (n : Nat) (h0 : Heap) (n0 : Nat) (Z0 : n0 ≤ h0.size) (hA : Arv Z h0 a_c k_c .char z (own_cl n ch) (.int 0)) (hB : Arv Z h0 b_o k_b .byte z (own_fl n (own_fi (own_bg ch) 0)) (.int 0)) (hne : a_c ≠ b_o) (hgb : n0 ≤ b_o) (hz : z = Int32.ofNat n) (hn : n < 2147483648) (hl : ∀ j, j < n → ¬ (255 : Int32) < ch j) :
    MetFree l y_9 (head1 (Jvm.Cond.code y_9 jdk_52_method_21_code 7 (some .int) :: ws) (RM 0 0 0 0)) (fun a U => a = #[(.ref a_c), (.int 0), (.ref b_o), (.int 0), (.int z)] ∧ Z.Warmed39 U.vm ∧ U.heap = h0) (fun _ _ _ _ _ => True) (fun _ U o U' => ∃ v L, o = .returned v ∧ Qown_comp5L Z a_c k_c ch b_o k_b z n h0 n0 v U'.heap L ∧ FrameEnd U o U' L (RM 0 0 0 0).cells (RM 0 0 0 0).slots) := by
  refine MetFree.of_bodySF (plainFor_of_name own_pn2) hisR ?_
  intro p e s m args below meth c s₁ Bd hml0 hP hK
  obtain ⟨rfl, hZ, hh⟩ := hP
  have hx := Bd.exec
  have hby := Bd.bytes
  have hml : c.maxLocals = 7 := hml0
  have hown : s.vm.findClass "java/lang/StringUTF16" = some m.cls := findClass_of_methodNamed Bd.named
  have X0 : Stand p l e (RM 0 0 0 0) s m #[(.ref a_c), (.int 0), (.ref b_o), (.int 0), (.int z)] below meth c s₁ [] 0 0 := Stand.of_body Bd
  have e0 : s₁.heap = h0 := by rw [← hh, Bd.state]; rfl
  have N0 := Fr.nil n0
  have pre0 : ∀ t, Steps p.tables e below (s₁.setTop (mkF m 0 #[vR (a_c), vI (0), vR (b_o), vI (0), vI (z), u_, u_] [])) t → Steps p.tables e below (s₁.setTop (entryFrame m #[(.ref a_c), (.int 0), (.ref b_o), (.int 0), (.int z)] 7)) t := fun t k => castTop (own_ef_own_comp5L m a_c b_o z) k
  have pre4 : ∀ t, Steps p.tables e below (s₁.setTop (mkF m 3 #[vR (a_c), vI (0), vR (b_o), vI (0), vI (z), vI (0), u_] [])) t → Steps p.tables e below (s₁.setTop (entryFrame m #[(.ref a_c), (.int 0), (.ref b_o), (.int 0), (.int z)] 7)) t := by
    intro t kt
    refine pre0 _ ?_
    show SS p e below m s₁ 0 #[vR (a_c), vI (0), vR (b_o), vI (0), vI (z), u_, u_] [] _
    refine ziconst X0 hx hby (0) d12_0 rfl ?_
    refine zistore (l' := #[vR (a_c), vI (0), vR (b_o), vI (0), vI (z), vI (0), u_]) X0 hx hby d12_1 rfl ?_
    exact kt
  obtain ⟨k, i, s6, TL5, hL5, LL5, XL5, eL5, NL5, ZL5, KL5, hi, hAL, hBL, preL5⟩ : ∃ (k : Nat) (i : Nat) (s6 : Option Int32) (TL5 : State) (hL5 : Heap) (LL5 : List Loc), Stand p l e (RM 0 0 0 0) s m #[(.ref a_c), (.int 0), (.ref b_o), (.int 0), (.int z)] below meth c TL5 LL5 0 0 ∧ TL5.heap = hL5 ∧ Fr n0 LL5 ∧ n0 ≤ hL5.size ∧ Keep h0 hL5 [b_o] ∧ (i + k = n) ∧ Arv Z hL5 a_c k_c .char z (own_cl n ch) (.int 0) ∧ Arv Z hL5 b_o k_b .byte z (own_fl n (own_fi (own_bg ch) i)) (.int 0) ∧ (∀ t, Steps p.tables e below (TL5.setTop (mkF m 3 #[vR (a_c), vI ((Int32.ofNat i)), vR (b_o), vI ((Int32.ofNat i)), vI (z), vI ((Int32.ofNat i)), (own_sl s6)] [])) t → Steps p.tables e below (s₁.setTop (entryFrame m #[(.ref a_c), (.int 0), (.ref b_o), (.int 0), (.int z)] 7)) t) := ⟨n, 0, none, s₁, h0, _, X0, e0, N0, Z0, (Keep.refl h0 [b_o]), (Nat.zero_add _), hA, hB, pre4⟩
  induction k generalizing i s6 TL5 hL5 LL5 with
  | zero =>
    obtain ⟨fs, hr, hrun, hended, hW, hsame⟩ := XL5.leave (v := some (.int z)) (fun h => by rw [Bd.returns] at h; cases h) (hlocks := BodyLoose.notSynchronized Bd)
    refine ⟨_, _, preL5 _ ?_, hrun, hended, _, _, rfl, ?_, ⟨_, rfl⟩, hW, hsame.mono (by decide) (by decide)⟩
    · show SS p e below m TL5 3 #[vR (a_c), vI ((Int32.ofNat i)), vR (b_o), vI ((Int32.ofNat i)), vI (z), vI ((Int32.ofNat i)), (own_sl s6)] [] _
      refine ziload XL5 hx hby d12_3 rfl ?_
      refine ziload XL5 hx hby d12_5 rfl ?_
      refine zicmpYes XL5 hx hby 7 44 rfl d12_7 (flt ((show ¬ (Int32.ofNat i) < z from hz ▸ own_nltN (by omega) (by omega)) : ¬ ((Int32.ofNat i) < z))).2.1 (by decide) (by decide) ?_
      refine ziload XL5 hx hby d12_44 rfl ?_
      exact retI XL5 hx Bd.returns (hb hby d12_46) hr
    · show Qown_comp5L Z a_c k_c ch b_o k_b z n h0 n0 _ TL5.heap _
      rw [eL5]
      exact ⟨rfl, NL5, KL5, (by rw [← own_finE (i := i) (g := own_bg ch) (by omega)]; exact hBL)⟩
  | succ k ih5 =>
    obtain ⟨cl17, Ar17, q17, S17, M17, H17, G17⟩ := id hAL
    have hin17 : ¬ ((Int32.ofNat i) < 0 ∨ cl17.slots.size ≤ ((Int32.ofNat i)).toNatClampNeg) := inb_of S17 ⟨own_nneg (by omega), (show (Int32.ofNat i) < z from hz ▸ own_ltN (by omega) hn)⟩
    have hat17 : cl17.slots[((Int32.ofNat i)).toNatClampNeg]? = some (.int (ch i)) := H17.at hin17 (own_cl_atI (by omega) hn)
    obtain ⟨cl27, Ar27, q27, S27, M27, H27, G27⟩ := id hBL
    have hin27 : ¬ ((Int32.ofNat i) < 0 ∨ cl27.slots.size ≤ ((Int32.ofNat i)).toNatClampNeg) := inb_of S27 ⟨own_nneg (by omega), (show (Int32.ofNat i) < z from hz ▸ own_ltN (by omega) hn)⟩
    obtain ⟨T28, h28, X28, e28, W28, st28⟩ := stB XL5 hx hZ eL5 Ar27 (j := (Int32.ofNat i)) hin27 (g := (mkF m 31 #[vR (a_c), vI ((Int32.ofNat i)), vR (b_o), vI ((Int32.ofNat i)), vI (z), vI ((Int32.ofNat i)), vI ((ch i))] [(.int ((ch i).toInt8.toInt32)), (.int (Int32.ofNat i)), (.ref b_o)])) rfl rfl (hb hby d12_31)
    have Kc30 : Keep h0 h28 [b_o] := KL5.wr W28 (Or.inl (ga 0 rfl))
    have Zs31 : n0 ≤ h28.size := Nat.le_trans ZL5 (Keep.of_wr W28).1
    have N32 := Fr.snoc X28 NL5 hgb
    have Vm29 : Arv Z h28 b_o k_b .byte z ((own_fl n (own_fi (own_bg ch) i)).set i (.int (nar .byte ((ch i).toInt8.toInt32)))) (.int 0) := Arv.set Ar27 q27 S27 M27 H27 G27 (fits_nar_byte _) W28 i (own_clamp (by omega)) (by rw [own_fl_len]; omega)
    have Fq38 : Arv Z h28 a_c k_c .char z (own_cl n ch) (.int 0) := (hAL.other W28 hne)
    have preB39 : ∀ t, Steps p.tables e below (T28.setTop (mkF m 3 #[vR (a_c), vI ((Int32.ofNat (i + 1))), vR (b_o), vI ((Int32.ofNat (i + 1))), vI (z), vI ((Int32.ofNat (i + 1))), (own_sl (some (ch i)))] [])) t → Steps p.tables e below (s₁.setTop (entryFrame m #[(.ref a_c), (.int 0), (.ref b_o), (.int 0), (.int z)] 7)) t := by
      intro t kt
      refine preL5 _ ?_
      show SS p e below m TL5 3 #[vR (a_c), vI ((Int32.ofNat i)), vR (b_o), vI ((Int32.ofNat i)), vI (z), vI ((Int32.ofNat i)), (own_sl s6)] [] _
      refine ziload XL5 hx hby d12_3 rfl ?_
      refine ziload XL5 hx hby d12_5 rfl ?_
      refine zicmpNo XL5 hx hby d12_7 (tlt ((show (Int32.ofNat i) < z from hz ▸ own_ltN (by omega) hn) : (Int32.ofNat i) < z)).2.1 ?_
      refine zaloadN XL5 hx hby d12_10 rfl rfl ?_
      refine ziloadN XL5 hx hby d12_11 rfl ?_
      show SS p e below m TL5 12 #[vR (a_c), vI ((Int32.ofNat i)), vR (b_o), vI ((Int32.ofNat i)), vI (z), vI ((Int32.ofNat i)), (own_sl s6)] [(.int (Int32.ofNat i)), (.ref a_c)] _
      refine XL5.caload hx (j := (Int32.ofNat i)) (v := (.int (ch i))) (by rw [eL5]; exact Ar17.1) (State.isArrayOf_alike hZ.alike Ar17.2.1) Ar17.2.2 hin17 hat17 (g := (mkF m 12 #[vR (a_c), vI ((Int32.ofNat i)), vR (b_o), vI ((Int32.ofNat i)), vI (z), vI ((Int32.ofNat i)), (own_sl s6)] [(.int (Int32.ofNat i)), (.ref a_c)])) rfl rfl (hb hby d12_12) _ ?_
      show SS p e below m TL5 13 #[vR (a_c), vI ((Int32.ofNat i)), vR (b_o), vI ((Int32.ofNat i)), vI (z), vI ((Int32.ofNat i)), (own_sl s6)] [(.int (ch i))] _
      refine zistore (l' := #[vR (a_c), vI ((Int32.ofNat i)), vR (b_o), vI ((Int32.ofNat i)), vI (z), vI ((Int32.ofNat i)), vI ((ch i))]) XL5 hx hby d12_13 (match s6 with | none => rfl | some _ => rfl) ?_
      refine ziload XL5 hx hby d12_15 rfl ?_
      refine zsipush XL5 hx hby (255) d12_17 rfl ?_
      refine zicmpYes XL5 hx hby 20 26 rfl d12_20 (flt ((hl i (by omega)) : ¬ ((255 : Int32) < (ch i)))).2.2.2 (by decide) (by decide) ?_
      refine zaloadN XL5 hx hby d12_26 rfl rfl ?_
      refine ziloadN XL5 hx hby d12_27 rfl ?_
      refine ziload XL5 hx hby d12_28 rfl ?_
      show SS p e below m TL5 30 #[vR (a_c), vI ((Int32.ofNat i)), vR (b_o), vI ((Int32.ofNat i)), vI (z), vI ((Int32.ofNat i)), vI ((ch i))] [(.int (ch i)), (.int (Int32.ofNat i)), (.ref b_o)] _
      refine XS.i2b XL5.here hx rfl (hb hby d12_30) rfl ?_
      show SS p e below m TL5 31 #[vR (a_c), vI ((Int32.ofNat i)), vR (b_o), vI ((Int32.ofNat i)), vI (z), vI ((Int32.ofNat i)), vI ((ch i))] [(.int ((ch i).toInt8.toInt32)), (.int (Int32.ofNat i)), (.ref b_o)] _
      refine st28 _ ?_
      refine ziinc (l' := #[vR (a_c), vI (((Int32.ofNat i) + (1 : Int32))), vR (b_o), vI ((Int32.ofNat i)), vI (z), vI ((Int32.ofNat i)), vI ((ch i))]) X28 hx hby d12_32 rfl rfl ?_
      refine ziinc (l' := #[vR (a_c), vI (((Int32.ofNat i) + (1 : Int32))), vR (b_o), vI (((Int32.ofNat i) + (1 : Int32))), vI (z), vI ((Int32.ofNat i)), vI ((ch i))]) X28 hx hby d12_35 rfl rfl ?_
      refine ziinc (l' := #[vR (a_c), vI (((Int32.ofNat i) + (1 : Int32))), vR (b_o), vI (((Int32.ofNat i) + (1 : Int32))), vI (z), vI (((Int32.ofNat i) + (1 : Int32))), vI ((ch i))]) X28 hx hby d12_38 rfl rfl ?_
      refine zgoto X28 hx hby 41 3 rfl d12_41 (by decide) (by decide) ?_
      show SS p e below m T28 3 #[vR (a_c), vI (((Int32.ofNat i) + (1 : Int32))), vR (b_o), vI (((Int32.ofNat i) + (1 : Int32))), vI (z), vI (((Int32.ofNat i) + (1 : Int32))), vI ((ch i))] [] _
      rw [own_one]
      exact kt
    exact ih5 (i + 1) (some (ch i)) T28 h28 _ X28 e28 N32 Zs31 Kc30 (by omega) Fq38 (by rw [← own_fill]; exact Vm29) preB39
theorem own_ef_own_comp5U (m : MethodId) (a_c : Addr) (b_o : Addr) (z : Int32) : entryFrame m #[(.ref a_c), (.int (0 : Int32)), (.ref b_o), (.int (0 : Int32)), (.int z)] 7 = mkF m 0 #[.val (.ref a_c), .val (.int (0 : Int32)), .val (.ref b_o), .val (.int (0 : Int32)), .val (.int z), .unset, .unset] [] := by first | (simp [entryFrame, mkF, argsToLocals, Value.category]; done) | rfl
theorem d12_23 : decode b_12 23 = .ok (.iload 5, 2) := by decide +kernel
theorem d12_25 : decode b_12 25 = .ok (.ireturn, 1) := by decide +kernel
def Qown_comp5U (Z : State) (a_c : Addr) (k_c : ClassId) (ch : Nat → Int32) (b_o : Addr) (k_b : ClassId) (z : Int32) (n : Nat) (pp : Nat) (h0 : Heap) (n0 : Nat) (v : Option Value) (h : Heap) (L : List Loc) : Prop := v = some (.int (Int32.ofNat pp)) ∧ Fr n0 L ∧ Keep h0 h [b_o]
set_option maxRecDepth 65536 in
set_option maxHeartbeats 40000000 in
theorem own_comp5U (l : Launch) (Z : State) (a0 : Array Value) (hw : ∀ d ∈ tables_1, d.before a0 Z = true) (ws : List Jvm.Cond) (a_c : Addr) (k_c : ClassId) (ch : Nat → Int32) (b_o : Addr) (k_b : ClassId) (z : Int32) (n : Nat) (pp : Nat) (h0 : Heap) (n0 : Nat) (Z0 : n0 ≤ h0.size) (hA : Arv Z h0 a_c k_c .char z (own_cl n ch) (.int 0)) (hB : Arv Z h0 b_o k_b .byte z (own_fl n (own_fi (own_bg ch) 0)) (.int 0)) (hne : a_c ≠ b_o) (hgb : n0 ≤ b_o) (hz : z = Int32.ofNat n) (hn : n < 2147483648) (hp : pp < n) (hc : (255 : Int32) < ch pp) (hl : ∀ j, j < pp → ¬ (255 : Int32) < ch j) :
    MetFree l y_9 (head1 (Jvm.Cond.code y_9 jdk_52_method_21_code 7 (some .int) :: ws) (RM 0 0 0 0)) (fun a U => a = #[(.ref a_c), (.int 0), (.ref b_o), (.int 0), (.int z)] ∧ Z.Warmed39 U.vm ∧ U.heap = h0) (fun _ _ _ _ _ => True) (fun _ U o U' => ∃ v L, o = .returned v ∧ Qown_comp5U Z a_c k_c ch b_o k_b z n pp h0 n0 v U'.heap L ∧ FrameEnd U o U' L (RM 0 0 0 0).cells (RM 0 0 0 0).slots) := by
  refine MetFree.of_bodySF (plainFor_of_name own_pn2) hisR ?_
  intro p e s m args below meth c s₁ Bd hml0 hP hK
  obtain ⟨rfl, hZ, hh⟩ := hP
  have hx := Bd.exec
  have hby := Bd.bytes
  have hml : c.maxLocals = 7 := hml0
  have hown : s.vm.findClass "java/lang/StringUTF16" = some m.cls := findClass_of_methodNamed Bd.named
  have X0 : Stand p l e (RM 0 0 0 0) s m #[(.ref a_c), (.int 0), (.ref b_o), (.int 0), (.int z)] below meth c s₁ [] 0 0 := Stand.of_body Bd
  have e0 : s₁.heap = h0 := by rw [← hh, Bd.state]; rfl
  have N0 := Fr.nil n0
  have pre0 : ∀ t, Steps p.tables e below (s₁.setTop (mkF m 0 #[vR (a_c), vI (0), vR (b_o), vI (0), vI (z), u_, u_] [])) t → Steps p.tables e below (s₁.setTop (entryFrame m #[(.ref a_c), (.int 0), (.ref b_o), (.int 0), (.int z)] 7)) t := fun t k => castTop (own_ef_own_comp5U m a_c b_o z) k
  have pre4 : ∀ t, Steps p.tables e below (s₁.setTop (mkF m 3 #[vR (a_c), vI (0), vR (b_o), vI (0), vI (z), vI (0), u_] [])) t → Steps p.tables e below (s₁.setTop (entryFrame m #[(.ref a_c), (.int 0), (.ref b_o), (.int 0), (.int z)] 7)) t := by
    intro t kt
    refine pre0 _ ?_
    show SS p e below m s₁ 0 #[vR (a_c), vI (0), vR (b_o), vI (0), vI (z), u_, u_] [] _
    refine ziconst X0 hx hby (0) d12_0 rfl ?_
    refine zistore (l' := #[vR (a_c), vI (0), vR (b_o), vI (0), vI (z), vI (0), u_]) X0 hx hby d12_1 rfl ?_
    exact kt
  obtain ⟨k, i, s6, TL5, hL5, LL5, XL5, eL5, NL5, ZL5, KL5, hi, hAL, hBL, preL5⟩ : ∃ (k : Nat) (i : Nat) (s6 : Option Int32) (TL5 : State) (hL5 : Heap) (LL5 : List Loc), Stand p l e (RM 0 0 0 0) s m #[(.ref a_c), (.int 0), (.ref b_o), (.int 0), (.int z)] below meth c TL5 LL5 0 0 ∧ TL5.heap = hL5 ∧ Fr n0 LL5 ∧ n0 ≤ hL5.size ∧ Keep h0 hL5 [b_o] ∧ (i + k = pp) ∧ Arv Z hL5 a_c k_c .char z (own_cl n ch) (.int 0) ∧ Arv Z hL5 b_o k_b .byte z (own_fl n (own_fi (own_bg ch) i)) (.int 0) ∧ (∀ t, Steps p.tables e below (TL5.setTop (mkF m 3 #[vR (a_c), vI ((Int32.ofNat i)), vR (b_o), vI ((Int32.ofNat i)), vI (z), vI ((Int32.ofNat i)), (own_sl s6)] [])) t → Steps p.tables e below (s₁.setTop (entryFrame m #[(.ref a_c), (.int 0), (.ref b_o), (.int 0), (.int z)] 7)) t) := ⟨pp, 0, none, s₁, h0, _, X0, e0, N0, Z0, (Keep.refl h0 [b_o]), (Nat.zero_add _), hA, hB, pre4⟩
  induction k generalizing i s6 TL5 hL5 LL5 with
  | zero =>
    obtain ⟨cl12, Ar12, q12, S12, M12, H12, G12⟩ := id hAL
    have hin12 : ¬ ((Int32.ofNat i) < 0 ∨ cl12.slots.size ≤ ((Int32.ofNat i)).toNatClampNeg) := inb_of S12 ⟨own_nneg (by omega), (show (Int32.ofNat i) < z from hz ▸ own_ltN (by omega) hn)⟩
    have hat12 : cl12.slots[((Int32.ofNat i)).toNatClampNeg]? = some (.int (ch i)) := H12.at hin12 (own_cl_atI (by omega) hn)
    obtain ⟨fs, hr, hrun, hended, hW, hsame⟩ := XL5.leave (v := some (.int (Int32.ofNat i))) (fun h => by rw [Bd.returns] at h; cases h) (hlocks := BodyLoose.notSynchronized Bd)
    refine ⟨_, _, preL5 _ ?_, hrun, hended, _, _, rfl, ?_, ⟨_, rfl⟩, hW, hsame.mono (by decide) (by decide)⟩
    · show SS p e below m TL5 3 #[vR (a_c), vI ((Int32.ofNat i)), vR (b_o), vI ((Int32.ofNat i)), vI (z), vI ((Int32.ofNat i)), (own_sl s6)] [] _
      refine ziload XL5 hx hby d12_3 rfl ?_
      refine ziload XL5 hx hby d12_5 rfl ?_
      refine zicmpNo XL5 hx hby d12_7 (tlt ((show (Int32.ofNat i) < z from hz ▸ own_ltN (by omega) hn) : (Int32.ofNat i) < z)).2.1 ?_
      refine zaloadN XL5 hx hby d12_10 rfl rfl ?_
      refine ziloadN XL5 hx hby d12_11 rfl ?_
      show SS p e below m TL5 12 #[vR (a_c), vI ((Int32.ofNat i)), vR (b_o), vI ((Int32.ofNat i)), vI (z), vI ((Int32.ofNat i)), (own_sl s6)] [(.int (Int32.ofNat i)), (.ref a_c)] _
      refine XL5.caload hx (j := (Int32.ofNat i)) (v := (.int (ch i))) (by rw [eL5]; exact Ar12.1) (State.isArrayOf_alike hZ.alike Ar12.2.1) Ar12.2.2 hin12 hat12 (g := (mkF m 12 #[vR (a_c), vI ((Int32.ofNat i)), vR (b_o), vI ((Int32.ofNat i)), vI (z), vI ((Int32.ofNat i)), (own_sl s6)] [(.int (Int32.ofNat i)), (.ref a_c)])) rfl rfl (hb hby d12_12) _ ?_
      show SS p e below m TL5 13 #[vR (a_c), vI ((Int32.ofNat i)), vR (b_o), vI ((Int32.ofNat i)), vI (z), vI ((Int32.ofNat i)), (own_sl s6)] [(.int (ch i))] _
      refine zistore (l' := #[vR (a_c), vI ((Int32.ofNat i)), vR (b_o), vI ((Int32.ofNat i)), vI (z), vI ((Int32.ofNat i)), vI ((ch i))]) XL5 hx hby d12_13 (match s6 with | none => rfl | some _ => rfl) ?_
      refine ziload XL5 hx hby d12_15 rfl ?_
      refine zsipush XL5 hx hby (255) d12_17 rfl ?_
      refine zicmpNo XL5 hx hby d12_20 (tlt ((by rw [show i = pp by omega]; exact hc) : (255 : Int32) < (ch i))).2.2.2 ?_
      refine ziload XL5 hx hby d12_23 rfl ?_
      exact retI XL5 hx Bd.returns (hb hby d12_25) hr
    · show Qown_comp5U Z a_c k_c ch b_o k_b z n pp h0 n0 _ TL5.heap _
      rw [eL5]
      exact ⟨(by rw [show i = pp by omega]), NL5, KL5⟩
  | succ k ih5 =>
    obtain ⟨cl25, Ar25, q25, S25, M25, H25, G25⟩ := id hAL
    have hin25 : ¬ ((Int32.ofNat i) < 0 ∨ cl25.slots.size ≤ ((Int32.ofNat i)).toNatClampNeg) := inb_of S25 ⟨own_nneg (by omega), (show (Int32.ofNat i) < z from hz ▸ own_ltN (by omega) hn)⟩
    have hat25 : cl25.slots[((Int32.ofNat i)).toNatClampNeg]? = some (.int (ch i)) := H25.at hin25 (own_cl_atI (by omega) hn)
    obtain ⟨cl35, Ar35, q35, S35, M35, H35, G35⟩ := id hBL
    have hin35 : ¬ ((Int32.ofNat i) < 0 ∨ cl35.slots.size ≤ ((Int32.ofNat i)).toNatClampNeg) := inb_of S35 ⟨own_nneg (by omega), (show (Int32.ofNat i) < z from hz ▸ own_ltN (by omega) hn)⟩
    obtain ⟨T36, h36, X36, e36, W36, st36⟩ := stB XL5 hx hZ eL5 Ar35 (j := (Int32.ofNat i)) hin35 (g := (mkF m 31 #[vR (a_c), vI ((Int32.ofNat i)), vR (b_o), vI ((Int32.ofNat i)), vI (z), vI ((Int32.ofNat i)), vI ((ch i))] [(.int ((ch i).toInt8.toInt32)), (.int (Int32.ofNat i)), (.ref b_o)])) rfl rfl (hb hby d12_31)
    have Kc38 : Keep h0 h36 [b_o] := KL5.wr W36 (Or.inl (ga 0 rfl))
    have Zs39 : n0 ≤ h36.size := Nat.le_trans ZL5 (Keep.of_wr W36).1
    have N40 := Fr.snoc X36 NL5 hgb
    have Vm37 : Arv Z h36 b_o k_b .byte z ((own_fl n (own_fi (own_bg ch) i)).set i (.int (nar .byte ((ch i).toInt8.toInt32)))) (.int 0) := Arv.set Ar35 q35 S35 M35 H35 G35 (fits_nar_byte _) W36 i (own_clamp (by omega)) (by rw [own_fl_len]; omega)
    have Fq46 : Arv Z h36 a_c k_c .char z (own_cl n ch) (.int 0) := (hAL.other W36 hne)
    have preB47 : ∀ t, Steps p.tables e below (T36.setTop (mkF m 3 #[vR (a_c), vI ((Int32.ofNat (i + 1))), vR (b_o), vI ((Int32.ofNat (i + 1))), vI (z), vI ((Int32.ofNat (i + 1))), (own_sl (some (ch i)))] [])) t → Steps p.tables e below (s₁.setTop (entryFrame m #[(.ref a_c), (.int 0), (.ref b_o), (.int 0), (.int z)] 7)) t := by
      intro t kt
      refine preL5 _ ?_
      show SS p e below m TL5 3 #[vR (a_c), vI ((Int32.ofNat i)), vR (b_o), vI ((Int32.ofNat i)), vI (z), vI ((Int32.ofNat i)), (own_sl s6)] [] _
      refine ziload XL5 hx hby d12_3 rfl ?_
      refine ziload XL5 hx hby d12_5 rfl ?_
      refine zicmpNo XL5 hx hby d12_7 (tlt ((show (Int32.ofNat i) < z from hz ▸ own_ltN (by omega) hn) : (Int32.ofNat i) < z)).2.1 ?_
      refine zaloadN XL5 hx hby d12_10 rfl rfl ?_
      refine ziloadN XL5 hx hby d12_11 rfl ?_
      show SS p e below m TL5 12 #[vR (a_c), vI ((Int32.ofNat i)), vR (b_o), vI ((Int32.ofNat i)), vI (z), vI ((Int32.ofNat i)), (own_sl s6)] [(.int (Int32.ofNat i)), (.ref a_c)] _
      refine XL5.caload hx (j := (Int32.ofNat i)) (v := (.int (ch i))) (by rw [eL5]; exact Ar25.1) (State.isArrayOf_alike hZ.alike Ar25.2.1) Ar25.2.2 hin25 hat25 (g := (mkF m 12 #[vR (a_c), vI ((Int32.ofNat i)), vR (b_o), vI ((Int32.ofNat i)), vI (z), vI ((Int32.ofNat i)), (own_sl s6)] [(.int (Int32.ofNat i)), (.ref a_c)])) rfl rfl (hb hby d12_12) _ ?_
      show SS p e below m TL5 13 #[vR (a_c), vI ((Int32.ofNat i)), vR (b_o), vI ((Int32.ofNat i)), vI (z), vI ((Int32.ofNat i)), (own_sl s6)] [(.int (ch i))] _
      refine zistore (l' := #[vR (a_c), vI ((Int32.ofNat i)), vR (b_o), vI ((Int32.ofNat i)), vI (z), vI ((Int32.ofNat i)), vI ((ch i))]) XL5 hx hby d12_13 (match s6 with | none => rfl | some _ => rfl) ?_
      refine ziload XL5 hx hby d12_15 rfl ?_
      refine zsipush XL5 hx hby (255) d12_17 rfl ?_
      refine zicmpYes XL5 hx hby 20 26 rfl d12_20 (flt ((hl i (by omega)) : ¬ ((255 : Int32) < (ch i)))).2.2.2 (by decide) (by decide) ?_
      refine zaloadN XL5 hx hby d12_26 rfl rfl ?_
      refine ziloadN XL5 hx hby d12_27 rfl ?_
      refine ziload XL5 hx hby d12_28 rfl ?_
      show SS p e below m TL5 30 #[vR (a_c), vI ((Int32.ofNat i)), vR (b_o), vI ((Int32.ofNat i)), vI (z), vI ((Int32.ofNat i)), vI ((ch i))] [(.int (ch i)), (.int (Int32.ofNat i)), (.ref b_o)] _
      refine XS.i2b XL5.here hx rfl (hb hby d12_30) rfl ?_
      show SS p e below m TL5 31 #[vR (a_c), vI ((Int32.ofNat i)), vR (b_o), vI ((Int32.ofNat i)), vI (z), vI ((Int32.ofNat i)), vI ((ch i))] [(.int ((ch i).toInt8.toInt32)), (.int (Int32.ofNat i)), (.ref b_o)] _
      refine st36 _ ?_
      refine ziinc (l' := #[vR (a_c), vI (((Int32.ofNat i) + (1 : Int32))), vR (b_o), vI ((Int32.ofNat i)), vI (z), vI ((Int32.ofNat i)), vI ((ch i))]) X36 hx hby d12_32 rfl rfl ?_
      refine ziinc (l' := #[vR (a_c), vI (((Int32.ofNat i) + (1 : Int32))), vR (b_o), vI (((Int32.ofNat i) + (1 : Int32))), vI (z), vI ((Int32.ofNat i)), vI ((ch i))]) X36 hx hby d12_35 rfl rfl ?_
      refine ziinc (l' := #[vR (a_c), vI (((Int32.ofNat i) + (1 : Int32))), vR (b_o), vI (((Int32.ofNat i) + (1 : Int32))), vI (z), vI (((Int32.ofNat i) + (1 : Int32))), vI ((ch i))]) X36 hx hby d12_38 rfl rfl ?_
      refine zgoto X36 hx hby 41 3 rfl d12_41 (by decide) (by decide) ?_
      show SS p e below m T36 3 #[vR (a_c), vI (((Int32.ofNat i) + (1 : Int32))), vR (b_o), vI (((Int32.ofNat i) + (1 : Int32))), vI (z), vI (((Int32.ofNat i) + (1 : Int32))), vI ((ch i))] [] _
      rw [own_one]
      exact kt
    exact ih5 (i + 1) (some (ch i)) T36 h36 _ X36 e36 N40 Zs39 Kc38 (by omega) Fq46 (by rw [← own_fill]; exact Vm37) preB47
theorem own_ef_own_putC (m : MethodId) (b_o : Addr) (p2 : Int32) (i : Nat) : entryFrame m #[(.ref b_o), (.int (Int32.ofNat i)), (.int p2)] 3 = mkF m 0 #[.val (.ref b_o), .val (.int (Int32.ofNat i)), .val (.int p2)] [] := by first | (simp [entryFrame, mkF, argsToLocals, Value.category]; done) | rfl
theorem d36_0 : decode b_36 0 = .ok (.getstatic 44, 3) := by decide +kernel
theorem d36_3 : decode b_36 3 = .ok (.ifCond .ne 25, 3) := by decide +kernel
theorem d36_28 : decode b_36 28 = .ok (.iload_n 1, 1) := by decide +kernel
theorem d36_29 : decode b_36 29 = .ok (.iconst 1, 1) := by decide +kernel
theorem d36_30 : decode b_36 30 = .ok (.ishl, 1) := by decide +kernel
theorem d36_31 : decode b_36 31 = .ok (.istore_n 1, 1) := by decide +kernel
theorem d36_32 : decode b_36 32 = .ok (.aload_n 0, 1) := by decide +kernel
theorem d36_33 : decode b_36 33 = .ok (.iload_n 1, 1) := by decide +kernel
theorem d36_34 : decode b_36 34 = .ok (.iinc 1 1, 3) := by decide +kernel
theorem d36_37 : decode b_36 37 = .ok (.iload_n 2, 1) := by decide +kernel
theorem d36_38 : decode b_36 38 = .ok (.getstatic 59, 3) := by decide +kernel
theorem d36_41 : decode b_36 41 = .ok (.ishr, 1) := by decide +kernel
theorem d36_42 : decode b_36 42 = .ok (.i2b, 1) := by decide +kernel
theorem d36_43 : decode b_36 43 = .ok (.bastore, 1) := by decide +kernel
theorem d36_44 : decode b_36 44 = .ok (.aload_n 0, 1) := by decide +kernel
theorem d36_45 : decode b_36 45 = .ok (.iload_n 1, 1) := by decide +kernel
theorem d36_46 : decode b_36 46 = .ok (.iload_n 2, 1) := by decide +kernel
theorem d36_47 : decode b_36 47 = .ok (.getstatic 63, 3) := by decide +kernel
theorem d36_50 : decode b_36 50 = .ok (.ishr, 1) := by decide +kernel
theorem d36_51 : decode b_36 51 = .ok (.i2b, 1) := by decide +kernel
theorem d36_52 : decode b_36 52 = .ok (.bastore, 1) := by decide +kernel
theorem d36_53 : decode b_36 53 = .ok (.return_, 1) := by decide +kernel
def Qown_putC (Z : State) (b_o : Addr) (i : Nat) (p2 : Int32) (k_b : ClassId) (z : Int32) (n : Nat) (g : Nat → Value) (h0 : Heap) (n0 : Nat) (v : Option Value) (h : Heap) (L : List Loc) : Prop := v = none ∧ Fr n0 L ∧ Keep h0 h [b_o] ∧ Arv Z h b_o k_b .byte z (own_fl n (own_fi g (2 * (i + 1)))) (.int 0)
set_option maxRecDepth 65536 in
set_option maxHeartbeats 40000000 in
theorem own_putC (l : Launch) (Z : State) (a0 : Array Value) (hw : ∀ d ∈ tables_1, d.before a0 Z = true) (ws : List Jvm.Cond) (b_o : Addr) (i : Nat) (p2 : Int32) (k_b : ClassId) (z : Int32) (n : Nat) (g : Nat → Value) (h0 : Heap) (n0 : Nat) (Z0 : n0 ≤ h0.size) (hB : Arv Z h0 b_o k_b .byte z (own_fl n (own_fi g (2 * i))) (.int 0)) (hgb : n0 ≤ b_o) (hSa : Sta Z Z.heap "java/lang/StringUTF16" "$assertionsDisabled" "Z" (.int 1)) (hSh : Sta Z Z.heap "java/lang/StringUTF16" "HI_BYTE_SHIFT" "I" (.int 0)) (hSl : Sta Z Z.heap "java/lang/StringUTF16" "LO_BYTE_SHIFT" "I" (.int 8)) (hO : Old Z n0 h0) (hz : z = Int32.ofNat n) (hn : n < 2147483648) (hi : 2 * i + 1 < n) (hg0 : g (2 * i) = .int (own_u0 p2)) (hg1 : g (2 * i + 1) = .int (own_u1 p2)) :
    MetFree l y_10 (head1 (Jvm.Cond.code y_10 jdk_52_method_4_code 3 none :: ws) (RM 0 0 0 0)) (fun a U => a = #[(.ref b_o), (.int (Int32.ofNat i)), (.int p2)] ∧ Z.Warmed39 U.vm ∧ U.heap = h0) (fun _ _ _ _ _ => True) (fun _ U o U' => ∃ v L, o = .returned v ∧ Qown_putC Z b_o i p2 k_b z n g h0 n0 v U'.heap L ∧ FrameEnd U o U' L (RM 0 0 0 0).cells (RM 0 0 0 0).slots) := by
  refine MetFree.of_bodySF (plainFor_of_name own_pn2) hisR ?_
  intro p e s m args below meth c s₁ Bd hml0 hP hK
  obtain ⟨rfl, hZ, hh⟩ := hP
  have hx := Bd.exec
  have hby := Bd.bytes
  have hml : c.maxLocals = 3 := hml0
  have hown : s.vm.findClass "java/lang/StringUTF16" = some m.cls := findClass_of_methodNamed Bd.named
  have X0 : Stand p l e (RM 0 0 0 0) s m #[(.ref b_o), (.int (Int32.ofNat i)), (.int p2)] below meth c s₁ [] 0 0 := Stand.of_body Bd
  have e0 : s₁.heap = h0 := by rw [← hh, Bd.state]; rfl
  have N0 := Fr.nil n0
  have pre0 : ∀ t, Steps p.tables e below (s₁.setTop (mkF m 0 #[vR (b_o), vI ((Int32.ofNat i)), vI (p2)] [])) t → Steps p.tables e below (s₁.setTop (entryFrame m #[(.ref b_o), (.int (Int32.ofNat i)), (.int p2)] 3)) t := fun t k => castTop (own_ef_own_putC m b_o p2 i) k
  obtain ⟨T2, X2, e2, st2⟩ := getS2 X0 hx hZ hown (host := "") (Or.inl (hw _ (gm 165 rfl))) Via.refl e0 (hSa.ext hO.2) (g := (mkF m 0 #[vR (b_o), vI ((Int32.ofNat i)), vI (p2)] [])) rfl (hb hby d36_0)
  obtain ⟨T13, X13, e13, st13⟩ := getS2 X2 hx hZ hown (host := "") (Or.inl (hw _ (gm 166 rfl))) Via.refl e2 (hSh.ext hO.2) (g := (mkF m 38 #[vR (b_o), vI ((Int32.ofNat (2 * i + 1))), vI (p2)] [(.int p2), (.int (Int32.ofNat (2 * i))), (.ref b_o)])) rfl (hb hby d36_38)
  obtain ⟨cl17, Ar17, q17, S17, M17, H17, G17⟩ := id hB
  have hin17 : ¬ ((Int32.ofNat (2 * i)) < 0 ∨ cl17.slots.size ≤ ((Int32.ofNat (2 * i))).toNatClampNeg) := inb_of S17 ⟨own_nneg (by omega), (show (Int32.ofNat (2 * i)) < z from hz ▸ own_ltN (by omega) hn)⟩
  obtain ⟨T18, h18, X18, e18, W18, st18⟩ := stB X13 hx hZ e13 Ar17 (j := (Int32.ofNat (2 * i))) hin17 (g := (mkF m 43 #[vR (b_o), vI ((Int32.ofNat (2 * i + 1))), vI (p2)] [(.int ((p2 >>> ((0 : Int32) &&& 31)).toInt8.toInt32)), (.int (Int32.ofNat (2 * i))), (.ref b_o)])) rfl rfl (hb hby d36_43)
  have Kc20 : Keep h0 h18 [b_o] := (Keep.refl h0 [b_o]).wr W18 (Or.inl (ga 0 rfl))
  have N22 := Fr.snoc X18 N0 hgb
  have Vm19 : Arv Z h18 b_o k_b .byte z ((own_fl n (own_fi g (2 * i))).set (2 * i) (.int (nar .byte ((p2 >>> ((0 : Int32) &&& 31)).toInt8.toInt32)))) (.int 0) := Arv.set Ar17 q17 S17 M17 H17 G17 (fits_nar_byte _) W18 (2 * i) (own_clamp (by omega)) (by rw [own_fl_len]; omega)
  have Vf24 : Arv Z h18 b_o k_b .byte z (own_fl n (own_fi g (2 * i + 1))) (.int 0) := by rw [← own_fill, hg0]; exact Vm19
  have Fq28 : Old Z n0 h18 := (hO.wr W18 hgb)
  obtain ⟨T29, X29, e29, st29⟩ := getS2 X18 hx hZ hown (host := "") (Or.inl (hw _ (gm 167 rfl))) Via.refl e18 (hSl.ext Fq28.2) (g := (mkF m 47 #[vR (b_o), vI ((Int32.ofNat (2 * i + 1))), vI (p2)] [(.int p2), (.int (Int32.ofNat (2 * i + 1))), (.ref b_o)])) rfl (hb hby d36_47)
  obtain ⟨cl33, Ar33, q33, S33, M33, H33, G33⟩ := id Vf24
  have hin33 : ¬ ((Int32.ofNat (2 * i + 1)) < 0 ∨ cl33.slots.size ≤ ((Int32.ofNat (2 * i + 1))).toNatClampNeg) := inb_of S33 ⟨own_nneg (by omega), (show (Int32.ofNat (2 * i + 1)) < z from hz ▸ own_ltN (by omega) hn)⟩
  obtain ⟨T34, h34, X34, e34, W34, st34⟩ := stB X29 hx hZ e29 Ar33 (j := (Int32.ofNat (2 * i + 1))) hin33 (g := (mkF m 52 #[vR (b_o), vI ((Int32.ofNat (2 * i + 1))), vI (p2)] [(.int ((p2 >>> ((8 : Int32) &&& 31)).toInt8.toInt32)), (.int (Int32.ofNat (2 * i + 1))), (.ref b_o)])) rfl rfl (hb hby d36_52)
  have Kc36 : Keep h0 h34 [b_o] := Kc20.wr W34 (Or.inl (ga 0 rfl))
  have N38 := Fr.snoc X34 N22 hgb
  have Vm35 : Arv Z h34 b_o k_b .byte z ((own_fl n (own_fi g (2 * i + 1))).set (2 * i + 1) (.int (nar .byte ((p2 >>> ((8 : Int32) &&& 31)).toInt8.toInt32)))) (.int 0) := Arv.set Ar33 q33 S33 M33 H33 G33 (fits_nar_byte _) W34 (2 * i + 1) (own_clamp (by omega)) (by rw [own_fl_len]; omega)
  obtain ⟨fs, hr, hrun, hended, hW, hsame⟩ := X34.leave (v := none) (fun _ => rfl) (hlocks := BodyLoose.notSynchronized Bd)
  refine ⟨_, _, pre0 _ ?_, hrun, hended, _, _, rfl, ?_, ⟨_, rfl⟩, hW, hsame.mono (by decide) (by decide)⟩
  · show SS p e below m s₁ 0 #[vR (b_o), vI ((Int32.ofNat i)), vI (p2)] [] _
    refine st2 _ ?_
    refine zifYes X2 hx hby 3 28 rfl d36_3 ((if0 _ _).trans (feq ((by decide) : ¬ ((1 : Int32) = (0 : Int32)))).2) (by decide) (by decide) ?_
    refine ziloadN X2 hx hby d36_28 rfl ?_
    refine ziconst X2 hx hby (1) d36_29 rfl ?_
    show SS p e below m T2 30 #[vR (b_o), vI ((Int32.ofNat i)), vI (p2)] [(.int 1), (.int (Int32.ofNat i))] _
    refine XS.ishl X2.here hx rfl (hb hby d36_30) rfl ?_
    rw [own_dbl]
    show SS p e below m T2 31 #[vR (b_o), vI ((Int32.ofNat i)), vI (p2)] [(.int (Int32.ofNat (2 * i)))] _
    refine zistoreN (l' := #[vR (b_o), vI ((Int32.ofNat (2 * i))), vI (p2)]) X2 hx hby d36_31 rfl ?_
    refine zaloadN X2 hx hby d36_32 rfl rfl ?_
    refine ziloadN X2 hx hby d36_33 rfl ?_
    refine ziinc (l' := #[vR (b_o), vI (((Int32.ofNat (2 * i)) + (1 : Int32))), vI (p2)]) X2 hx hby d36_34 rfl rfl ?_
    rw [own_one]
    show SS p e below m T2 37 #[vR (b_o), vI ((Int32.ofNat (2 * i + 1))), vI (p2)] [(.int (Int32.ofNat (2 * i))), (.ref b_o)] _
    refine ziloadN X2 hx hby d36_37 rfl ?_
    refine st13 _ ?_
    show SS p e below m T13 41 #[vR (b_o), vI ((Int32.ofNat (2 * i + 1))), vI (p2)] [(.int 0), (.int p2), (.int (Int32.ofNat (2 * i))), (.ref b_o)] _
    refine XS.ishr X13.here hx rfl (hb hby d36_41) rfl ?_
    show SS p e below m T13 42 #[vR (b_o), vI ((Int32.ofNat (2 * i + 1))), vI (p2)] [(.int (p2 >>> ((0 : Int32) &&& 31))), (.int (Int32.ofNat (2 * i))), (.ref b_o)] _
    refine XS.i2b X13.here hx rfl (hb hby d36_42) rfl ?_
    show SS p e below m T13 43 #[vR (b_o), vI ((Int32.ofNat (2 * i + 1))), vI (p2)] [(.int ((p2 >>> ((0 : Int32) &&& 31)).toInt8.toInt32)), (.int (Int32.ofNat (2 * i))), (.ref b_o)] _
    refine st18 _ ?_
    refine zaloadN X18 hx hby d36_44 rfl rfl ?_
    refine ziloadN X18 hx hby d36_45 rfl ?_
    refine ziloadN X18 hx hby d36_46 rfl ?_
    refine st29 _ ?_
    show SS p e below m T29 50 #[vR (b_o), vI ((Int32.ofNat (2 * i + 1))), vI (p2)] [(.int 8), (.int p2), (.int (Int32.ofNat (2 * i + 1))), (.ref b_o)] _
    refine XS.ishr X29.here hx rfl (hb hby d36_50) rfl ?_
    show SS p e below m T29 51 #[vR (b_o), vI ((Int32.ofNat (2 * i + 1))), vI (p2)] [(.int (p2 >>> ((8 : Int32) &&& 31))), (.int (Int32.ofNat (2 * i + 1))), (.ref b_o)] _
    refine XS.i2b X29.here hx rfl (hb hby d36_51) rfl ?_
    show SS p e below m T29 52 #[vR (b_o), vI ((Int32.ofNat (2 * i + 1))), vI (p2)] [(.int ((p2 >>> ((8 : Int32) &&& 31)).toInt8.toInt32)), (.int (Int32.ofNat (2 * i + 1))), (.ref b_o)] _
    refine st34 _ ?_
    exact X34.returnOut hx Bd.returns (hb hby d36_53) hr
  · show Qown_putC Z b_o i p2 k_b z n g h0 n0 _ T34.heap _
    rw [e34]
    exact ⟨rfl, N38, Kc36, (by rw [show 2 * (i + 1) = 2 * i + 1 + 1 by omega, ← own_fill, hg1]; exact Vm35)⟩
theorem own_ef_own_nbl36 (m : MethodId) : entryFrame m #[(.int (36 : Int32))] 1 = mkF m 0 #[.val (.int (36 : Int32))] [] := by first | (simp [entryFrame, mkF, argsToLocals, Value.category]; done) | rfl
theorem d35_0 : decode b_35 0 = .ok (.iload_n 0, 1) := by decide +kernel
theorem d35_1 : decode b_35 1 = .ok (.ifCond .ge 11, 3) := by decide +kernel
theorem d35_12 : decode b_35 12 = .ok (.iload_n 0, 1) := by decide +kernel
theorem d35_13 : decode b_35 13 = .ok (.ldc 20, 2) := by decide +kernel
theorem d35_15 : decode b_35 15 = .ok (.if_icmp .lt 40, 3) := by decide +kernel
theorem d35_55 : decode b_35 55 = .ok (.iload_n 0, 1) := by decide +kernel
theorem d35_56 : decode b_35 56 = .ok (.iconst 1, 1) := by decide +kernel
theorem d35_57 : decode b_35 57 = .ok (.ishl, 1) := by decide +kernel
theorem d35_58 : decode b_35 58 = .ok (.ireturn, 1) := by decide +kernel
def Qown_nbl36 (Z : State) (h0 : Heap) (n0 : Nat) (v : Option Value) (h : Heap) (L : List Loc) : Prop := v = some (.int 72) ∧ Fr n0 L ∧ h = h0
set_option maxRecDepth 65536 in
set_option maxHeartbeats 40000000 in
theorem own_nbl36 (l : Launch) (Z : State) (a0 : Array Value) (hw : ∀ d ∈ tables_1, d.before a0 Z = true) (ws : List Jvm.Cond) (h0 : Heap) (n0 : Nat) (Z0 : n0 ≤ h0.size) :
    MetFree l y_11 (head1 (Jvm.Cond.code y_11 jdk_52_method_3_code 1 (some .int) :: ws) (RM 0 0 0 0)) (fun a U => a = #[(.int 36)] ∧ Z.Warmed39 U.vm ∧ U.heap = h0) (fun _ _ _ _ _ => True) (fun _ U o U' => ∃ v L, o = .returned v ∧ Qown_nbl36 Z  h0 n0 v U'.heap L ∧ FrameEnd U o U' L (RM 0 0 0 0).cells (RM 0 0 0 0).slots) := by
  refine MetFree.of_bodySF (plainFor_of_name own_pn2) hisR ?_
  intro p e s m args below meth c s₁ Bd hml0 hP hK
  obtain ⟨rfl, hZ, hh⟩ := hP
  have hx := Bd.exec
  have hby := Bd.bytes
  have hml : c.maxLocals = 1 := hml0
  have hown : s.vm.findClass "java/lang/StringUTF16" = some m.cls := findClass_of_methodNamed Bd.named
  have X0 : Stand p l e (RM 0 0 0 0) s m #[(.int 36)] below meth c s₁ [] 0 0 := Stand.of_body Bd
  have e0 : s₁.heap = h0 := by rw [← hh, Bd.state]; rfl
  have N0 := Fr.nil n0
  have pre0 : ∀ t, Steps p.tables e below (s₁.setTop (mkF m 0 #[vI (36)] [])) t → Steps p.tables e below (s₁.setTop (entryFrame m #[(.int 36)] 1)) t := fun t k => castTop (own_ef_own_nbl36 m) k
  obtain ⟨fs, hr, hrun, hended, hW, hsame⟩ := X0.leave (v := some (.int 72)) (fun h => by rw [Bd.returns] at h; cases h) (hlocks := BodyLoose.notSynchronized Bd)
  refine ⟨_, _, pre0 _ ?_, hrun, hended, _, _, rfl, ?_, ⟨_, rfl⟩, hW, hsame.mono (by decide) (by decide)⟩
  · show SS p e below m s₁ 0 #[vI (36)] [] _
    refine ziloadN X0 hx hby d35_0 rfl ?_
    refine zifYes X0 hx hby 1 12 rfl d35_1 ((if0 _ _).trans (flt ((by decide) : ¬ ((36 : Int32) < (0 : Int32)))).2.1) (by decide) (by decide) ?_
    refine ziloadN X0 hx hby d35_12 rfl ?_
    show SS p e below m s₁ 13 #[vI (36)] [(.int 36)] _
    refine X0.ldcInt hx hown (mvT hZ (hw _ (gm 161 rfl))) (g := (mkF m 13 #[vI (36)] [(.int 36)])) rfl (hb hby d35_13) _ ?_
    show SS p e below m s₁ 15 #[vI (36)] [(.int 1073741823), (.int 36)] _
    refine zicmpYes X0 hx hby 15 55 rfl d35_15 (tlt ((by decide) : (36 : Int32) < (1073741823 : Int32))).1 (by decide) (by decide) ?_
    refine ziloadN X0 hx hby d35_55 rfl ?_
    refine ziconst X0 hx hby (1) d35_56 rfl ?_
    show SS p e below m s₁ 57 #[vI (36)] [(.int 1), (.int 36)] _
    refine XS.ishl X0.here hx rfl (hb hby d35_57) rfl ?_
    show SS p e below m s₁ 58 #[vI (36)] [(.int 72)] _
    exact retI X0 hx Bd.returns (hb hby d35_58) hr
  · show Qown_nbl36 Z  h0 n0 _ s₁.heap _
    rw [e0]
    exact ⟨rfl, N0, rfl⟩
theorem own_ef_own_nbf36 (m : MethodId) : entryFrame m #[(.int (36 : Int32))] 1 = mkF m 0 #[.val (.int (36 : Int32))] [] := by first | (simp [entryFrame, mkF, argsToLocals, Value.category]; done) | rfl
theorem d34_0 : decode b_34 0 = .ok (.iload_n 0, 1) := by decide +kernel
theorem d34_1 : decode b_34 1 = .ok (.invokestatic 11, 3) := by decide +kernel
theorem d34_4 : decode b_34 4 = .ok (.newarray .byte, 2) := by decide +kernel
theorem d34_6 : decode b_34 6 = .ok (.areturn, 1) := by decide +kernel
def Qown_nbf36 (Z : State) (h0 : Heap) (n0 : Nat) (v : Option Value) (h : Heap) (L : List Loc) : Prop := ∃ r_o : Addr, ∃ k_r : ClassId, v = some (.ref r_o) ∧ Fr n0 L ∧ h0.size ≤ r_o ∧ Keep h0 h [] ∧ Arv Z h r_o k_r .byte (72 : Int32) [] (.int 0)
set_option maxRecDepth 65536 in
set_option maxHeartbeats 40000000 in
theorem own_nbf36 (l : Launch) (Z : State) (a0 : Array Value) (hw : ∀ d ∈ tables_1, d.before a0 Z = true) (ws : List Jvm.Cond) (h0 : Heap) (n0 : Nat) (Z0 : n0 ≤ h0.size) :
    MetFree l y_12 (head1 (Jvm.Cond.code y_12 jdk_52_method_2_code 1 (some (.array .byte)) :: ws) (RM 1 1 72 12)) (fun a U => a = #[(.int 36)] ∧ Z.Warmed39 U.vm ∧ U.heap = h0) (fun _ _ _ _ _ => True) (fun _ U o U' => ∃ v L, o = .returned v ∧ Qown_nbf36 Z  h0 n0 v U'.heap L ∧ FrameEnd U o U' L (RM 1 1 72 12).cells (RM 1 1 72 12).slots) := by
  refine MetFree.of_bodySF (plainFor_of_name own_pn2) hisR ?_
  intro p e s m args below meth c s₁ Bd hml0 hP hK
  obtain ⟨rfl, hZ, hh⟩ := hP
  have hx := Bd.exec
  have hby := Bd.bytes
  have hml : c.maxLocals = 1 := hml0
  have hown : s.vm.findClass "java/lang/StringUTF16" = some m.cls := findClass_of_methodNamed Bd.named
  have X0 : Stand p l e (RM 1 1 72 12) s m #[(.int 36)] below meth c s₁ [] 0 0 := Stand.of_body Bd
  have e0 : s₁.heap = h0 := by rw [← hh, Bd.state]; rfl
  have N0 := Fr.nil n0
  have pre0 : ∀ t, Steps p.tables e below (s₁.setTop (mkF m 0 #[vI (36)] [])) t → Steps p.tables e below (s₁.setTop (entryFrame m #[(.int 36)] 1)) t := fun t k => castTop (own_ef_own_nbf36 m) k
  obtain ⟨_, _, ⟨T3, L3, k3, n3⟩, -, X3, ⟨Lc3, hQ3, l3, y3, z3⟩, st3⟩ := Jvm.LawKit.callS X0 hx (y := y_11) hown (mvT hZ (hw _ (gm 158 rfl))) (mvT hZ (hw _ (gm 159 rfl))) (mvT hZ (hw _ (gm 42 rfl))) (mvT hZ (hw _ (gm 160 rfl))) (by decide) (backOf (W := 0) (own_nbl36 l Z a0 hw []  h0 n0 Z0 ) hZ (hw _ (gm 160 rfl)) (hw _ (gm 42 rfl)) (by decide) (by decide)) (g := (mkF m 1 #[vI (36)] [(.int 36)])) rfl (by rw [hml]; rfl) (argsL := [(.int 36)]) (rest := []) (lenOf own_pd2 rfl) rfl (by show 2 * 0 + _ ≤ _; exact Nat.le_of_eq rfl) (hb hby d34_1) (fun _ _ => ⟨rfl, e0, (by decide : 0 + 0 ≤ _), (by decide : 0 + 0 ≤ _)⟩)
  dsimp only [Pt.U, Pt.locs, Pt.cells, Pt.slots] at X3 l3 y3 z3 st3 hQ3
  rw [l3, y3, z3] at X3
  obtain ⟨rfl, Nq3, eh3⟩ := hQ3
  have N4 := Fr.app N0 Nq3
  obtain ⟨T6, h6, k6, X6, e6, E6, A6, Y6, st6⟩ := newPE X3 hx hZ (hw _ (gm 44 rfl)) eh3 (g := (mkF m 4 #[vI (36)] [(.int 72)])) rfl (hb hby d34_4) rfl (by decide) (cap := 72) (by decide) (by decide) (by decide) (by decide) (ad := "[B") (by first | rfl | decide)
  obtain ⟨b6, g6⟩ : ∃ z, z = h0.size := ⟨_, rfl⟩
  rw [← g6] at A6 Y6 st6
  have Sz8 : h0.size ≤ b6 := Nat.le_trans (Keep.refl h0 []).1 (Nat.le_of_eq g6.symm)
  have Kc9 : Keep h0 h6 [] := (Keep.refl h0 []).ext E6
  have V6 : Arv Z h6 b6 k6 .byte (72 : Int32) [] (.int 0) := (Arv.new A6 (by decide))
  obtain ⟨fs, hr, hrun, hended, hW, hsame⟩ := X6.leave (v := some (.ref b6)) (fun h => by rw [Bd.returns] at h; cases h) (hlocks := BodyLoose.notSynchronized Bd)
  refine ⟨_, _, pre0 _ ?_, hrun, hended, _, _, rfl, ?_, ⟨_, rfl⟩, hW, hsame.mono (by decide) (by decide)⟩
  · show SS p e below m s₁ 0 #[vI (36)] [] _
    refine ziloadN X0 hx hby d34_0 rfl ?_
    refine st3 _ ?_
    refine st6 _ ?_
    show SS p e below m T6 6 #[vI (36)] [(.ref b6)] _
    jvm_step X6.here [X6.here.top, hx, (hb hby d34_6), X6.method', Bd.returns, Value.isRef, FieldType.isReference]
    first | (intro acts; rw [hr _ acts rfl rfl rfl]) | rw [hr _ _ rfl rfl rfl]
    exact Steps.refl _
  · show Qown_nbf36 Z  h0 n0 _ T6.heap _
    rw [e6]
    exact ⟨b6, k6, rfl, N4, Sz8, Kc9, V6⟩
theorem own_ef_own_tob36 (m : MethodId) (a_c : Addr) : entryFrame m #[(.ref a_c), (.int (0 : Int32)), (.int (36 : Int32))] 5 = mkF m 0 #[.val (.ref a_c), .val (.int (0 : Int32)), .val (.int (36 : Int32)), .unset, .unset] [] := by first | (simp [entryFrame, mkF, argsToLocals, Value.category]; done) | rfl
theorem own_pd5 : parseMethodDescriptor "(I)[B" = some ⟨[.int], some (.array .byte)⟩ := by decide +kernel
theorem own_pd6 : parseMethodDescriptor "([BII)V" = some ⟨[(.array .byte), .int, .int], none⟩ := by decide +kernel
theorem d33_0 : decode b_33 0 = .ok (.iload_n 2, 1) := by decide +kernel
theorem d33_1 : decode b_33 1 = .ok (.invokestatic 107, 3) := by decide +kernel
theorem d33_4 : decode b_33 4 = .ok (.astore_n 3, 1) := by decide +kernel
theorem d33_5 : decode b_33 5 = .ok (.iconst 0, 1) := by decide +kernel
theorem d33_6 : decode b_33 6 = .ok (.istore 4, 2) := by decide +kernel
theorem d33_8 : decode b_33 8 = .ok (.iload 4, 2) := by decide +kernel
theorem d33_10 : decode b_33 10 = .ok (.iload_n 2, 1) := by decide +kernel
theorem d33_11 : decode b_33 11 = .ok (.if_icmp .ge 21, 3) := by decide +kernel
theorem d33_14 : decode b_33 14 = .ok (.aload_n 3, 1) := by decide +kernel
theorem d33_15 : decode b_33 15 = .ok (.iload 4, 2) := by decide +kernel
theorem d33_17 : decode b_33 17 = .ok (.aload_n 0, 1) := by decide +kernel
theorem d33_18 : decode b_33 18 = .ok (.iload_n 1, 1) := by decide +kernel
theorem d33_19 : decode b_33 19 = .ok (.caload, 1) := by decide +kernel
theorem d33_20 : decode b_33 20 = .ok (.invokestatic 111, 3) := by decide +kernel
theorem d33_23 : decode b_33 23 = .ok (.iinc 1 1, 3) := by decide +kernel
theorem d33_26 : decode b_33 26 = .ok (.iinc 4 1, 3) := by decide +kernel
theorem d33_29 : decode b_33 29 = .ok (.goto (-21), 3) := by decide +kernel
theorem d33_32 : decode b_33 32 = .ok (.aload_n 3, 1) := by decide +kernel
theorem d33_33 : decode b_33 33 = .ok (.areturn, 1) := by decide +kernel
def Qown_tob36 (Z : State) (a_c : Addr) (k_c : ClassId) (ch : Nat → Int32) (h0 : Heap) (n0 : Nat) (v : Option Value) (h : Heap) (L : List Loc) : Prop := ∃ r_o : Addr, ∃ k_r : ClassId, v = some (.ref r_o) ∧ Fr n0 L ∧ h0.size ≤ r_o ∧ Keep h0 h [] ∧ Arv Z h r_o k_r .byte (72 : Int32) (own_fl 72 (own_ug ch)) (.int 0)
set_option maxRecDepth 65536 in
set_option maxHeartbeats 40000000 in
theorem own_tob36 (l : Launch) (Z : State) (a0 : Array Value) (hw : ∀ d ∈ tables_1, d.before a0 Z = true) (ws : List Jvm.Cond) (a_c : Addr) (k_c : ClassId) (ch : Nat → Int32) (h0 : Heap) (n0 : Nat) (Z0 : n0 ≤ h0.size) (hA : Arv Z h0 a_c k_c .char (36 : Int32) (own_cl 36 ch) (.int 0)) (hSa : Sta Z Z.heap "java/lang/StringUTF16" "$assertionsDisabled" "Z" (.int 1)) (hSh : Sta Z Z.heap "java/lang/StringUTF16" "HI_BYTE_SHIFT" "I" (.int 0)) (hSl : Sta Z Z.heap "java/lang/StringUTF16" "LO_BYTE_SHIFT" "I" (.int 8)) (hO : Old Z n0 h0) :
    MetFree l y_13 (head1 (Jvm.Cond.code y_13 jdk_52_method_14_code 5 (some (.array .byte)) :: ws) (RM 2 1 72 24)) (fun a U => a = #[(.ref a_c), (.int 0), (.int 36)] ∧ Z.Warmed39 U.vm ∧ U.heap = h0) (fun _ _ _ _ _ => True) (fun _ U o U' => ∃ v L, o = .returned v ∧ Qown_tob36 Z a_c k_c ch h0 n0 v U'.heap L ∧ FrameEnd U o U' L (RM 2 1 72 24).cells (RM 2 1 72 24).slots) := by
  refine MetFree.of_bodySF (plainFor_of_name own_pn2) hisR ?_
  intro p e s m args below meth c s₁ Bd hml0 hP hK
  obtain ⟨rfl, hZ, hh⟩ := hP
  have hx := Bd.exec
  have hby := Bd.bytes
  have hml : c.maxLocals = 5 := hml0
  have hown : s.vm.findClass "java/lang/StringUTF16" = some m.cls := findClass_of_methodNamed Bd.named
  have X0 : Stand p l e (RM 2 1 72 24) s m #[(.ref a_c), (.int 0), (.int 36)] below meth c s₁ [] 0 0 := Stand.of_body Bd
  have e0 : s₁.heap = h0 := by rw [← hh, Bd.state]; rfl
  have N0 := Fr.nil n0
  have pre0 : ∀ t, Steps p.tables e below (s₁.setTop (mkF m 0 #[vR (a_c), vI (0), vI (36), u_, u_] [])) t → Steps p.tables e below (s₁.setTop (entryFrame m #[(.ref a_c), (.int 0), (.int 36)] 5)) t := fun t k => castTop (own_ef_own_tob36 m a_c) k
  obtain ⟨_, _, ⟨T3, L3, k3, n3⟩, -, X3, ⟨Lc3, hQ3, l3, y3, z3⟩, st3⟩ := Jvm.LawKit.callS X0 hx (y := y_12) hown (mvT hZ (hw _ (gm 155 rfl))) (mvT hZ (hw _ (gm 156 rfl))) (mvT hZ (hw _ (gm 42 rfl))) (mvT hZ (hw _ (gm 157 rfl))) (by decide) (backOf (W := 0) (own_nbf36 l Z a0 hw []  h0 n0 Z0 ) hZ (hw _ (gm 157 rfl)) (hw _ (gm 42 rfl)) (by decide) (by decide)) (g := (mkF m 1 #[vR (a_c), vI (0), vI (36), u_, u_] [(.int 36)])) rfl (by rw [hml]; rfl) (argsL := [(.int 36)]) (rest := []) (lenOf own_pd5 rfl) rfl (by show 2 * 0 + _ ≤ _; exact Nat.le_of_eq rfl) (hb hby d33_1) (fun _ _ => ⟨rfl, e0, (by decide : 0 + 1 ≤ _), (by decide : 0 + 72 ≤ _)⟩)
  dsimp only [Pt.U, Pt.locs, Pt.cells, Pt.slots] at X3 l3 y3 z3 st3 hQ3
  rw [l3, y3, z3] at X3
  obtain ⟨r_o_3, k_r_3, rfl, Nq3, sz3_r_o, K3, Pf3_0⟩ := hQ3
  have N4 := Fr.app N0 Nq3
  have Ne5 : a_c ≠ r_o_3 := Nat.ne_of_lt (Nat.lt_of_lt_of_le hA.lt sz3_r_o)
  have Ge6 : n0 ≤ r_o_3 := Nat.le_trans Z0 sz3_r_o
  have Sz7 : h0.size ≤ r_o_3 := Nat.le_trans (Keep.refl h0 []).1 sz3_r_o
  have Kc8 : Keep h0 T3.heap [] := (Keep.refl h0 []).trans K3 all0
  have Zs9 : n0 ≤ T3.heap.size := Nat.le_trans Z0 K3.1
  have pre14 : ∀ t, Steps p.tables e below (T3.setTop (mkF m 8 #[vR (a_c), vI (0), vI (36), vR (r_o_3), vI (0)] [])) t → Steps p.tables e below (s₁.setTop (entryFrame m #[(.ref a_c), (.int 0), (.int 36)] 5)) t := by
    intro t kt
    refine pre0 _ ?_
    show SS p e below m s₁ 0 #[vR (a_c), vI (0), vI (36), u_, u_] [] _
    refine ziloadN X0 hx hby d33_0 rfl ?_
    refine st3 _ ?_
    refine zastoreN (l' := #[vR (a_c), vI (0), vI (36), vR (r_o_3), u_]) X3 hx hby d33_4 rfl rfl ?_
    refine ziconst X3 hx hby (0) d33_5 rfl ?_
    refine zistore (l' := #[vR (a_c), vI (0), vI (36), vR (r_o_3), vI (0)]) X3 hx hby d33_6 rfl ?_
    exact kt
  have Fq16 : Arv Z T3.heap a_c k_c .char (36 : Int32) (own_cl 36 ch) (.int 0) := (hA.keep K3 nin0)
  have Fq17 : Old Z n0 T3.heap := (hO.keep K3 all0)
  obtain ⟨k, i, TL15, hL15, LL15, XL15, eL15, NL15, ZL15, KL15, hi, hAL, hBL, hOL, preL15⟩ : ∃ (k : Nat) (i : Nat) (TL15 : State) (hL15 : Heap) (LL15 : List Loc), Stand p l e (RM 2 1 72 24) s m #[(.ref a_c), (.int 0), (.int 36)] below meth c TL15 LL15 1 72 ∧ TL15.heap = hL15 ∧ Fr n0 LL15 ∧ n0 ≤ hL15.size ∧ Keep h0 hL15 [] ∧ (i + k = 36) ∧ Arv Z hL15 a_c k_c .char (36 : Int32) (own_cl 36 ch) (.int 0) ∧ Arv Z hL15 r_o_3 k_r_3 .byte (72 : Int32) (own_fl 72 (own_fi (own_ug ch) (2 * i))) (.int 0) ∧ Old Z n0 hL15 ∧ (∀ t, Steps p.tables e below (TL15.setTop (mkF m 8 #[vR (a_c), vI ((Int32.ofNat i)), vI (36), vR (r_o_3), vI ((Int32.ofNat i))] [])) t → Steps p.tables e below (s₁.setTop (entryFrame m #[(.ref a_c), (.int 0), (.int 36)] 5)) t) := ⟨36, 0, T3, T3.heap, _, X3, rfl, N4, Zs9, Kc8, (Nat.zero_add _), Fq16, (Pf3_0.pad own_fi0), Fq17, pre14⟩
  induction k generalizing i TL15 hL15 LL15 with
  | zero =>
    obtain ⟨fs, hr, hrun, hended, hW, hsame⟩ := XL15.leave (v := some (.ref r_o_3)) (fun h => by rw [Bd.returns] at h; cases h) (hlocks := BodyLoose.notSynchronized Bd)
    refine ⟨_, _, preL15 _ ?_, hrun, hended, _, _, rfl, ?_, ⟨_, rfl⟩, hW, hsame.mono (by decide) (by decide)⟩
    · show SS p e below m TL15 8 #[vR (a_c), vI ((Int32.ofNat i)), vI (36), vR (r_o_3), vI ((Int32.ofNat i))] [] _
      refine ziload XL15 hx hby d33_8 rfl ?_
      refine ziloadN XL15 hx hby d33_10 rfl ?_
      refine zicmpYes XL15 hx hby 11 32 rfl d33_11 (flt ((own_nltN (n := 36) (by omega) (by omega)) : ¬ ((Int32.ofNat i) < (36 : Int32)))).2.1 (by decide) (by decide) ?_
      refine zaloadN XL15 hx hby d33_32 rfl rfl ?_
      show SS p e below m TL15 33 #[vR (a_c), vI ((Int32.ofNat i)), vI (36), vR (r_o_3), vI ((Int32.ofNat i))] [(.ref r_o_3)] _
      jvm_step XL15.here [XL15.here.top, hx, (hb hby d33_33), XL15.method', Bd.returns, Value.isRef, FieldType.isReference]
      first | (intro acts; rw [hr _ acts rfl rfl rfl]) | rw [hr _ _ rfl rfl rfl]
      exact Steps.refl _
    · show Qown_tob36 Z a_c k_c ch h0 n0 _ TL15.heap _
      rw [eL15]
      exact ⟨r_o_3, k_r_3, rfl, NL15, Sz7, KL15, (by rw [← own_finE (i := 2 * i) (g := own_ug ch) (by omega)]; exact hBL)⟩
  | succ k ih15 =>
    obtain ⟨cl31, Ar31, q31, S31, M31, H31, G31⟩ := id hAL
    have hin31 : ¬ ((Int32.ofNat i) < 0 ∨ cl31.slots.size ≤ ((Int32.ofNat i)).toNatClampNeg) := inb_of S31 ⟨own_nneg (by omega), (own_ltN (n := 36) (by omega) (by decide))⟩
    have hat31 : cl31.slots[((Int32.ofNat i)).toNatClampNeg]? = some (.int (ch i)) := H31.at hin31 (own_cl_atI (n := 36) (by omega) (by decide))
    obtain ⟨_, _, ⟨T33, L33, k33, n33⟩, -, X33, ⟨Lc33, hQ33, l33, y33, z33⟩, st33⟩ := Jvm.LawKit.callS XL15 hx (y := y_10) hown (mvT hZ (hw _ (gm 162 rfl))) (mvT hZ (hw _ (gm 163 rfl))) (mvT hZ (hw _ (gm 42 rfl))) (mvT hZ (hw _ (gm 164 rfl))) (by decide) (backOf (W := 0) (own_putC l Z a0 hw [] r_o_3 i (ch i) k_r_3 (72 : Int32) 72 (own_ug ch) hL15 n0 ZL15 hBL Ge6 hSa hSh hSl hOL (by first | assumption | decide : (72 : Int32) = Int32.ofNat 72) (by first | assumption | decide : 72 < 2147483648) (by omega) (own_ug0 ch i) (own_ug1 ch i)) hZ (hw _ (gm 164 rfl)) (hw _ (gm 42 rfl)) (by decide) (by decide)) (g := (mkF m 20 #[vR (a_c), vI ((Int32.ofNat i)), vI (36), vR (r_o_3), vI ((Int32.ofNat i))] [(.int (ch i)), (.int (Int32.ofNat i)), (.ref r_o_3)])) rfl (by rw [hml]; rfl) (argsL := [(.ref r_o_3), (.int (Int32.ofNat i)), (.int (ch i))]) (rest := []) (lenOf own_pd6 rfl) rfl (by show 2 * 0 + _ ≤ _; exact Nat.le_of_eq rfl) (hb hby d33_20) (fun _ _ => ⟨rfl, eL15, (by decide : 1 + 0 ≤ _), (by decide : 72 + 0 ≤ _)⟩)
    dsimp only [Pt.U, Pt.locs, Pt.cells, Pt.slots] at X33 l33 y33 z33 st33 hQ33
    rw [l33, y33, z33] at X33
    obtain ⟨rfl, Nq33, K33, Pf33_0⟩ := hQ33
    have N34 := Fr.app NL15 Nq33
    have Kc35 : Keep h0 T33.heap [] := KL15.trans K33 (allS (Or.inr Sz7) all0)
    have Zs36 : n0 ≤ T33.heap.size := Nat.le_trans ZL15 K33.1
    have Fq41 : Arv Z T33.heap a_c k_c .char (36 : Int32) (own_cl 36 ch) (.int 0) := (hAL.keep K33 (ninS Ne5 nin0))
    have Fq42 : Old Z n0 T33.heap := (hOL.keep K33 (allS Ge6 all0))
    have preB43 : ∀ t, Steps p.tables e below (T33.setTop (mkF m 8 #[vR (a_c), vI ((Int32.ofNat (i + 1))), vI (36), vR (r_o_3), vI ((Int32.ofNat (i + 1)))] [])) t → Steps p.tables e below (s₁.setTop (entryFrame m #[(.ref a_c), (.int 0), (.int 36)] 5)) t := by
      intro t kt
      refine preL15 _ ?_
      show SS p e below m TL15 8 #[vR (a_c), vI ((Int32.ofNat i)), vI (36), vR (r_o_3), vI ((Int32.ofNat i))] [] _
      refine ziload XL15 hx hby d33_8 rfl ?_
      refine ziloadN XL15 hx hby d33_10 rfl ?_
      refine zicmpNo XL15 hx hby d33_11 (tlt ((own_ltN (n := 36) (by omega) (by decide)) : (Int32.ofNat i) < (36 : Int32))).2.1 ?_
      refine zaloadN XL15 hx hby d33_14 rfl rfl ?_
      refine ziload XL15 hx hby d33_15 rfl ?_
      refine zaloadN XL15 hx hby d33_17 rfl rfl ?_
      refine ziloadN XL15 hx hby d33_18 rfl ?_
      show SS p e below m TL15 19 #[vR (a_c), vI ((Int32.ofNat i)), vI (36), vR (r_o_3), vI ((Int32.ofNat i))] [(.int (Int32.ofNat i)), (.ref a_c), (.int (Int32.ofNat i)), (.ref r_o_3)] _
      refine XL15.caload hx (j := (Int32.ofNat i)) (v := (.int (ch i))) (by rw [eL15]; exact Ar31.1) (State.isArrayOf_alike hZ.alike Ar31.2.1) Ar31.2.2 hin31 hat31 (g := (mkF m 19 #[vR (a_c), vI ((Int32.ofNat i)), vI (36), vR (r_o_3), vI ((Int32.ofNat i))] [(.int (Int32.ofNat i)), (.ref a_c), (.int (Int32.ofNat i)), (.ref r_o_3)])) rfl rfl (hb hby d33_19) _ ?_
      show SS p e below m TL15 20 #[vR (a_c), vI ((Int32.ofNat i)), vI (36), vR (r_o_3), vI ((Int32.ofNat i))] [(.int (ch i)), (.int (Int32.ofNat i)), (.ref r_o_3)] _
      refine st33 _ ?_
      refine ziinc (l' := #[vR (a_c), vI (((Int32.ofNat i) + (1 : Int32))), vI (36), vR (r_o_3), vI ((Int32.ofNat i))]) X33 hx hby d33_23 rfl rfl ?_
      refine ziinc (l' := #[vR (a_c), vI (((Int32.ofNat i) + (1 : Int32))), vI (36), vR (r_o_3), vI (((Int32.ofNat i) + (1 : Int32)))]) X33 hx hby d33_26 rfl rfl ?_
      refine zgoto X33 hx hby 29 8 rfl d33_29 (by decide) (by decide) ?_
      show SS p e below m T33 8 #[vR (a_c), vI (((Int32.ofNat i) + (1 : Int32))), vI (36), vR (r_o_3), vI (((Int32.ofNat i) + (1 : Int32)))] [] _
      rw [own_one]
      exact kt
    exact ih15 (i + 1) T33 T33.heap _ X33 rfl N34 Zs36 Kc35 (by omega) Fq41 Pf33_0 Fq42 preB43
theorem own_ef_own_getC36 (m : MethodId) (b_o : Addr) (i : Nat) : entryFrame m #[(.ref b_o), (.int (Int32.ofNat i))] 2 = mkF m 0 #[.val (.ref b_o), .val (.int (Int32.ofNat i))] [] := by first | (simp [entryFrame, mkF, argsToLocals, Value.category]; done) | rfl
theorem d37_0 : decode b_37 0 = .ok (.getstatic 44, 3) := by decide +kernel
theorem d37_3 : decode b_37 3 = .ok (.ifCond .ne 25, 3) := by decide +kernel
theorem d37_28 : decode b_37 28 = .ok (.iload_n 1, 1) := by decide +kernel
theorem d37_29 : decode b_37 29 = .ok (.iconst 1, 1) := by decide +kernel
theorem d37_30 : decode b_37 30 = .ok (.ishl, 1) := by decide +kernel
theorem d37_31 : decode b_37 31 = .ok (.istore_n 1, 1) := by decide +kernel
theorem d37_32 : decode b_37 32 = .ok (.aload_n 0, 1) := by decide +kernel
theorem d37_33 : decode b_37 33 = .ok (.iload_n 1, 1) := by decide +kernel
theorem d37_34 : decode b_37 34 = .ok (.iinc 1 1, 3) := by decide +kernel
theorem d37_37 : decode b_37 37 = .ok (.baload, 1) := by decide +kernel
theorem d37_38 : decode b_37 38 = .ok (.sipush 255, 3) := by decide +kernel
theorem d37_41 : decode b_37 41 = .ok (.iand, 1) := by decide +kernel
theorem d37_42 : decode b_37 42 = .ok (.getstatic 59, 3) := by decide +kernel
theorem d37_45 : decode b_37 45 = .ok (.ishl, 1) := by decide +kernel
theorem d37_46 : decode b_37 46 = .ok (.aload_n 0, 1) := by decide +kernel
theorem d37_47 : decode b_37 47 = .ok (.iload_n 1, 1) := by decide +kernel
theorem d37_48 : decode b_37 48 = .ok (.baload, 1) := by decide +kernel
theorem d37_49 : decode b_37 49 = .ok (.sipush 255, 3) := by decide +kernel
theorem d37_52 : decode b_37 52 = .ok (.iand, 1) := by decide +kernel
theorem d37_53 : decode b_37 53 = .ok (.getstatic 63, 3) := by decide +kernel
theorem d37_56 : decode b_37 56 = .ok (.ishl, 1) := by decide +kernel
theorem d37_57 : decode b_37 57 = .ok (.ior, 1) := by decide +kernel
theorem d37_58 : decode b_37 58 = .ok (.i2c, 1) := by decide +kernel
theorem d37_59 : decode b_37 59 = .ok (.ireturn, 1) := by decide +kernel
def Qown_getC36 (Z : State) (b_o : Addr) (i : Nat) (k_b : ClassId) (ch : Nat → Int32) (h0 : Heap) (n0 : Nat) (v : Option Value) (h : Heap) (L : List Loc) : Prop := v = some (.int (ch i)) ∧ Fr n0 L ∧ h = h0
set_option maxRecDepth 65536 in
set_option maxHeartbeats 40000000 in
theorem own_getC36 (l : Launch) (Z : State) (a0 : Array Value) (hw : ∀ d ∈ tables_1, d.before a0 Z = true) (ws : List Jvm.Cond) (b_o : Addr) (i : Nat) (k_b : ClassId) (ch : Nat → Int32) (h0 : Heap) (n0 : Nat) (Z0 : n0 ≤ h0.size) (hB : Arv Z h0 b_o k_b .byte (72 : Int32) (own_fl 72 (own_ug ch)) (.int 0)) (hSa : Sta Z Z.heap "java/lang/StringUTF16" "$assertionsDisabled" "Z" (.int 1)) (hSh : Sta Z Z.heap "java/lang/StringUTF16" "HI_BYTE_SHIFT" "I" (.int 0)) (hSl : Sta Z Z.heap "java/lang/StringUTF16" "LO_BYTE_SHIFT" "I" (.int 8)) (hO : Old Z n0 h0) (hi : i < 36) (hrg : ∀ j, nar .char (ch j) = ch j) :
    MetFree l y_14 (head1 (Jvm.Cond.code y_14 jdk_52_method_5_code 2 (some .char) :: ws) (RM 0 0 0 0)) (fun a U => a = #[(.ref b_o), (.int (Int32.ofNat i))] ∧ Z.Warmed39 U.vm ∧ U.heap = h0) (fun _ _ _ _ _ => True) (fun _ U o U' => ∃ v L, o = .returned v ∧ Qown_getC36 Z b_o i k_b ch h0 n0 v U'.heap L ∧ FrameEnd U o U' L (RM 0 0 0 0).cells (RM 0 0 0 0).slots) := by
  refine MetFree.of_bodySF (plainFor_of_name own_pn2) hisR ?_
  intro p e s m args below meth c s₁ Bd hml0 hP hK
  obtain ⟨rfl, hZ, hh⟩ := hP
  have hx := Bd.exec
  have hby := Bd.bytes
  have hml : c.maxLocals = 2 := hml0
  have hown : s.vm.findClass "java/lang/StringUTF16" = some m.cls := findClass_of_methodNamed Bd.named
  have X0 : Stand p l e (RM 0 0 0 0) s m #[(.ref b_o), (.int (Int32.ofNat i))] below meth c s₁ [] 0 0 := Stand.of_body Bd
  have e0 : s₁.heap = h0 := by rw [← hh, Bd.state]; rfl
  have N0 := Fr.nil n0
  have pre0 : ∀ t, Steps p.tables e below (s₁.setTop (mkF m 0 #[vR (b_o), vI ((Int32.ofNat i))] [])) t → Steps p.tables e below (s₁.setTop (entryFrame m #[(.ref b_o), (.int (Int32.ofNat i))] 2)) t := fun t k => castTop (own_ef_own_getC36 m b_o i) k
  obtain ⟨T2, X2, e2, st2⟩ := getS2 X0 hx hZ hown (host := "") (Or.inl (hw _ (gm 165 rfl))) Via.refl e0 (hSa.ext hO.2) (g := (mkF m 0 #[vR (b_o), vI ((Int32.ofNat i))] [])) rfl (hb hby d37_0)
  obtain ⟨cl12, Ar12, q12, S12, M12, H12, G12⟩ := id hB
  have hin12 : ¬ ((Int32.ofNat (2 * i)) < 0 ∨ cl12.slots.size ≤ ((Int32.ofNat (2 * i))).toNatClampNeg) := inb_of S12 ⟨own_nneg (by omega), (own_ltN (n := 72) (by omega) (by decide))⟩
  have hat12 : cl12.slots[((Int32.ofNat (2 * i))).toNatClampNeg]? = some (.int (own_u0 (ch i))) := H12.at hin12 ((own_fl_atI (by omega) (by omega)).trans (own_ug0 ch i))
  obtain ⟨T16, X16, e16, st16⟩ := getS2 X2 hx hZ hown (host := "") (Or.inl (hw _ (gm 166 rfl))) Via.refl e2 (hSh.ext hO.2) (g := (mkF m 42 #[vR (b_o), vI ((Int32.ofNat (2 * i + 1)))] [(.int ((own_u0 (ch i)) &&& (255 : Int32)))])) rfl (hb hby d37_42)
  obtain ⟨cl21, Ar21, q21, S21, M21, H21, G21⟩ := id hB
  have hin21 : ¬ ((Int32.ofNat (2 * i + 1)) < 0 ∨ cl21.slots.size ≤ ((Int32.ofNat (2 * i + 1))).toNatClampNeg) := inb_of S21 ⟨own_nneg (by omega), (own_ltN (n := 72) (by omega) (by decide))⟩
  have hat21 : cl21.slots[((Int32.ofNat (2 * i + 1))).toNatClampNeg]? = some (.int (own_u1 (ch i))) := H21.at hin21 ((own_fl_atI (by omega) (by omega)).trans (own_ug1 ch i))
  obtain ⟨T25, X25, e25, st25⟩ := getS2 X16 hx hZ hown (host := "") (Or.inl (hw _ (gm 167 rfl))) Via.refl e16 (hSl.ext hO.2) (g := (mkF m 53 #[vR (b_o), vI ((Int32.ofNat (2 * i + 1)))] [(.int ((own_u1 (ch i)) &&& (255 : Int32))), (.int (((own_u0 (ch i)) &&& (255 : Int32)) <<< ((0 : Int32) &&& 31)))])) rfl (hb hby d37_53)
  obtain ⟨fs, hr, hrun, hended, hW, hsame⟩ := X25.leave (v := some (.int (nar .char (((((own_u0 (ch i)) &&& (255 : Int32)) <<< ((0 : Int32) &&& 31)) ||| (((own_u1 (ch i)) &&& (255 : Int32)) <<< ((8 : Int32) &&& 31))).toUInt32.toUInt16.toUInt32.toInt32)))) (fun h => by rw [Bd.returns] at h; cases h) (hlocks := BodyLoose.notSynchronized Bd)
  refine ⟨_, _, pre0 _ ?_, hrun, hended, _, _, rfl, ?_, ⟨_, rfl⟩, hW, hsame.mono (by decide) (by decide)⟩
  · show SS p e below m s₁ 0 #[vR (b_o), vI ((Int32.ofNat i))] [] _
    refine st2 _ ?_
    refine zifYes X2 hx hby 3 28 rfl d37_3 ((if0 _ _).trans (feq ((by decide) : ¬ ((1 : Int32) = (0 : Int32)))).2) (by decide) (by decide) ?_
    refine ziloadN X2 hx hby d37_28 rfl ?_
    refine ziconst X2 hx hby (1) d37_29 rfl ?_
    show SS p e below m T2 30 #[vR (b_o), vI ((Int32.ofNat i))] [(.int 1), (.int (Int32.ofNat i))] _
    refine XS.ishl X2.here hx rfl (hb hby d37_30) rfl ?_
    rw [own_dbl]
    show SS p e below m T2 31 #[vR (b_o), vI ((Int32.ofNat i))] [(.int (Int32.ofNat (2 * i)))] _
    refine zistoreN (l' := #[vR (b_o), vI ((Int32.ofNat (2 * i)))]) X2 hx hby d37_31 rfl ?_
    refine zaloadN X2 hx hby d37_32 rfl rfl ?_
    refine ziloadN X2 hx hby d37_33 rfl ?_
    refine ziinc (l' := #[vR (b_o), vI (((Int32.ofNat (2 * i)) + (1 : Int32)))]) X2 hx hby d37_34 rfl rfl ?_
    rw [own_one]
    show SS p e below m T2 37 #[vR (b_o), vI ((Int32.ofNat (2 * i + 1)))] [(.int (Int32.ofNat (2 * i))), (.ref b_o)] _
    refine X2.baloadBytes hx (j := (Int32.ofNat (2 * i))) (v := (.int (own_u0 (ch i)))) (by rw [e2]; exact Ar12.1) (State.isArrayOf_alike hZ.alike Ar12.2.1) Ar12.2.2 hin12 hat12 (g := (mkF m 37 #[vR (b_o), vI ((Int32.ofNat (2 * i + 1)))] [(.int (Int32.ofNat (2 * i))), (.ref b_o)])) rfl rfl (hb hby d37_37) _ ?_
    show SS p e below m T2 38 #[vR (b_o), vI ((Int32.ofNat (2 * i + 1)))] [(.int (own_u0 (ch i)))] _
    refine zsipush X2 hx hby (255) d37_38 rfl ?_
    show SS p e below m T2 41 #[vR (b_o), vI ((Int32.ofNat (2 * i + 1)))] [(.int 255), (.int (own_u0 (ch i)))] _
    refine XS.iand X2.here hx rfl (hb hby d37_41) rfl ?_
    show SS p e below m T2 42 #[vR (b_o), vI ((Int32.ofNat (2 * i + 1)))] [(.int ((own_u0 (ch i)) &&& (255 : Int32)))] _
    refine st16 _ ?_
    show SS p e below m T16 45 #[vR (b_o), vI ((Int32.ofNat (2 * i + 1)))] [(.int 0), (.int ((own_u0 (ch i)) &&& (255 : Int32)))] _
    refine XS.ishl X16.here hx rfl (hb hby d37_45) rfl ?_
    show SS p e below m T16 46 #[vR (b_o), vI ((Int32.ofNat (2 * i + 1)))] [(.int (((own_u0 (ch i)) &&& (255 : Int32)) <<< ((0 : Int32) &&& 31)))] _
    refine zaloadN X16 hx hby d37_46 rfl rfl ?_
    refine ziloadN X16 hx hby d37_47 rfl ?_
    show SS p e below m T16 48 #[vR (b_o), vI ((Int32.ofNat (2 * i + 1)))] [(.int (Int32.ofNat (2 * i + 1))), (.ref b_o), (.int (((own_u0 (ch i)) &&& (255 : Int32)) <<< ((0 : Int32) &&& 31)))] _
    refine X16.baloadBytes hx (j := (Int32.ofNat (2 * i + 1))) (v := (.int (own_u1 (ch i)))) (by rw [e16]; exact Ar21.1) (State.isArrayOf_alike hZ.alike Ar21.2.1) Ar21.2.2 hin21 hat21 (g := (mkF m 48 #[vR (b_o), vI ((Int32.ofNat (2 * i + 1)))] [(.int (Int32.ofNat (2 * i + 1))), (.ref b_o), (.int (((own_u0 (ch i)) &&& (255 : Int32)) <<< ((0 : Int32) &&& 31)))])) rfl rfl (hb hby d37_48) _ ?_
    show SS p e below m T16 49 #[vR (b_o), vI ((Int32.ofNat (2 * i + 1)))] [(.int (own_u1 (ch i))), (.int (((own_u0 (ch i)) &&& (255 : Int32)) <<< ((0 : Int32) &&& 31)))] _
    refine zsipush X16 hx hby (255) d37_49 rfl ?_
    show SS p e below m T16 52 #[vR (b_o), vI ((Int32.ofNat (2 * i + 1)))] [(.int 255), (.int (own_u1 (ch i))), (.int (((own_u0 (ch i)) &&& (255 : Int32)) <<< ((0 : Int32) &&& 31)))] _
    refine XS.iand X16.here hx rfl (hb hby d37_52) rfl ?_
    show SS p e below m T16 53 #[vR (b_o), vI ((Int32.ofNat (2 * i + 1)))] [(.int ((own_u1 (ch i)) &&& (255 : Int32))), (.int (((own_u0 (ch i)) &&& (255 : Int32)) <<< ((0 : Int32) &&& 31)))] _
    refine st25 _ ?_
    show SS p e below m T25 56 #[vR (b_o), vI ((Int32.ofNat (2 * i + 1)))] [(.int 8), (.int ((own_u1 (ch i)) &&& (255 : Int32))), (.int (((own_u0 (ch i)) &&& (255 : Int32)) <<< ((0 : Int32) &&& 31)))] _
    refine XS.ishl X25.here hx rfl (hb hby d37_56) rfl ?_
    show SS p e below m T25 57 #[vR (b_o), vI ((Int32.ofNat (2 * i + 1)))] [(.int (((own_u1 (ch i)) &&& (255 : Int32)) <<< ((8 : Int32) &&& 31))), (.int (((own_u0 (ch i)) &&& (255 : Int32)) <<< ((0 : Int32) &&& 31)))] _
    refine XS.ior X25.here hx rfl (hb hby d37_57) rfl ?_
    show SS p e below m T25 58 #[vR (b_o), vI ((Int32.ofNat (2 * i + 1)))] [(.int ((((own_u0 (ch i)) &&& (255 : Int32)) <<< ((0 : Int32) &&& 31)) ||| (((own_u1 (ch i)) &&& (255 : Int32)) <<< ((8 : Int32) &&& 31))))] _
    refine XS.i2c X25.here hx rfl (hb hby d37_58) rfl ?_
    show SS p e below m T25 59 #[vR (b_o), vI ((Int32.ofNat (2 * i + 1)))] [(.int (((((own_u0 (ch i)) &&& (255 : Int32)) <<< ((0 : Int32) &&& 31)) ||| (((own_u1 (ch i)) &&& (255 : Int32)) <<< ((8 : Int32) &&& 31))).toUInt32.toUInt16.toUInt32.toInt32))] _
    exact retN X25 hx (t := .char) Bd.returns (by simp) (hb hby d37_59) hr
  · show Qown_getC36 Z b_o i k_b ch h0 n0 _ T25.heap _
    rw [e25]
    exact ⟨(by rw [own_u16 (hrg i)]), N0, rfl⟩
theorem own_ef_own_nbl37 (m : MethodId) : entryFrame m #[(.int (37 : Int32))] 1 = mkF m 0 #[.val (.int (37 : Int32))] [] := by first | (simp [entryFrame, mkF, argsToLocals, Value.category]; done) | rfl
def Qown_nbl37 (Z : State) (h0 : Heap) (n0 : Nat) (v : Option Value) (h : Heap) (L : List Loc) : Prop := v = some (.int 74) ∧ Fr n0 L ∧ h = h0
set_option maxRecDepth 65536 in
set_option maxHeartbeats 40000000 in
theorem own_nbl37 (l : Launch) (Z : State) (a0 : Array Value) (hw : ∀ d ∈ tables_1, d.before a0 Z = true) (ws : List Jvm.Cond) (h0 : Heap) (n0 : Nat) (Z0 : n0 ≤ h0.size) :
    MetFree l y_11 (head1 (Jvm.Cond.code y_11 jdk_52_method_3_code 1 (some .int) :: ws) (RM 0 0 0 0)) (fun a U => a = #[(.int 37)] ∧ Z.Warmed39 U.vm ∧ U.heap = h0) (fun _ _ _ _ _ => True) (fun _ U o U' => ∃ v L, o = .returned v ∧ Qown_nbl37 Z  h0 n0 v U'.heap L ∧ FrameEnd U o U' L (RM 0 0 0 0).cells (RM 0 0 0 0).slots) := by
  refine MetFree.of_bodySF (plainFor_of_name own_pn2) hisR ?_
  intro p e s m args below meth c s₁ Bd hml0 hP hK
  obtain ⟨rfl, hZ, hh⟩ := hP
  have hx := Bd.exec
  have hby := Bd.bytes
  have hml : c.maxLocals = 1 := hml0
  have hown : s.vm.findClass "java/lang/StringUTF16" = some m.cls := findClass_of_methodNamed Bd.named
  have X0 : Stand p l e (RM 0 0 0 0) s m #[(.int 37)] below meth c s₁ [] 0 0 := Stand.of_body Bd
  have e0 : s₁.heap = h0 := by rw [← hh, Bd.state]; rfl
  have N0 := Fr.nil n0
  have pre0 : ∀ t, Steps p.tables e below (s₁.setTop (mkF m 0 #[vI (37)] [])) t → Steps p.tables e below (s₁.setTop (entryFrame m #[(.int 37)] 1)) t := fun t k => castTop (own_ef_own_nbl37 m) k
  obtain ⟨fs, hr, hrun, hended, hW, hsame⟩ := X0.leave (v := some (.int 74)) (fun h => by rw [Bd.returns] at h; cases h) (hlocks := BodyLoose.notSynchronized Bd)
  refine ⟨_, _, pre0 _ ?_, hrun, hended, _, _, rfl, ?_, ⟨_, rfl⟩, hW, hsame.mono (by decide) (by decide)⟩
  · show SS p e below m s₁ 0 #[vI (37)] [] _
    refine ziloadN X0 hx hby d35_0 rfl ?_
    refine zifYes X0 hx hby 1 12 rfl d35_1 ((if0 _ _).trans (flt ((by decide) : ¬ ((37 : Int32) < (0 : Int32)))).2.1) (by decide) (by decide) ?_
    refine ziloadN X0 hx hby d35_12 rfl ?_
    show SS p e below m s₁ 13 #[vI (37)] [(.int 37)] _
    refine X0.ldcInt hx hown (mvT hZ (hw _ (gm 161 rfl))) (g := (mkF m 13 #[vI (37)] [(.int 37)])) rfl (hb hby d35_13) _ ?_
    show SS p e below m s₁ 15 #[vI (37)] [(.int 1073741823), (.int 37)] _
    refine zicmpYes X0 hx hby 15 55 rfl d35_15 (tlt ((by decide) : (37 : Int32) < (1073741823 : Int32))).1 (by decide) (by decide) ?_
    refine ziloadN X0 hx hby d35_55 rfl ?_
    refine ziconst X0 hx hby (1) d35_56 rfl ?_
    show SS p e below m s₁ 57 #[vI (37)] [(.int 1), (.int 37)] _
    refine XS.ishl X0.here hx rfl (hb hby d35_57) rfl ?_
    show SS p e below m s₁ 58 #[vI (37)] [(.int 74)] _
    exact retI X0 hx Bd.returns (hb hby d35_58) hr
  · show Qown_nbl37 Z  h0 n0 _ s₁.heap _
    rw [e0]
    exact ⟨rfl, N0, rfl⟩
theorem own_ef_own_nbf37 (m : MethodId) : entryFrame m #[(.int (37 : Int32))] 1 = mkF m 0 #[.val (.int (37 : Int32))] [] := by first | (simp [entryFrame, mkF, argsToLocals, Value.category]; done) | rfl
def Qown_nbf37 (Z : State) (h0 : Heap) (n0 : Nat) (v : Option Value) (h : Heap) (L : List Loc) : Prop := ∃ r_o : Addr, ∃ k_r : ClassId, v = some (.ref r_o) ∧ Fr n0 L ∧ h0.size ≤ r_o ∧ Keep h0 h [] ∧ Arv Z h r_o k_r .byte (74 : Int32) [] (.int 0)
set_option maxRecDepth 65536 in
set_option maxHeartbeats 40000000 in
theorem own_nbf37 (l : Launch) (Z : State) (a0 : Array Value) (hw : ∀ d ∈ tables_1, d.before a0 Z = true) (ws : List Jvm.Cond) (h0 : Heap) (n0 : Nat) (Z0 : n0 ≤ h0.size) :
    MetFree l y_12 (head1 (Jvm.Cond.code y_12 jdk_52_method_2_code 1 (some (.array .byte)) :: ws) (RM 1 1 74 12)) (fun a U => a = #[(.int 37)] ∧ Z.Warmed39 U.vm ∧ U.heap = h0) (fun _ _ _ _ _ => True) (fun _ U o U' => ∃ v L, o = .returned v ∧ Qown_nbf37 Z  h0 n0 v U'.heap L ∧ FrameEnd U o U' L (RM 1 1 74 12).cells (RM 1 1 74 12).slots) := by
  refine MetFree.of_bodySF (plainFor_of_name own_pn2) hisR ?_
  intro p e s m args below meth c s₁ Bd hml0 hP hK
  obtain ⟨rfl, hZ, hh⟩ := hP
  have hx := Bd.exec
  have hby := Bd.bytes
  have hml : c.maxLocals = 1 := hml0
  have hown : s.vm.findClass "java/lang/StringUTF16" = some m.cls := findClass_of_methodNamed Bd.named
  have X0 : Stand p l e (RM 1 1 74 12) s m #[(.int 37)] below meth c s₁ [] 0 0 := Stand.of_body Bd
  have e0 : s₁.heap = h0 := by rw [← hh, Bd.state]; rfl
  have N0 := Fr.nil n0
  have pre0 : ∀ t, Steps p.tables e below (s₁.setTop (mkF m 0 #[vI (37)] [])) t → Steps p.tables e below (s₁.setTop (entryFrame m #[(.int 37)] 1)) t := fun t k => castTop (own_ef_own_nbf37 m) k
  obtain ⟨_, _, ⟨T3, L3, k3, n3⟩, -, X3, ⟨Lc3, hQ3, l3, y3, z3⟩, st3⟩ := Jvm.LawKit.callS X0 hx (y := y_11) hown (mvT hZ (hw _ (gm 158 rfl))) (mvT hZ (hw _ (gm 159 rfl))) (mvT hZ (hw _ (gm 42 rfl))) (mvT hZ (hw _ (gm 160 rfl))) (by decide) (backOf (W := 0) (own_nbl37 l Z a0 hw []  h0 n0 Z0 ) hZ (hw _ (gm 160 rfl)) (hw _ (gm 42 rfl)) (by decide) (by decide)) (g := (mkF m 1 #[vI (37)] [(.int 37)])) rfl (by rw [hml]; rfl) (argsL := [(.int 37)]) (rest := []) (lenOf own_pd2 rfl) rfl (by show 2 * 0 + _ ≤ _; exact Nat.le_of_eq rfl) (hb hby d34_1) (fun _ _ => ⟨rfl, e0, (by decide : 0 + 0 ≤ _), (by decide : 0 + 0 ≤ _)⟩)
  dsimp only [Pt.U, Pt.locs, Pt.cells, Pt.slots] at X3 l3 y3 z3 st3 hQ3
  rw [l3, y3, z3] at X3
  obtain ⟨rfl, Nq3, eh3⟩ := hQ3
  have N4 := Fr.app N0 Nq3
  obtain ⟨T6, h6, k6, X6, e6, E6, A6, Y6, st6⟩ := newPE X3 hx hZ (hw _ (gm 44 rfl)) eh3 (g := (mkF m 4 #[vI (37)] [(.int 74)])) rfl (hb hby d34_4) rfl (by decide) (cap := 74) (by decide) (by decide) (by decide) (by decide) (ad := "[B") (by first | rfl | decide)
  obtain ⟨b6, g6⟩ : ∃ z, z = h0.size := ⟨_, rfl⟩
  rw [← g6] at A6 Y6 st6
  have Sz8 : h0.size ≤ b6 := Nat.le_trans (Keep.refl h0 []).1 (Nat.le_of_eq g6.symm)
  have Kc9 : Keep h0 h6 [] := (Keep.refl h0 []).ext E6
  have V6 : Arv Z h6 b6 k6 .byte (74 : Int32) [] (.int 0) := (Arv.new A6 (by decide))
  obtain ⟨fs, hr, hrun, hended, hW, hsame⟩ := X6.leave (v := some (.ref b6)) (fun h => by rw [Bd.returns] at h; cases h) (hlocks := BodyLoose.notSynchronized Bd)
  refine ⟨_, _, pre0 _ ?_, hrun, hended, _, _, rfl, ?_, ⟨_, rfl⟩, hW, hsame.mono (by decide) (by decide)⟩
  · show SS p e below m s₁ 0 #[vI (37)] [] _
    refine ziloadN X0 hx hby d34_0 rfl ?_
    refine st3 _ ?_
    refine st6 _ ?_
    show SS p e below m T6 6 #[vI (37)] [(.ref b6)] _
    jvm_step X6.here [X6.here.top, hx, (hb hby d34_6), X6.method', Bd.returns, Value.isRef, FieldType.isReference]
    first | (intro acts; rw [hr _ acts rfl rfl rfl]) | rw [hr _ _ rfl rfl rfl]
    exact Steps.refl _
  · show Qown_nbf37 Z  h0 n0 _ T6.heap _
    rw [e6]
    exact ⟨b6, k6, rfl, N4, Sz8, Kc9, V6⟩
theorem own_ef_own_tob37 (m : MethodId) (a_c : Addr) : entryFrame m #[(.ref a_c), (.int (0 : Int32)), (.int (37 : Int32))] 5 = mkF m 0 #[.val (.ref a_c), .val (.int (0 : Int32)), .val (.int (37 : Int32)), .unset, .unset] [] := by first | (simp [entryFrame, mkF, argsToLocals, Value.category]; done) | rfl
def Qown_tob37 (Z : State) (a_c : Addr) (k_c : ClassId) (ch : Nat → Int32) (h0 : Heap) (n0 : Nat) (v : Option Value) (h : Heap) (L : List Loc) : Prop := ∃ r_o : Addr, ∃ k_r : ClassId, v = some (.ref r_o) ∧ Fr n0 L ∧ h0.size ≤ r_o ∧ Keep h0 h [] ∧ Arv Z h r_o k_r .byte (74 : Int32) (own_fl 74 (own_ug ch)) (.int 0)
set_option maxRecDepth 65536 in
set_option maxHeartbeats 40000000 in
theorem own_tob37 (l : Launch) (Z : State) (a0 : Array Value) (hw : ∀ d ∈ tables_1, d.before a0 Z = true) (ws : List Jvm.Cond) (a_c : Addr) (k_c : ClassId) (ch : Nat → Int32) (h0 : Heap) (n0 : Nat) (Z0 : n0 ≤ h0.size) (hA : Arv Z h0 a_c k_c .char (37 : Int32) (own_cl 37 ch) (.int 0)) (hSa : Sta Z Z.heap "java/lang/StringUTF16" "$assertionsDisabled" "Z" (.int 1)) (hSh : Sta Z Z.heap "java/lang/StringUTF16" "HI_BYTE_SHIFT" "I" (.int 0)) (hSl : Sta Z Z.heap "java/lang/StringUTF16" "LO_BYTE_SHIFT" "I" (.int 8)) (hO : Old Z n0 h0) :
    MetFree l y_13 (head1 (Jvm.Cond.code y_13 jdk_52_method_14_code 5 (some (.array .byte)) :: ws) (RM 2 1 74 24)) (fun a U => a = #[(.ref a_c), (.int 0), (.int 37)] ∧ Z.Warmed39 U.vm ∧ U.heap = h0) (fun _ _ _ _ _ => True) (fun _ U o U' => ∃ v L, o = .returned v ∧ Qown_tob37 Z a_c k_c ch h0 n0 v U'.heap L ∧ FrameEnd U o U' L (RM 2 1 74 24).cells (RM 2 1 74 24).slots) := by
  refine MetFree.of_bodySF (plainFor_of_name own_pn2) hisR ?_
  intro p e s m args below meth c s₁ Bd hml0 hP hK
  obtain ⟨rfl, hZ, hh⟩ := hP
  have hx := Bd.exec
  have hby := Bd.bytes
  have hml : c.maxLocals = 5 := hml0
  have hown : s.vm.findClass "java/lang/StringUTF16" = some m.cls := findClass_of_methodNamed Bd.named
  have X0 : Stand p l e (RM 2 1 74 24) s m #[(.ref a_c), (.int 0), (.int 37)] below meth c s₁ [] 0 0 := Stand.of_body Bd
  have e0 : s₁.heap = h0 := by rw [← hh, Bd.state]; rfl
  have N0 := Fr.nil n0
  have pre0 : ∀ t, Steps p.tables e below (s₁.setTop (mkF m 0 #[vR (a_c), vI (0), vI (37), u_, u_] [])) t → Steps p.tables e below (s₁.setTop (entryFrame m #[(.ref a_c), (.int 0), (.int 37)] 5)) t := fun t k => castTop (own_ef_own_tob37 m a_c) k
  obtain ⟨_, _, ⟨T3, L3, k3, n3⟩, -, X3, ⟨Lc3, hQ3, l3, y3, z3⟩, st3⟩ := Jvm.LawKit.callS X0 hx (y := y_12) hown (mvT hZ (hw _ (gm 155 rfl))) (mvT hZ (hw _ (gm 156 rfl))) (mvT hZ (hw _ (gm 42 rfl))) (mvT hZ (hw _ (gm 157 rfl))) (by decide) (backOf (W := 0) (own_nbf37 l Z a0 hw []  h0 n0 Z0 ) hZ (hw _ (gm 157 rfl)) (hw _ (gm 42 rfl)) (by decide) (by decide)) (g := (mkF m 1 #[vR (a_c), vI (0), vI (37), u_, u_] [(.int 37)])) rfl (by rw [hml]; rfl) (argsL := [(.int 37)]) (rest := []) (lenOf own_pd5 rfl) rfl (by show 2 * 0 + _ ≤ _; exact Nat.le_of_eq rfl) (hb hby d33_1) (fun _ _ => ⟨rfl, e0, (by decide : 0 + 1 ≤ _), (by decide : 0 + 74 ≤ _)⟩)
  dsimp only [Pt.U, Pt.locs, Pt.cells, Pt.slots] at X3 l3 y3 z3 st3 hQ3
  rw [l3, y3, z3] at X3
  obtain ⟨r_o_3, k_r_3, rfl, Nq3, sz3_r_o, K3, Pf3_0⟩ := hQ3
  have N4 := Fr.app N0 Nq3
  have Ne5 : a_c ≠ r_o_3 := Nat.ne_of_lt (Nat.lt_of_lt_of_le hA.lt sz3_r_o)
  have Ge6 : n0 ≤ r_o_3 := Nat.le_trans Z0 sz3_r_o
  have Sz7 : h0.size ≤ r_o_3 := Nat.le_trans (Keep.refl h0 []).1 sz3_r_o
  have Kc8 : Keep h0 T3.heap [] := (Keep.refl h0 []).trans K3 all0
  have Zs9 : n0 ≤ T3.heap.size := Nat.le_trans Z0 K3.1
  have pre14 : ∀ t, Steps p.tables e below (T3.setTop (mkF m 8 #[vR (a_c), vI (0), vI (37), vR (r_o_3), vI (0)] [])) t → Steps p.tables e below (s₁.setTop (entryFrame m #[(.ref a_c), (.int 0), (.int 37)] 5)) t := by
    intro t kt
    refine pre0 _ ?_
    show SS p e below m s₁ 0 #[vR (a_c), vI (0), vI (37), u_, u_] [] _
    refine ziloadN X0 hx hby d33_0 rfl ?_
    refine st3 _ ?_
    refine zastoreN (l' := #[vR (a_c), vI (0), vI (37), vR (r_o_3), u_]) X3 hx hby d33_4 rfl rfl ?_
    refine ziconst X3 hx hby (0) d33_5 rfl ?_
    refine zistore (l' := #[vR (a_c), vI (0), vI (37), vR (r_o_3), vI (0)]) X3 hx hby d33_6 rfl ?_
    exact kt
  have Fq16 : Arv Z T3.heap a_c k_c .char (37 : Int32) (own_cl 37 ch) (.int 0) := (hA.keep K3 nin0)
  have Fq17 : Old Z n0 T3.heap := (hO.keep K3 all0)
  obtain ⟨k, i, TL15, hL15, LL15, XL15, eL15, NL15, ZL15, KL15, hi, hAL, hBL, hOL, preL15⟩ : ∃ (k : Nat) (i : Nat) (TL15 : State) (hL15 : Heap) (LL15 : List Loc), Stand p l e (RM 2 1 74 24) s m #[(.ref a_c), (.int 0), (.int 37)] below meth c TL15 LL15 1 74 ∧ TL15.heap = hL15 ∧ Fr n0 LL15 ∧ n0 ≤ hL15.size ∧ Keep h0 hL15 [] ∧ (i + k = 37) ∧ Arv Z hL15 a_c k_c .char (37 : Int32) (own_cl 37 ch) (.int 0) ∧ Arv Z hL15 r_o_3 k_r_3 .byte (74 : Int32) (own_fl 74 (own_fi (own_ug ch) (2 * i))) (.int 0) ∧ Old Z n0 hL15 ∧ (∀ t, Steps p.tables e below (TL15.setTop (mkF m 8 #[vR (a_c), vI ((Int32.ofNat i)), vI (37), vR (r_o_3), vI ((Int32.ofNat i))] [])) t → Steps p.tables e below (s₁.setTop (entryFrame m #[(.ref a_c), (.int 0), (.int 37)] 5)) t) := ⟨37, 0, T3, T3.heap, _, X3, rfl, N4, Zs9, Kc8, (Nat.zero_add _), Fq16, (Pf3_0.pad own_fi0), Fq17, pre14⟩
  induction k generalizing i TL15 hL15 LL15 with
  | zero =>
    obtain ⟨fs, hr, hrun, hended, hW, hsame⟩ := XL15.leave (v := some (.ref r_o_3)) (fun h => by rw [Bd.returns] at h; cases h) (hlocks := BodyLoose.notSynchronized Bd)
    refine ⟨_, _, preL15 _ ?_, hrun, hended, _, _, rfl, ?_, ⟨_, rfl⟩, hW, hsame.mono (by decide) (by decide)⟩
    · show SS p e below m TL15 8 #[vR (a_c), vI ((Int32.ofNat i)), vI (37), vR (r_o_3), vI ((Int32.ofNat i))] [] _
      refine ziload XL15 hx hby d33_8 rfl ?_
      refine ziloadN XL15 hx hby d33_10 rfl ?_
      refine zicmpYes XL15 hx hby 11 32 rfl d33_11 (flt ((own_nltN (n := 37) (by omega) (by omega)) : ¬ ((Int32.ofNat i) < (37 : Int32)))).2.1 (by decide) (by decide) ?_
      refine zaloadN XL15 hx hby d33_32 rfl rfl ?_
      show SS p e below m TL15 33 #[vR (a_c), vI ((Int32.ofNat i)), vI (37), vR (r_o_3), vI ((Int32.ofNat i))] [(.ref r_o_3)] _
      jvm_step XL15.here [XL15.here.top, hx, (hb hby d33_33), XL15.method', Bd.returns, Value.isRef, FieldType.isReference]
      first | (intro acts; rw [hr _ acts rfl rfl rfl]) | rw [hr _ _ rfl rfl rfl]
      exact Steps.refl _
    · show Qown_tob37 Z a_c k_c ch h0 n0 _ TL15.heap _
      rw [eL15]
      exact ⟨r_o_3, k_r_3, rfl, NL15, Sz7, KL15, (by rw [← own_finE (i := 2 * i) (g := own_ug ch) (by omega)]; exact hBL)⟩
  | succ k ih15 =>
    obtain ⟨cl31, Ar31, q31, S31, M31, H31, G31⟩ := id hAL
    have hin31 : ¬ ((Int32.ofNat i) < 0 ∨ cl31.slots.size ≤ ((Int32.ofNat i)).toNatClampNeg) := inb_of S31 ⟨own_nneg (by omega), (own_ltN (n := 37) (by omega) (by decide))⟩
    have hat31 : cl31.slots[((Int32.ofNat i)).toNatClampNeg]? = some (.int (ch i)) := H31.at hin31 (own_cl_atI (n := 37) (by omega) (by decide))
    obtain ⟨_, _, ⟨T33, L33, k33, n33⟩, -, X33, ⟨Lc33, hQ33, l33, y33, z33⟩, st33⟩ := Jvm.LawKit.callS XL15 hx (y := y_10) hown (mvT hZ (hw _ (gm 162 rfl))) (mvT hZ (hw _ (gm 163 rfl))) (mvT hZ (hw _ (gm 42 rfl))) (mvT hZ (hw _ (gm 164 rfl))) (by decide) (backOf (W := 0) (own_putC l Z a0 hw [] r_o_3 i (ch i) k_r_3 (74 : Int32) 74 (own_ug ch) hL15 n0 ZL15 hBL Ge6 hSa hSh hSl hOL (by first | assumption | decide : (74 : Int32) = Int32.ofNat 74) (by first | assumption | decide : 74 < 2147483648) (by omega) (own_ug0 ch i) (own_ug1 ch i)) hZ (hw _ (gm 164 rfl)) (hw _ (gm 42 rfl)) (by decide) (by decide)) (g := (mkF m 20 #[vR (a_c), vI ((Int32.ofNat i)), vI (37), vR (r_o_3), vI ((Int32.ofNat i))] [(.int (ch i)), (.int (Int32.ofNat i)), (.ref r_o_3)])) rfl (by rw [hml]; rfl) (argsL := [(.ref r_o_3), (.int (Int32.ofNat i)), (.int (ch i))]) (rest := []) (lenOf own_pd6 rfl) rfl (by show 2 * 0 + _ ≤ _; exact Nat.le_of_eq rfl) (hb hby d33_20) (fun _ _ => ⟨rfl, eL15, (by decide : 1 + 0 ≤ _), (by decide : 74 + 0 ≤ _)⟩)
    dsimp only [Pt.U, Pt.locs, Pt.cells, Pt.slots] at X33 l33 y33 z33 st33 hQ33
    rw [l33, y33, z33] at X33
    obtain ⟨rfl, Nq33, K33, Pf33_0⟩ := hQ33
    have N34 := Fr.app NL15 Nq33
    have Kc35 : Keep h0 T33.heap [] := KL15.trans K33 (allS (Or.inr Sz7) all0)
    have Zs36 : n0 ≤ T33.heap.size := Nat.le_trans ZL15 K33.1
    have Fq41 : Arv Z T33.heap a_c k_c .char (37 : Int32) (own_cl 37 ch) (.int 0) := (hAL.keep K33 (ninS Ne5 nin0))
    have Fq42 : Old Z n0 T33.heap := (hOL.keep K33 (allS Ge6 all0))
    have preB43 : ∀ t, Steps p.tables e below (T33.setTop (mkF m 8 #[vR (a_c), vI ((Int32.ofNat (i + 1))), vI (37), vR (r_o_3), vI ((Int32.ofNat (i + 1)))] [])) t → Steps p.tables e below (s₁.setTop (entryFrame m #[(.ref a_c), (.int 0), (.int 37)] 5)) t := by
      intro t kt
      refine preL15 _ ?_
      show SS p e below m TL15 8 #[vR (a_c), vI ((Int32.ofNat i)), vI (37), vR (r_o_3), vI ((Int32.ofNat i))] [] _
      refine ziload XL15 hx hby d33_8 rfl ?_
      refine ziloadN XL15 hx hby d33_10 rfl ?_
      refine zicmpNo XL15 hx hby d33_11 (tlt ((own_ltN (n := 37) (by omega) (by decide)) : (Int32.ofNat i) < (37 : Int32))).2.1 ?_
      refine zaloadN XL15 hx hby d33_14 rfl rfl ?_
      refine ziload XL15 hx hby d33_15 rfl ?_
      refine zaloadN XL15 hx hby d33_17 rfl rfl ?_
      refine ziloadN XL15 hx hby d33_18 rfl ?_
      show SS p e below m TL15 19 #[vR (a_c), vI ((Int32.ofNat i)), vI (37), vR (r_o_3), vI ((Int32.ofNat i))] [(.int (Int32.ofNat i)), (.ref a_c), (.int (Int32.ofNat i)), (.ref r_o_3)] _
      refine XL15.caload hx (j := (Int32.ofNat i)) (v := (.int (ch i))) (by rw [eL15]; exact Ar31.1) (State.isArrayOf_alike hZ.alike Ar31.2.1) Ar31.2.2 hin31 hat31 (g := (mkF m 19 #[vR (a_c), vI ((Int32.ofNat i)), vI (37), vR (r_o_3), vI ((Int32.ofNat i))] [(.int (Int32.ofNat i)), (.ref a_c), (.int (Int32.ofNat i)), (.ref r_o_3)])) rfl rfl (hb hby d33_19) _ ?_
      show SS p e below m TL15 20 #[vR (a_c), vI ((Int32.ofNat i)), vI (37), vR (r_o_3), vI ((Int32.ofNat i))] [(.int (ch i)), (.int (Int32.ofNat i)), (.ref r_o_3)] _
      refine st33 _ ?_
      refine ziinc (l' := #[vR (a_c), vI (((Int32.ofNat i) + (1 : Int32))), vI (37), vR (r_o_3), vI ((Int32.ofNat i))]) X33 hx hby d33_23 rfl rfl ?_
      refine ziinc (l' := #[vR (a_c), vI (((Int32.ofNat i) + (1 : Int32))), vI (37), vR (r_o_3), vI (((Int32.ofNat i) + (1 : Int32)))]) X33 hx hby d33_26 rfl rfl ?_
      refine zgoto X33 hx hby 29 8 rfl d33_29 (by decide) (by decide) ?_
      show SS p e below m T33 8 #[vR (a_c), vI (((Int32.ofNat i) + (1 : Int32))), vI (37), vR (r_o_3), vI (((Int32.ofNat i) + (1 : Int32)))] [] _
      rw [own_one]
      exact kt
    exact ih15 (i + 1) T33 T33.heap _ X33 rfl N34 Zs36 Kc35 (by omega) Fq41 Pf33_0 Fq42 preB43
theorem own_ef_own_getC37 (m : MethodId) (b_o : Addr) (i : Nat) : entryFrame m #[(.ref b_o), (.int (Int32.ofNat i))] 2 = mkF m 0 #[.val (.ref b_o), .val (.int (Int32.ofNat i))] [] := by first | (simp [entryFrame, mkF, argsToLocals, Value.category]; done) | rfl
def Qown_getC37 (Z : State) (b_o : Addr) (i : Nat) (k_b : ClassId) (ch : Nat → Int32) (h0 : Heap) (n0 : Nat) (v : Option Value) (h : Heap) (L : List Loc) : Prop := v = some (.int (ch i)) ∧ Fr n0 L ∧ h = h0
set_option maxRecDepth 65536 in
set_option maxHeartbeats 40000000 in
theorem own_getC37 (l : Launch) (Z : State) (a0 : Array Value) (hw : ∀ d ∈ tables_1, d.before a0 Z = true) (ws : List Jvm.Cond) (b_o : Addr) (i : Nat) (k_b : ClassId) (ch : Nat → Int32) (h0 : Heap) (n0 : Nat) (Z0 : n0 ≤ h0.size) (hB : Arv Z h0 b_o k_b .byte (74 : Int32) (own_fl 74 (own_ug ch)) (.int 0)) (hSa : Sta Z Z.heap "java/lang/StringUTF16" "$assertionsDisabled" "Z" (.int 1)) (hSh : Sta Z Z.heap "java/lang/StringUTF16" "HI_BYTE_SHIFT" "I" (.int 0)) (hSl : Sta Z Z.heap "java/lang/StringUTF16" "LO_BYTE_SHIFT" "I" (.int 8)) (hO : Old Z n0 h0) (hi : i < 37) (hrg : ∀ j, nar .char (ch j) = ch j) :
    MetFree l y_14 (head1 (Jvm.Cond.code y_14 jdk_52_method_5_code 2 (some .char) :: ws) (RM 0 0 0 0)) (fun a U => a = #[(.ref b_o), (.int (Int32.ofNat i))] ∧ Z.Warmed39 U.vm ∧ U.heap = h0) (fun _ _ _ _ _ => True) (fun _ U o U' => ∃ v L, o = .returned v ∧ Qown_getC37 Z b_o i k_b ch h0 n0 v U'.heap L ∧ FrameEnd U o U' L (RM 0 0 0 0).cells (RM 0 0 0 0).slots) := by
  refine MetFree.of_bodySF (plainFor_of_name own_pn2) hisR ?_
  intro p e s m args below meth c s₁ Bd hml0 hP hK
  obtain ⟨rfl, hZ, hh⟩ := hP
  have hx := Bd.exec
  have hby := Bd.bytes
  have hml : c.maxLocals = 2 := hml0
  have hown : s.vm.findClass "java/lang/StringUTF16" = some m.cls := findClass_of_methodNamed Bd.named
  have X0 : Stand p l e (RM 0 0 0 0) s m #[(.ref b_o), (.int (Int32.ofNat i))] below meth c s₁ [] 0 0 := Stand.of_body Bd
  have e0 : s₁.heap = h0 := by rw [← hh, Bd.state]; rfl
  have N0 := Fr.nil n0
  have pre0 : ∀ t, Steps p.tables e below (s₁.setTop (mkF m 0 #[vR (b_o), vI ((Int32.ofNat i))] [])) t → Steps p.tables e below (s₁.setTop (entryFrame m #[(.ref b_o), (.int (Int32.ofNat i))] 2)) t := fun t k => castTop (own_ef_own_getC37 m b_o i) k
  obtain ⟨T2, X2, e2, st2⟩ := getS2 X0 hx hZ hown (host := "") (Or.inl (hw _ (gm 165 rfl))) Via.refl e0 (hSa.ext hO.2) (g := (mkF m 0 #[vR (b_o), vI ((Int32.ofNat i))] [])) rfl (hb hby d37_0)
  obtain ⟨cl12, Ar12, q12, S12, M12, H12, G12⟩ := id hB
  have hin12 : ¬ ((Int32.ofNat (2 * i)) < 0 ∨ cl12.slots.size ≤ ((Int32.ofNat (2 * i))).toNatClampNeg) := inb_of S12 ⟨own_nneg (by omega), (own_ltN (n := 74) (by omega) (by decide))⟩
  have hat12 : cl12.slots[((Int32.ofNat (2 * i))).toNatClampNeg]? = some (.int (own_u0 (ch i))) := H12.at hin12 ((own_fl_atI (by omega) (by omega)).trans (own_ug0 ch i))
  obtain ⟨T16, X16, e16, st16⟩ := getS2 X2 hx hZ hown (host := "") (Or.inl (hw _ (gm 166 rfl))) Via.refl e2 (hSh.ext hO.2) (g := (mkF m 42 #[vR (b_o), vI ((Int32.ofNat (2 * i + 1)))] [(.int ((own_u0 (ch i)) &&& (255 : Int32)))])) rfl (hb hby d37_42)
  obtain ⟨cl21, Ar21, q21, S21, M21, H21, G21⟩ := id hB
  have hin21 : ¬ ((Int32.ofNat (2 * i + 1)) < 0 ∨ cl21.slots.size ≤ ((Int32.ofNat (2 * i + 1))).toNatClampNeg) := inb_of S21 ⟨own_nneg (by omega), (own_ltN (n := 74) (by omega) (by decide))⟩
  have hat21 : cl21.slots[((Int32.ofNat (2 * i + 1))).toNatClampNeg]? = some (.int (own_u1 (ch i))) := H21.at hin21 ((own_fl_atI (by omega) (by omega)).trans (own_ug1 ch i))
  obtain ⟨T25, X25, e25, st25⟩ := getS2 X16 hx hZ hown (host := "") (Or.inl (hw _ (gm 167 rfl))) Via.refl e16 (hSl.ext hO.2) (g := (mkF m 53 #[vR (b_o), vI ((Int32.ofNat (2 * i + 1)))] [(.int ((own_u1 (ch i)) &&& (255 : Int32))), (.int (((own_u0 (ch i)) &&& (255 : Int32)) <<< ((0 : Int32) &&& 31)))])) rfl (hb hby d37_53)
  obtain ⟨fs, hr, hrun, hended, hW, hsame⟩ := X25.leave (v := some (.int (nar .char (((((own_u0 (ch i)) &&& (255 : Int32)) <<< ((0 : Int32) &&& 31)) ||| (((own_u1 (ch i)) &&& (255 : Int32)) <<< ((8 : Int32) &&& 31))).toUInt32.toUInt16.toUInt32.toInt32)))) (fun h => by rw [Bd.returns] at h; cases h) (hlocks := BodyLoose.notSynchronized Bd)
  refine ⟨_, _, pre0 _ ?_, hrun, hended, _, _, rfl, ?_, ⟨_, rfl⟩, hW, hsame.mono (by decide) (by decide)⟩
  · show SS p e below m s₁ 0 #[vR (b_o), vI ((Int32.ofNat i))] [] _
    refine st2 _ ?_
    refine zifYes X2 hx hby 3 28 rfl d37_3 ((if0 _ _).trans (feq ((by decide) : ¬ ((1 : Int32) = (0 : Int32)))).2) (by decide) (by decide) ?_
    refine ziloadN X2 hx hby d37_28 rfl ?_
    refine ziconst X2 hx hby (1) d37_29 rfl ?_
    show SS p e below m T2 30 #[vR (b_o), vI ((Int32.ofNat i))] [(.int 1), (.int (Int32.ofNat i))] _
    refine XS.ishl X2.here hx rfl (hb hby d37_30) rfl ?_
    rw [own_dbl]
    show SS p e below m T2 31 #[vR (b_o), vI ((Int32.ofNat i))] [(.int (Int32.ofNat (2 * i)))] _
    refine zistoreN (l' := #[vR (b_o), vI ((Int32.ofNat (2 * i)))]) X2 hx hby d37_31 rfl ?_
    refine zaloadN X2 hx hby d37_32 rfl rfl ?_
    refine ziloadN X2 hx hby d37_33 rfl ?_
    refine ziinc (l' := #[vR (b_o), vI (((Int32.ofNat (2 * i)) + (1 : Int32)))]) X2 hx hby d37_34 rfl rfl ?_
    rw [own_one]
    show SS p e below m T2 37 #[vR (b_o), vI ((Int32.ofNat (2 * i + 1)))] [(.int (Int32.ofNat (2 * i))), (.ref b_o)] _
    refine X2.baloadBytes hx (j := (Int32.ofNat (2 * i))) (v := (.int (own_u0 (ch i)))) (by rw [e2]; exact Ar12.1) (State.isArrayOf_alike hZ.alike Ar12.2.1) Ar12.2.2 hin12 hat12 (g := (mkF m 37 #[vR (b_o), vI ((Int32.ofNat (2 * i + 1)))] [(.int (Int32.ofNat (2 * i))), (.ref b_o)])) rfl rfl (hb hby d37_37) _ ?_
    show SS p e below m T2 38 #[vR (b_o), vI ((Int32.ofNat (2 * i + 1)))] [(.int (own_u0 (ch i)))] _
    refine zsipush X2 hx hby (255) d37_38 rfl ?_
    show SS p e below m T2 41 #[vR (b_o), vI ((Int32.ofNat (2 * i + 1)))] [(.int 255), (.int (own_u0 (ch i)))] _
    refine XS.iand X2.here hx rfl (hb hby d37_41) rfl ?_
    show SS p e below m T2 42 #[vR (b_o), vI ((Int32.ofNat (2 * i + 1)))] [(.int ((own_u0 (ch i)) &&& (255 : Int32)))] _
    refine st16 _ ?_
    show SS p e below m T16 45 #[vR (b_o), vI ((Int32.ofNat (2 * i + 1)))] [(.int 0), (.int ((own_u0 (ch i)) &&& (255 : Int32)))] _
    refine XS.ishl X16.here hx rfl (hb hby d37_45) rfl ?_
    show SS p e below m T16 46 #[vR (b_o), vI ((Int32.ofNat (2 * i + 1)))] [(.int (((own_u0 (ch i)) &&& (255 : Int32)) <<< ((0 : Int32) &&& 31)))] _
    refine zaloadN X16 hx hby d37_46 rfl rfl ?_
    refine ziloadN X16 hx hby d37_47 rfl ?_
    show SS p e below m T16 48 #[vR (b_o), vI ((Int32.ofNat (2 * i + 1)))] [(.int (Int32.ofNat (2 * i + 1))), (.ref b_o), (.int (((own_u0 (ch i)) &&& (255 : Int32)) <<< ((0 : Int32) &&& 31)))] _
    refine X16.baloadBytes hx (j := (Int32.ofNat (2 * i + 1))) (v := (.int (own_u1 (ch i)))) (by rw [e16]; exact Ar21.1) (State.isArrayOf_alike hZ.alike Ar21.2.1) Ar21.2.2 hin21 hat21 (g := (mkF m 48 #[vR (b_o), vI ((Int32.ofNat (2 * i + 1)))] [(.int (Int32.ofNat (2 * i + 1))), (.ref b_o), (.int (((own_u0 (ch i)) &&& (255 : Int32)) <<< ((0 : Int32) &&& 31)))])) rfl rfl (hb hby d37_48) _ ?_
    show SS p e below m T16 49 #[vR (b_o), vI ((Int32.ofNat (2 * i + 1)))] [(.int (own_u1 (ch i))), (.int (((own_u0 (ch i)) &&& (255 : Int32)) <<< ((0 : Int32) &&& 31)))] _
    refine zsipush X16 hx hby (255) d37_49 rfl ?_
    show SS p e below m T16 52 #[vR (b_o), vI ((Int32.ofNat (2 * i + 1)))] [(.int 255), (.int (own_u1 (ch i))), (.int (((own_u0 (ch i)) &&& (255 : Int32)) <<< ((0 : Int32) &&& 31)))] _
    refine XS.iand X16.here hx rfl (hb hby d37_52) rfl ?_
    show SS p e below m T16 53 #[vR (b_o), vI ((Int32.ofNat (2 * i + 1)))] [(.int ((own_u1 (ch i)) &&& (255 : Int32))), (.int (((own_u0 (ch i)) &&& (255 : Int32)) <<< ((0 : Int32) &&& 31)))] _
    refine st25 _ ?_
    show SS p e below m T25 56 #[vR (b_o), vI ((Int32.ofNat (2 * i + 1)))] [(.int 8), (.int ((own_u1 (ch i)) &&& (255 : Int32))), (.int (((own_u0 (ch i)) &&& (255 : Int32)) <<< ((0 : Int32) &&& 31)))] _
    refine XS.ishl X25.here hx rfl (hb hby d37_56) rfl ?_
    show SS p e below m T25 57 #[vR (b_o), vI ((Int32.ofNat (2 * i + 1)))] [(.int (((own_u1 (ch i)) &&& (255 : Int32)) <<< ((8 : Int32) &&& 31))), (.int (((own_u0 (ch i)) &&& (255 : Int32)) <<< ((0 : Int32) &&& 31)))] _
    refine XS.ior X25.here hx rfl (hb hby d37_57) rfl ?_
    show SS p e below m T25 58 #[vR (b_o), vI ((Int32.ofNat (2 * i + 1)))] [(.int ((((own_u0 (ch i)) &&& (255 : Int32)) <<< ((0 : Int32) &&& 31)) ||| (((own_u1 (ch i)) &&& (255 : Int32)) <<< ((8 : Int32) &&& 31))))] _
    refine XS.i2c X25.here hx rfl (hb hby d37_58) rfl ?_
    show SS p e below m T25 59 #[vR (b_o), vI ((Int32.ofNat (2 * i + 1)))] [(.int (((((own_u0 (ch i)) &&& (255 : Int32)) <<< ((0 : Int32) &&& 31)) ||| (((own_u1 (ch i)) &&& (255 : Int32)) <<< ((8 : Int32) &&& 31))).toUInt32.toUInt16.toUInt32.toInt32))] _
    exact retN X25 hx (t := .char) Bd.returns (by simp) (hb hby d37_59) hr
  · show Qown_getC37 Z b_o i k_b ch h0 n0 _ T25.heap _
    rw [e25]
    exact ⟨(by rw [own_u16 (hrg i)]), N0, rfl⟩
theorem own_cfz (z : Int32) : nar .byte ((((z - z).toUInt32 >>> ((31 : Int32) &&& 31).toUInt32).toInt32).toInt8.toInt32) = (0 : Int32) := by rw [Int32.sub_self]; rfl
theorem own_ef_own_comp3L (m : MethodId) (a_c : Addr) (z : Int32) : entryFrame m #[(.ref a_c), (.int (0 : Int32)), (.int z)] 6 = mkF m 0 #[.val (.ref a_c), .val (.int (0 : Int32)), .val (.int z), .unset, .unset, .unset] [] := by first | (simp [entryFrame, mkF, argsToLocals, Value.category]; done) | rfl
theorem own_pd7 : parseMethodDescriptor "([CI[BII)I" = some ⟨[(.array .char), .int, (.array .byte), .int, .int], some .int⟩ := by decide +kernel
theorem d11_0 : decode b_11 0 = .ok (.iload_n 2, 1) := by decide +kernel
theorem d11_1 : decode b_11 1 = .ok (.newarray .byte, 2) := by decide +kernel
theorem d11_3 : decode b_11 3 = .ok (.astore_n 3, 1) := by decide +kernel
theorem d11_4 : decode b_11 4 = .ok (.aload_n 0, 1) := by decide +kernel
theorem d11_5 : decode b_11 5 = .ok (.iload_n 1, 1) := by decide +kernel
theorem d11_6 : decode b_11 6 = .ok (.aload_n 3, 1) := by decide +kernel
theorem d11_7 : decode b_11 7 = .ok (.iconst 0, 1) := by decide +kernel
theorem d11_8 : decode b_11 8 = .ok (.iload_n 2, 1) := by decide +kernel
theorem d11_9 : decode b_11 9 = .ok (.invokestatic 115, 3) := by decide +kernel
theorem d11_12 : decode b_11 12 = .ok (.istore 4, 2) := by decide +kernel
theorem d11_14 : decode b_11 14 = .ok (.iload 4, 2) := by decide +kernel
theorem d11_16 : decode b_11 16 = .ok (.iload_n 2, 1) := by decide +kernel
theorem d11_17 : decode b_11 17 = .ok (.if_icmp .eq 40, 3) := by decide +kernel
theorem d11_57 : decode b_11 57 = .ok (.aload_n 3, 1) := by decide +kernel
theorem d11_58 : decode b_11 58 = .ok (.areturn, 1) := by decide +kernel
def Qown_comp3L (Z : State) (a_c : Addr) (k_c : ClassId) (ch : Nat → Int32) (z : Int32) (n : Nat) (h0 : Heap) (n0 : Nat) (v : Option Value) (h : Heap) (L : List Loc) : Prop := ∃ r_o : Addr, ∃ k_r : ClassId, v = some (.ref r_o) ∧ Fr n0 L ∧ h0.size ≤ r_o ∧ Keep h0 h [] ∧ Arv Z h r_o k_r .byte z (own_fl n (own_bg ch)) (.int 0)
set_option maxRecDepth 65536 in
set_option maxHeartbeats 40000000 in
theorem own_comp3L (l : Launch) (Z : State) (a0 : Array Value) (hw : ∀ d ∈ tables_1, d.before a0 Z = true) (ws : List Jvm.Cond) (a_c : Addr) (k_c : ClassId) (ch : Nat → Int32) (z : Int32) (n : Nat) (h0 : Heap) (n0 : Nat) (Z0 : n0 ≤ h0.size) (hA : Arv Z h0 a_c k_c .char z (own_cl n ch) (.int 0)) (hl : ∀ j, j < n → ¬ (255 : Int32) < ch j) (hz : z = Int32.ofNat n) (hn : n ≤ 37) (hO : Old Z n0 h0) :
    MetFree l y_15 (head1 (Jvm.Cond.code y_15 jdk_52_method_16_code 6 (some (.array .byte)) :: ws) (RM 1 1 37 18)) (fun a U => a = #[(.ref a_c), (.int 0), (.int z)] ∧ Z.Warmed39 U.vm ∧ U.heap = h0) (fun _ _ _ _ _ => True) (fun _ U o U' => ∃ v L, o = .returned v ∧ Qown_comp3L Z a_c k_c ch z n h0 n0 v U'.heap L ∧ FrameEnd U o U' L (RM 1 1 37 18).cells (RM 1 1 37 18).slots) := by
  refine MetFree.of_bodySF (plainFor_of_name own_pn2) hisR ?_
  intro p e s m args below meth c s₁ Bd hml0 hP hK
  obtain ⟨rfl, hZ, hh⟩ := hP
  have hx := Bd.exec
  have hby := Bd.bytes
  have hml : c.maxLocals = 6 := hml0
  have hown : s.vm.findClass "java/lang/StringUTF16" = some m.cls := findClass_of_methodNamed Bd.named
  have X0 : Stand p l e (RM 1 1 37 18) s m #[(.ref a_c), (.int 0), (.int z)] below meth c s₁ [] 0 0 := Stand.of_body Bd
  have e0 : s₁.heap = h0 := by rw [← hh, Bd.state]; rfl
  have N0 := Fr.nil n0
  have pre0 : ∀ t, Steps p.tables e below (s₁.setTop (mkF m 0 #[vR (a_c), vI (0), vI (z), u_, u_, u_] [])) t → Steps p.tables e below (s₁.setTop (entryFrame m #[(.ref a_c), (.int 0), (.int z)] 6)) t := fun t k => castTop (own_ef_own_comp3L m a_c z) k
  obtain ⟨T3, h3, k3, X3, e3, E3, A3, Y3, st3⟩ := newPE X0 hx hZ (hw _ (gm 44 rfl)) e0 (g := (mkF m 1 #[vR (a_c), vI (0), vI (z), u_, u_, u_] [(.int z)])) rfl (hb hby d11_1) rfl (own_nnz hz hn) (cap := 37) (own_cap hz hn) (by decide) (by decide) (by decide) (ad := "[B") (by first | rfl | decide)
  obtain ⟨b3, g3⟩ : ∃ z, z = h0.size := ⟨_, rfl⟩
  rw [← g3] at A3 Y3 st3
  have Ne4 : a_c ≠ b3 := Nat.ne_of_lt (Nat.lt_of_lt_of_le hA.lt (Nat.le_of_eq g3.symm))
  have Ge5 : n0 ≤ b3 := Nat.le_trans Z0 (Nat.le_of_eq g3.symm)
  have Sz6 : h0.size ≤ b3 := Nat.le_trans (Keep.refl h0 []).1 (Nat.le_of_eq g3.symm)
  have Kc7 : Keep h0 h3 [] := (Keep.refl h0 []).ext E3
  have Zs8 : n0 ≤ h3.size := (Nat.le_trans Z0 E3.1)
  have V3 : Arv Z h3 b3 k3 .byte z [] (.int 0) := (Arv.new A3 (own_nnz hz hn))
  have Vz10 : Arv Z h3 b3 k3 .byte z (own_fl n (own_fi (own_bg ch) 0)) (.int 0) := (V3).pad own_fi0
  have Fq18 : Arv Z h3 a_c k_c .char z (own_cl n ch) (.int 0) := (hA.ext E3)
  obtain ⟨_, _, ⟨T17, L17, k17, n17⟩, -, X17, ⟨Lc17, hQ17, l17, y17, z17⟩, st17⟩ := Jvm.LawKit.callS X3 hx (y := y_9) hown (mvT hZ (hw _ (gm 45 rfl))) (mvT hZ (hw _ (gm 46 rfl))) (mvT hZ (hw _ (gm 42 rfl))) (mvT hZ (hw _ (gm 47 rfl))) (by decide) (backOf (W := 0) (own_comp5L l Z a0 hw [] a_c k_c ch b3 k3 z n h3 n0 Zs8 Fq18 Vz10 Ne4 Ge5 hz (by omega) hl) hZ (hw _ (gm 47 rfl)) (hw _ (gm 42 rfl)) (by decide) (by decide)) (g := (mkF m 9 #[vR (a_c), vI (0), vI (z), vR (b3), u_, u_] [(.int z), (.int 0), (.ref b3), (.int 0), (.ref a_c)])) rfl (by rw [hml]; rfl) (argsL := [(.ref a_c), (.int 0), (.ref b3), (.int 0), (.int z)]) (rest := []) (lenOf own_pd7 rfl) rfl (by show 2 * 0 + _ ≤ _; exact Nat.le_of_eq rfl) (hb hby d11_9) (fun _ _ => ⟨rfl, e3, (by decide : 1 + 0 ≤ _), (by decide : 37 + 0 ≤ _)⟩)
  dsimp only [Pt.U, Pt.locs, Pt.cells, Pt.slots] at X17 l17 y17 z17 st17 hQ17
  rw [l17, y17, z17] at X17
  obtain ⟨rfl, Nq17, K17, Pf17_0⟩ := hQ17
  have N19 := Fr.app N0 Nq17
  have Kc20 : Keep h0 T17.heap [] := Kc7.trans K17 (allS (Or.inr Sz6) all0)
  obtain ⟨fs, hr, hrun, hended, hW, hsame⟩ := X17.leave (v := some (.ref b3)) (fun h => by rw [Bd.returns] at h; cases h) (hlocks := BodyLoose.notSynchronized Bd)
  refine ⟨_, _, pre0 _ ?_, hrun, hended, _, _, rfl, ?_, ⟨_, rfl⟩, hW, hsame.mono (by decide) (by decide)⟩
  · show SS p e below m s₁ 0 #[vR (a_c), vI (0), vI (z), u_, u_, u_] [] _
    refine ziloadN X0 hx hby d11_0 rfl ?_
    refine st3 _ ?_
    refine zastoreN (l' := #[vR (a_c), vI (0), vI (z), vR (b3), u_, u_]) X3 hx hby d11_3 rfl rfl ?_
    refine zaloadN X3 hx hby d11_4 rfl rfl ?_
    refine ziloadN X3 hx hby d11_5 rfl ?_
    refine zaloadN X3 hx hby d11_6 rfl rfl ?_
    refine ziconst X3 hx hby (0) d11_7 rfl ?_
    refine ziloadN X3 hx hby d11_8 rfl ?_
    refine st17 _ ?_
    refine zistore (l' := #[vR (a_c), vI (0), vI (z), vR (b3), vI (z), u_]) X17 hx hby d11_12 rfl ?_
    refine ziload X17 hx hby d11_14 rfl ?_
    refine ziloadN X17 hx hby d11_16 rfl ?_
    show SS p e below m T17 17 #[vR (a_c), vI (0), vI (z), vR (b3), vI (z), u_] [(.int z), (.int z)] _
    refine zicmpYes X17 hx hby 17 57 rfl d11_17 (teq (rfl : z = z)).1 (by decide) (by decide) ?_
    refine zaloadN X17 hx hby d11_57 rfl rfl ?_
    show SS p e below m T17 58 #[vR (a_c), vI (0), vI (z), vR (b3), vI (z), u_] [(.ref b3)] _
    jvm_step X17.here [X17.here.top, hx, (hb hby d11_58), X17.method', Bd.returns, Value.isRef, FieldType.isReference]
    first | (intro acts; rw [hr _ acts rfl rfl rfl]) | rw [hr _ _ rfl rfl rfl]
    exact Steps.refl _
  · show Qown_comp3L Z a_c k_c ch z n h0 n0 _ T17.heap _
    exact ⟨b3, k3, rfl, N19, Sz6, Kc20, Pf17_0⟩
theorem own_ef_own_cfalL (m : MethodId) (b_o : Addr) (z : Int32) : entryFrame m #[(.ref b_o), (.int z)] 2 = mkF m 0 #[.val (.ref b_o), .val (.int z)] [] := by first | (simp [entryFrame, mkF, argsToLocals, Value.category]; done) | rfl
theorem d13_0 : decode b_13 0 = .ok (.iload_n 1, 1) := by decide +kernel
theorem d13_1 : decode b_13 1 = .ok (.aload_n 0, 1) := by decide +kernel
theorem d13_2 : decode b_13 2 = .ok (.arraylength, 1) := by decide +kernel
theorem d13_3 : decode b_13 3 = .ok (.isub, 1) := by decide +kernel
theorem d13_4 : decode b_13 4 = .ok (.bipush 31, 2) := by decide +kernel
theorem d13_6 : decode b_13 6 = .ok (.iushr, 1) := by decide +kernel
theorem d13_7 : decode b_13 7 = .ok (.i2b, 1) := by decide +kernel
theorem d13_8 : decode b_13 8 = .ok (.ireturn, 1) := by decide +kernel
def Qown_cfalL (Z : State) (b_o : Addr) (k_b : ClassId) (vs_b : List Value) (z : Int32) (h0 : Heap) (n0 : Nat) (v : Option Value) (h : Heap) (L : List Loc) : Prop := v = some (.int 0) ∧ Fr n0 L ∧ h = h0
set_option maxRecDepth 65536 in
set_option maxHeartbeats 40000000 in
theorem own_cfalL (l : Launch) (Z : State) (a0 : Array Value) (hw : ∀ d ∈ tables_1, d.before a0 Z = true) (ws : List Jvm.Cond) (b_o : Addr) (k_b : ClassId) (vs_b : List Value) (z : Int32) (h0 : Heap) (n0 : Nat) (Z0 : n0 ≤ h0.size) (hB : Arv Z h0 b_o k_b .byte z vs_b (.int 0)) :
    MetFree l y_16 (head1 (Jvm.Cond.code y_16 jdk_52_method_15_code 2 (some .byte) :: ws) (RM 0 0 0 0)) (fun a U => a = #[(.ref b_o), (.int z)] ∧ Z.Warmed39 U.vm ∧ U.heap = h0) (fun _ _ _ _ _ => True) (fun _ U o U' => ∃ v L, o = .returned v ∧ Qown_cfalL Z b_o k_b vs_b z h0 n0 v U'.heap L ∧ FrameEnd U o U' L (RM 0 0 0 0).cells (RM 0 0 0 0).slots) := by
  refine MetFree.of_bodySF (plainFor_of_name own_pn2) hisR ?_
  intro p e s m args below meth c s₁ Bd hml0 hP hK
  obtain ⟨rfl, hZ, hh⟩ := hP
  have hx := Bd.exec
  have hby := Bd.bytes
  have hml : c.maxLocals = 2 := hml0
  have hown : s.vm.findClass "java/lang/StringUTF16" = some m.cls := findClass_of_methodNamed Bd.named
  have X0 : Stand p l e (RM 0 0 0 0) s m #[(.ref b_o), (.int z)] below meth c s₁ [] 0 0 := Stand.of_body Bd
  have e0 : s₁.heap = h0 := by rw [← hh, Bd.state]; rfl
  have N0 := Fr.nil n0
  have pre0 : ∀ t, Steps p.tables e below (s₁.setTop (mkF m 0 #[vR (b_o), vI (z)] [])) t → Steps p.tables e below (s₁.setTop (entryFrame m #[(.ref b_o), (.int z)] 2)) t := fun t k => castTop (own_ef_own_cfalL m b_o z) k
  obtain ⟨cl4, Ar4, -, S4, M4, -, -⟩ := id hB
  obtain ⟨fs, hr, hrun, hended, hW, hsame⟩ := X0.leave (v := some (.int (nar .byte ((((z - z).toUInt32 >>> ((31 : Int32) &&& 31).toUInt32).toInt32).toInt8.toInt32)))) (fun h => by rw [Bd.returns] at h; cases h) (hlocks := BodyLoose.notSynchronized Bd)
  refine ⟨_, _, pre0 _ ?_, hrun, hended, _, _, rfl, ?_, ⟨_, rfl⟩, hW, hsame.mono (by decide) (by decide)⟩
  · show SS p e below m s₁ 0 #[vR (b_o), vI (z)] [] _
    refine ziloadN X0 hx hby d13_0 rfl ?_
    refine zaloadN X0 hx hby d13_1 rfl rfl ?_
    show SS p e below m s₁ 2 #[vR (b_o), vI (z)] [(.ref b_o), (.int z)] _
    refine X0.arraylength hx (by rw [e0]; exact Ar4.1) (State.isArrayOf_alike hZ.alike Ar4.2.1) (g := (mkF m 2 #[vR (b_o), vI (z)] [(.ref b_o), (.int z)])) rfl rfl (hb hby d13_2) _ ?_
    rw [len_of S4 M4]
    show SS p e below m s₁ 3 #[vR (b_o), vI (z)] [(.int z), (.int z)] _
    refine XS.isub X0.here hx rfl (hb hby d13_3) rfl ?_
    show SS p e below m s₁ 4 #[vR (b_o), vI (z)] [(.int (z - z))] _
    refine zbipush X0 hx hby (31) d13_4 rfl ?_
    show SS p e below m s₁ 6 #[vR (b_o), vI (z)] [(.int 31), (.int (z - z))] _
    refine XS.iushr X0.here hx rfl (hb hby d13_6) rfl ?_
    show SS p e below m s₁ 7 #[vR (b_o), vI (z)] [(.int (((z - z).toUInt32 >>> ((31 : Int32) &&& 31).toUInt32).toInt32))] _
    refine XS.i2b X0.here hx rfl (hb hby d13_7) rfl ?_
    show SS p e below m s₁ 8 #[vR (b_o), vI (z)] [(.int ((((z - z).toUInt32 >>> ((31 : Int32) &&& 31).toUInt32).toInt32).toInt8.toInt32))] _
    exact retN X0 hx (t := .byte) Bd.returns (by simp) (hb hby d13_8) hr
  · show Qown_cfalL Z b_o k_b vs_b z h0 n0 _ s₁.heap _
    rw [e0]
    exact ⟨(by rw [own_cfz]), N0, rfl⟩
theorem own_pn3 : plainName "java/lang/String" = true := by first | (simp [plainName, overriddenIn]; done) | decide +kernel
theorem own_ef_own_initVL (m : MethodId) (a_o : Addr) (a_c : Addr) (z : Int32) : entryFrame m #[(.ref a_o), (.ref a_c), (.int (0 : Int32)), (.int z), .null] 6 = mkF m 0 #[.val (.ref a_o), .val (.ref a_c), .val (.int (0 : Int32)), .val (.int z), .val .null, .unset] [] := by first | (simp [entryFrame, mkF, argsToLocals, Value.category]; done) | rfl
theorem own_pd8 : parseMethodDescriptor "([CII)[B" = some ⟨[(.array .char), .int, .int], some (.array .byte)⟩ := by decide +kernel
theorem own_pd9 : parseMethodDescriptor "([BI)B" = some ⟨[(.array .byte), .int], some .byte⟩ := by decide +kernel
theorem d9_0 : decode b_9 0 = .ok (.aload_n 0, 1) := by decide +kernel
theorem d9_1 : decode b_9 1 = .ok (.invokespecial 1, 3) := by decide +kernel
theorem d9_4 : decode b_9 4 = .ok (.iload_n 3, 1) := by decide +kernel
theorem d9_5 : decode b_9 5 = .ok (.ifCond .ne 22, 3) := by decide +kernel
theorem d9_27 : decode b_9 27 = .ok (.getstatic 38, 3) := by decide +kernel
theorem d9_30 : decode b_9 30 = .ok (.ifCond .eq 28, 3) := by decide +kernel
theorem d9_33 : decode b_9 33 = .ok (.aload_n 1, 1) := by decide +kernel
theorem d9_34 : decode b_9 34 = .ok (.iload_n 2, 1) := by decide +kernel
theorem d9_35 : decode b_9 35 = .ok (.iload_n 3, 1) := by decide +kernel
theorem d9_36 : decode b_9 36 = .ok (.invokestatic 177, 3) := by decide +kernel
theorem d9_39 : decode b_9 39 = .ok (.astore 5, 2) := by decide +kernel
theorem d9_41 : decode b_9 41 = .ok (.aload_n 0, 1) := by decide +kernel
theorem d9_42 : decode b_9 42 = .ok (.aload 5, 2) := by decide +kernel
theorem d9_44 : decode b_9 44 = .ok (.iload_n 3, 1) := by decide +kernel
theorem d9_45 : decode b_9 45 = .ok (.invokestatic 47, 3) := by decide +kernel
theorem d9_48 : decode b_9 48 = .ok (.putfield 15, 3) := by decide +kernel
theorem d9_51 : decode b_9 51 = .ok (.aload_n 0, 1) := by decide +kernel
theorem d9_52 : decode b_9 52 = .ok (.aload 5, 2) := by decide +kernel
theorem d9_54 : decode b_9 54 = .ok (.putfield 9, 3) := by decide +kernel
theorem d9_57 : decode b_9 57 = .ok (.return_, 1) := by decide +kernel
def Qown_initVL (Z : State) (a_o : Addr) (u_v : Value) (u_c : Value) (a_c : Addr) (k_c : ClassId) (ch : Nat → Int32) (z : Int32) (n : Nat) (cs : Int32) (h0 : Heap) (n0 : Nat) (v : Option Value) (h : Heap) (L : List Loc) : Prop := ∃ r_o : Addr, ∃ k_r : ClassId, v = none ∧ Fr n0 L ∧ h0.size ≤ r_o ∧ Keep h0 h [a_o] ∧ Fld Z h a_o "java/lang/String" "coder" "B" (.int 0) ∧ Fld Z h a_o "java/lang/String" "value" "[B" (.ref r_o) ∧ Arv Z h r_o k_r .byte z (own_fl n (own_bg ch)) (.int 0)
set_option maxRecDepth 65536 in
set_option maxHeartbeats 40000000 in
theorem own_initVL (l : Launch) (Z : State) (a0 : Array Value) (hw : ∀ d ∈ tables_1, d.before a0 Z = true) (ws : List Jvm.Cond) (a_o : Addr) (u_v : Value) (u_c : Value) (a_c : Addr) (k_c : ClassId) (ch : Nat → Int32) (z : Int32) (n : Nat) (cs : Int32) (h0 : Heap) (n0 : Nat) (Z0 : n0 ≤ h0.size) (hxa : Exa Z h0 a_o "java/lang/String") (hfv : Fld Z h0 a_o "java/lang/String" "value" "[B" u_v) (hcd : Fld Z h0 a_o "java/lang/String" "coder" "B" u_c) (hg : n0 ≤ a_o) (hA : Arv Z h0 a_c k_c .char z (own_cl n ch) (.int 0)) (hl : ∀ j, j < n → ¬ (255 : Int32) < ch j) (hz : z = Int32.ofNat n) (hn : n ≤ 37) (hn0 : ¬ z = (0 : Int32)) (hO : Old Z n0 h0) (hS : Sta Z Z.heap "java/lang/String" "COMPACT_STRINGS" "Z" (.int cs)) (hcs : ¬ cs = (0 : Int32)) :
    MetFree l y_17 (head1 (Jvm.Cond.code y_17 jdk_42_method_149_code 6 none :: ws) (RM 2 1 37 35)) (fun a U => a = #[(.ref a_o), (.ref a_c), (.int 0), (.int z), .null] ∧ Z.Warmed39 U.vm ∧ U.heap = h0) (fun _ _ _ _ _ => True) (fun _ U o U' => ∃ v L, o = .returned v ∧ Qown_initVL Z a_o u_v u_c a_c k_c ch z n cs h0 n0 v U'.heap L ∧ FrameEnd U o U' L (RM 2 1 37 35).cells (RM 2 1 37 35).slots) := by
  refine MetFree.of_bodySF (plainFor_of_name own_pn3) hisR ?_
  intro p e s m args below meth c s₁ Bd hml0 hP hK
  obtain ⟨rfl, hZ, hh⟩ := hP
  have hx := Bd.exec
  have hby := Bd.bytes
  have hml : c.maxLocals = 6 := hml0
  have hown : s.vm.findClass "java/lang/String" = some m.cls := findClass_of_methodNamed Bd.named
  have hnm := (name_of_methodNamed Bd.named Bd.method).1
  have X0 : Stand p l e (RM 2 1 37 35) s m #[(.ref a_o), (.ref a_c), (.int 0), (.int z), .null] below meth c s₁ [] 0 0 := Stand.of_body Bd
  have e0 : s₁.heap = h0 := by rw [← hh, Bd.state]; rfl
  have N0 := Fr.nil n0
  have pre0 : ∀ t, Steps p.tables e below (s₁.setTop (mkF m 0 #[vR (a_o), vR (a_c), vI (0), vI (z), .val .null, u_] [])) t → Steps p.tables e below (s₁.setTop (entryFrame m #[(.ref a_o), (.ref a_c), (.int 0), (.int z), .null] 6)) t := fun t k => castTop (own_ef_own_initVL m a_o a_c z) k
  obtain ⟨T3, X3, e3, st3⟩ := initO X0 hx hZ hown (hw _ (gm 36 rfl)) (hw _ (gm 37 rfl)) (hw _ (gm 38 rfl)) e0 (g := (mkF m 1 #[vR (a_o), vR (a_c), vI (0), vI (z), .val .null, u_] [(.ref a_o)])) rfl (by rw [hml]; rfl) rfl (hb hby d9_1) (by decide) (W := 0) (by show 2 * 0 + _ ≤ _; exact Nat.le_of_eq rfl) (by decide)
  obtain ⟨T7, X7, e7, st7⟩ := getS2 X3 hx hZ hown (host := "") (Or.inl (hw _ (gm 39 rfl))) Via.refl e3 (hS.ext hO.2) (g := (mkF m 27 #[vR (a_o), vR (a_c), vI (0), vI (z), .val .null, u_] [])) rfl (hb hby d9_27)
  obtain ⟨_, _, ⟨T13, L13, k13, n13⟩, -, X13, ⟨Lc13, hQ13, l13, y13, z13⟩, st13⟩ := Jvm.LawKit.callS X7 hx (y := y_15) hown (mvT hZ (hw _ (gm 40 rfl))) (mvT hZ (hw _ (gm 41 rfl))) (mvT hZ (hw _ (gm 42 rfl))) (mvT hZ (hw _ (gm 43 rfl))) (by decide) (backOf (W := 0) (own_comp3L l Z a0 hw [] a_c k_c ch z n h0 n0 Z0 hA hl hz hn hO) hZ (hw _ (gm 43 rfl)) (hw _ (gm 42 rfl)) (by decide) (by decide)) (g := (mkF m 36 #[vR (a_o), vR (a_c), vI (0), vI (z), .val .null, u_] [(.int z), (.int 0), (.ref a_c)])) rfl (by rw [hml]; rfl) (argsL := [(.ref a_c), (.int 0), (.int z)]) (rest := []) (lenOf own_pd8 rfl) rfl (by show 2 * 0 + _ ≤ _; exact Nat.le_of_eq rfl) (hb hby d9_36) (fun _ _ => ⟨rfl, e7, (by decide : 0 + 1 ≤ _), (by decide : 0 + 37 ≤ _)⟩)
  dsimp only [Pt.U, Pt.locs, Pt.cells, Pt.slots] at X13 l13 y13 z13 st13 hQ13
  rw [l13, y13, z13] at X13
  obtain ⟨r_o_13, k_r_13, rfl, Nq13, sz13_r_o, K13, Pf13_0⟩ := hQ13
  have N14 := Fr.app N0 Nq13
  have Ne15 : a_o ≠ r_o_13 := Nat.ne_of_lt (Nat.lt_of_lt_of_le hxa.lt sz13_r_o)
  have Sz18 : h0.size ≤ r_o_13 := Nat.le_trans (Keep.refl h0 [a_o]).1 sz13_r_o
  have Kc19 : Keep h0 T13.heap [a_o] := (Keep.refl h0 [a_o]).trans K13 all0
  have Zs20 : n0 ≤ T13.heap.size := Nat.le_trans Z0 K13.1
  obtain ⟨_, _, ⟨T26, L26, k26, n26⟩, -, X26, ⟨Lc26, hQ26, l26, y26, z26⟩, st26⟩ := Jvm.LawKit.callS X13 hx (y := y_16) hown (mvT hZ (hw _ (gm 48 rfl))) (mvT hZ (hw _ (gm 49 rfl))) (mvT hZ (hw _ (gm 42 rfl))) (mvT hZ (hw _ (gm 50 rfl))) (by decide) (backOf (W := 1) (own_cfalL l Z a0 hw [] r_o_13 k_r_13 (own_fl n (own_bg ch)) z T13.heap n0 Zs20 Pf13_0) hZ (hw _ (gm 50 rfl)) (hw _ (gm 42 rfl)) (by decide) (by decide)) (g := (mkF m 45 #[vR (a_o), vR (a_c), vI (0), vI (z), .val .null, vR (r_o_13)] [(.int z), (.ref r_o_13), (.ref a_o)])) rfl (by rw [hml]; rfl) (argsL := [(.ref r_o_13), (.int z)]) (rest := [(.ref a_o)]) (lenOf own_pd9 rfl) rfl (by show 2 * 0 + _ ≤ _; exact Nat.le_of_eq rfl) (hb hby d9_45) (fun _ _ => ⟨rfl, rfl, (by decide : 1 + 0 ≤ _), (by decide : 37 + 0 ≤ _)⟩)
  dsimp only [Pt.U, Pt.locs, Pt.cells, Pt.slots] at X26 l26 y26 z26 st26 hQ26
  rw [l26, y26, z26] at X26
  obtain ⟨rfl, Nq26, eh26⟩ := hQ26
  have N27 := Fr.app N14 Nq26
  have Fq29 : Exa Z T13.heap a_o "java/lang/String" := (hxa.keep K13)
  have Fq30 : Fld Z T13.heap a_o "java/lang/String" "coder" "B" u_c := (hcd.keep K13 nin0)
  obtain ⟨T31, h31, X31, e31, W31, st31⟩ := putFN X26 hx hZ hown (hw _ (gm 51 rfl)) Via.refl eh26 Fq30 Fq29 (Or.inr ⟨(hw _ (gm 52 rfl)), rfl, hnm⟩) (hw _ (gm 27 rfl)) (ty := .byte) (v' := (.int 0)) (by decide) rfl rfl (g := (mkF m 48 #[vR (a_o), vR (a_c), vI (0), vI (z), .val .null, vR (r_o_13)] [(.int 0), (.ref a_o)])) rfl rfl (hb hby d9_48)
  have Kc32 : Keep h0 h31 [a_o] := Kc19.wr W31 (Or.inl (ga 0 rfl))
  have N34 := Fr.snoc X31 N27 hg
  have Fw31 : Fld Z h31 a_o "java/lang/String" "coder" "B" (.int 0) := Fq30.same W31
  have Fq38 : Exa Z h31 a_o "java/lang/String" := (Fq29.wr W31)
  have Fq39 : Fld Z h31 a_o "java/lang/String" "value" "[B" u_v := ((hfv.keep K13 nin0).other W31 (Or.inr (slot_ne (Or.inr (hw _ (gm 54 rfl))) (Or.inr (hw _ (gm 52 rfl))) (by decide) (t := (.array .byte)) (t' := .byte) (by decide) (by decide))))
  obtain ⟨T40, h40, X40, e40, W40, st40⟩ := putF X31 hx hZ hown (host := "") (Or.inl (hw _ (gm 53 rfl))) Via.refl e31 Fq39 Fq38 (Or.inr ⟨(hw _ (gm 54 rfl)), rfl, hnm⟩) (hw _ (gm 27 rfl)) (ty := (.array .byte)) (by decide) rfl rfl (g := (mkF m 54 #[vR (a_o), vR (a_c), vI (0), vI (z), .val .null, vR (r_o_13)] [(.ref r_o_13), (.ref a_o)])) rfl rfl (hb hby d9_54)
  have Kc41 : Keep h0 h40 [a_o] := Kc32.wr W40 (Or.inl (ga 0 rfl))
  have N43 := Fr.snoc X40 N34 hg
  have Fw40 : Fld Z h40 a_o "java/lang/String" "value" "[B" (.ref r_o_13) := Fq39.same W40
  obtain ⟨fs, hr, hrun, hended, hW, hsame⟩ := X40.leave (v := none) (fun _ => rfl) (hlocks := BodyLoose.notSynchronized Bd)
  refine ⟨_, _, pre0 _ ?_, hrun, hended, _, _, rfl, ?_, ⟨_, rfl⟩, hW, hsame.mono (by decide) (by decide)⟩
  · show SS p e below m s₁ 0 #[vR (a_o), vR (a_c), vI (0), vI (z), .val .null, u_] [] _
    refine zaloadN X0 hx hby d9_0 rfl rfl ?_
    refine st3 _ ?_
    refine ziloadN X3 hx hby d9_4 rfl ?_
    refine zifYes X3 hx hby 5 27 rfl d9_5 ((if0 _ _).trans (feq (hn0 : ¬ (z = (0 : Int32)))).2) (by decide) (by decide) ?_
    refine st7 _ ?_
    refine zifNo X7 hx hby d9_30 ((if0 _ _).trans (feq (hcs : ¬ (cs = (0 : Int32)))).1) ?_
    refine zaloadN X7 hx hby d9_33 rfl rfl ?_
    refine ziloadN X7 hx hby d9_34 rfl ?_
    refine ziloadN X7 hx hby d9_35 rfl ?_
    refine st13 _ ?_
    refine zastore (l' := #[vR (a_o), vR (a_c), vI (0), vI (z), .val .null, vR (r_o_13)]) X13 hx hby d9_39 rfl rfl ?_
    refine zaloadN X13 hx hby d9_41 rfl rfl ?_
    show SS p e below m T13 42 #[vR (a_o), vR (a_c), vI (0), vI (z), .val .null, vR (r_o_13)] [(.ref a_o)] _
    refine zaload X13 hx hby d9_42 rfl rfl ?_
    refine ziloadN X13 hx hby d9_44 rfl ?_
    refine st26 _ ?_
    refine st31 _ ?_
    refine zaloadN X31 hx hby d9_51 rfl rfl ?_
    refine zaload X31 hx hby d9_52 rfl rfl ?_
    refine st40 _ ?_
    exact X40.returnOut hx Bd.returns (hb hby d9_57) hr
  · show Qown_initVL Z a_o u_v u_c a_c k_c ch z n cs h0 n0 _ T40.heap _
    rw [e40]
    have Fq45 : Fld Z h40 a_o "java/lang/String" "coder" "B" (.int 0) := (Fw31.other W40 (Or.inr (slot_ne (Or.inr (hw _ (gm 52 rfl))) (Or.inr (hw _ (gm 54 rfl))) (by decide) (t := .byte) (t' := (.array .byte)) (by decide) (by decide))))
    have Fq46 : Arv Z h40 r_o_13 k_r_13 .byte z (own_fl n (own_bg ch)) (.int 0) := ((Pf13_0.other W31 (Ne.symm Ne15)).other W40 (Ne.symm Ne15))
    exact ⟨r_o_13, k_r_13, rfl, N43, Sz18, Kc41, Fq45, Fw40, Fq46⟩
theorem own_ef_own_initCL (m : MethodId) (a_o : Addr) (a_c : Addr) : entryFrame m #[(.ref a_o), (.ref a_c)] 2 = mkF m 0 #[.val (.ref a_o), .val (.ref a_c)] [] := by first | (simp [entryFrame, mkF, argsToLocals, Value.category]; done) | rfl
theorem own_pd10 : parseMethodDescriptor "([CIILjava/lang/Void;)V" = some ⟨[(.array .char), .int, .int, (.object "java/lang/Void")], none⟩ := by decide +kernel
theorem d8_0 : decode b_8 0 = .ok (.aload_n 0, 1) := by decide +kernel
theorem d8_1 : decode b_8 1 = .ok (.aload_n 1, 1) := by decide +kernel
theorem d8_2 : decode b_8 2 = .ok (.iconst 0, 1) := by decide +kernel
theorem d8_3 : decode b_8 3 = .ok (.aload_n 1, 1) := by decide +kernel
theorem d8_4 : decode b_8 4 = .ok (.arraylength, 1) := by decide +kernel
theorem d8_5 : decode b_8 5 = .ok (.aconst_null, 1) := by decide +kernel
theorem d8_6 : decode b_8 6 = .ok (.invokespecial 27, 3) := by decide +kernel
theorem d8_9 : decode b_8 9 = .ok (.return_, 1) := by decide +kernel
def Qown_initCL (Z : State) (a_o : Addr) (u_v : Value) (u_c : Value) (a_c : Addr) (k_c : ClassId) (ch : Nat → Int32) (z : Int32) (n : Nat) (cs : Int32) (h0 : Heap) (n0 : Nat) (v : Option Value) (h : Heap) (L : List Loc) : Prop := ∃ r_o : Addr, ∃ k_r : ClassId, v = none ∧ Fr n0 L ∧ h0.size ≤ r_o ∧ Keep h0 h [a_o] ∧ Fld Z h a_o "java/lang/String" "coder" "B" (.int 0) ∧ Fld Z h a_o "java/lang/String" "value" "[B" (.ref r_o) ∧ Arv Z h r_o k_r .byte z (own_fl n (own_bg ch)) (.int 0)
set_option maxRecDepth 65536 in
set_option maxHeartbeats 40000000 in
theorem own_initCL (l : Launch) (Z : State) (a0 : Array Value) (hw : ∀ d ∈ tables_1, d.before a0 Z = true) (ws : List Jvm.Cond) (a_o : Addr) (u_v : Value) (u_c : Value) (a_c : Addr) (k_c : ClassId) (ch : Nat → Int32) (z : Int32) (n : Nat) (cs : Int32) (h0 : Heap) (n0 : Nat) (Z0 : n0 ≤ h0.size) (hxa : Exa Z h0 a_o "java/lang/String") (hfv : Fld Z h0 a_o "java/lang/String" "value" "[B" u_v) (hcd : Fld Z h0 a_o "java/lang/String" "coder" "B" u_c) (hg : n0 ≤ a_o) (hA : Arv Z h0 a_c k_c .char z (own_cl n ch) (.int 0)) (hl : ∀ j, j < n → ¬ (255 : Int32) < ch j) (hz : z = Int32.ofNat n) (hn : n ≤ 37) (hn0 : ¬ z = (0 : Int32)) (hO : Old Z n0 h0) (hS : Sta Z Z.heap "java/lang/String" "COMPACT_STRINGS" "Z" (.int cs)) (hcs : ¬ cs = (0 : Int32)) :
    MetFree l y_18 (head1 (Jvm.Cond.code y_18 jdk_42_method_3_code 2 none :: ws) (RM 3 1 37 52)) (fun a U => a = #[(.ref a_o), (.ref a_c)] ∧ Z.Warmed39 U.vm ∧ U.heap = h0) (fun _ _ _ _ _ => True) (fun _ U o U' => ∃ v L, o = .returned v ∧ Qown_initCL Z a_o u_v u_c a_c k_c ch z n cs h0 n0 v U'.heap L ∧ FrameEnd U o U' L (RM 3 1 37 52).cells (RM 3 1 37 52).slots) := by
  refine MetFree.of_bodySF (plainFor_of_name own_pn3) hisR ?_
  intro p e s m args below meth c s₁ Bd hml0 hP hK
  obtain ⟨rfl, hZ, hh⟩ := hP
  have hx := Bd.exec
  have hby := Bd.bytes
  have hml : c.maxLocals = 2 := hml0
  have hown : s.vm.findClass "java/lang/String" = some m.cls := findClass_of_methodNamed Bd.named
  have X0 : Stand p l e (RM 3 1 37 52) s m #[(.ref a_o), (.ref a_c)] below meth c s₁ [] 0 0 := Stand.of_body Bd
  have e0 : s₁.heap = h0 := by rw [← hh, Bd.state]; rfl
  have N0 := Fr.nil n0
  have pre0 : ∀ t, Steps p.tables e below (s₁.setTop (mkF m 0 #[vR (a_o), vR (a_c)] [])) t → Steps p.tables e below (s₁.setTop (entryFrame m #[(.ref a_o), (.ref a_c)] 2)) t := fun t k => castTop (own_ef_own_initCL m a_o a_c) k
  obtain ⟨cl6, Ar6, -, S6, M6, -, -⟩ := id hA
  obtain ⟨_, _, ⟨T9, L9, k9, n9⟩, -, X9, ⟨Lc9, hQ9, l9, y9, z9⟩, st9⟩ := X0.specialBack hx (y := y_17) rfl hown (mvT hZ (hw _ (gm 32 rfl))) (mvT hZ (hw _ (gm 33 rfl))) (mvT hZ (hw _ (gm 35 rfl))) (by decide) (backOf (W := 0) (own_initVL l Z a0 hw [] a_o u_v u_c a_c k_c ch z n cs h0 n0 Z0 hxa hfv hcd hg hA hl hz hn hn0 hO hS (by first | assumption | decide : ¬ cs = (0 : Int32))) hZ (hw _ (gm 35 rfl)) (hw _ (gm 28 rfl)) (by decide) (by decide)) (g := (mkF m 6 #[vR (a_o), vR (a_c)] [.null, (.int z), (.int 0), (.ref a_c), (.ref a_o)])) rfl (by rw [hml]; rfl) (Steps.refl _) (a := a_o) (argsL := [(.ref a_c), (.int 0), (.int z), .null]) (rest := []) (lenOf own_pd10 rfl) rfl (by show 2 * 0 + _ ≤ _; exact Nat.le_of_eq rfl) (hb hby d8_6) (fun _ _ => ⟨rfl, e0, (by decide : 0 + 1 ≤ _), (by decide : 0 + 37 ≤ _)⟩)
  dsimp only [Pt.U, Pt.locs, Pt.cells, Pt.slots] at X9 l9 y9 z9 st9 hQ9
  rw [l9, y9, z9] at X9
  obtain ⟨r_o_9, k_r_9, rfl, Nq9, sz9_r_o, K9, Pf9_0, Pf9_1, Pf9_2⟩ := hQ9
  have N10 := Fr.app N0 Nq9
  have Sz14 : h0.size ≤ r_o_9 := Nat.le_trans (Keep.refl h0 [a_o]).1 sz9_r_o
  have Kc15 : Keep h0 T9.heap [a_o] := (Keep.refl h0 [a_o]).trans K9 (allS (Or.inl (ga 0 rfl)) all0)
  obtain ⟨fs, hr, hrun, hended, hW, hsame⟩ := X9.leave (v := none) (fun _ => rfl) (hlocks := BodyLoose.notSynchronized Bd)
  refine ⟨_, _, pre0 _ ?_, hrun, hended, _, _, rfl, ?_, ⟨_, rfl⟩, hW, hsame.mono (by decide) (by decide)⟩
  · show SS p e below m s₁ 0 #[vR (a_o), vR (a_c)] [] _
    refine zaloadN X0 hx hby d8_0 rfl rfl ?_
    refine zaloadN X0 hx hby d8_1 rfl rfl ?_
    refine ziconst X0 hx hby (0) d8_2 rfl ?_
    refine zaloadN X0 hx hby d8_3 rfl rfl ?_
    show SS p e below m s₁ 4 #[vR (a_o), vR (a_c)] [(.ref a_c), (.int 0), (.ref a_c), (.ref a_o)] _
    refine X0.arraylength hx (by rw [e0]; exact Ar6.1) (State.isArrayOf_alike hZ.alike Ar6.2.1) (g := (mkF m 4 #[vR (a_o), vR (a_c)] [(.ref a_c), (.int 0), (.ref a_c), (.ref a_o)])) rfl rfl (hb hby d8_4) _ ?_
    rw [len_of S6 M6]
    show SS p e below m s₁ 5 #[vR (a_o), vR (a_c)] [(.int z), (.int 0), (.ref a_c), (.ref a_o)] _
    refine XS.aconstNull X0.here hx rfl (hb hby d8_5) ?_
    show SS p e below m s₁ 6 #[vR (a_o), vR (a_c)] [.null, (.int z), (.int 0), (.ref a_c), (.ref a_o)] _
    refine st9.trans ?_
    exact X9.returnOut hx Bd.returns (hb hby d8_9) hr
  · show Qown_initCL Z a_o u_v u_c a_c k_c ch z n cs h0 n0 _ T9.heap _
    exact ⟨r_o_9, k_r_9, rfl, N10, Sz14, Kc15, Pf9_0, Pf9_1, Pf9_2⟩
theorem own_ef_own_comp336U (m : MethodId) (a_c : Addr) : entryFrame m #[(.ref a_c), (.int (0 : Int32)), (.int (36 : Int32))] 6 = mkF m 0 #[.val (.ref a_c), .val (.int (0 : Int32)), .val (.int (36 : Int32)), .unset, .unset, .unset] [] := by first | (simp [entryFrame, mkF, argsToLocals, Value.category]; done) | rfl
theorem own_pd11 : parseMethodDescriptor "([BI)C" = some ⟨[(.array .byte), .int], some .char⟩ := by decide +kernel
theorem d11_20 : decode b_11 20 = .ok (.aload_n 0, 1) := by decide +kernel
theorem d11_21 : decode b_11 21 = .ok (.iload_n 1, 1) := by decide +kernel
theorem d11_22 : decode b_11 22 = .ok (.iload_n 2, 1) := by decide +kernel
theorem d11_23 : decode b_11 23 = .ok (.invokestatic 119, 3) := by decide +kernel
theorem d11_26 : decode b_11 26 = .ok (.astore 5, 2) := by decide +kernel
theorem d11_28 : decode b_11 28 = .ok (.aload 5, 2) := by decide +kernel
theorem d11_30 : decode b_11 30 = .ok (.iload 4, 2) := by decide +kernel
theorem d11_32 : decode b_11 32 = .ok (.invokestatic 71, 3) := by decide +kernel
theorem d11_35 : decode b_11 35 = .ok (.sipush 255, 3) := by decide +kernel
theorem d11_38 : decode b_11 38 = .ok (.if_icmp .gt 16, 3) := by decide +kernel
theorem d11_54 : decode b_11 54 = .ok (.aload 5, 2) := by decide +kernel
theorem d11_56 : decode b_11 56 = .ok (.areturn, 1) := by decide +kernel
def Qown_comp336U (Z : State) (a_c : Addr) (k_c : ClassId) (ch : Nat → Int32) (pp : Nat) (h0 : Heap) (n0 : Nat) (v : Option Value) (h : Heap) (L : List Loc) : Prop := ∃ r_o : Addr, ∃ k_r : ClassId, v = some (.ref r_o) ∧ Fr n0 L ∧ h0.size ≤ r_o ∧ Keep h0 h [] ∧ Arv Z h r_o k_r .byte (72 : Int32) (own_fl 72 (own_ug ch)) (.int 0)
set_option maxRecDepth 65536 in
set_option maxHeartbeats 40000000 in
theorem own_comp336U (l : Launch) (Z : State) (a0 : Array Value) (hw : ∀ d ∈ tables_1, d.before a0 Z = true) (ws : List Jvm.Cond) (a_c : Addr) (k_c : ClassId) (ch : Nat → Int32) (pp : Nat) (h0 : Heap) (n0 : Nat) (Z0 : n0 ≤ h0.size) (hA : Arv Z h0 a_c k_c .char (36 : Int32) (own_cl 36 ch) (.int 0)) (hp : pp < 36) (hc : (255 : Int32) < ch pp) (hl : ∀ j, j < pp → ¬ (255 : Int32) < ch j) (hrg : ∀ j, nar .char (ch j) = ch j) (hSa : Sta Z Z.heap "java/lang/StringUTF16" "$assertionsDisabled" "Z" (.int 1)) (hSh : Sta Z Z.heap "java/lang/StringUTF16" "HI_BYTE_SHIFT" "I" (.int 0)) (hSl : Sta Z Z.heap "java/lang/StringUTF16" "LO_BYTE_SHIFT" "I" (.int 8)) (hO : Old Z n0 h0) :
    MetFree l y_15 (head1 (Jvm.Cond.code y_15 jdk_52_method_16_code 6 (some (.array .byte)) :: ws) (RM 3 2 108 40)) (fun a U => a = #[(.ref a_c), (.int 0), (.int 36)] ∧ Z.Warmed39 U.vm ∧ U.heap = h0) (fun _ _ _ _ _ => True) (fun _ U o U' => ∃ v L, o = .returned v ∧ Qown_comp336U Z a_c k_c ch pp h0 n0 v U'.heap L ∧ FrameEnd U o U' L (RM 3 2 108 40).cells (RM 3 2 108 40).slots) := by
  refine MetFree.of_bodySF (plainFor_of_name own_pn2) hisR ?_
  intro p e s m args below meth c s₁ Bd hml0 hP hK
  obtain ⟨rfl, hZ, hh⟩ := hP
  have hx := Bd.exec
  have hby := Bd.bytes
  have hml : c.maxLocals = 6 := hml0
  have hown : s.vm.findClass "java/lang/StringUTF16" = some m.cls := findClass_of_methodNamed Bd.named
  have X0 : Stand p l e (RM 3 2 108 40) s m #[(.ref a_c), (.int 0), (.int 36)] below meth c s₁ [] 0 0 := Stand.of_body Bd
  have e0 : s₁.heap = h0 := by rw [← hh, Bd.state]; rfl
  have N0 := Fr.nil n0
  have pre0 : ∀ t, Steps p.tables e below (s₁.setTop (mkF m 0 #[vR (a_c), vI (0), vI (36), u_, u_, u_] [])) t → Steps p.tables e below (s₁.setTop (entryFrame m #[(.ref a_c), (.int 0), (.int 36)] 6)) t := fun t k => castTop (own_ef_own_comp336U m a_c) k
  obtain ⟨T3, h3, k3, X3, e3, E3, A3, Y3, st3⟩ := newPE X0 hx hZ (hw _ (gm 44 rfl)) e0 (g := (mkF m 1 #[vR (a_c), vI (0), vI (36), u_, u_, u_] [(.int 36)])) rfl (hb hby d11_1) rfl (by decide) (cap := 36) (by decide) (by decide) (by decide) (by decide) (ad := "[B") (by first | rfl | decide)
  obtain ⟨b3, g3⟩ : ∃ z, z = h0.size := ⟨_, rfl⟩
  rw [← g3] at A3 Y3 st3
  have Ne4 : a_c ≠ b3 := Nat.ne_of_lt (Nat.lt_of_lt_of_le hA.lt (Nat.le_of_eq g3.symm))
  have Ge5 : n0 ≤ b3 := Nat.le_trans Z0 (Nat.le_of_eq g3.symm)
  have Sz6 : h0.size ≤ b3 := Nat.le_trans (Keep.refl h0 []).1 (Nat.le_of_eq g3.symm)
  have Kc7 : Keep h0 h3 [] := (Keep.refl h0 []).ext E3
  have Zs8 : n0 ≤ h3.size := (Nat.le_trans Z0 E3.1)
  have V3 : Arv Z h3 b3 k3 .byte (36 : Int32) [] (.int 0) := (Arv.new A3 (by decide))
  have Vz10 : Arv Z h3 b3 k3 .byte (36 : Int32) (own_fl 36 (own_fi (own_bg ch) 0)) (.int 0) := (V3).pad own_fi0
  have Fq18 : Arv Z h3 a_c k_c .char (36 : Int32) (own_cl 36 ch) (.int 0) := (hA.ext E3)
  obtain ⟨_, _, ⟨T17, L17, k17, n17⟩, -, X17, ⟨Lc17, hQ17, l17, y17, z17⟩, st17⟩ := Jvm.LawKit.callS X3 hx (y := y_9) hown (mvT hZ (hw _ (gm 45 rfl))) (mvT hZ (hw _ (gm 46 rfl))) (mvT hZ (hw _ (gm 42 rfl))) (mvT hZ (hw _ (gm 47 rfl))) (by decide) (backOf (W := 0) (own_comp5U l Z a0 hw [] a_c k_c ch b3 k3 (36 : Int32) 36 pp h3 n0 Zs8 Fq18 Vz10 Ne4 Ge5 (by first | assumption | decide : (36 : Int32) = Int32.ofNat 36) (by first | assumption | decide : 36 < 2147483648) hp hc hl) hZ (hw _ (gm 47 rfl)) (hw _ (gm 42 rfl)) (by decide) (by decide)) (g := (mkF m 9 #[vR (a_c), vI (0), vI (36), vR (b3), u_, u_] [(.int 36), (.int 0), (.ref b3), (.int 0), (.ref a_c)])) rfl (by rw [hml]; rfl) (argsL := [(.ref a_c), (.int 0), (.ref b3), (.int 0), (.int 36)]) (rest := []) (lenOf own_pd7 rfl) rfl (by show 2 * 0 + _ ≤ _; exact Nat.le_of_eq rfl) (hb hby d11_9) (fun _ _ => ⟨rfl, e3, (by decide : 1 + 0 ≤ _), (by decide : 36 + 0 ≤ _)⟩)
  dsimp only [Pt.U, Pt.locs, Pt.cells, Pt.slots] at X17 l17 y17 z17 st17 hQ17
  rw [l17, y17, z17] at X17
  obtain ⟨rfl, Nq17, K17⟩ := hQ17
  have N19 := Fr.app N0 Nq17
  have Kc20 : Keep h0 T17.heap [] := Kc7.trans K17 (allS (Or.inr Sz6) all0)
  have Zs21 : n0 ≤ T17.heap.size := Nat.le_trans Zs8 K17.1
  have Fq31 : Arv Z T17.heap a_c k_c .char (36 : Int32) (own_cl 36 ch) (.int 0) := (Fq18.keep K17 (ninS Ne4 nin0))
  have Fq32 : Old Z n0 T17.heap := ((hO.ext E3).keep K17 (allS Ge5 all0))
  obtain ⟨_, _, ⟨T30, L30, k30, n30⟩, -, X30, ⟨Lc30, hQ30, l30, y30, z30⟩, st30⟩ := Jvm.LawKit.callS X17 hx (y := y_13) hown (mvT hZ (hw _ (gm 152 rfl))) (mvT hZ (hw _ (gm 153 rfl))) (mvT hZ (hw _ (gm 42 rfl))) (mvT hZ (hw _ (gm 154 rfl))) (by decide) (backOf (W := 0) (own_tob36 l Z a0 hw [] a_c k_c ch T17.heap n0 Zs21 Fq31 hSa hSh hSl Fq32) hZ (hw _ (gm 154 rfl)) (hw _ (gm 42 rfl)) (by decide) (by decide)) (g := (mkF m 23 #[vR (a_c), vI (0), vI (36), vR (b3), vI ((Int32.ofNat pp)), u_] [(.int 36), (.int 0), (.ref a_c)])) rfl (by rw [hml]; rfl) (argsL := [(.ref a_c), (.int 0), (.int 36)]) (rest := []) (lenOf own_pd8 rfl) rfl (by show 2 * 0 + _ ≤ _; exact Nat.le_of_eq rfl) (hb hby d11_23) (fun _ _ => ⟨rfl, rfl, (by decide : 1 + 1 ≤ _), (by decide : 36 + 72 ≤ _)⟩)
  dsimp only [Pt.U, Pt.locs, Pt.cells, Pt.slots] at X30 l30 y30 z30 st30 hQ30
  rw [l30, y30, z30] at X30
  obtain ⟨r_o_30, k_r_30, rfl, Nq30, sz30_r_o, K30, Pf30_0⟩ := hQ30
  have N33 := Fr.app N19 Nq30
  have Sz38 : h0.size ≤ r_o_30 := Nat.le_trans Kc20.1 sz30_r_o
  have Kc39 : Keep h0 T30.heap [] := Kc20.trans K30 all0
  have Zs40 : n0 ≤ T30.heap.size := Nat.le_trans Zs21 K30.1
  have Fq46 : Old Z n0 T30.heap := (Fq32.keep K30 all0)
  obtain ⟨_, _, ⟨T45, L45, k45, n45⟩, -, X45, ⟨Lc45, hQ45, l45, y45, z45⟩, st45⟩ := Jvm.LawKit.callS X30 hx (y := y_14) hown (mvT hZ (hw _ (gm 168 rfl))) (mvT hZ (hw _ (gm 169 rfl))) (mvT hZ (hw _ (gm 42 rfl))) (mvT hZ (hw _ (gm 170 rfl))) (by decide) (backOf (W := 0) (own_getC36 l Z a0 hw [] r_o_30 pp k_r_30 ch T30.heap n0 Zs40 Pf30_0 hSa hSh hSl Fq46 hp hrg) hZ (hw _ (gm 170 rfl)) (hw _ (gm 42 rfl)) (by decide) (by decide)) (g := (mkF m 32 #[vR (a_c), vI (0), vI (36), vR (b3), vI ((Int32.ofNat pp)), vR (r_o_30)] [(.int (Int32.ofNat pp)), (.ref r_o_30)])) rfl (by rw [hml]; rfl) (argsL := [(.ref r_o_30), (.int (Int32.ofNat pp))]) (rest := []) (lenOf own_pd11 rfl) rfl (by show 2 * 0 + _ ≤ _; exact Nat.le_of_eq rfl) (hb hby d11_32) (fun _ _ => ⟨rfl, rfl, (by decide : 2 + 0 ≤ _), (by decide : 108 + 0 ≤ _)⟩)
  dsimp only [Pt.U, Pt.locs, Pt.cells, Pt.slots] at X45 l45 y45 z45 st45 hQ45
  rw [l45, y45, z45] at X45
  obtain ⟨rfl, Nq45, eh45⟩ := hQ45
  have N47 := Fr.app N33 Nq45
  obtain ⟨fs, hr, hrun, hended, hW, hsame⟩ := X45.leave (v := some (.ref r_o_30)) (fun h => by rw [Bd.returns] at h; cases h) (hlocks := BodyLoose.notSynchronized Bd)
  refine ⟨_, _, pre0 _ ?_, hrun, hended, _, _, rfl, ?_, ⟨_, rfl⟩, hW, hsame.mono (by decide) (by decide)⟩
  · show SS p e below m s₁ 0 #[vR (a_c), vI (0), vI (36), u_, u_, u_] [] _
    refine ziloadN X0 hx hby d11_0 rfl ?_
    refine st3 _ ?_
    refine zastoreN (l' := #[vR (a_c), vI (0), vI (36), vR (b3), u_, u_]) X3 hx hby d11_3 rfl rfl ?_
    refine zaloadN X3 hx hby d11_4 rfl rfl ?_
    refine ziloadN X3 hx hby d11_5 rfl ?_
    refine zaloadN X3 hx hby d11_6 rfl rfl ?_
    refine ziconst X3 hx hby (0) d11_7 rfl ?_
    refine ziloadN X3 hx hby d11_8 rfl ?_
    refine st17 _ ?_
    refine zistore (l' := #[vR (a_c), vI (0), vI (36), vR (b3), vI ((Int32.ofNat pp)), u_]) X17 hx hby d11_12 rfl ?_
    refine ziload X17 hx hby d11_14 rfl ?_
    refine ziloadN X17 hx hby d11_16 rfl ?_
    show SS p e below m T17 17 #[vR (a_c), vI (0), vI (36), vR (b3), vI ((Int32.ofNat pp)), u_] [(.int 36), (.int (Int32.ofNat pp))] _
    refine zicmpNo X17 hx hby d11_17 (feq ((fun q => absurd (own_i32inj (j := 36) (by omega) (by decide) q) (by omega)) : ¬ ((Int32.ofNat pp) = (36 : Int32)))).1 ?_
    refine zaloadN X17 hx hby d11_20 rfl rfl ?_
    refine ziloadN X17 hx hby d11_21 rfl ?_
    refine ziloadN X17 hx hby d11_22 rfl ?_
    refine st30 _ ?_
    refine zastore (l' := #[vR (a_c), vI (0), vI (36), vR (b3), vI ((Int32.ofNat pp)), vR (r_o_30)]) X30 hx hby d11_26 rfl rfl ?_
    refine zaload X30 hx hby d11_28 rfl rfl ?_
    refine ziload X30 hx hby d11_30 rfl ?_
    refine st45 _ ?_
    refine zsipush X45 hx hby (255) d11_35 rfl ?_
    refine zicmpYes X45 hx hby 38 54 rfl d11_38 (tlt (hc : (255 : Int32) < (ch pp))).2.2.1 (by decide) (by decide) ?_
    refine zaload X45 hx hby d11_54 rfl rfl ?_
    show SS p e below m T45 56 #[vR (a_c), vI (0), vI (36), vR (b3), vI ((Int32.ofNat pp)), vR (r_o_30)] [(.ref r_o_30)] _
    jvm_step X45.here [X45.here.top, hx, (hb hby d11_56), X45.method', Bd.returns, Value.isRef, FieldType.isReference]
    first | (intro acts; rw [hr _ acts rfl rfl rfl]) | rw [hr _ _ rfl rfl rfl]
    exact Steps.refl _
  · show Qown_comp336U Z a_c k_c ch pp h0 n0 _ T45.heap _
    rw [eh45]
    exact ⟨r_o_30, k_r_30, rfl, N47, Sz38, Kc39, Pf30_0⟩
theorem own_ef_own_cfal36U (m : MethodId) (b_o : Addr) : entryFrame m #[(.ref b_o), (.int (36 : Int32))] 2 = mkF m 0 #[.val (.ref b_o), .val (.int (36 : Int32))] [] := by first | (simp [entryFrame, mkF, argsToLocals, Value.category]; done) | rfl
def Qown_cfal36U (Z : State) (b_o : Addr) (k_b : ClassId) (vs_b : List Value) (h0 : Heap) (n0 : Nat) (v : Option Value) (h : Heap) (L : List Loc) : Prop := v = some (.int 1) ∧ Fr n0 L ∧ h = h0
set_option maxRecDepth 65536 in
set_option maxHeartbeats 40000000 in
theorem own_cfal36U (l : Launch) (Z : State) (a0 : Array Value) (hw : ∀ d ∈ tables_1, d.before a0 Z = true) (ws : List Jvm.Cond) (b_o : Addr) (k_b : ClassId) (vs_b : List Value) (h0 : Heap) (n0 : Nat) (Z0 : n0 ≤ h0.size) (hB : Arv Z h0 b_o k_b .byte (72 : Int32) vs_b (.int 0)) :
    MetFree l y_16 (head1 (Jvm.Cond.code y_16 jdk_52_method_15_code 2 (some .byte) :: ws) (RM 0 0 0 0)) (fun a U => a = #[(.ref b_o), (.int 36)] ∧ Z.Warmed39 U.vm ∧ U.heap = h0) (fun _ _ _ _ _ => True) (fun _ U o U' => ∃ v L, o = .returned v ∧ Qown_cfal36U Z b_o k_b vs_b h0 n0 v U'.heap L ∧ FrameEnd U o U' L (RM 0 0 0 0).cells (RM 0 0 0 0).slots) := by
  refine MetFree.of_bodySF (plainFor_of_name own_pn2) hisR ?_
  intro p e s m args below meth c s₁ Bd hml0 hP hK
  obtain ⟨rfl, hZ, hh⟩ := hP
  have hx := Bd.exec
  have hby := Bd.bytes
  have hml : c.maxLocals = 2 := hml0
  have hown : s.vm.findClass "java/lang/StringUTF16" = some m.cls := findClass_of_methodNamed Bd.named
  have X0 : Stand p l e (RM 0 0 0 0) s m #[(.ref b_o), (.int 36)] below meth c s₁ [] 0 0 := Stand.of_body Bd
  have e0 : s₁.heap = h0 := by rw [← hh, Bd.state]; rfl
  have N0 := Fr.nil n0
  have pre0 : ∀ t, Steps p.tables e below (s₁.setTop (mkF m 0 #[vR (b_o), vI (36)] [])) t → Steps p.tables e below (s₁.setTop (entryFrame m #[(.ref b_o), (.int 36)] 2)) t := fun t k => castTop (own_ef_own_cfal36U m b_o) k
  obtain ⟨cl4, Ar4, -, S4, M4, -, -⟩ := id hB
  obtain ⟨fs, hr, hrun, hended, hW, hsame⟩ := X0.leave (v := some (.int 1)) (fun h => by rw [Bd.returns] at h; cases h) (hlocks := BodyLoose.notSynchronized Bd)
  refine ⟨_, _, pre0 _ ?_, hrun, hended, _, _, rfl, ?_, ⟨_, rfl⟩, hW, hsame.mono (by decide) (by decide)⟩
  · show SS p e below m s₁ 0 #[vR (b_o), vI (36)] [] _
    refine ziloadN X0 hx hby d13_0 rfl ?_
    refine zaloadN X0 hx hby d13_1 rfl rfl ?_
    show SS p e below m s₁ 2 #[vR (b_o), vI (36)] [(.ref b_o), (.int 36)] _
    refine X0.arraylength hx (by rw [e0]; exact Ar4.1) (State.isArrayOf_alike hZ.alike Ar4.2.1) (g := (mkF m 2 #[vR (b_o), vI (36)] [(.ref b_o), (.int 36)])) rfl rfl (hb hby d13_2) _ ?_
    rw [len_of S4 M4]
    show SS p e below m s₁ 3 #[vR (b_o), vI (36)] [(.int 72), (.int 36)] _
    refine XS.isub X0.here hx rfl (hb hby d13_3) rfl ?_
    show SS p e below m s₁ 4 #[vR (b_o), vI (36)] [(.int (-36 : Int32))] _
    refine zbipush X0 hx hby (31) d13_4 rfl ?_
    show SS p e below m s₁ 6 #[vR (b_o), vI (36)] [(.int 31), (.int (-36 : Int32))] _
    refine XS.iushr X0.here hx rfl (hb hby d13_6) rfl ?_
    show SS p e below m s₁ 7 #[vR (b_o), vI (36)] [(.int 1)] _
    refine XS.i2b X0.here hx rfl (hb hby d13_7) rfl ?_
    show SS p e below m s₁ 8 #[vR (b_o), vI (36)] [(.int 1)] _
    exact retN X0 hx (t := .byte) Bd.returns (by simp) (hb hby d13_8) hr
  · show Qown_cfal36U Z b_o k_b vs_b h0 n0 _ s₁.heap _
    rw [e0]
    exact ⟨rfl, N0, rfl⟩
theorem own_ef_own_initV36U (m : MethodId) (a_o : Addr) (a_c : Addr) : entryFrame m #[(.ref a_o), (.ref a_c), (.int (0 : Int32)), (.int (36 : Int32)), .null] 6 = mkF m 0 #[.val (.ref a_o), .val (.ref a_c), .val (.int (0 : Int32)), .val (.int (36 : Int32)), .val .null, .unset] [] := by first | (simp [entryFrame, mkF, argsToLocals, Value.category]; done) | rfl
def Qown_initV36U (Z : State) (a_o : Addr) (u_v : Value) (u_c : Value) (a_c : Addr) (k_c : ClassId) (ch : Nat → Int32) (pp : Nat) (cs : Int32) (h0 : Heap) (n0 : Nat) (v : Option Value) (h : Heap) (L : List Loc) : Prop := ∃ r_o : Addr, ∃ k_r : ClassId, v = none ∧ Fr n0 L ∧ h0.size ≤ r_o ∧ Keep h0 h [a_o] ∧ Fld Z h a_o "java/lang/String" "coder" "B" (.int 1) ∧ Fld Z h a_o "java/lang/String" "value" "[B" (.ref r_o) ∧ Arv Z h r_o k_r .byte (72 : Int32) (own_fl 72 (own_ug ch)) (.int 0)
set_option maxRecDepth 65536 in
set_option maxHeartbeats 40000000 in
theorem own_initV36U (l : Launch) (Z : State) (a0 : Array Value) (hw : ∀ d ∈ tables_1, d.before a0 Z = true) (ws : List Jvm.Cond) (a_o : Addr) (u_v : Value) (u_c : Value) (a_c : Addr) (k_c : ClassId) (ch : Nat → Int32) (pp : Nat) (cs : Int32) (h0 : Heap) (n0 : Nat) (Z0 : n0 ≤ h0.size) (hxa : Exa Z h0 a_o "java/lang/String") (hfv : Fld Z h0 a_o "java/lang/String" "value" "[B" u_v) (hcd : Fld Z h0 a_o "java/lang/String" "coder" "B" u_c) (hg : n0 ≤ a_o) (hA : Arv Z h0 a_c k_c .char (36 : Int32) (own_cl 36 ch) (.int 0)) (hp : pp < 36) (hc : (255 : Int32) < ch pp) (hl : ∀ j, j < pp → ¬ (255 : Int32) < ch j) (hrg : ∀ j, nar .char (ch j) = ch j) (hSa : Sta Z Z.heap "java/lang/StringUTF16" "$assertionsDisabled" "Z" (.int 1)) (hSh : Sta Z Z.heap "java/lang/StringUTF16" "HI_BYTE_SHIFT" "I" (.int 0)) (hSl : Sta Z Z.heap "java/lang/StringUTF16" "LO_BYTE_SHIFT" "I" (.int 8)) (hO : Old Z n0 h0) (hS : Sta Z Z.heap "java/lang/String" "COMPACT_STRINGS" "Z" (.int cs)) (hcs : ¬ cs = (0 : Int32)) :
    MetFree l y_17 (head1 (Jvm.Cond.code y_17 jdk_42_method_149_code 6 none :: ws) (RM 4 2 108 57)) (fun a U => a = #[(.ref a_o), (.ref a_c), (.int 0), (.int 36), .null] ∧ Z.Warmed39 U.vm ∧ U.heap = h0) (fun _ _ _ _ _ => True) (fun _ U o U' => ∃ v L, o = .returned v ∧ Qown_initV36U Z a_o u_v u_c a_c k_c ch pp cs h0 n0 v U'.heap L ∧ FrameEnd U o U' L (RM 4 2 108 57).cells (RM 4 2 108 57).slots) := by
  refine MetFree.of_bodySF (plainFor_of_name own_pn3) hisR ?_
  intro p e s m args below meth c s₁ Bd hml0 hP hK
  obtain ⟨rfl, hZ, hh⟩ := hP
  have hx := Bd.exec
  have hby := Bd.bytes
  have hml : c.maxLocals = 6 := hml0
  have hown : s.vm.findClass "java/lang/String" = some m.cls := findClass_of_methodNamed Bd.named
  have hnm := (name_of_methodNamed Bd.named Bd.method).1
  have X0 : Stand p l e (RM 4 2 108 57) s m #[(.ref a_o), (.ref a_c), (.int 0), (.int 36), .null] below meth c s₁ [] 0 0 := Stand.of_body Bd
  have e0 : s₁.heap = h0 := by rw [← hh, Bd.state]; rfl
  have N0 := Fr.nil n0
  have pre0 : ∀ t, Steps p.tables e below (s₁.setTop (mkF m 0 #[vR (a_o), vR (a_c), vI (0), vI (36), .val .null, u_] [])) t → Steps p.tables e below (s₁.setTop (entryFrame m #[(.ref a_o), (.ref a_c), (.int 0), (.int 36), .null] 6)) t := fun t k => castTop (own_ef_own_initV36U m a_o a_c) k
  obtain ⟨T3, X3, e3, st3⟩ := initO X0 hx hZ hown (hw _ (gm 36 rfl)) (hw _ (gm 37 rfl)) (hw _ (gm 38 rfl)) e0 (g := (mkF m 1 #[vR (a_o), vR (a_c), vI (0), vI (36), .val .null, u_] [(.ref a_o)])) rfl (by rw [hml]; rfl) rfl (hb hby d9_1) (by decide) (W := 0) (by show 2 * 0 + _ ≤ _; exact Nat.le_of_eq rfl) (by decide)
  obtain ⟨T7, X7, e7, st7⟩ := getS2 X3 hx hZ hown (host := "") (Or.inl (hw _ (gm 39 rfl))) Via.refl e3 (hS.ext hO.2) (g := (mkF m 27 #[vR (a_o), vR (a_c), vI (0), vI (36), .val .null, u_] [])) rfl (hb hby d9_27)
  obtain ⟨_, _, ⟨T13, L13, k13, n13⟩, -, X13, ⟨Lc13, hQ13, l13, y13, z13⟩, st13⟩ := Jvm.LawKit.callS X7 hx (y := y_15) hown (mvT hZ (hw _ (gm 40 rfl))) (mvT hZ (hw _ (gm 41 rfl))) (mvT hZ (hw _ (gm 42 rfl))) (mvT hZ (hw _ (gm 43 rfl))) (by decide) (backOf (W := 0) (own_comp336U l Z a0 hw [] a_c k_c ch pp h0 n0 Z0 hA hp hc hl hrg hSa hSh hSl hO) hZ (hw _ (gm 43 rfl)) (hw _ (gm 42 rfl)) (by decide) (by decide)) (g := (mkF m 36 #[vR (a_o), vR (a_c), vI (0), vI (36), .val .null, u_] [(.int 36), (.int 0), (.ref a_c)])) rfl (by rw [hml]; rfl) (argsL := [(.ref a_c), (.int 0), (.int 36)]) (rest := []) (lenOf own_pd8 rfl) rfl (by show 2 * 0 + _ ≤ _; exact Nat.le_of_eq rfl) (hb hby d9_36) (fun _ _ => ⟨rfl, e7, (by decide : 0 + 2 ≤ _), (by decide : 0 + 108 ≤ _)⟩)
  dsimp only [Pt.U, Pt.locs, Pt.cells, Pt.slots] at X13 l13 y13 z13 st13 hQ13
  rw [l13, y13, z13] at X13
  obtain ⟨r_o_13, k_r_13, rfl, Nq13, sz13_r_o, K13, Pf13_0⟩ := hQ13
  have N14 := Fr.app N0 Nq13
  have Ne15 : a_o ≠ r_o_13 := Nat.ne_of_lt (Nat.lt_of_lt_of_le hxa.lt sz13_r_o)
  have Sz18 : h0.size ≤ r_o_13 := Nat.le_trans (Keep.refl h0 [a_o]).1 sz13_r_o
  have Kc19 : Keep h0 T13.heap [a_o] := (Keep.refl h0 [a_o]).trans K13 all0
  have Zs20 : n0 ≤ T13.heap.size := Nat.le_trans Z0 K13.1
  obtain ⟨_, _, ⟨T26, L26, k26, n26⟩, -, X26, ⟨Lc26, hQ26, l26, y26, z26⟩, st26⟩ := Jvm.LawKit.callS X13 hx (y := y_16) hown (mvT hZ (hw _ (gm 48 rfl))) (mvT hZ (hw _ (gm 49 rfl))) (mvT hZ (hw _ (gm 42 rfl))) (mvT hZ (hw _ (gm 50 rfl))) (by decide) (backOf (W := 1) (own_cfal36U l Z a0 hw [] r_o_13 k_r_13 (own_fl 72 (own_ug ch)) T13.heap n0 Zs20 Pf13_0) hZ (hw _ (gm 50 rfl)) (hw _ (gm 42 rfl)) (by decide) (by decide)) (g := (mkF m 45 #[vR (a_o), vR (a_c), vI (0), vI (36), .val .null, vR (r_o_13)] [(.int 36), (.ref r_o_13), (.ref a_o)])) rfl (by rw [hml]; rfl) (argsL := [(.ref r_o_13), (.int 36)]) (rest := [(.ref a_o)]) (lenOf own_pd9 rfl) rfl (by show 2 * 0 + _ ≤ _; exact Nat.le_of_eq rfl) (hb hby d9_45) (fun _ _ => ⟨rfl, rfl, (by decide : 2 + 0 ≤ _), (by decide : 108 + 0 ≤ _)⟩)
  dsimp only [Pt.U, Pt.locs, Pt.cells, Pt.slots] at X26 l26 y26 z26 st26 hQ26
  rw [l26, y26, z26] at X26
  obtain ⟨rfl, Nq26, eh26⟩ := hQ26
  have N27 := Fr.app N14 Nq26
  have Fq29 : Exa Z T13.heap a_o "java/lang/String" := (hxa.keep K13)
  have Fq30 : Fld Z T13.heap a_o "java/lang/String" "coder" "B" u_c := (hcd.keep K13 nin0)
  obtain ⟨T31, h31, X31, e31, W31, st31⟩ := putFN X26 hx hZ hown (hw _ (gm 51 rfl)) Via.refl eh26 Fq30 Fq29 (Or.inr ⟨(hw _ (gm 52 rfl)), rfl, hnm⟩) (hw _ (gm 27 rfl)) (ty := .byte) (v' := (.int 1)) (by decide) rfl rfl (g := (mkF m 48 #[vR (a_o), vR (a_c), vI (0), vI (36), .val .null, vR (r_o_13)] [(.int 1), (.ref a_o)])) rfl rfl (hb hby d9_48)
  have Kc32 : Keep h0 h31 [a_o] := Kc19.wr W31 (Or.inl (ga 0 rfl))
  have N34 := Fr.snoc X31 N27 hg
  have Fw31 : Fld Z h31 a_o "java/lang/String" "coder" "B" (.int 1) := Fq30.same W31
  have Fq38 : Exa Z h31 a_o "java/lang/String" := (Fq29.wr W31)
  have Fq39 : Fld Z h31 a_o "java/lang/String" "value" "[B" u_v := ((hfv.keep K13 nin0).other W31 (Or.inr (slot_ne (Or.inr (hw _ (gm 54 rfl))) (Or.inr (hw _ (gm 52 rfl))) (by decide) (t := (.array .byte)) (t' := .byte) (by decide) (by decide))))
  obtain ⟨T40, h40, X40, e40, W40, st40⟩ := putF X31 hx hZ hown (host := "") (Or.inl (hw _ (gm 53 rfl))) Via.refl e31 Fq39 Fq38 (Or.inr ⟨(hw _ (gm 54 rfl)), rfl, hnm⟩) (hw _ (gm 27 rfl)) (ty := (.array .byte)) (by decide) rfl rfl (g := (mkF m 54 #[vR (a_o), vR (a_c), vI (0), vI (36), .val .null, vR (r_o_13)] [(.ref r_o_13), (.ref a_o)])) rfl rfl (hb hby d9_54)
  have Kc41 : Keep h0 h40 [a_o] := Kc32.wr W40 (Or.inl (ga 0 rfl))
  have N43 := Fr.snoc X40 N34 hg
  have Fw40 : Fld Z h40 a_o "java/lang/String" "value" "[B" (.ref r_o_13) := Fq39.same W40
  obtain ⟨fs, hr, hrun, hended, hW, hsame⟩ := X40.leave (v := none) (fun _ => rfl) (hlocks := BodyLoose.notSynchronized Bd)
  refine ⟨_, _, pre0 _ ?_, hrun, hended, _, _, rfl, ?_, ⟨_, rfl⟩, hW, hsame.mono (by decide) (by decide)⟩
  · show SS p e below m s₁ 0 #[vR (a_o), vR (a_c), vI (0), vI (36), .val .null, u_] [] _
    refine zaloadN X0 hx hby d9_0 rfl rfl ?_
    refine st3 _ ?_
    refine ziloadN X3 hx hby d9_4 rfl ?_
    refine zifYes X3 hx hby 5 27 rfl d9_5 ((if0 _ _).trans (feq ((by decide) : ¬ ((36 : Int32) = (0 : Int32)))).2) (by decide) (by decide) ?_
    refine st7 _ ?_
    refine zifNo X7 hx hby d9_30 ((if0 _ _).trans (feq (hcs : ¬ (cs = (0 : Int32)))).1) ?_
    refine zaloadN X7 hx hby d9_33 rfl rfl ?_
    refine ziloadN X7 hx hby d9_34 rfl ?_
    refine ziloadN X7 hx hby d9_35 rfl ?_
    refine st13 _ ?_
    refine zastore (l' := #[vR (a_o), vR (a_c), vI (0), vI (36), .val .null, vR (r_o_13)]) X13 hx hby d9_39 rfl rfl ?_
    refine zaloadN X13 hx hby d9_41 rfl rfl ?_
    show SS p e below m T13 42 #[vR (a_o), vR (a_c), vI (0), vI (36), .val .null, vR (r_o_13)] [(.ref a_o)] _
    refine zaload X13 hx hby d9_42 rfl rfl ?_
    refine ziloadN X13 hx hby d9_44 rfl ?_
    refine st26 _ ?_
    refine st31 _ ?_
    refine zaloadN X31 hx hby d9_51 rfl rfl ?_
    refine zaload X31 hx hby d9_52 rfl rfl ?_
    refine st40 _ ?_
    exact X40.returnOut hx Bd.returns (hb hby d9_57) hr
  · show Qown_initV36U Z a_o u_v u_c a_c k_c ch pp cs h0 n0 _ T40.heap _
    rw [e40]
    have Fq45 : Fld Z h40 a_o "java/lang/String" "coder" "B" (.int 1) := (Fw31.other W40 (Or.inr (slot_ne (Or.inr (hw _ (gm 52 rfl))) (Or.inr (hw _ (gm 54 rfl))) (by decide) (t := .byte) (t' := (.array .byte)) (by decide) (by decide))))
    have Fq46 : Arv Z h40 r_o_13 k_r_13 .byte (72 : Int32) (own_fl 72 (own_ug ch)) (.int 0) := ((Pf13_0.other W31 (Ne.symm Ne15)).other W40 (Ne.symm Ne15))
    exact ⟨r_o_13, k_r_13, rfl, N43, Sz18, Kc41, Fq45, Fw40, Fq46⟩
theorem own_ef_own_initC36U (m : MethodId) (a_o : Addr) (a_c : Addr) : entryFrame m #[(.ref a_o), (.ref a_c)] 2 = mkF m 0 #[.val (.ref a_o), .val (.ref a_c)] [] := by first | (simp [entryFrame, mkF, argsToLocals, Value.category]; done) | rfl
def Qown_initC36U (Z : State) (a_o : Addr) (u_v : Value) (u_c : Value) (a_c : Addr) (k_c : ClassId) (ch : Nat → Int32) (pp : Nat) (cs : Int32) (h0 : Heap) (n0 : Nat) (v : Option Value) (h : Heap) (L : List Loc) : Prop := ∃ r_o : Addr, ∃ k_r : ClassId, v = none ∧ Fr n0 L ∧ h0.size ≤ r_o ∧ Keep h0 h [a_o] ∧ Fld Z h a_o "java/lang/String" "coder" "B" (.int 1) ∧ Fld Z h a_o "java/lang/String" "value" "[B" (.ref r_o) ∧ Arv Z h r_o k_r .byte (72 : Int32) (own_fl 72 (own_ug ch)) (.int 0)
set_option maxRecDepth 65536 in
set_option maxHeartbeats 40000000 in
theorem own_initC36U (l : Launch) (Z : State) (a0 : Array Value) (hw : ∀ d ∈ tables_1, d.before a0 Z = true) (ws : List Jvm.Cond) (a_o : Addr) (u_v : Value) (u_c : Value) (a_c : Addr) (k_c : ClassId) (ch : Nat → Int32) (pp : Nat) (cs : Int32) (h0 : Heap) (n0 : Nat) (Z0 : n0 ≤ h0.size) (hxa : Exa Z h0 a_o "java/lang/String") (hfv : Fld Z h0 a_o "java/lang/String" "value" "[B" u_v) (hcd : Fld Z h0 a_o "java/lang/String" "coder" "B" u_c) (hg : n0 ≤ a_o) (hA : Arv Z h0 a_c k_c .char (36 : Int32) (own_cl 36 ch) (.int 0)) (hp : pp < 36) (hc : (255 : Int32) < ch pp) (hl : ∀ j, j < pp → ¬ (255 : Int32) < ch j) (hrg : ∀ j, nar .char (ch j) = ch j) (hSa : Sta Z Z.heap "java/lang/StringUTF16" "$assertionsDisabled" "Z" (.int 1)) (hSh : Sta Z Z.heap "java/lang/StringUTF16" "HI_BYTE_SHIFT" "I" (.int 0)) (hSl : Sta Z Z.heap "java/lang/StringUTF16" "LO_BYTE_SHIFT" "I" (.int 8)) (hO : Old Z n0 h0) (hS : Sta Z Z.heap "java/lang/String" "COMPACT_STRINGS" "Z" (.int cs)) (hcs : ¬ cs = (0 : Int32)) :
    MetFree l y_18 (head1 (Jvm.Cond.code y_18 jdk_42_method_3_code 2 none :: ws) (RM 5 2 108 74)) (fun a U => a = #[(.ref a_o), (.ref a_c)] ∧ Z.Warmed39 U.vm ∧ U.heap = h0) (fun _ _ _ _ _ => True) (fun _ U o U' => ∃ v L, o = .returned v ∧ Qown_initC36U Z a_o u_v u_c a_c k_c ch pp cs h0 n0 v U'.heap L ∧ FrameEnd U o U' L (RM 5 2 108 74).cells (RM 5 2 108 74).slots) := by
  refine MetFree.of_bodySF (plainFor_of_name own_pn3) hisR ?_
  intro p e s m args below meth c s₁ Bd hml0 hP hK
  obtain ⟨rfl, hZ, hh⟩ := hP
  have hx := Bd.exec
  have hby := Bd.bytes
  have hml : c.maxLocals = 2 := hml0
  have hown : s.vm.findClass "java/lang/String" = some m.cls := findClass_of_methodNamed Bd.named
  have X0 : Stand p l e (RM 5 2 108 74) s m #[(.ref a_o), (.ref a_c)] below meth c s₁ [] 0 0 := Stand.of_body Bd
  have e0 : s₁.heap = h0 := by rw [← hh, Bd.state]; rfl
  have N0 := Fr.nil n0
  have pre0 : ∀ t, Steps p.tables e below (s₁.setTop (mkF m 0 #[vR (a_o), vR (a_c)] [])) t → Steps p.tables e below (s₁.setTop (entryFrame m #[(.ref a_o), (.ref a_c)] 2)) t := fun t k => castTop (own_ef_own_initC36U m a_o a_c) k
  obtain ⟨cl6, Ar6, -, S6, M6, -, -⟩ := id hA
  obtain ⟨_, _, ⟨T9, L9, k9, n9⟩, -, X9, ⟨Lc9, hQ9, l9, y9, z9⟩, st9⟩ := X0.specialBack hx (y := y_17) rfl hown (mvT hZ (hw _ (gm 32 rfl))) (mvT hZ (hw _ (gm 33 rfl))) (mvT hZ (hw _ (gm 35 rfl))) (by decide) (backOf (W := 0) (own_initV36U l Z a0 hw [] a_o u_v u_c a_c k_c ch pp cs h0 n0 Z0 hxa hfv hcd hg hA hp hc hl hrg hSa hSh hSl hO hS (by first | assumption | decide : ¬ cs = (0 : Int32))) hZ (hw _ (gm 35 rfl)) (hw _ (gm 28 rfl)) (by decide) (by decide)) (g := (mkF m 6 #[vR (a_o), vR (a_c)] [.null, (.int 36), (.int 0), (.ref a_c), (.ref a_o)])) rfl (by rw [hml]; rfl) (Steps.refl _) (a := a_o) (argsL := [(.ref a_c), (.int 0), (.int 36), .null]) (rest := []) (lenOf own_pd10 rfl) rfl (by show 2 * 0 + _ ≤ _; exact Nat.le_of_eq rfl) (hb hby d8_6) (fun _ _ => ⟨rfl, e0, (by decide : 0 + 2 ≤ _), (by decide : 0 + 108 ≤ _)⟩)
  dsimp only [Pt.U, Pt.locs, Pt.cells, Pt.slots] at X9 l9 y9 z9 st9 hQ9
  rw [l9, y9, z9] at X9
  obtain ⟨r_o_9, k_r_9, rfl, Nq9, sz9_r_o, K9, Pf9_0, Pf9_1, Pf9_2⟩ := hQ9
  have N10 := Fr.app N0 Nq9
  have Sz14 : h0.size ≤ r_o_9 := Nat.le_trans (Keep.refl h0 [a_o]).1 sz9_r_o
  have Kc15 : Keep h0 T9.heap [a_o] := (Keep.refl h0 [a_o]).trans K9 (allS (Or.inl (ga 0 rfl)) all0)
  obtain ⟨fs, hr, hrun, hended, hW, hsame⟩ := X9.leave (v := none) (fun _ => rfl) (hlocks := BodyLoose.notSynchronized Bd)
  refine ⟨_, _, pre0 _ ?_, hrun, hended, _, _, rfl, ?_, ⟨_, rfl⟩, hW, hsame.mono (by decide) (by decide)⟩
  · show SS p e below m s₁ 0 #[vR (a_o), vR (a_c)] [] _
    refine zaloadN X0 hx hby d8_0 rfl rfl ?_
    refine zaloadN X0 hx hby d8_1 rfl rfl ?_
    refine ziconst X0 hx hby (0) d8_2 rfl ?_
    refine zaloadN X0 hx hby d8_3 rfl rfl ?_
    show SS p e below m s₁ 4 #[vR (a_o), vR (a_c)] [(.ref a_c), (.int 0), (.ref a_c), (.ref a_o)] _
    refine X0.arraylength hx (by rw [e0]; exact Ar6.1) (State.isArrayOf_alike hZ.alike Ar6.2.1) (g := (mkF m 4 #[vR (a_o), vR (a_c)] [(.ref a_c), (.int 0), (.ref a_c), (.ref a_o)])) rfl rfl (hb hby d8_4) _ ?_
    rw [len_of S6 M6]
    show SS p e below m s₁ 5 #[vR (a_o), vR (a_c)] [(.int 36), (.int 0), (.ref a_c), (.ref a_o)] _
    refine XS.aconstNull X0.here hx rfl (hb hby d8_5) ?_
    show SS p e below m s₁ 6 #[vR (a_o), vR (a_c)] [.null, (.int 36), (.int 0), (.ref a_c), (.ref a_o)] _
    refine st9.trans ?_
    exact X9.returnOut hx Bd.returns (hb hby d8_9) hr
  · show Qown_initC36U Z a_o u_v u_c a_c k_c ch pp cs h0 n0 _ T9.heap _
    exact ⟨r_o_9, k_r_9, rfl, N10, Sz14, Kc15, Pf9_0, Pf9_1, Pf9_2⟩
theorem own_ef_own_comp337U (m : MethodId) (a_c : Addr) : entryFrame m #[(.ref a_c), (.int (0 : Int32)), (.int (37 : Int32))] 6 = mkF m 0 #[.val (.ref a_c), .val (.int (0 : Int32)), .val (.int (37 : Int32)), .unset, .unset, .unset] [] := by first | (simp [entryFrame, mkF, argsToLocals, Value.category]; done) | rfl
def Qown_comp337U (Z : State) (a_c : Addr) (k_c : ClassId) (ch : Nat → Int32) (pp : Nat) (h0 : Heap) (n0 : Nat) (v : Option Value) (h : Heap) (L : List Loc) : Prop := ∃ r_o : Addr, ∃ k_r : ClassId, v = some (.ref r_o) ∧ Fr n0 L ∧ h0.size ≤ r_o ∧ Keep h0 h [] ∧ Arv Z h r_o k_r .byte (74 : Int32) (own_fl 74 (own_ug ch)) (.int 0)
set_option maxRecDepth 65536 in
set_option maxHeartbeats 40000000 in
theorem own_comp337U (l : Launch) (Z : State) (a0 : Array Value) (hw : ∀ d ∈ tables_1, d.before a0 Z = true) (ws : List Jvm.Cond) (a_c : Addr) (k_c : ClassId) (ch : Nat → Int32) (pp : Nat) (h0 : Heap) (n0 : Nat) (Z0 : n0 ≤ h0.size) (hA : Arv Z h0 a_c k_c .char (37 : Int32) (own_cl 37 ch) (.int 0)) (hp : pp < 37) (hc : (255 : Int32) < ch pp) (hl : ∀ j, j < pp → ¬ (255 : Int32) < ch j) (hrg : ∀ j, nar .char (ch j) = ch j) (hSa : Sta Z Z.heap "java/lang/StringUTF16" "$assertionsDisabled" "Z" (.int 1)) (hSh : Sta Z Z.heap "java/lang/StringUTF16" "HI_BYTE_SHIFT" "I" (.int 0)) (hSl : Sta Z Z.heap "java/lang/StringUTF16" "LO_BYTE_SHIFT" "I" (.int 8)) (hO : Old Z n0 h0) :
    MetFree l y_15 (head1 (Jvm.Cond.code y_15 jdk_52_method_16_code 6 (some (.array .byte)) :: ws) (RM 3 2 111 40)) (fun a U => a = #[(.ref a_c), (.int 0), (.int 37)] ∧ Z.Warmed39 U.vm ∧ U.heap = h0) (fun _ _ _ _ _ => True) (fun _ U o U' => ∃ v L, o = .returned v ∧ Qown_comp337U Z a_c k_c ch pp h0 n0 v U'.heap L ∧ FrameEnd U o U' L (RM 3 2 111 40).cells (RM 3 2 111 40).slots) := by
  refine MetFree.of_bodySF (plainFor_of_name own_pn2) hisR ?_
  intro p e s m args below meth c s₁ Bd hml0 hP hK
  obtain ⟨rfl, hZ, hh⟩ := hP
  have hx := Bd.exec
  have hby := Bd.bytes
  have hml : c.maxLocals = 6 := hml0
  have hown : s.vm.findClass "java/lang/StringUTF16" = some m.cls := findClass_of_methodNamed Bd.named
  have X0 : Stand p l e (RM 3 2 111 40) s m #[(.ref a_c), (.int 0), (.int 37)] below meth c s₁ [] 0 0 := Stand.of_body Bd
  have e0 : s₁.heap = h0 := by rw [← hh, Bd.state]; rfl
  have N0 := Fr.nil n0
  have pre0 : ∀ t, Steps p.tables e below (s₁.setTop (mkF m 0 #[vR (a_c), vI (0), vI (37), u_, u_, u_] [])) t → Steps p.tables e below (s₁.setTop (entryFrame m #[(.ref a_c), (.int 0), (.int 37)] 6)) t := fun t k => castTop (own_ef_own_comp337U m a_c) k
  obtain ⟨T3, h3, k3, X3, e3, E3, A3, Y3, st3⟩ := newPE X0 hx hZ (hw _ (gm 44 rfl)) e0 (g := (mkF m 1 #[vR (a_c), vI (0), vI (37), u_, u_, u_] [(.int 37)])) rfl (hb hby d11_1) rfl (by decide) (cap := 37) (by decide) (by decide) (by decide) (by decide) (ad := "[B") (by first | rfl | decide)
  obtain ⟨b3, g3⟩ : ∃ z, z = h0.size := ⟨_, rfl⟩
  rw [← g3] at A3 Y3 st3
  have Ne4 : a_c ≠ b3 := Nat.ne_of_lt (Nat.lt_of_lt_of_le hA.lt (Nat.le_of_eq g3.symm))
  have Ge5 : n0 ≤ b3 := Nat.le_trans Z0 (Nat.le_of_eq g3.symm)
  have Sz6 : h0.size ≤ b3 := Nat.le_trans (Keep.refl h0 []).1 (Nat.le_of_eq g3.symm)
  have Kc7 : Keep h0 h3 [] := (Keep.refl h0 []).ext E3
  have Zs8 : n0 ≤ h3.size := (Nat.le_trans Z0 E3.1)
  have V3 : Arv Z h3 b3 k3 .byte (37 : Int32) [] (.int 0) := (Arv.new A3 (by decide))
  have Vz10 : Arv Z h3 b3 k3 .byte (37 : Int32) (own_fl 37 (own_fi (own_bg ch) 0)) (.int 0) := (V3).pad own_fi0
  have Fq18 : Arv Z h3 a_c k_c .char (37 : Int32) (own_cl 37 ch) (.int 0) := (hA.ext E3)
  obtain ⟨_, _, ⟨T17, L17, k17, n17⟩, -, X17, ⟨Lc17, hQ17, l17, y17, z17⟩, st17⟩ := Jvm.LawKit.callS X3 hx (y := y_9) hown (mvT hZ (hw _ (gm 45 rfl))) (mvT hZ (hw _ (gm 46 rfl))) (mvT hZ (hw _ (gm 42 rfl))) (mvT hZ (hw _ (gm 47 rfl))) (by decide) (backOf (W := 0) (own_comp5U l Z a0 hw [] a_c k_c ch b3 k3 (37 : Int32) 37 pp h3 n0 Zs8 Fq18 Vz10 Ne4 Ge5 (by first | assumption | decide : (37 : Int32) = Int32.ofNat 37) (by first | assumption | decide : 37 < 2147483648) hp hc hl) hZ (hw _ (gm 47 rfl)) (hw _ (gm 42 rfl)) (by decide) (by decide)) (g := (mkF m 9 #[vR (a_c), vI (0), vI (37), vR (b3), u_, u_] [(.int 37), (.int 0), (.ref b3), (.int 0), (.ref a_c)])) rfl (by rw [hml]; rfl) (argsL := [(.ref a_c), (.int 0), (.ref b3), (.int 0), (.int 37)]) (rest := []) (lenOf own_pd7 rfl) rfl (by show 2 * 0 + _ ≤ _; exact Nat.le_of_eq rfl) (hb hby d11_9) (fun _ _ => ⟨rfl, e3, (by decide : 1 + 0 ≤ _), (by decide : 37 + 0 ≤ _)⟩)
  dsimp only [Pt.U, Pt.locs, Pt.cells, Pt.slots] at X17 l17 y17 z17 st17 hQ17
  rw [l17, y17, z17] at X17
  obtain ⟨rfl, Nq17, K17⟩ := hQ17
  have N19 := Fr.app N0 Nq17
  have Kc20 : Keep h0 T17.heap [] := Kc7.trans K17 (allS (Or.inr Sz6) all0)
  have Zs21 : n0 ≤ T17.heap.size := Nat.le_trans Zs8 K17.1
  have Fq31 : Arv Z T17.heap a_c k_c .char (37 : Int32) (own_cl 37 ch) (.int 0) := (Fq18.keep K17 (ninS Ne4 nin0))
  have Fq32 : Old Z n0 T17.heap := ((hO.ext E3).keep K17 (allS Ge5 all0))
  obtain ⟨_, _, ⟨T30, L30, k30, n30⟩, -, X30, ⟨Lc30, hQ30, l30, y30, z30⟩, st30⟩ := Jvm.LawKit.callS X17 hx (y := y_13) hown (mvT hZ (hw _ (gm 152 rfl))) (mvT hZ (hw _ (gm 153 rfl))) (mvT hZ (hw _ (gm 42 rfl))) (mvT hZ (hw _ (gm 154 rfl))) (by decide) (backOf (W := 0) (own_tob37 l Z a0 hw [] a_c k_c ch T17.heap n0 Zs21 Fq31 hSa hSh hSl Fq32) hZ (hw _ (gm 154 rfl)) (hw _ (gm 42 rfl)) (by decide) (by decide)) (g := (mkF m 23 #[vR (a_c), vI (0), vI (37), vR (b3), vI ((Int32.ofNat pp)), u_] [(.int 37), (.int 0), (.ref a_c)])) rfl (by rw [hml]; rfl) (argsL := [(.ref a_c), (.int 0), (.int 37)]) (rest := []) (lenOf own_pd8 rfl) rfl (by show 2 * 0 + _ ≤ _; exact Nat.le_of_eq rfl) (hb hby d11_23) (fun _ _ => ⟨rfl, rfl, (by decide : 1 + 1 ≤ _), (by decide : 37 + 74 ≤ _)⟩)
  dsimp only [Pt.U, Pt.locs, Pt.cells, Pt.slots] at X30 l30 y30 z30 st30 hQ30
  rw [l30, y30, z30] at X30
  obtain ⟨r_o_30, k_r_30, rfl, Nq30, sz30_r_o, K30, Pf30_0⟩ := hQ30
  have N33 := Fr.app N19 Nq30
  have Sz38 : h0.size ≤ r_o_30 := Nat.le_trans Kc20.1 sz30_r_o
  have Kc39 : Keep h0 T30.heap [] := Kc20.trans K30 all0
  have Zs40 : n0 ≤ T30.heap.size := Nat.le_trans Zs21 K30.1
  have Fq46 : Old Z n0 T30.heap := (Fq32.keep K30 all0)
  obtain ⟨_, _, ⟨T45, L45, k45, n45⟩, -, X45, ⟨Lc45, hQ45, l45, y45, z45⟩, st45⟩ := Jvm.LawKit.callS X30 hx (y := y_14) hown (mvT hZ (hw _ (gm 168 rfl))) (mvT hZ (hw _ (gm 169 rfl))) (mvT hZ (hw _ (gm 42 rfl))) (mvT hZ (hw _ (gm 170 rfl))) (by decide) (backOf (W := 0) (own_getC37 l Z a0 hw [] r_o_30 pp k_r_30 ch T30.heap n0 Zs40 Pf30_0 hSa hSh hSl Fq46 hp hrg) hZ (hw _ (gm 170 rfl)) (hw _ (gm 42 rfl)) (by decide) (by decide)) (g := (mkF m 32 #[vR (a_c), vI (0), vI (37), vR (b3), vI ((Int32.ofNat pp)), vR (r_o_30)] [(.int (Int32.ofNat pp)), (.ref r_o_30)])) rfl (by rw [hml]; rfl) (argsL := [(.ref r_o_30), (.int (Int32.ofNat pp))]) (rest := []) (lenOf own_pd11 rfl) rfl (by show 2 * 0 + _ ≤ _; exact Nat.le_of_eq rfl) (hb hby d11_32) (fun _ _ => ⟨rfl, rfl, (by decide : 2 + 0 ≤ _), (by decide : 111 + 0 ≤ _)⟩)
  dsimp only [Pt.U, Pt.locs, Pt.cells, Pt.slots] at X45 l45 y45 z45 st45 hQ45
  rw [l45, y45, z45] at X45
  obtain ⟨rfl, Nq45, eh45⟩ := hQ45
  have N47 := Fr.app N33 Nq45
  obtain ⟨fs, hr, hrun, hended, hW, hsame⟩ := X45.leave (v := some (.ref r_o_30)) (fun h => by rw [Bd.returns] at h; cases h) (hlocks := BodyLoose.notSynchronized Bd)
  refine ⟨_, _, pre0 _ ?_, hrun, hended, _, _, rfl, ?_, ⟨_, rfl⟩, hW, hsame.mono (by decide) (by decide)⟩
  · show SS p e below m s₁ 0 #[vR (a_c), vI (0), vI (37), u_, u_, u_] [] _
    refine ziloadN X0 hx hby d11_0 rfl ?_
    refine st3 _ ?_
    refine zastoreN (l' := #[vR (a_c), vI (0), vI (37), vR (b3), u_, u_]) X3 hx hby d11_3 rfl rfl ?_
    refine zaloadN X3 hx hby d11_4 rfl rfl ?_
    refine ziloadN X3 hx hby d11_5 rfl ?_
    refine zaloadN X3 hx hby d11_6 rfl rfl ?_
    refine ziconst X3 hx hby (0) d11_7 rfl ?_
    refine ziloadN X3 hx hby d11_8 rfl ?_
    refine st17 _ ?_
    refine zistore (l' := #[vR (a_c), vI (0), vI (37), vR (b3), vI ((Int32.ofNat pp)), u_]) X17 hx hby d11_12 rfl ?_
    refine ziload X17 hx hby d11_14 rfl ?_
    refine ziloadN X17 hx hby d11_16 rfl ?_
    show SS p e below m T17 17 #[vR (a_c), vI (0), vI (37), vR (b3), vI ((Int32.ofNat pp)), u_] [(.int 37), (.int (Int32.ofNat pp))] _
    refine zicmpNo X17 hx hby d11_17 (feq ((fun q => absurd (own_i32inj (j := 37) (by omega) (by decide) q) (by omega)) : ¬ ((Int32.ofNat pp) = (37 : Int32)))).1 ?_
    refine zaloadN X17 hx hby d11_20 rfl rfl ?_
    refine ziloadN X17 hx hby d11_21 rfl ?_
    refine ziloadN X17 hx hby d11_22 rfl ?_
    refine st30 _ ?_
    refine zastore (l' := #[vR (a_c), vI (0), vI (37), vR (b3), vI ((Int32.ofNat pp)), vR (r_o_30)]) X30 hx hby d11_26 rfl rfl ?_
    refine zaload X30 hx hby d11_28 rfl rfl ?_
    refine ziload X30 hx hby d11_30 rfl ?_
    refine st45 _ ?_
    refine zsipush X45 hx hby (255) d11_35 rfl ?_
    refine zicmpYes X45 hx hby 38 54 rfl d11_38 (tlt (hc : (255 : Int32) < (ch pp))).2.2.1 (by decide) (by decide) ?_
    refine zaload X45 hx hby d11_54 rfl rfl ?_
    show SS p e below m T45 56 #[vR (a_c), vI (0), vI (37), vR (b3), vI ((Int32.ofNat pp)), vR (r_o_30)] [(.ref r_o_30)] _
    jvm_step X45.here [X45.here.top, hx, (hb hby d11_56), X45.method', Bd.returns, Value.isRef, FieldType.isReference]
    first | (intro acts; rw [hr _ acts rfl rfl rfl]) | rw [hr _ _ rfl rfl rfl]
    exact Steps.refl _
  · show Qown_comp337U Z a_c k_c ch pp h0 n0 _ T45.heap _
    rw [eh45]
    exact ⟨r_o_30, k_r_30, rfl, N47, Sz38, Kc39, Pf30_0⟩
theorem own_ef_own_cfal37U (m : MethodId) (b_o : Addr) : entryFrame m #[(.ref b_o), (.int (37 : Int32))] 2 = mkF m 0 #[.val (.ref b_o), .val (.int (37 : Int32))] [] := by first | (simp [entryFrame, mkF, argsToLocals, Value.category]; done) | rfl
def Qown_cfal37U (Z : State) (b_o : Addr) (k_b : ClassId) (vs_b : List Value) (h0 : Heap) (n0 : Nat) (v : Option Value) (h : Heap) (L : List Loc) : Prop := v = some (.int 1) ∧ Fr n0 L ∧ h = h0
set_option maxRecDepth 65536 in
set_option maxHeartbeats 40000000 in
theorem own_cfal37U (l : Launch) (Z : State) (a0 : Array Value) (hw : ∀ d ∈ tables_1, d.before a0 Z = true) (ws : List Jvm.Cond) (b_o : Addr) (k_b : ClassId) (vs_b : List Value) (h0 : Heap) (n0 : Nat) (Z0 : n0 ≤ h0.size) (hB : Arv Z h0 b_o k_b .byte (74 : Int32) vs_b (.int 0)) :
    MetFree l y_16 (head1 (Jvm.Cond.code y_16 jdk_52_method_15_code 2 (some .byte) :: ws) (RM 0 0 0 0)) (fun a U => a = #[(.ref b_o), (.int 37)] ∧ Z.Warmed39 U.vm ∧ U.heap = h0) (fun _ _ _ _ _ => True) (fun _ U o U' => ∃ v L, o = .returned v ∧ Qown_cfal37U Z b_o k_b vs_b h0 n0 v U'.heap L ∧ FrameEnd U o U' L (RM 0 0 0 0).cells (RM 0 0 0 0).slots) := by
  refine MetFree.of_bodySF (plainFor_of_name own_pn2) hisR ?_
  intro p e s m args below meth c s₁ Bd hml0 hP hK
  obtain ⟨rfl, hZ, hh⟩ := hP
  have hx := Bd.exec
  have hby := Bd.bytes
  have hml : c.maxLocals = 2 := hml0
  have hown : s.vm.findClass "java/lang/StringUTF16" = some m.cls := findClass_of_methodNamed Bd.named
  have X0 : Stand p l e (RM 0 0 0 0) s m #[(.ref b_o), (.int 37)] below meth c s₁ [] 0 0 := Stand.of_body Bd
  have e0 : s₁.heap = h0 := by rw [← hh, Bd.state]; rfl
  have N0 := Fr.nil n0
  have pre0 : ∀ t, Steps p.tables e below (s₁.setTop (mkF m 0 #[vR (b_o), vI (37)] [])) t → Steps p.tables e below (s₁.setTop (entryFrame m #[(.ref b_o), (.int 37)] 2)) t := fun t k => castTop (own_ef_own_cfal37U m b_o) k
  obtain ⟨cl4, Ar4, -, S4, M4, -, -⟩ := id hB
  obtain ⟨fs, hr, hrun, hended, hW, hsame⟩ := X0.leave (v := some (.int 1)) (fun h => by rw [Bd.returns] at h; cases h) (hlocks := BodyLoose.notSynchronized Bd)
  refine ⟨_, _, pre0 _ ?_, hrun, hended, _, _, rfl, ?_, ⟨_, rfl⟩, hW, hsame.mono (by decide) (by decide)⟩
  · show SS p e below m s₁ 0 #[vR (b_o), vI (37)] [] _
    refine ziloadN X0 hx hby d13_0 rfl ?_
    refine zaloadN X0 hx hby d13_1 rfl rfl ?_
    show SS p e below m s₁ 2 #[vR (b_o), vI (37)] [(.ref b_o), (.int 37)] _
    refine X0.arraylength hx (by rw [e0]; exact Ar4.1) (State.isArrayOf_alike hZ.alike Ar4.2.1) (g := (mkF m 2 #[vR (b_o), vI (37)] [(.ref b_o), (.int 37)])) rfl rfl (hb hby d13_2) _ ?_
    rw [len_of S4 M4]
    show SS p e below m s₁ 3 #[vR (b_o), vI (37)] [(.int 74), (.int 37)] _
    refine XS.isub X0.here hx rfl (hb hby d13_3) rfl ?_
    show SS p e below m s₁ 4 #[vR (b_o), vI (37)] [(.int (-37 : Int32))] _
    refine zbipush X0 hx hby (31) d13_4 rfl ?_
    show SS p e below m s₁ 6 #[vR (b_o), vI (37)] [(.int 31), (.int (-37 : Int32))] _
    refine XS.iushr X0.here hx rfl (hb hby d13_6) rfl ?_
    show SS p e below m s₁ 7 #[vR (b_o), vI (37)] [(.int 1)] _
    refine XS.i2b X0.here hx rfl (hb hby d13_7) rfl ?_
    show SS p e below m s₁ 8 #[vR (b_o), vI (37)] [(.int 1)] _
    exact retN X0 hx (t := .byte) Bd.returns (by simp) (hb hby d13_8) hr
  · show Qown_cfal37U Z b_o k_b vs_b h0 n0 _ s₁.heap _
    rw [e0]
    exact ⟨rfl, N0, rfl⟩
theorem own_ef_own_initV37U (m : MethodId) (a_o : Addr) (a_c : Addr) : entryFrame m #[(.ref a_o), (.ref a_c), (.int (0 : Int32)), (.int (37 : Int32)), .null] 6 = mkF m 0 #[.val (.ref a_o), .val (.ref a_c), .val (.int (0 : Int32)), .val (.int (37 : Int32)), .val .null, .unset] [] := by first | (simp [entryFrame, mkF, argsToLocals, Value.category]; done) | rfl
def Qown_initV37U (Z : State) (a_o : Addr) (u_v : Value) (u_c : Value) (a_c : Addr) (k_c : ClassId) (ch : Nat → Int32) (pp : Nat) (cs : Int32) (h0 : Heap) (n0 : Nat) (v : Option Value) (h : Heap) (L : List Loc) : Prop := ∃ r_o : Addr, ∃ k_r : ClassId, v = none ∧ Fr n0 L ∧ h0.size ≤ r_o ∧ Keep h0 h [a_o] ∧ Fld Z h a_o "java/lang/String" "coder" "B" (.int 1) ∧ Fld Z h a_o "java/lang/String" "value" "[B" (.ref r_o) ∧ Arv Z h r_o k_r .byte (74 : Int32) (own_fl 74 (own_ug ch)) (.int 0)
set_option maxRecDepth 65536 in
set_option maxHeartbeats 40000000 in
theorem own_initV37U (l : Launch) (Z : State) (a0 : Array Value) (hw : ∀ d ∈ tables_1, d.before a0 Z = true) (ws : List Jvm.Cond) (a_o : Addr) (u_v : Value) (u_c : Value) (a_c : Addr) (k_c : ClassId) (ch : Nat → Int32) (pp : Nat) (cs : Int32) (h0 : Heap) (n0 : Nat) (Z0 : n0 ≤ h0.size) (hxa : Exa Z h0 a_o "java/lang/String") (hfv : Fld Z h0 a_o "java/lang/String" "value" "[B" u_v) (hcd : Fld Z h0 a_o "java/lang/String" "coder" "B" u_c) (hg : n0 ≤ a_o) (hA : Arv Z h0 a_c k_c .char (37 : Int32) (own_cl 37 ch) (.int 0)) (hp : pp < 37) (hc : (255 : Int32) < ch pp) (hl : ∀ j, j < pp → ¬ (255 : Int32) < ch j) (hrg : ∀ j, nar .char (ch j) = ch j) (hSa : Sta Z Z.heap "java/lang/StringUTF16" "$assertionsDisabled" "Z" (.int 1)) (hSh : Sta Z Z.heap "java/lang/StringUTF16" "HI_BYTE_SHIFT" "I" (.int 0)) (hSl : Sta Z Z.heap "java/lang/StringUTF16" "LO_BYTE_SHIFT" "I" (.int 8)) (hO : Old Z n0 h0) (hS : Sta Z Z.heap "java/lang/String" "COMPACT_STRINGS" "Z" (.int cs)) (hcs : ¬ cs = (0 : Int32)) :
    MetFree l y_17 (head1 (Jvm.Cond.code y_17 jdk_42_method_149_code 6 none :: ws) (RM 4 2 111 57)) (fun a U => a = #[(.ref a_o), (.ref a_c), (.int 0), (.int 37), .null] ∧ Z.Warmed39 U.vm ∧ U.heap = h0) (fun _ _ _ _ _ => True) (fun _ U o U' => ∃ v L, o = .returned v ∧ Qown_initV37U Z a_o u_v u_c a_c k_c ch pp cs h0 n0 v U'.heap L ∧ FrameEnd U o U' L (RM 4 2 111 57).cells (RM 4 2 111 57).slots) := by
  refine MetFree.of_bodySF (plainFor_of_name own_pn3) hisR ?_
  intro p e s m args below meth c s₁ Bd hml0 hP hK
  obtain ⟨rfl, hZ, hh⟩ := hP
  have hx := Bd.exec
  have hby := Bd.bytes
  have hml : c.maxLocals = 6 := hml0
  have hown : s.vm.findClass "java/lang/String" = some m.cls := findClass_of_methodNamed Bd.named
  have hnm := (name_of_methodNamed Bd.named Bd.method).1
  have X0 : Stand p l e (RM 4 2 111 57) s m #[(.ref a_o), (.ref a_c), (.int 0), (.int 37), .null] below meth c s₁ [] 0 0 := Stand.of_body Bd
  have e0 : s₁.heap = h0 := by rw [← hh, Bd.state]; rfl
  have N0 := Fr.nil n0
  have pre0 : ∀ t, Steps p.tables e below (s₁.setTop (mkF m 0 #[vR (a_o), vR (a_c), vI (0), vI (37), .val .null, u_] [])) t → Steps p.tables e below (s₁.setTop (entryFrame m #[(.ref a_o), (.ref a_c), (.int 0), (.int 37), .null] 6)) t := fun t k => castTop (own_ef_own_initV37U m a_o a_c) k
  obtain ⟨T3, X3, e3, st3⟩ := initO X0 hx hZ hown (hw _ (gm 36 rfl)) (hw _ (gm 37 rfl)) (hw _ (gm 38 rfl)) e0 (g := (mkF m 1 #[vR (a_o), vR (a_c), vI (0), vI (37), .val .null, u_] [(.ref a_o)])) rfl (by rw [hml]; rfl) rfl (hb hby d9_1) (by decide) (W := 0) (by show 2 * 0 + _ ≤ _; exact Nat.le_of_eq rfl) (by decide)
  obtain ⟨T7, X7, e7, st7⟩ := getS2 X3 hx hZ hown (host := "") (Or.inl (hw _ (gm 39 rfl))) Via.refl e3 (hS.ext hO.2) (g := (mkF m 27 #[vR (a_o), vR (a_c), vI (0), vI (37), .val .null, u_] [])) rfl (hb hby d9_27)
  obtain ⟨_, _, ⟨T13, L13, k13, n13⟩, -, X13, ⟨Lc13, hQ13, l13, y13, z13⟩, st13⟩ := Jvm.LawKit.callS X7 hx (y := y_15) hown (mvT hZ (hw _ (gm 40 rfl))) (mvT hZ (hw _ (gm 41 rfl))) (mvT hZ (hw _ (gm 42 rfl))) (mvT hZ (hw _ (gm 43 rfl))) (by decide) (backOf (W := 0) (own_comp337U l Z a0 hw [] a_c k_c ch pp h0 n0 Z0 hA hp hc hl hrg hSa hSh hSl hO) hZ (hw _ (gm 43 rfl)) (hw _ (gm 42 rfl)) (by decide) (by decide)) (g := (mkF m 36 #[vR (a_o), vR (a_c), vI (0), vI (37), .val .null, u_] [(.int 37), (.int 0), (.ref a_c)])) rfl (by rw [hml]; rfl) (argsL := [(.ref a_c), (.int 0), (.int 37)]) (rest := []) (lenOf own_pd8 rfl) rfl (by show 2 * 0 + _ ≤ _; exact Nat.le_of_eq rfl) (hb hby d9_36) (fun _ _ => ⟨rfl, e7, (by decide : 0 + 2 ≤ _), (by decide : 0 + 111 ≤ _)⟩)
  dsimp only [Pt.U, Pt.locs, Pt.cells, Pt.slots] at X13 l13 y13 z13 st13 hQ13
  rw [l13, y13, z13] at X13
  obtain ⟨r_o_13, k_r_13, rfl, Nq13, sz13_r_o, K13, Pf13_0⟩ := hQ13
  have N14 := Fr.app N0 Nq13
  have Ne15 : a_o ≠ r_o_13 := Nat.ne_of_lt (Nat.lt_of_lt_of_le hxa.lt sz13_r_o)
  have Sz18 : h0.size ≤ r_o_13 := Nat.le_trans (Keep.refl h0 [a_o]).1 sz13_r_o
  have Kc19 : Keep h0 T13.heap [a_o] := (Keep.refl h0 [a_o]).trans K13 all0
  have Zs20 : n0 ≤ T13.heap.size := Nat.le_trans Z0 K13.1
  obtain ⟨_, _, ⟨T26, L26, k26, n26⟩, -, X26, ⟨Lc26, hQ26, l26, y26, z26⟩, st26⟩ := Jvm.LawKit.callS X13 hx (y := y_16) hown (mvT hZ (hw _ (gm 48 rfl))) (mvT hZ (hw _ (gm 49 rfl))) (mvT hZ (hw _ (gm 42 rfl))) (mvT hZ (hw _ (gm 50 rfl))) (by decide) (backOf (W := 1) (own_cfal37U l Z a0 hw [] r_o_13 k_r_13 (own_fl 74 (own_ug ch)) T13.heap n0 Zs20 Pf13_0) hZ (hw _ (gm 50 rfl)) (hw _ (gm 42 rfl)) (by decide) (by decide)) (g := (mkF m 45 #[vR (a_o), vR (a_c), vI (0), vI (37), .val .null, vR (r_o_13)] [(.int 37), (.ref r_o_13), (.ref a_o)])) rfl (by rw [hml]; rfl) (argsL := [(.ref r_o_13), (.int 37)]) (rest := [(.ref a_o)]) (lenOf own_pd9 rfl) rfl (by show 2 * 0 + _ ≤ _; exact Nat.le_of_eq rfl) (hb hby d9_45) (fun _ _ => ⟨rfl, rfl, (by decide : 2 + 0 ≤ _), (by decide : 111 + 0 ≤ _)⟩)
  dsimp only [Pt.U, Pt.locs, Pt.cells, Pt.slots] at X26 l26 y26 z26 st26 hQ26
  rw [l26, y26, z26] at X26
  obtain ⟨rfl, Nq26, eh26⟩ := hQ26
  have N27 := Fr.app N14 Nq26
  have Fq29 : Exa Z T13.heap a_o "java/lang/String" := (hxa.keep K13)
  have Fq30 : Fld Z T13.heap a_o "java/lang/String" "coder" "B" u_c := (hcd.keep K13 nin0)
  obtain ⟨T31, h31, X31, e31, W31, st31⟩ := putFN X26 hx hZ hown (hw _ (gm 51 rfl)) Via.refl eh26 Fq30 Fq29 (Or.inr ⟨(hw _ (gm 52 rfl)), rfl, hnm⟩) (hw _ (gm 27 rfl)) (ty := .byte) (v' := (.int 1)) (by decide) rfl rfl (g := (mkF m 48 #[vR (a_o), vR (a_c), vI (0), vI (37), .val .null, vR (r_o_13)] [(.int 1), (.ref a_o)])) rfl rfl (hb hby d9_48)
  have Kc32 : Keep h0 h31 [a_o] := Kc19.wr W31 (Or.inl (ga 0 rfl))
  have N34 := Fr.snoc X31 N27 hg
  have Fw31 : Fld Z h31 a_o "java/lang/String" "coder" "B" (.int 1) := Fq30.same W31
  have Fq38 : Exa Z h31 a_o "java/lang/String" := (Fq29.wr W31)
  have Fq39 : Fld Z h31 a_o "java/lang/String" "value" "[B" u_v := ((hfv.keep K13 nin0).other W31 (Or.inr (slot_ne (Or.inr (hw _ (gm 54 rfl))) (Or.inr (hw _ (gm 52 rfl))) (by decide) (t := (.array .byte)) (t' := .byte) (by decide) (by decide))))
  obtain ⟨T40, h40, X40, e40, W40, st40⟩ := putF X31 hx hZ hown (host := "") (Or.inl (hw _ (gm 53 rfl))) Via.refl e31 Fq39 Fq38 (Or.inr ⟨(hw _ (gm 54 rfl)), rfl, hnm⟩) (hw _ (gm 27 rfl)) (ty := (.array .byte)) (by decide) rfl rfl (g := (mkF m 54 #[vR (a_o), vR (a_c), vI (0), vI (37), .val .null, vR (r_o_13)] [(.ref r_o_13), (.ref a_o)])) rfl rfl (hb hby d9_54)
  have Kc41 : Keep h0 h40 [a_o] := Kc32.wr W40 (Or.inl (ga 0 rfl))
  have N43 := Fr.snoc X40 N34 hg
  have Fw40 : Fld Z h40 a_o "java/lang/String" "value" "[B" (.ref r_o_13) := Fq39.same W40
  obtain ⟨fs, hr, hrun, hended, hW, hsame⟩ := X40.leave (v := none) (fun _ => rfl) (hlocks := BodyLoose.notSynchronized Bd)
  refine ⟨_, _, pre0 _ ?_, hrun, hended, _, _, rfl, ?_, ⟨_, rfl⟩, hW, hsame.mono (by decide) (by decide)⟩
  · show SS p e below m s₁ 0 #[vR (a_o), vR (a_c), vI (0), vI (37), .val .null, u_] [] _
    refine zaloadN X0 hx hby d9_0 rfl rfl ?_
    refine st3 _ ?_
    refine ziloadN X3 hx hby d9_4 rfl ?_
    refine zifYes X3 hx hby 5 27 rfl d9_5 ((if0 _ _).trans (feq ((by decide) : ¬ ((37 : Int32) = (0 : Int32)))).2) (by decide) (by decide) ?_
    refine st7 _ ?_
    refine zifNo X7 hx hby d9_30 ((if0 _ _).trans (feq (hcs : ¬ (cs = (0 : Int32)))).1) ?_
    refine zaloadN X7 hx hby d9_33 rfl rfl ?_
    refine ziloadN X7 hx hby d9_34 rfl ?_
    refine ziloadN X7 hx hby d9_35 rfl ?_
    refine st13 _ ?_
    refine zastore (l' := #[vR (a_o), vR (a_c), vI (0), vI (37), .val .null, vR (r_o_13)]) X13 hx hby d9_39 rfl rfl ?_
    refine zaloadN X13 hx hby d9_41 rfl rfl ?_
    show SS p e below m T13 42 #[vR (a_o), vR (a_c), vI (0), vI (37), .val .null, vR (r_o_13)] [(.ref a_o)] _
    refine zaload X13 hx hby d9_42 rfl rfl ?_
    refine ziloadN X13 hx hby d9_44 rfl ?_
    refine st26 _ ?_
    refine st31 _ ?_
    refine zaloadN X31 hx hby d9_51 rfl rfl ?_
    refine zaload X31 hx hby d9_52 rfl rfl ?_
    refine st40 _ ?_
    exact X40.returnOut hx Bd.returns (hb hby d9_57) hr
  · show Qown_initV37U Z a_o u_v u_c a_c k_c ch pp cs h0 n0 _ T40.heap _
    rw [e40]
    have Fq45 : Fld Z h40 a_o "java/lang/String" "coder" "B" (.int 1) := (Fw31.other W40 (Or.inr (slot_ne (Or.inr (hw _ (gm 52 rfl))) (Or.inr (hw _ (gm 54 rfl))) (by decide) (t := .byte) (t' := (.array .byte)) (by decide) (by decide))))
    have Fq46 : Arv Z h40 r_o_13 k_r_13 .byte (74 : Int32) (own_fl 74 (own_ug ch)) (.int 0) := ((Pf13_0.other W31 (Ne.symm Ne15)).other W40 (Ne.symm Ne15))
    exact ⟨r_o_13, k_r_13, rfl, N43, Sz18, Kc41, Fq45, Fw40, Fq46⟩
theorem own_ef_own_initC37U (m : MethodId) (a_o : Addr) (a_c : Addr) : entryFrame m #[(.ref a_o), (.ref a_c)] 2 = mkF m 0 #[.val (.ref a_o), .val (.ref a_c)] [] := by first | (simp [entryFrame, mkF, argsToLocals, Value.category]; done) | rfl
def Qown_initC37U (Z : State) (a_o : Addr) (u_v : Value) (u_c : Value) (a_c : Addr) (k_c : ClassId) (ch : Nat → Int32) (pp : Nat) (cs : Int32) (h0 : Heap) (n0 : Nat) (v : Option Value) (h : Heap) (L : List Loc) : Prop := ∃ r_o : Addr, ∃ k_r : ClassId, v = none ∧ Fr n0 L ∧ h0.size ≤ r_o ∧ Keep h0 h [a_o] ∧ Fld Z h a_o "java/lang/String" "coder" "B" (.int 1) ∧ Fld Z h a_o "java/lang/String" "value" "[B" (.ref r_o) ∧ Arv Z h r_o k_r .byte (74 : Int32) (own_fl 74 (own_ug ch)) (.int 0)
set_option maxRecDepth 65536 in
set_option maxHeartbeats 40000000 in
theorem own_initC37U (l : Launch) (Z : State) (a0 : Array Value) (hw : ∀ d ∈ tables_1, d.before a0 Z = true) (ws : List Jvm.Cond) (a_o : Addr) (u_v : Value) (u_c : Value) (a_c : Addr) (k_c : ClassId) (ch : Nat → Int32) (pp : Nat) (cs : Int32) (h0 : Heap) (n0 : Nat) (Z0 : n0 ≤ h0.size) (hxa : Exa Z h0 a_o "java/lang/String") (hfv : Fld Z h0 a_o "java/lang/String" "value" "[B" u_v) (hcd : Fld Z h0 a_o "java/lang/String" "coder" "B" u_c) (hg : n0 ≤ a_o) (hA : Arv Z h0 a_c k_c .char (37 : Int32) (own_cl 37 ch) (.int 0)) (hp : pp < 37) (hc : (255 : Int32) < ch pp) (hl : ∀ j, j < pp → ¬ (255 : Int32) < ch j) (hrg : ∀ j, nar .char (ch j) = ch j) (hSa : Sta Z Z.heap "java/lang/StringUTF16" "$assertionsDisabled" "Z" (.int 1)) (hSh : Sta Z Z.heap "java/lang/StringUTF16" "HI_BYTE_SHIFT" "I" (.int 0)) (hSl : Sta Z Z.heap "java/lang/StringUTF16" "LO_BYTE_SHIFT" "I" (.int 8)) (hO : Old Z n0 h0) (hS : Sta Z Z.heap "java/lang/String" "COMPACT_STRINGS" "Z" (.int cs)) (hcs : ¬ cs = (0 : Int32)) :
    MetFree l y_18 (head1 (Jvm.Cond.code y_18 jdk_42_method_3_code 2 none :: ws) (RM 5 2 111 74)) (fun a U => a = #[(.ref a_o), (.ref a_c)] ∧ Z.Warmed39 U.vm ∧ U.heap = h0) (fun _ _ _ _ _ => True) (fun _ U o U' => ∃ v L, o = .returned v ∧ Qown_initC37U Z a_o u_v u_c a_c k_c ch pp cs h0 n0 v U'.heap L ∧ FrameEnd U o U' L (RM 5 2 111 74).cells (RM 5 2 111 74).slots) := by
  refine MetFree.of_bodySF (plainFor_of_name own_pn3) hisR ?_
  intro p e s m args below meth c s₁ Bd hml0 hP hK
  obtain ⟨rfl, hZ, hh⟩ := hP
  have hx := Bd.exec
  have hby := Bd.bytes
  have hml : c.maxLocals = 2 := hml0
  have hown : s.vm.findClass "java/lang/String" = some m.cls := findClass_of_methodNamed Bd.named
  have X0 : Stand p l e (RM 5 2 111 74) s m #[(.ref a_o), (.ref a_c)] below meth c s₁ [] 0 0 := Stand.of_body Bd
  have e0 : s₁.heap = h0 := by rw [← hh, Bd.state]; rfl
  have N0 := Fr.nil n0
  have pre0 : ∀ t, Steps p.tables e below (s₁.setTop (mkF m 0 #[vR (a_o), vR (a_c)] [])) t → Steps p.tables e below (s₁.setTop (entryFrame m #[(.ref a_o), (.ref a_c)] 2)) t := fun t k => castTop (own_ef_own_initC37U m a_o a_c) k
  obtain ⟨cl6, Ar6, -, S6, M6, -, -⟩ := id hA
  obtain ⟨_, _, ⟨T9, L9, k9, n9⟩, -, X9, ⟨Lc9, hQ9, l9, y9, z9⟩, st9⟩ := X0.specialBack hx (y := y_17) rfl hown (mvT hZ (hw _ (gm 32 rfl))) (mvT hZ (hw _ (gm 33 rfl))) (mvT hZ (hw _ (gm 35 rfl))) (by decide) (backOf (W := 0) (own_initV37U l Z a0 hw [] a_o u_v u_c a_c k_c ch pp cs h0 n0 Z0 hxa hfv hcd hg hA hp hc hl hrg hSa hSh hSl hO hS (by first | assumption | decide : ¬ cs = (0 : Int32))) hZ (hw _ (gm 35 rfl)) (hw _ (gm 28 rfl)) (by decide) (by decide)) (g := (mkF m 6 #[vR (a_o), vR (a_c)] [.null, (.int 37), (.int 0), (.ref a_c), (.ref a_o)])) rfl (by rw [hml]; rfl) (Steps.refl _) (a := a_o) (argsL := [(.ref a_c), (.int 0), (.int 37), .null]) (rest := []) (lenOf own_pd10 rfl) rfl (by show 2 * 0 + _ ≤ _; exact Nat.le_of_eq rfl) (hb hby d8_6) (fun _ _ => ⟨rfl, e0, (by decide : 0 + 2 ≤ _), (by decide : 0 + 111 ≤ _)⟩)
  dsimp only [Pt.U, Pt.locs, Pt.cells, Pt.slots] at X9 l9 y9 z9 st9 hQ9
  rw [l9, y9, z9] at X9
  obtain ⟨r_o_9, k_r_9, rfl, Nq9, sz9_r_o, K9, Pf9_0, Pf9_1, Pf9_2⟩ := hQ9
  have N10 := Fr.app N0 Nq9
  have Sz14 : h0.size ≤ r_o_9 := Nat.le_trans (Keep.refl h0 [a_o]).1 sz9_r_o
  have Kc15 : Keep h0 T9.heap [a_o] := (Keep.refl h0 [a_o]).trans K9 (allS (Or.inl (ga 0 rfl)) all0)
  obtain ⟨fs, hr, hrun, hended, hW, hsame⟩ := X9.leave (v := none) (fun _ => rfl) (hlocks := BodyLoose.notSynchronized Bd)
  refine ⟨_, _, pre0 _ ?_, hrun, hended, _, _, rfl, ?_, ⟨_, rfl⟩, hW, hsame.mono (by decide) (by decide)⟩
  · show SS p e below m s₁ 0 #[vR (a_o), vR (a_c)] [] _
    refine zaloadN X0 hx hby d8_0 rfl rfl ?_
    refine zaloadN X0 hx hby d8_1 rfl rfl ?_
    refine ziconst X0 hx hby (0) d8_2 rfl ?_
    refine zaloadN X0 hx hby d8_3 rfl rfl ?_
    show SS p e below m s₁ 4 #[vR (a_o), vR (a_c)] [(.ref a_c), (.int 0), (.ref a_c), (.ref a_o)] _
    refine X0.arraylength hx (by rw [e0]; exact Ar6.1) (State.isArrayOf_alike hZ.alike Ar6.2.1) (g := (mkF m 4 #[vR (a_o), vR (a_c)] [(.ref a_c), (.int 0), (.ref a_c), (.ref a_o)])) rfl rfl (hb hby d8_4) _ ?_
    rw [len_of S6 M6]
    show SS p e below m s₁ 5 #[vR (a_o), vR (a_c)] [(.int 37), (.int 0), (.ref a_c), (.ref a_o)] _
    refine XS.aconstNull X0.here hx rfl (hb hby d8_5) ?_
    show SS p e below m s₁ 6 #[vR (a_o), vR (a_c)] [.null, (.int 37), (.int 0), (.ref a_c), (.ref a_o)] _
    refine st9.trans ?_
    exact X9.returnOut hx Bd.returns (hb hby d8_9) hr
  · show Qown_initC37U Z a_o u_v u_c a_c k_c ch pp cs h0 n0 _ T9.heap _
    exact ⟨r_o_9, k_r_9, rfl, N10, Sz14, Kc15, Pf9_0, Pf9_1, Pf9_2⟩
theorem own_pn4 : plainName "jdk/internal/util/Preconditions" = true := by first | (simp [plainName, overriddenIn]; done) | decide +kernel
theorem own_ef_own_pcR (m : MethodId) (p0 : Int32) (p1 : Int32) (f_o : Addr) : entryFrame m #[(.int p0), (.int p1), (.ref f_o)] 3 = mkF m 0 #[.val (.int p0), .val (.int p1), .val (.ref f_o)] [] := by first | (simp [entryFrame, mkF, argsToLocals, Value.category]; done) | rfl
theorem d21_0 : decode b_21 0 = .ok (.iload_n 0, 1) := by decide +kernel
theorem d21_1 : decode b_21 1 = .ok (.ifCond .lt 8, 3) := by decide +kernel
theorem d21_4 : decode b_21 4 = .ok (.iload_n 0, 1) := by decide +kernel
theorem d21_5 : decode b_21 5 = .ok (.iload_n 1, 1) := by decide +kernel
theorem d21_6 : decode b_21 6 = .ok (.if_icmp .lt 10, 3) := by decide +kernel
theorem d21_16 : decode b_21 16 = .ok (.iload_n 0, 1) := by decide +kernel
theorem d21_17 : decode b_21 17 = .ok (.ireturn, 1) := by decide +kernel
def Qown_pcR (Z : State) (p0 : Int32) (p1 : Int32) (f_o : Addr) (h0 : Heap) (n0 : Nat) (v : Option Value) (h : Heap) (L : List Loc) : Prop := v = some (.int p0) ∧ Fr n0 L ∧ h = h0
set_option maxRecDepth 65536 in
set_option maxHeartbeats 40000000 in
theorem own_pcR (l : Launch) (Z : State) (a0 : Array Value) (hw : ∀ d ∈ tables_1, d.before a0 Z = true) (ws : List Jvm.Cond) (p0 : Int32) (p1 : Int32) (f_o : Addr) (h0 : Heap) (n0 : Nat) (Z0 : n0 ≤ h0.size) (h_0 : ¬ p0 < (0 : Int32)) (h_1 : p0 < p1) :
    MetFree l y_19 (head1 (Jvm.Cond.code y_19 jdk_41_method_11_code 3 (some .int) :: ws) (RM 0 0 0 0)) (fun a U => a = #[(.int p0), (.int p1), (.ref f_o)] ∧ Z.Warmed39 U.vm ∧ U.heap = h0) (fun _ _ _ _ _ => True) (fun _ U o U' => ∃ v L, o = .returned v ∧ Qown_pcR Z p0 p1 f_o h0 n0 v U'.heap L ∧ FrameEnd U o U' L (RM 0 0 0 0).cells (RM 0 0 0 0).slots) := by
  refine MetFree.of_bodySF (plainFor_of_name own_pn4) hisR ?_
  intro p e s m args below meth c s₁ Bd hml0 hP hK
  obtain ⟨rfl, hZ, hh⟩ := hP
  have hx := Bd.exec
  have hby := Bd.bytes
  have hml : c.maxLocals = 3 := hml0
  have hown : s.vm.findClass "jdk/internal/util/Preconditions" = some m.cls := findClass_of_methodNamed Bd.named
  have X0 : Stand p l e (RM 0 0 0 0) s m #[(.int p0), (.int p1), (.ref f_o)] below meth c s₁ [] 0 0 := Stand.of_body Bd
  have e0 : s₁.heap = h0 := by rw [← hh, Bd.state]; rfl
  have N0 := Fr.nil n0
  have pre0 : ∀ t, Steps p.tables e below (s₁.setTop (mkF m 0 #[vI (p0), vI (p1), vR (f_o)] [])) t → Steps p.tables e below (s₁.setTop (entryFrame m #[(.int p0), (.int p1), (.ref f_o)] 3)) t := fun t k => castTop (own_ef_own_pcR m p0 p1 f_o) k
  obtain ⟨fs, hr, hrun, hended, hW, hsame⟩ := X0.leave (v := some (.int p0)) (fun h => by rw [Bd.returns] at h; cases h) (hlocks := BodyLoose.notSynchronized Bd)
  refine ⟨_, _, pre0 _ ?_, hrun, hended, _, _, rfl, ?_, ⟨_, rfl⟩, hW, hsame.mono (by decide) (by decide)⟩
  · show SS p e below m s₁ 0 #[vI (p0), vI (p1), vR (f_o)] [] _
    refine ziloadN X0 hx hby d21_0 rfl ?_
    refine zifNo X0 hx hby d21_1 ((if0 _ _).trans (flt (h_0 : ¬ (p0 < (0 : Int32)))).1) ?_
    refine ziloadN X0 hx hby d21_4 rfl ?_
    refine ziloadN X0 hx hby d21_5 rfl ?_
    refine zicmpYes X0 hx hby 6 16 rfl d21_6 (tlt (h_1 : p0 < p1)).1 (by decide) (by decide) ?_
    refine ziloadN X0 hx hby d21_16 rfl ?_
    exact retI X0 hx Bd.returns (hb hby d21_17) hr
  · show Qown_pcR Z p0 p1 f_o h0 n0 _ s₁.heap _
    rw [e0]
    exact ⟨rfl, N0, rfl⟩
theorem own_ef_own_ciR (m : MethodId) (p0 : Int32) (p1 : Int32) : entryFrame m #[(.int p0), (.int p1)] 2 = mkF m 0 #[.val (.int p0), .val (.int p1)] [] := by first | (simp [entryFrame, mkF, argsToLocals, Value.category]; done) | rfl
theorem own_pd12 : parseMethodDescriptor "(IILjava/util/function/BiFunction;)I" = some ⟨[.int, .int, (.object "java/util/function/BiFunction")], some .int⟩ := by decide +kernel
theorem d20_0 : decode b_20 0 = .ok (.iload_n 0, 1) := by decide +kernel
theorem d20_1 : decode b_20 1 = .ok (.iload_n 1, 1) := by decide +kernel
theorem d20_2 : decode b_20 2 = .ok (.getstatic 1053, 3) := by decide +kernel
theorem d20_5 : decode b_20 5 = .ok (.invokestatic 1059, 3) := by decide +kernel
theorem d20_8 : decode b_20 8 = .ok (.pop, 1) := by decide +kernel
theorem d20_9 : decode b_20 9 = .ok (.return_, 1) := by decide +kernel
def Qown_ciR (Z : State) (p0 : Int32) (p1 : Int32) (f_o : Addr) (h0 : Heap) (n0 : Nat) (v : Option Value) (h : Heap) (L : List Loc) : Prop := v = none ∧ Fr n0 L ∧ h = h0
set_option maxRecDepth 65536 in
set_option maxHeartbeats 40000000 in
theorem own_ciR (l : Launch) (Z : State) (a0 : Array Value) (hw : ∀ d ∈ tables_1, d.before a0 Z = true) (ws : List Jvm.Cond) (p0 : Int32) (p1 : Int32) (f_o : Addr) (h0 : Heap) (n0 : Nat) (Z0 : n0 ≤ h0.size) (hSf : Sta Z Z.heap "jdk/internal/util/Preconditions" "SIOOBE_FORMATTER" "Ljava/util/function/BiFunction;" (.ref f_o)) (hO : Old Z n0 h0) (h_0 : ¬ p0 < (0 : Int32)) (h_1 : p0 < p1) :
    MetFree l y_20 (head1 (Jvm.Cond.code y_20 jdk_42_method_155_code 2 none :: ws) (RM 1 0 0 14)) (fun a U => a = #[(.int p0), (.int p1)] ∧ Z.Warmed39 U.vm ∧ U.heap = h0) (fun _ _ _ _ _ => True) (fun _ U o U' => ∃ v L, o = .returned v ∧ Qown_ciR Z p0 p1 f_o h0 n0 v U'.heap L ∧ FrameEnd U o U' L (RM 1 0 0 14).cells (RM 1 0 0 14).slots) := by
  refine MetFree.of_bodySF (plainFor_of_name own_pn3) hisR ?_
  intro p e s m args below meth c s₁ Bd hml0 hP hK
  obtain ⟨rfl, hZ, hh⟩ := hP
  have hx := Bd.exec
  have hby := Bd.bytes
  have hml : c.maxLocals = 2 := hml0
  have hown : s.vm.findClass "java/lang/String" = some m.cls := findClass_of_methodNamed Bd.named
  have X0 : Stand p l e (RM 1 0 0 14) s m #[(.int p0), (.int p1)] below meth c s₁ [] 0 0 := Stand.of_body Bd
  have e0 : s₁.heap = h0 := by rw [← hh, Bd.state]; rfl
  have N0 := Fr.nil n0
  have pre0 : ∀ t, Steps p.tables e below (s₁.setTop (mkF m 0 #[vI (p0), vI (p1)] [])) t → Steps p.tables e below (s₁.setTop (entryFrame m #[(.int p0), (.int p1)] 2)) t := fun t k => castTop (own_ef_own_ciR m p0 p1) k
  obtain ⟨T4, X4, e4, st4⟩ := getS2 X0 hx hZ hown (host := "") (Or.inl (hw _ (gm 86 rfl))) Via.refl e0 (hSf.ext hO.2) (g := (mkF m 2 #[vI (p0), vI (p1)] [(.int p1), (.int p0)])) rfl (hb hby d20_2)
  obtain ⟨_, _, ⟨T6, L6, k6, n6⟩, -, X6, ⟨Lc6, hQ6, l6, y6, z6⟩, st6⟩ := Jvm.LawKit.callS X4 hx (y := y_19) hown (mvT hZ (hw _ (gm 88 rfl))) (mvT hZ (hw _ (gm 89 rfl))) (mvT hZ (hw _ (gm 87 rfl))) (mvT hZ (hw _ (gm 90 rfl))) (by decide) (backOf (W := 0) (own_pcR l Z a0 hw [] p0 p1 f_o h0 n0 Z0 h_0 h_1) hZ (hw _ (gm 90 rfl)) (hw _ (gm 87 rfl)) (by decide) (by decide)) (g := (mkF m 5 #[vI (p0), vI (p1)] [(.ref f_o), (.int p1), (.int p0)])) rfl (by rw [hml]; rfl) (argsL := [(.int p0), (.int p1), (.ref f_o)]) (rest := []) (lenOf own_pd12 rfl) rfl (by show 2 * 0 + _ ≤ _; exact Nat.le_of_eq rfl) (hb hby d20_5) (fun _ _ => ⟨rfl, e4, (by decide : 0 + 0 ≤ _), (by decide : 0 + 0 ≤ _)⟩)
  dsimp only [Pt.U, Pt.locs, Pt.cells, Pt.slots] at X6 l6 y6 z6 st6 hQ6
  rw [l6, y6, z6] at X6
  obtain ⟨rfl, Nq6, eh6⟩ := hQ6
  have N7 := Fr.app N0 Nq6
  obtain ⟨fs, hr, hrun, hended, hW, hsame⟩ := X6.leave (v := none) (fun _ => rfl) (hlocks := BodyLoose.notSynchronized Bd)
  refine ⟨_, _, pre0 _ ?_, hrun, hended, _, _, rfl, ?_, ⟨_, rfl⟩, hW, hsame.mono (by decide) (by decide)⟩
  · show SS p e below m s₁ 0 #[vI (p0), vI (p1)] [] _
    refine ziloadN X0 hx hby d20_0 rfl ?_
    refine ziloadN X0 hx hby d20_1 rfl ?_
    refine st4 _ ?_
    refine st6 _ ?_
    show SS p e below m T6 8 #[vI (p0), vI (p1)] [(.int p0)] _
    refine XS.pop X6.here hx rfl (hb hby d20_8) rfl rfl ?_
    show SS p e below m T6 9 #[vI (p0), vI (p1)] [] _
    exact X6.returnOut hx Bd.returns (hb hby d20_9) hr
  · show Qown_ciR Z p0 p1 f_o h0 n0 _ T6.heap _
    rw [eh6]
    exact ⟨rfl, N7, rfl⟩
theorem own_ef_own_pcN (m : MethodId) (p0 : Int32) (p1 : Int32) : entryFrame m #[(.int p0), (.int p1), .null] 3 = mkF m 0 #[.val (.int p0), .val (.int p1), .val .null] [] := by first | (simp [entryFrame, mkF, argsToLocals, Value.category]; done) | rfl
def Qown_pcN (Z : State) (p0 : Int32) (p1 : Int32) (h0 : Heap) (n0 : Nat) (v : Option Value) (h : Heap) (L : List Loc) : Prop := v = some (.int p0) ∧ Fr n0 L ∧ h = h0
set_option maxRecDepth 65536 in
set_option maxHeartbeats 40000000 in
theorem own_pcN (l : Launch) (Z : State) (a0 : Array Value) (hw : ∀ d ∈ tables_1, d.before a0 Z = true) (ws : List Jvm.Cond) (p0 : Int32) (p1 : Int32) (h0 : Heap) (n0 : Nat) (Z0 : n0 ≤ h0.size) (h_0 : ¬ p0 < (0 : Int32)) (h_1 : p0 < p1) :
    MetFree l y_19 (head1 (Jvm.Cond.code y_19 jdk_41_method_11_code 3 (some .int) :: ws) (RM 0 0 0 0)) (fun a U => a = #[(.int p0), (.int p1), .null] ∧ Z.Warmed39 U.vm ∧ U.heap = h0) (fun _ _ _ _ _ => True) (fun _ U o U' => ∃ v L, o = .returned v ∧ Qown_pcN Z p0 p1 h0 n0 v U'.heap L ∧ FrameEnd U o U' L (RM 0 0 0 0).cells (RM 0 0 0 0).slots) := by
  refine MetFree.of_bodySF (plainFor_of_name own_pn4) hisR ?_
  intro p e s m args below meth c s₁ Bd hml0 hP hK
  obtain ⟨rfl, hZ, hh⟩ := hP
  have hx := Bd.exec
  have hby := Bd.bytes
  have hml : c.maxLocals = 3 := hml0
  have hown : s.vm.findClass "jdk/internal/util/Preconditions" = some m.cls := findClass_of_methodNamed Bd.named
  have X0 : Stand p l e (RM 0 0 0 0) s m #[(.int p0), (.int p1), .null] below meth c s₁ [] 0 0 := Stand.of_body Bd
  have e0 : s₁.heap = h0 := by rw [← hh, Bd.state]; rfl
  have N0 := Fr.nil n0
  have pre0 : ∀ t, Steps p.tables e below (s₁.setTop (mkF m 0 #[vI (p0), vI (p1), .val .null] [])) t → Steps p.tables e below (s₁.setTop (entryFrame m #[(.int p0), (.int p1), .null] 3)) t := fun t k => castTop (own_ef_own_pcN m p0 p1) k
  obtain ⟨fs, hr, hrun, hended, hW, hsame⟩ := X0.leave (v := some (.int p0)) (fun h => by rw [Bd.returns] at h; cases h) (hlocks := BodyLoose.notSynchronized Bd)
  refine ⟨_, _, pre0 _ ?_, hrun, hended, _, _, rfl, ?_, ⟨_, rfl⟩, hW, hsame.mono (by decide) (by decide)⟩
  · show SS p e below m s₁ 0 #[vI (p0), vI (p1), .val .null] [] _
    refine ziloadN X0 hx hby d21_0 rfl ?_
    refine zifNo X0 hx hby d21_1 ((if0 _ _).trans (flt (h_0 : ¬ (p0 < (0 : Int32)))).1) ?_
    refine ziloadN X0 hx hby d21_4 rfl ?_
    refine ziloadN X0 hx hby d21_5 rfl ?_
    refine zicmpYes X0 hx hby 6 16 rfl d21_6 (tlt (h_1 : p0 < p1)).1 (by decide) (by decide) ?_
    refine ziloadN X0 hx hby d21_16 rfl ?_
    exact retI X0 hx Bd.returns (hb hby d21_17) hr
  · show Qown_pcN Z p0 p1 h0 n0 _ s₁.heap _
    rw [e0]
    exact ⟨rfl, N0, rfl⟩
theorem own_ef_own_ciN (m : MethodId) (p0 : Int32) (p1 : Int32) : entryFrame m #[(.int p0), (.int p1)] 2 = mkF m 0 #[.val (.int p0), .val (.int p1)] [] := by first | (simp [entryFrame, mkF, argsToLocals, Value.category]; done) | rfl
def Qown_ciN (Z : State) (p0 : Int32) (p1 : Int32) (h0 : Heap) (n0 : Nat) (v : Option Value) (h : Heap) (L : List Loc) : Prop := v = none ∧ Fr n0 L ∧ h = h0
set_option maxRecDepth 65536 in
set_option maxHeartbeats 40000000 in
theorem own_ciN (l : Launch) (Z : State) (a0 : Array Value) (hw : ∀ d ∈ tables_1, d.before a0 Z = true) (ws : List Jvm.Cond) (p0 : Int32) (p1 : Int32) (h0 : Heap) (n0 : Nat) (Z0 : n0 ≤ h0.size) (hSf : Sta Z Z.heap "jdk/internal/util/Preconditions" "SIOOBE_FORMATTER" "Ljava/util/function/BiFunction;" .null) (hO : Old Z n0 h0) (h_0 : ¬ p0 < (0 : Int32)) (h_1 : p0 < p1) :
    MetFree l y_20 (head1 (Jvm.Cond.code y_20 jdk_42_method_155_code 2 none :: ws) (RM 1 0 0 14)) (fun a U => a = #[(.int p0), (.int p1)] ∧ Z.Warmed39 U.vm ∧ U.heap = h0) (fun _ _ _ _ _ => True) (fun _ U o U' => ∃ v L, o = .returned v ∧ Qown_ciN Z p0 p1 h0 n0 v U'.heap L ∧ FrameEnd U o U' L (RM 1 0 0 14).cells (RM 1 0 0 14).slots) := by
  refine MetFree.of_bodySF (plainFor_of_name own_pn3) hisR ?_
  intro p e s m args below meth c s₁ Bd hml0 hP hK
  obtain ⟨rfl, hZ, hh⟩ := hP
  have hx := Bd.exec
  have hby := Bd.bytes
  have hml : c.maxLocals = 2 := hml0
  have hown : s.vm.findClass "java/lang/String" = some m.cls := findClass_of_methodNamed Bd.named
  have X0 : Stand p l e (RM 1 0 0 14) s m #[(.int p0), (.int p1)] below meth c s₁ [] 0 0 := Stand.of_body Bd
  have e0 : s₁.heap = h0 := by rw [← hh, Bd.state]; rfl
  have N0 := Fr.nil n0
  have pre0 : ∀ t, Steps p.tables e below (s₁.setTop (mkF m 0 #[vI (p0), vI (p1)] [])) t → Steps p.tables e below (s₁.setTop (entryFrame m #[(.int p0), (.int p1)] 2)) t := fun t k => castTop (own_ef_own_ciN m p0 p1) k
  obtain ⟨T4, X4, e4, st4⟩ := getS2 X0 hx hZ hown (host := "") (Or.inl (hw _ (gm 86 rfl))) Via.refl e0 (hSf.ext hO.2) (g := (mkF m 2 #[vI (p0), vI (p1)] [(.int p1), (.int p0)])) rfl (hb hby d20_2)
  obtain ⟨_, _, ⟨T6, L6, k6, n6⟩, -, X6, ⟨Lc6, hQ6, l6, y6, z6⟩, st6⟩ := Jvm.LawKit.callS X4 hx (y := y_19) hown (mvT hZ (hw _ (gm 88 rfl))) (mvT hZ (hw _ (gm 89 rfl))) (mvT hZ (hw _ (gm 87 rfl))) (mvT hZ (hw _ (gm 90 rfl))) (by decide) (backOf (W := 0) (own_pcN l Z a0 hw [] p0 p1 h0 n0 Z0 h_0 h_1) hZ (hw _ (gm 90 rfl)) (hw _ (gm 87 rfl)) (by decide) (by decide)) (g := (mkF m 5 #[vI (p0), vI (p1)] [.null, (.int p1), (.int p0)])) rfl (by rw [hml]; rfl) (argsL := [(.int p0), (.int p1), .null]) (rest := []) (lenOf own_pd12 rfl) rfl (by show 2 * 0 + _ ≤ _; exact Nat.le_of_eq rfl) (hb hby d20_5) (fun _ _ => ⟨rfl, e4, (by decide : 0 + 0 ≤ _), (by decide : 0 + 0 ≤ _)⟩)
  dsimp only [Pt.U, Pt.locs, Pt.cells, Pt.slots] at X6 l6 y6 z6 st6 hQ6
  rw [l6, y6, z6] at X6
  obtain ⟨rfl, Nq6, eh6⟩ := hQ6
  have N7 := Fr.app N0 Nq6
  obtain ⟨fs, hr, hrun, hended, hW, hsame⟩ := X6.leave (v := none) (fun _ => rfl) (hlocks := BodyLoose.notSynchronized Bd)
  refine ⟨_, _, pre0 _ ?_, hrun, hended, _, _, rfl, ?_, ⟨_, rfl⟩, hW, hsame.mono (by decide) (by decide)⟩
  · show SS p e below m s₁ 0 #[vI (p0), vI (p1)] [] _
    refine ziloadN X0 hx hby d20_0 rfl ?_
    refine ziloadN X0 hx hby d20_1 rfl ?_
    refine st4 _ ?_
    refine st6 _ ?_
    show SS p e below m T6 8 #[vI (p0), vI (p1)] [(.int p0)] _
    refine XS.pop X6.here hx rfl (hb hby d20_8) rfl rfl ?_
    show SS p e below m T6 9 #[vI (p0), vI (p1)] [] _
    exact X6.returnOut hx Bd.returns (hb hby d20_9) hr
  · show Qown_ciN Z p0 p1 h0 n0 _ T6.heap _
    rw [eh6]
    exact ⟨rfl, N7, rfl⟩
def Qown_ci (Z : State) (p0 : Int32) (p1 : Int32) (u_f : Value) (h0 : Heap) (n0 : Nat) (v : Option Value) (h : Heap) (L : List Loc) : Prop := v = none ∧ Fr n0 L ∧ h = h0
theorem own_ci (l : Launch) (Z : State) (a0 : Array Value) (hw : ∀ d ∈ tables_1, d.before a0 Z = true) (ws : List Jvm.Cond) (p0 : Int32) (p1 : Int32) (u_f : Value) (h0 : Heap) (n0 : Nat) (Z0 : n0 ≤ h0.size) (hSf : Sta Z Z.heap "jdk/internal/util/Preconditions" "SIOOBE_FORMATTER" "Ljava/util/function/BiFunction;" u_f) (hf : u_f.isRef = true) (hO : Old Z n0 h0) (h_0 : ¬ p0 < (0 : Int32)) (h_1 : p0 < p1) :
    MetFree l y_20 (head1 (Jvm.Cond.code y_20 jdk_42_method_155_code 2 none :: ws) (RM 1 0 0 14)) (fun a U => a = #[(.int p0), (.int p1)] ∧ Z.Warmed39 U.vm ∧ U.heap = h0) (fun _ _ _ _ _ => True) (fun _ U o U' => ∃ v L, o = .returned v ∧ Qown_ci Z p0 p1 u_f h0 n0 v U'.heap L ∧ FrameEnd U o U' L (RM 1 0 0 14).cells (RM 1 0 0 14).slots) := by
  cases u_f with
  | null => exact own_ciN l Z a0 hw ws p0 p1 h0 n0 Z0 hSf hO h_0 h_1
  | ref f_o => exact own_ciR l Z a0 hw ws p0 p1 f_o h0 n0 Z0 hSf hO h_0 h_1
  | _ => cases hf
theorem own_ef_own_ulen (m : MethodId) (b_o : Addr) : entryFrame m #[(.ref b_o)] 1 = mkF m 0 #[.val (.ref b_o)] [] := by first | (simp [entryFrame, mkF, argsToLocals, Value.category]; done) | rfl
theorem d40_0 : decode b_40 0 = .ok (.aload_n 0, 1) := by decide +kernel
theorem d40_1 : decode b_40 1 = .ok (.arraylength, 1) := by decide +kernel
theorem d40_2 : decode b_40 2 = .ok (.iconst 1, 1) := by decide +kernel
theorem d40_3 : decode b_40 3 = .ok (.ishr, 1) := by decide +kernel
theorem d40_4 : decode b_40 4 = .ok (.ireturn, 1) := by decide +kernel
def Qown_ulen (Z : State) (b_o : Addr) (k_b : ClassId) (vs_b : List Value) (h0 : Heap) (n0 : Nat) (v : Option Value) (h : Heap) (L : List Loc) : Prop := v = some (.int 36) ∧ Fr n0 L ∧ h = h0
set_option maxRecDepth 65536 in
set_option maxHeartbeats 40000000 in
theorem own_ulen (l : Launch) (Z : State) (a0 : Array Value) (hw : ∀ d ∈ tables_1, d.before a0 Z = true) (ws : List Jvm.Cond) (b_o : Addr) (k_b : ClassId) (vs_b : List Value) (h0 : Heap) (n0 : Nat) (Z0 : n0 ≤ h0.size) (hB : Arv Z h0 b_o k_b .byte (72 : Int32) vs_b (.int 0)) :
    MetFree l y_21 (head1 (Jvm.Cond.code y_21 jdk_52_method_6_code 1 (some .int) :: ws) (RM 0 0 0 0)) (fun a U => a = #[(.ref b_o)] ∧ Z.Warmed39 U.vm ∧ U.heap = h0) (fun _ _ _ _ _ => True) (fun _ U o U' => ∃ v L, o = .returned v ∧ Qown_ulen Z b_o k_b vs_b h0 n0 v U'.heap L ∧ FrameEnd U o U' L (RM 0 0 0 0).cells (RM 0 0 0 0).slots) := by
  refine MetFree.of_bodySF (plainFor_of_name own_pn2) hisR ?_
  intro p e s m args below meth c s₁ Bd hml0 hP hK
  obtain ⟨rfl, hZ, hh⟩ := hP
  have hx := Bd.exec
  have hby := Bd.bytes
  have hml : c.maxLocals = 1 := hml0
  have hown : s.vm.findClass "java/lang/StringUTF16" = some m.cls := findClass_of_methodNamed Bd.named
  have X0 : Stand p l e (RM 0 0 0 0) s m #[(.ref b_o)] below meth c s₁ [] 0 0 := Stand.of_body Bd
  have e0 : s₁.heap = h0 := by rw [← hh, Bd.state]; rfl
  have N0 := Fr.nil n0
  have pre0 : ∀ t, Steps p.tables e below (s₁.setTop (mkF m 0 #[vR (b_o)] [])) t → Steps p.tables e below (s₁.setTop (entryFrame m #[(.ref b_o)] 1)) t := fun t k => castTop (own_ef_own_ulen m b_o) k
  obtain ⟨cl3, Ar3, -, S3, M3, -, -⟩ := id hB
  obtain ⟨fs, hr, hrun, hended, hW, hsame⟩ := X0.leave (v := some (.int 36)) (fun h => by rw [Bd.returns] at h; cases h) (hlocks := BodyLoose.notSynchronized Bd)
  refine ⟨_, _, pre0 _ ?_, hrun, hended, _, _, rfl, ?_, ⟨_, rfl⟩, hW, hsame.mono (by decide) (by decide)⟩
  · show SS p e below m s₁ 0 #[vR (b_o)] [] _
    refine zaloadN X0 hx hby d40_0 rfl rfl ?_
    show SS p e below m s₁ 1 #[vR (b_o)] [(.ref b_o)] _
    refine X0.arraylength hx (by rw [e0]; exact Ar3.1) (State.isArrayOf_alike hZ.alike Ar3.2.1) (g := (mkF m 1 #[vR (b_o)] [(.ref b_o)])) rfl rfl (hb hby d40_1) _ ?_
    rw [len_of S3 M3]
    show SS p e below m s₁ 2 #[vR (b_o)] [(.int 72)] _
    refine ziconst X0 hx hby (1) d40_2 rfl ?_
    show SS p e below m s₁ 3 #[vR (b_o)] [(.int 1), (.int 72)] _
    refine XS.ishr X0.here hx rfl (hb hby d40_3) rfl ?_
    show SS p e below m s₁ 4 #[vR (b_o)] [(.int 36)] _
    exact retI X0 hx Bd.returns (hb hby d40_4) hr
  · show Qown_ulen Z b_o k_b vs_b h0 n0 _ s₁.heap _
    rw [e0]
    exact ⟨rfl, N0, rfl⟩
theorem own_ef_own_uci (m : MethodId) (b_o : Addr) (i : Nat) : entryFrame m #[(.int (Int32.ofNat i)), (.ref b_o)] 2 = mkF m 0 #[.val (.int (Int32.ofNat i)), .val (.ref b_o)] [] := by first | (simp [entryFrame, mkF, argsToLocals, Value.category]; done) | rfl
theorem own_pd13 : parseMethodDescriptor "([B)I" = some ⟨[(.array .byte)], some .int⟩ := by decide +kernel
theorem own_pd14 : parseMethodDescriptor "(II)V" = some ⟨[.int, .int], none⟩ := by decide +kernel
theorem d39_0 : decode b_39 0 = .ok (.iload_n 0, 1) := by decide +kernel
theorem d39_1 : decode b_39 1 = .ok (.aload_n 1, 1) := by decide +kernel
theorem d39_2 : decode b_39 2 = .ok (.invokestatic 48, 3) := by decide +kernel
theorem d39_5 : decode b_39 5 = .ok (.invokestatic 414, 3) := by decide +kernel
theorem d39_8 : decode b_39 8 = .ok (.return_, 1) := by decide +kernel
def Qown_uci (Z : State) (i : Nat) (b_o : Addr) (k_b : ClassId) (vs_b : List Value) (u_f : Value) (h0 : Heap) (n0 : Nat) (v : Option Value) (h : Heap) (L : List Loc) : Prop := v = none ∧ Fr n0 L ∧ h = h0
set_option maxRecDepth 65536 in
set_option maxHeartbeats 40000000 in
theorem own_uci (l : Launch) (Z : State) (a0 : Array Value) (hw : ∀ d ∈ tables_1, d.before a0 Z = true) (ws : List Jvm.Cond) (i : Nat) (b_o : Addr) (k_b : ClassId) (vs_b : List Value) (u_f : Value) (h0 : Heap) (n0 : Nat) (Z0 : n0 ≤ h0.size) (hB : Arv Z h0 b_o k_b .byte (72 : Int32) vs_b (.int 0)) (hO : Old Z n0 h0) (hi : i < 36) (hSf : Sta Z Z.heap "jdk/internal/util/Preconditions" "SIOOBE_FORMATTER" "Ljava/util/function/BiFunction;" u_f) (hf : u_f.isRef = true) :
    MetFree l y_22 (head1 (Jvm.Cond.code y_22 jdk_52_method_91_code 2 none :: ws) (RM 2 0 0 27)) (fun a U => a = #[(.int (Int32.ofNat i)), (.ref b_o)] ∧ Z.Warmed39 U.vm ∧ U.heap = h0) (fun _ _ _ _ _ => True) (fun _ U o U' => ∃ v L, o = .returned v ∧ Qown_uci Z i b_o k_b vs_b u_f h0 n0 v U'.heap L ∧ FrameEnd U o U' L (RM 2 0 0 27).cells (RM 2 0 0 27).slots) := by
  refine MetFree.of_bodySF (plainFor_of_name own_pn2) hisR ?_
  intro p e s m args below meth c s₁ Bd hml0 hP hK
  obtain ⟨rfl, hZ, hh⟩ := hP
  have hx := Bd.exec
  have hby := Bd.bytes
  have hml : c.maxLocals = 2 := hml0
  have hown : s.vm.findClass "java/lang/StringUTF16" = some m.cls := findClass_of_methodNamed Bd.named
  have X0 : Stand p l e (RM 2 0 0 27) s m #[(.int (Int32.ofNat i)), (.ref b_o)] below meth c s₁ [] 0 0 := Stand.of_body Bd
  have e0 : s₁.heap = h0 := by rw [← hh, Bd.state]; rfl
  have N0 := Fr.nil n0
  have pre0 : ∀ t, Steps p.tables e below (s₁.setTop (mkF m 0 #[vI ((Int32.ofNat i)), vR (b_o)] [])) t → Steps p.tables e below (s₁.setTop (entryFrame m #[(.int (Int32.ofNat i)), (.ref b_o)] 2)) t := fun t k => castTop (own_ef_own_uci m b_o i) k
  obtain ⟨_, _, ⟨T4, L4, k4, n4⟩, -, X4, ⟨Lc4, hQ4, l4, y4, z4⟩, st4⟩ := Jvm.LawKit.callS X0 hx (y := y_21) hown (mvT hZ (hw _ (gm 177 rfl))) (mvT hZ (hw _ (gm 178 rfl))) (mvT hZ (hw _ (gm 42 rfl))) (mvT hZ (hw _ (gm 179 rfl))) (by decide) (backOf (W := 1) (own_ulen l Z a0 hw [] b_o k_b vs_b h0 n0 Z0 hB) hZ (hw _ (gm 179 rfl)) (hw _ (gm 42 rfl)) (by decide) (by decide)) (g := (mkF m 2 #[vI ((Int32.ofNat i)), vR (b_o)] [(.ref b_o), (.int (Int32.ofNat i))])) rfl (by rw [hml]; rfl) (argsL := [(.ref b_o)]) (rest := [(.int (Int32.ofNat i))]) (lenOf own_pd13 rfl) rfl (by show 2 * 0 + _ ≤ _; exact Nat.le_of_eq rfl) (hb hby d39_2) (fun _ _ => ⟨rfl, e0, (by decide : 0 + 0 ≤ _), (by decide : 0 + 0 ≤ _)⟩)
  dsimp only [Pt.U, Pt.locs, Pt.cells, Pt.slots] at X4 l4 y4 z4 st4 hQ4
  rw [l4, y4, z4] at X4
  obtain ⟨rfl, Nq4, eh4⟩ := hQ4
  have N5 := Fr.app N0 Nq4
  obtain ⟨_, _, ⟨T7, L7, k7, n7⟩, -, X7, ⟨Lc7, hQ7, l7, y7, z7⟩, st7⟩ := Jvm.LawKit.callS X4 hx (y := y_20) hown (mvT hZ (hw _ (gm 180 rfl))) (mvT hZ (hw _ (gm 84 rfl))) (mvT hZ (hw _ (gm 28 rfl))) (mvT hZ (hw _ (gm 85 rfl))) (by decide) (backOf (W := 0) (own_ci l Z a0 hw [] (Int32.ofNat i) (36 : Int32) u_f h0 n0 Z0 hSf hf hO (own_nneg (by omega)) (own_ltN (n := 36) hi (by decide))) hZ (hw _ (gm 85 rfl)) (hw _ (gm 28 rfl)) (by decide) (by decide)) (g := (mkF m 5 #[vI ((Int32.ofNat i)), vR (b_o)] [(.int 36), (.int (Int32.ofNat i))])) rfl (by rw [hml]; rfl) (argsL := [(.int (Int32.ofNat i)), (.int 36)]) (rest := []) (lenOf own_pd14 rfl) rfl (by show 2 * 0 + _ ≤ _; exact Nat.le_of_eq rfl) (hb hby d39_5) (fun _ _ => ⟨rfl, eh4, (by decide : 0 + 0 ≤ _), (by decide : 0 + 0 ≤ _)⟩)
  dsimp only [Pt.U, Pt.locs, Pt.cells, Pt.slots] at X7 l7 y7 z7 st7 hQ7
  rw [l7, y7, z7] at X7
  obtain ⟨rfl, Nq7, eh7⟩ := hQ7
  have N8 := Fr.app N5 Nq7
  obtain ⟨fs, hr, hrun, hended, hW, hsame⟩ := X7.leave (v := none) (fun _ => rfl) (hlocks := BodyLoose.notSynchronized Bd)
  refine ⟨_, _, pre0 _ ?_, hrun, hended, _, _, rfl, ?_, ⟨_, rfl⟩, hW, hsame.mono (by decide) (by decide)⟩
  · show SS p e below m s₁ 0 #[vI ((Int32.ofNat i)), vR (b_o)] [] _
    refine ziloadN X0 hx hby d39_0 rfl ?_
    refine zaloadN X0 hx hby d39_1 rfl rfl ?_
    refine st4 _ ?_
    refine st7 _ ?_
    exact X7.returnOut hx Bd.returns (hb hby d39_8) hr
  · show Qown_uci Z i b_o k_b vs_b u_f h0 n0 _ T7.heap _
    rw [eh7]
    exact ⟨rfl, N8, rfl⟩
theorem own_ef_own_uch (m : MethodId) (b_o : Addr) (i : Nat) : entryFrame m #[(.ref b_o), (.int (Int32.ofNat i))] 2 = mkF m 0 #[.val (.ref b_o), .val (.int (Int32.ofNat i))] [] := by first | (simp [entryFrame, mkF, argsToLocals, Value.category]; done) | rfl
theorem own_pd15 : parseMethodDescriptor "(I[B)V" = some ⟨[.int, (.array .byte)], none⟩ := by decide +kernel
theorem d38_0 : decode b_38 0 = .ok (.iload_n 1, 1) := by decide +kernel
theorem d38_1 : decode b_38 1 = .ok (.aload_n 0, 1) := by decide +kernel
theorem d38_2 : decode b_38 2 = .ok (.invokestatic 67, 3) := by decide +kernel
theorem d38_5 : decode b_38 5 = .ok (.aload_n 0, 1) := by decide +kernel
theorem d38_6 : decode b_38 6 = .ok (.iload_n 1, 1) := by decide +kernel
theorem d38_7 : decode b_38 7 = .ok (.invokestatic 71, 3) := by decide +kernel
theorem d38_10 : decode b_38 10 = .ok (.ireturn, 1) := by decide +kernel
def Qown_uch (Z : State) (b_o : Addr) (i : Nat) (k_b : ClassId) (ch : Nat → Int32) (u_f : Value) (h0 : Heap) (n0 : Nat) (v : Option Value) (h : Heap) (L : List Loc) : Prop := v = some (.int (ch i)) ∧ Fr n0 L ∧ h = h0
set_option maxRecDepth 65536 in
set_option maxHeartbeats 40000000 in
theorem own_uch (l : Launch) (Z : State) (a0 : Array Value) (hw : ∀ d ∈ tables_1, d.before a0 Z = true) (ws : List Jvm.Cond) (b_o : Addr) (i : Nat) (k_b : ClassId) (ch : Nat → Int32) (u_f : Value) (h0 : Heap) (n0 : Nat) (Z0 : n0 ≤ h0.size) (hB : Arv Z h0 b_o k_b .byte (72 : Int32) (own_fl 72 (own_ug ch)) (.int 0)) (hSa : Sta Z Z.heap "java/lang/StringUTF16" "$assertionsDisabled" "Z" (.int 1)) (hSh : Sta Z Z.heap "java/lang/StringUTF16" "HI_BYTE_SHIFT" "I" (.int 0)) (hSl : Sta Z Z.heap "java/lang/StringUTF16" "LO_BYTE_SHIFT" "I" (.int 8)) (hO : Old Z n0 h0) (hi : i < 36) (hrg : ∀ j, nar .char (ch j) = ch j) (hSf : Sta Z Z.heap "jdk/internal/util/Preconditions" "SIOOBE_FORMATTER" "Ljava/util/function/BiFunction;" u_f) (hf : u_f.isRef = true) :
    MetFree l y_23 (head1 (Jvm.Cond.code y_23 jdk_52_method_83_code 2 (some .char) :: ws) (RM 3 0 0 40)) (fun a U => a = #[(.ref b_o), (.int (Int32.ofNat i))] ∧ Z.Warmed39 U.vm ∧ U.heap = h0) (fun _ _ _ _ _ => True) (fun _ U o U' => ∃ v L, o = .returned v ∧ Qown_uch Z b_o i k_b ch u_f h0 n0 v U'.heap L ∧ FrameEnd U o U' L (RM 3 0 0 40).cells (RM 3 0 0 40).slots) := by
  refine MetFree.of_bodySF (plainFor_of_name own_pn2) hisR ?_
  intro p e s m args below meth c s₁ Bd hml0 hP hK
  obtain ⟨rfl, hZ, hh⟩ := hP
  have hx := Bd.exec
  have hby := Bd.bytes
  have hml : c.maxLocals = 2 := hml0
  have hown : s.vm.findClass "java/lang/StringUTF16" = some m.cls := findClass_of_methodNamed Bd.named
  have X0 : Stand p l e (RM 3 0 0 40) s m #[(.ref b_o), (.int (Int32.ofNat i))] below meth c s₁ [] 0 0 := Stand.of_body Bd
  have e0 : s₁.heap = h0 := by rw [← hh, Bd.state]; rfl
  have N0 := Fr.nil n0
  have pre0 : ∀ t, Steps p.tables e below (s₁.setTop (mkF m 0 #[vR (b_o), vI ((Int32.ofNat i))] [])) t → Steps p.tables e below (s₁.setTop (entryFrame m #[(.ref b_o), (.int (Int32.ofNat i))] 2)) t := fun t k => castTop (own_ef_own_uch m b_o i) k
  obtain ⟨_, _, ⟨T4, L4, k4, n4⟩, -, X4, ⟨Lc4, hQ4, l4, y4, z4⟩, st4⟩ := Jvm.LawKit.callS X0 hx (y := y_22) hown (mvT hZ (hw _ (gm 174 rfl))) (mvT hZ (hw _ (gm 175 rfl))) (mvT hZ (hw _ (gm 42 rfl))) (mvT hZ (hw _ (gm 176 rfl))) (by decide) (backOf (W := 0) (own_uci l Z a0 hw [] i b_o k_b (own_fl 72 (own_ug ch)) u_f h0 n0 Z0 hB hO hi hSf hf) hZ (hw _ (gm 176 rfl)) (hw _ (gm 42 rfl)) (by decide) (by decide)) (g := (mkF m 2 #[vR (b_o), vI ((Int32.ofNat i))] [(.ref b_o), (.int (Int32.ofNat i))])) rfl (by rw [hml]; rfl) (argsL := [(.int (Int32.ofNat i)), (.ref b_o)]) (rest := []) (lenOf own_pd15 rfl) rfl (by show 2 * 0 + _ ≤ _; exact Nat.le_of_eq rfl) (hb hby d38_2) (fun _ _ => ⟨rfl, e0, (by decide : 0 + 0 ≤ _), (by decide : 0 + 0 ≤ _)⟩)
  dsimp only [Pt.U, Pt.locs, Pt.cells, Pt.slots] at X4 l4 y4 z4 st4 hQ4
  rw [l4, y4, z4] at X4
  obtain ⟨rfl, Nq4, eh4⟩ := hQ4
  have N5 := Fr.app N0 Nq4
  obtain ⟨_, _, ⟨T9, L9, k9, n9⟩, -, X9, ⟨Lc9, hQ9, l9, y9, z9⟩, st9⟩ := Jvm.LawKit.callS X4 hx (y := y_14) hown (mvT hZ (hw _ (gm 168 rfl))) (mvT hZ (hw _ (gm 169 rfl))) (mvT hZ (hw _ (gm 42 rfl))) (mvT hZ (hw _ (gm 170 rfl))) (by decide) (backOf (W := 0) (own_getC36 l Z a0 hw [] b_o i k_b ch h0 n0 Z0 hB hSa hSh hSl hO hi hrg) hZ (hw _ (gm 170 rfl)) (hw _ (gm 42 rfl)) (by decide) (by decide)) (g := (mkF m 7 #[vR (b_o), vI ((Int32.ofNat i))] [(.int (Int32.ofNat i)), (.ref b_o)])) rfl (by rw [hml]; rfl) (argsL := [(.ref b_o), (.int (Int32.ofNat i))]) (rest := []) (lenOf own_pd11 rfl) rfl (by show 2 * 0 + _ ≤ _; exact Nat.le_of_eq rfl) (hb hby d38_7) (fun _ _ => ⟨rfl, eh4, (by decide : 0 + 0 ≤ _), (by decide : 0 + 0 ≤ _)⟩)
  dsimp only [Pt.U, Pt.locs, Pt.cells, Pt.slots] at X9 l9 y9 z9 st9 hQ9
  rw [l9, y9, z9] at X9
  obtain ⟨rfl, Nq9, eh9⟩ := hQ9
  have N10 := Fr.app N5 Nq9
  obtain ⟨fs, hr, hrun, hended, hW, hsame⟩ := X9.leave (v := some (.int (nar .char (ch i)))) (fun h => by rw [Bd.returns] at h; cases h) (hlocks := BodyLoose.notSynchronized Bd)
  refine ⟨_, _, pre0 _ ?_, hrun, hended, _, _, rfl, ?_, ⟨_, rfl⟩, hW, hsame.mono (by decide) (by decide)⟩
  · show SS p e below m s₁ 0 #[vR (b_o), vI ((Int32.ofNat i))] [] _
    refine ziloadN X0 hx hby d38_0 rfl ?_
    refine zaloadN X0 hx hby d38_1 rfl rfl ?_
    refine st4 _ ?_
    refine zaloadN X4 hx hby d38_5 rfl rfl ?_
    refine ziloadN X4 hx hby d38_6 rfl ?_
    refine st9 _ ?_
    exact retN X9 hx (t := .char) Bd.returns (by simp) (hb hby d38_10) hr
  · show Qown_uch Z b_o i k_b ch u_f h0 n0 _ T9.heap _
    rw [eh9]
    exact ⟨(by rw [hrg i]), N10, rfl⟩
theorem own_pn5 : plainName "java/lang/StringLatin1" = true := by first | (simp [plainName, overriddenIn]; done) | decide +kernel
theorem own_ef_own_lch (m : MethodId) (b_o : Addr) (i : Nat) : entryFrame m #[(.ref b_o), (.int (Int32.ofNat i))] 2 = mkF m 0 #[.val (.ref b_o), .val (.int (Int32.ofNat i))] [] := by first | (simp [entryFrame, mkF, argsToLocals, Value.category]; done) | rfl
theorem d19_0 : decode b_19 0 = .ok (.iload_n 1, 1) := by decide +kernel
theorem d19_1 : decode b_19 1 = .ok (.aload_n 0, 1) := by decide +kernel
theorem d19_2 : decode b_19 2 = .ok (.arraylength, 1) := by decide +kernel
theorem d19_3 : decode b_19 3 = .ok (.invokestatic 9, 3) := by decide +kernel
theorem d19_6 : decode b_19 6 = .ok (.aload_n 0, 1) := by decide +kernel
theorem d19_7 : decode b_19 7 = .ok (.iload_n 1, 1) := by decide +kernel
theorem d19_8 : decode b_19 8 = .ok (.baload, 1) := by decide +kernel
theorem d19_9 : decode b_19 9 = .ok (.sipush 255, 3) := by decide +kernel
theorem d19_12 : decode b_19 12 = .ok (.iand, 1) := by decide +kernel
theorem d19_13 : decode b_19 13 = .ok (.i2c, 1) := by decide +kernel
theorem d19_14 : decode b_19 14 = .ok (.ireturn, 1) := by decide +kernel
def Qown_lch (Z : State) (b_o : Addr) (i : Nat) (k_b : ClassId) (ch : Nat → Int32) (u_f : Value) (h0 : Heap) (n0 : Nat) (v : Option Value) (h : Heap) (L : List Loc) : Prop := v = some (.int (ch i)) ∧ Fr n0 L ∧ h = h0
set_option maxRecDepth 65536 in
set_option maxHeartbeats 40000000 in
theorem own_lch (l : Launch) (Z : State) (a0 : Array Value) (hw : ∀ d ∈ tables_1, d.before a0 Z = true) (ws : List Jvm.Cond) (b_o : Addr) (i : Nat) (k_b : ClassId) (ch : Nat → Int32) (u_f : Value) (h0 : Heap) (n0 : Nat) (Z0 : n0 ≤ h0.size) (hB : Arv Z h0 b_o k_b .byte (36 : Int32) (own_fl 36 (own_bg ch)) (.int 0)) (hO : Old Z n0 h0) (hi : i < 36) (hl : ∀ j, j < 36 → ¬ (255 : Int32) < ch j) (hrg : ∀ j, nar .char (ch j) = ch j) (hSf : Sta Z Z.heap "jdk/internal/util/Preconditions" "SIOOBE_FORMATTER" "Ljava/util/function/BiFunction;" u_f) (hf : u_f.isRef = true) :
    MetFree l y_24 (head1 (Jvm.Cond.code y_24 jdk_43_method_2_code 2 (some .char) :: ws) (RM 2 0 0 27)) (fun a U => a = #[(.ref b_o), (.int (Int32.ofNat i))] ∧ Z.Warmed39 U.vm ∧ U.heap = h0) (fun _ _ _ _ _ => True) (fun _ U o U' => ∃ v L, o = .returned v ∧ Qown_lch Z b_o i k_b ch u_f h0 n0 v U'.heap L ∧ FrameEnd U o U' L (RM 2 0 0 27).cells (RM 2 0 0 27).slots) := by
  refine MetFree.of_bodySF (plainFor_of_name own_pn5) hisR ?_
  intro p e s m args below meth c s₁ Bd hml0 hP hK
  obtain ⟨rfl, hZ, hh⟩ := hP
  have hx := Bd.exec
  have hby := Bd.bytes
  have hml : c.maxLocals = 2 := hml0
  have hown : s.vm.findClass "java/lang/StringLatin1" = some m.cls := findClass_of_methodNamed Bd.named
  have X0 : Stand p l e (RM 2 0 0 27) s m #[(.ref b_o), (.int (Int32.ofNat i))] below meth c s₁ [] 0 0 := Stand.of_body Bd
  have e0 : s₁.heap = h0 := by rw [← hh, Bd.state]; rfl
  have N0 := Fr.nil n0
  have pre0 : ∀ t, Steps p.tables e below (s₁.setTop (mkF m 0 #[vR (b_o), vI ((Int32.ofNat i))] [])) t → Steps p.tables e below (s₁.setTop (entryFrame m #[(.ref b_o), (.int (Int32.ofNat i))] 2)) t := fun t k => castTop (own_ef_own_lch m b_o i) k
  obtain ⟨cl4, Ar4, -, S4, M4, -, -⟩ := id hB
  obtain ⟨_, _, ⟨T6, L6, k6, n6⟩, -, X6, ⟨Lc6, hQ6, l6, y6, z6⟩, st6⟩ := Jvm.LawKit.callS X0 hx (y := y_20) hown (mvT hZ (hw _ (gm 83 rfl))) (mvT hZ (hw _ (gm 84 rfl))) (mvT hZ (hw _ (gm 28 rfl))) (mvT hZ (hw _ (gm 85 rfl))) (by decide) (backOf (W := 0) (own_ci l Z a0 hw [] (Int32.ofNat i) (36 : Int32) u_f h0 n0 Z0 hSf hf hO (own_nneg (by omega)) (own_ltN (n := 36) hi (by decide))) hZ (hw _ (gm 85 rfl)) (hw _ (gm 28 rfl)) (by decide) (by decide)) (g := (mkF m 3 #[vR (b_o), vI ((Int32.ofNat i))] [(.int 36), (.int (Int32.ofNat i))])) rfl (by rw [hml]; rfl) (argsL := [(.int (Int32.ofNat i)), (.int 36)]) (rest := []) (lenOf own_pd14 rfl) rfl (by show 2 * 0 + _ ≤ _; exact Nat.le_of_eq rfl) (hb hby d19_3) (fun _ _ => ⟨rfl, e0, (by decide : 0 + 0 ≤ _), (by decide : 0 + 0 ≤ _)⟩)
  dsimp only [Pt.U, Pt.locs, Pt.cells, Pt.slots] at X6 l6 y6 z6 st6 hQ6
  rw [l6, y6, z6] at X6
  obtain ⟨rfl, Nq6, eh6⟩ := hQ6
  have N7 := Fr.app N0 Nq6
  obtain ⟨cl11, Ar11, q11, S11, M11, H11, G11⟩ := id hB
  have hin11 : ¬ ((Int32.ofNat i) < 0 ∨ cl11.slots.size ≤ ((Int32.ofNat i)).toNatClampNeg) := inb_of S11 ⟨own_nneg (by omega), (own_ltN (n := 36) hi (by decide))⟩
  have hat11 : cl11.slots[((Int32.ofNat i)).toNatClampNeg]? = some (.int (nar .byte ((ch i).toInt8.toInt32))) := H11.at hin11 (own_fl_atI (n := 36) (f := own_bg ch) hi (by decide))
  obtain ⟨fs, hr, hrun, hended, hW, hsame⟩ := X6.leave (v := some (.int (nar .char (((nar .byte ((ch i).toInt8.toInt32)) &&& (255 : Int32)).toUInt32.toUInt16.toUInt32.toInt32)))) (fun h => by rw [Bd.returns] at h; cases h) (hlocks := BodyLoose.notSynchronized Bd)
  refine ⟨_, _, pre0 _ ?_, hrun, hended, _, _, rfl, ?_, ⟨_, rfl⟩, hW, hsame.mono (by decide) (by decide)⟩
  · show SS p e below m s₁ 0 #[vR (b_o), vI ((Int32.ofNat i))] [] _
    refine ziloadN X0 hx hby d19_0 rfl ?_
    refine zaloadN X0 hx hby d19_1 rfl rfl ?_
    show SS p e below m s₁ 2 #[vR (b_o), vI ((Int32.ofNat i))] [(.ref b_o), (.int (Int32.ofNat i))] _
    refine X0.arraylength hx (by rw [e0]; exact Ar4.1) (State.isArrayOf_alike hZ.alike Ar4.2.1) (g := (mkF m 2 #[vR (b_o), vI ((Int32.ofNat i))] [(.ref b_o), (.int (Int32.ofNat i))])) rfl rfl (hb hby d19_2) _ ?_
    rw [len_of S4 M4]
    show SS p e below m s₁ 3 #[vR (b_o), vI ((Int32.ofNat i))] [(.int 36), (.int (Int32.ofNat i))] _
    refine st6 _ ?_
    refine zaloadN X6 hx hby d19_6 rfl rfl ?_
    refine ziloadN X6 hx hby d19_7 rfl ?_
    show SS p e below m T6 8 #[vR (b_o), vI ((Int32.ofNat i))] [(.int (Int32.ofNat i)), (.ref b_o)] _
    refine X6.baloadBytes hx (j := (Int32.ofNat i)) (v := (.int (nar .byte ((ch i).toInt8.toInt32)))) (by rw [eh6]; exact Ar11.1) (State.isArrayOf_alike hZ.alike Ar11.2.1) Ar11.2.2 hin11 hat11 (g := (mkF m 8 #[vR (b_o), vI ((Int32.ofNat i))] [(.int (Int32.ofNat i)), (.ref b_o)])) rfl rfl (hb hby d19_8) _ ?_
    show SS p e below m T6 9 #[vR (b_o), vI ((Int32.ofNat i))] [(.int (nar .byte ((ch i).toInt8.toInt32)))] _
    refine zsipush X6 hx hby (255) d19_9 rfl ?_
    show SS p e below m T6 12 #[vR (b_o), vI ((Int32.ofNat i))] [(.int 255), (.int (nar .byte ((ch i).toInt8.toInt32)))] _
    refine XS.iand X6.here hx rfl (hb hby d19_12) rfl ?_
    show SS p e below m T6 13 #[vR (b_o), vI ((Int32.ofNat i))] [(.int ((nar .byte ((ch i).toInt8.toInt32)) &&& (255 : Int32)))] _
    refine XS.i2c X6.here hx rfl (hb hby d19_13) rfl ?_
    show SS p e below m T6 14 #[vR (b_o), vI ((Int32.ofNat i))] [(.int (((nar .byte ((ch i).toInt8.toInt32)) &&& (255 : Int32)).toUInt32.toUInt16.toUInt32.toInt32))] _
    exact retN X6 hx (t := .char) Bd.returns (by simp) (hb hby d19_14) hr
  · show Qown_lch Z b_o i k_b ch u_f h0 n0 _ T6.heap _
    rw [eh6]
    exact ⟨(by rw [own_l1 (hl i hi) (hrg i)]), N7, rfl⟩
theorem own_ef_own_codL (m : MethodId) (t_o : Addr) : entryFrame m #[(.ref t_o)] 1 = mkF m 0 #[.val (.ref t_o)] [] := by first | (simp [entryFrame, mkF, argsToLocals, Value.category]; done) | rfl
theorem d16_0 : decode b_16 0 = .ok (.getstatic 38, 3) := by decide +kernel
theorem d16_3 : decode b_16 3 = .ok (.ifCond .eq 10, 3) := by decide +kernel
theorem d16_6 : decode b_16 6 = .ok (.aload_n 0, 1) := by decide +kernel
theorem d16_7 : decode b_16 7 = .ok (.getfield 15, 3) := by decide +kernel
theorem d16_10 : decode b_16 10 = .ok (.goto 4, 3) := by decide +kernel
theorem d16_14 : decode b_16 14 = .ok (.ireturn, 1) := by decide +kernel
def Qown_codL (Z : State) (t_o : Addr) (cs : Int32) (h0 : Heap) (n0 : Nat) (v : Option Value) (h : Heap) (L : List Loc) : Prop := v = some (.int 0) ∧ Fr n0 L ∧ h = h0
set_option maxRecDepth 65536 in
set_option maxHeartbeats 40000000 in
theorem own_codL (l : Launch) (Z : State) (a0 : Array Value) (hw : ∀ d ∈ tables_1, d.before a0 Z = true) (ws : List Jvm.Cond) (t_o : Addr) (cs : Int32) (h0 : Heap) (n0 : Nat) (Z0 : n0 ≤ h0.size) (hxa : Exa Z h0 t_o "java/lang/String") (hcd : Fld Z h0 t_o "java/lang/String" "coder" "B" (.int 0)) (hO : Old Z n0 h0) (hS : Sta Z Z.heap "java/lang/String" "COMPACT_STRINGS" "Z" (.int cs)) (hcs : ¬ cs = (0 : Int32)) :
    MetFree l y_25 (head1 (Jvm.Cond.code y_25 jdk_42_method_152_code 1 (some .byte) :: ws) (RM 0 0 0 0)) (fun a U => a = #[(.ref t_o)] ∧ Z.Warmed39 U.vm ∧ U.heap = h0) (fun _ _ _ _ _ => True) (fun _ U o U' => ∃ v L, o = .returned v ∧ Qown_codL Z t_o cs h0 n0 v U'.heap L ∧ FrameEnd U o U' L (RM 0 0 0 0).cells (RM 0 0 0 0).slots) := by
  refine MetFree.of_bodySF (plainFor_of_name own_pn3) hisR ?_
  intro p e s m args below meth c s₁ Bd hml0 hP hK
  obtain ⟨rfl, hZ, hh⟩ := hP
  have hx := Bd.exec
  have hby := Bd.bytes
  have hml : c.maxLocals = 1 := hml0
  have hown : s.vm.findClass "java/lang/String" = some m.cls := findClass_of_methodNamed Bd.named
  have X0 : Stand p l e (RM 0 0 0 0) s m #[(.ref t_o)] below meth c s₁ [] 0 0 := Stand.of_body Bd
  have e0 : s₁.heap = h0 := by rw [← hh, Bd.state]; rfl
  have N0 := Fr.nil n0
  have pre0 : ∀ t, Steps p.tables e below (s₁.setTop (mkF m 0 #[vR (t_o)] [])) t → Steps p.tables e below (s₁.setTop (entryFrame m #[(.ref t_o)] 1)) t := fun t k => castTop (own_ef_own_codL m t_o) k
  obtain ⟨T2, X2, e2, st2⟩ := getS2 X0 hx hZ hown (host := "") (Or.inl (hw _ (gm 39 rfl))) Via.refl e0 (hS.ext hO.2) (g := (mkF m 0 #[vR (t_o)] [])) rfl (hb hby d16_0)
  obtain ⟨T6, X6, e6, st6⟩ := getF X2 hx hZ hown (host := "") (Or.inl (hw _ (gm 51 rfl))) Via.refl e2 hcd (g := (mkF m 7 #[vR (t_o)] [(.ref t_o)])) rfl rfl (hb hby d16_7)
  obtain ⟨fs, hr, hrun, hended, hW, hsame⟩ := X6.leave (v := some (.int 0)) (fun h => by rw [Bd.returns] at h; cases h) (hlocks := BodyLoose.notSynchronized Bd)
  refine ⟨_, _, pre0 _ ?_, hrun, hended, _, _, rfl, ?_, ⟨_, rfl⟩, hW, hsame.mono (by decide) (by decide)⟩
  · show SS p e below m s₁ 0 #[vR (t_o)] [] _
    refine st2 _ ?_
    refine zifNo X2 hx hby d16_3 ((if0 _ _).trans (feq (hcs : ¬ (cs = (0 : Int32)))).1) ?_
    refine zaloadN X2 hx hby d16_6 rfl rfl ?_
    refine st6 _ ?_
    refine zgoto X6 hx hby 10 14 rfl d16_10 (by decide) (by decide) ?_
    exact retN X6 hx (t := .byte) Bd.returns (by simp) (hb hby d16_14) hr
  · show Qown_codL Z t_o cs h0 n0 _ T6.heap _
    rw [e6]
    exact ⟨rfl, N0, rfl⟩
theorem own_ef_own_islL (m : MethodId) (t_o : Addr) : entryFrame m #[(.ref t_o)] 1 = mkF m 0 #[.val (.ref t_o)] [] := by first | (simp [entryFrame, mkF, argsToLocals, Value.category]; done) | rfl
theorem d18_0 : decode b_18 0 = .ok (.getstatic 38, 3) := by decide +kernel
theorem d18_3 : decode b_18 3 = .ok (.ifCond .eq 14, 3) := by decide +kernel
theorem d18_6 : decode b_18 6 = .ok (.aload_n 0, 1) := by decide +kernel
theorem d18_7 : decode b_18 7 = .ok (.getfield 15, 3) := by decide +kernel
theorem d18_10 : decode b_18 10 = .ok (.ifCond .ne 7, 3) := by decide +kernel
theorem d18_13 : decode b_18 13 = .ok (.iconst 1, 1) := by decide +kernel
theorem d18_14 : decode b_18 14 = .ok (.goto 4, 3) := by decide +kernel
theorem d18_18 : decode b_18 18 = .ok (.ireturn, 1) := by decide +kernel
def Qown_islL (Z : State) (t_o : Addr) (cs : Int32) (h0 : Heap) (n0 : Nat) (v : Option Value) (h : Heap) (L : List Loc) : Prop := v = some (.int 1) ∧ Fr n0 L ∧ h = h0
set_option maxRecDepth 65536 in
set_option maxHeartbeats 40000000 in
theorem own_islL (l : Launch) (Z : State) (a0 : Array Value) (hw : ∀ d ∈ tables_1, d.before a0 Z = true) (ws : List Jvm.Cond) (t_o : Addr) (cs : Int32) (h0 : Heap) (n0 : Nat) (Z0 : n0 ≤ h0.size) (hxa : Exa Z h0 t_o "java/lang/String") (hcd : Fld Z h0 t_o "java/lang/String" "coder" "B" (.int 0)) (hO : Old Z n0 h0) (hS : Sta Z Z.heap "java/lang/String" "COMPACT_STRINGS" "Z" (.int cs)) (hcs : ¬ cs = (0 : Int32)) :
    MetFree l y_26 (head1 (Jvm.Cond.code y_26 jdk_42_method_154_code 1 (some .boolean) :: ws) (RM 0 0 0 0)) (fun a U => a = #[(.ref t_o)] ∧ Z.Warmed39 U.vm ∧ U.heap = h0) (fun _ _ _ _ _ => True) (fun _ U o U' => ∃ v L, o = .returned v ∧ Qown_islL Z t_o cs h0 n0 v U'.heap L ∧ FrameEnd U o U' L (RM 0 0 0 0).cells (RM 0 0 0 0).slots) := by
  refine MetFree.of_bodySF (plainFor_of_name own_pn3) hisR ?_
  intro p e s m args below meth c s₁ Bd hml0 hP hK
  obtain ⟨rfl, hZ, hh⟩ := hP
  have hx := Bd.exec
  have hby := Bd.bytes
  have hml : c.maxLocals = 1 := hml0
  have hown : s.vm.findClass "java/lang/String" = some m.cls := findClass_of_methodNamed Bd.named
  have X0 : Stand p l e (RM 0 0 0 0) s m #[(.ref t_o)] below meth c s₁ [] 0 0 := Stand.of_body Bd
  have e0 : s₁.heap = h0 := by rw [← hh, Bd.state]; rfl
  have N0 := Fr.nil n0
  have pre0 : ∀ t, Steps p.tables e below (s₁.setTop (mkF m 0 #[vR (t_o)] [])) t → Steps p.tables e below (s₁.setTop (entryFrame m #[(.ref t_o)] 1)) t := fun t k => castTop (own_ef_own_islL m t_o) k
  obtain ⟨T2, X2, e2, st2⟩ := getS2 X0 hx hZ hown (host := "") (Or.inl (hw _ (gm 39 rfl))) Via.refl e0 (hS.ext hO.2) (g := (mkF m 0 #[vR (t_o)] [])) rfl (hb hby d18_0)
  obtain ⟨T6, X6, e6, st6⟩ := getF X2 hx hZ hown (host := "") (Or.inl (hw _ (gm 51 rfl))) Via.refl e2 hcd (g := (mkF m 7 #[vR (t_o)] [(.ref t_o)])) rfl rfl (hb hby d18_7)
  obtain ⟨fs, hr, hrun, hended, hW, hsame⟩ := X6.leave (v := some (.int 1)) (fun h => by rw [Bd.returns] at h; cases h) (hlocks := BodyLoose.notSynchronized Bd)
  refine ⟨_, _, pre0 _ ?_, hrun, hended, _, _, rfl, ?_, ⟨_, rfl⟩, hW, hsame.mono (by decide) (by decide)⟩
  · show SS p e below m s₁ 0 #[vR (t_o)] [] _
    refine st2 _ ?_
    refine zifNo X2 hx hby d18_3 ((if0 _ _).trans (feq (hcs : ¬ (cs = (0 : Int32)))).1) ?_
    refine zaloadN X2 hx hby d18_6 rfl rfl ?_
    refine st6 _ ?_
    refine zifNo X6 hx hby d18_10 ((if0 _ _).trans (teq ((by decide) : (0 : Int32) = (0 : Int32))).2) ?_
    refine ziconst X6 hx hby (1) d18_13 rfl ?_
    refine zgoto X6 hx hby 14 18 rfl d18_14 (by decide) (by decide) ?_
    exact retN X6 hx (t := .boolean) Bd.returns (by simp) (hb hby d18_18) hr
  · show Qown_islL Z t_o cs h0 n0 _ T6.heap _
    rw [e6]
    exact ⟨rfl, N0, rfl⟩
theorem own_ef_own_len35L (m : MethodId) (t_o : Addr) : entryFrame m #[(.ref t_o)] 1 = mkF m 0 #[.val (.ref t_o)] [] := by first | (simp [entryFrame, mkF, argsToLocals, Value.category]; done) | rfl
theorem own_pd16 : parseMethodDescriptor "()B" = some ⟨[], some .byte⟩ := by decide +kernel
theorem d15_0 : decode b_15 0 = .ok (.aload_n 0, 1) := by decide +kernel
theorem d15_1 : decode b_15 1 = .ok (.getfield 9, 3) := by decide +kernel
theorem d15_4 : decode b_15 4 = .ok (.arraylength, 1) := by decide +kernel
theorem d15_5 : decode b_15 5 = .ok (.aload_n 0, 1) := by decide +kernel
theorem d15_6 : decode b_15 6 = .ok (.invokevirtual 335, 3) := by decide +kernel
theorem d15_9 : decode b_15 9 = .ok (.ishr, 1) := by decide +kernel
theorem d15_10 : decode b_15 10 = .ok (.ireturn, 1) := by decide +kernel
def Qown_len35L (Z : State) (t_o : Addr) (b_o : Addr) (k_b : ClassId) (vs_b : List Value) (cs : Int32) (h0 : Heap) (n0 : Nat) (v : Option Value) (h : Heap) (L : List Loc) : Prop := v = some (.int 35) ∧ Fr n0 L ∧ h = h0
set_option maxRecDepth 65536 in
set_option maxHeartbeats 40000000 in
theorem own_len35L (l : Launch) (Z : State) (a0 : Array Value) (hw : ∀ d ∈ tables_1, d.before a0 Z = true) (ws : List Jvm.Cond) (t_o : Addr) (b_o : Addr) (k_b : ClassId) (vs_b : List Value) (cs : Int32) (h0 : Heap) (n0 : Nat) (Z0 : n0 ≤ h0.size) (hxa : Exa Z h0 t_o "java/lang/String") (hcd : Fld Z h0 t_o "java/lang/String" "coder" "B" (.int 0)) (hO : Old Z n0 h0) (hS : Sta Z Z.heap "java/lang/String" "COMPACT_STRINGS" "Z" (.int cs)) (hcs : ¬ cs = (0 : Int32)) (hfv : Fld Z h0 t_o "java/lang/String" "value" "[B" (.ref b_o)) (hB : Arv Z h0 b_o k_b .byte (35 : Int32) vs_b (.int 0)) :
    MetFree l y_27 (head1 (Jvm.Cond.code y_27 jdk_42_method_54_code 1 (some .int) :: ws) (RM 1 0 0 13)) (fun a U => a = #[(.ref t_o)] ∧ Z.Warmed39 U.vm ∧ U.heap = h0) (fun _ _ _ _ _ => True) (fun _ U o U' => ∃ v L, o = .returned v ∧ Qown_len35L Z t_o b_o k_b vs_b cs h0 n0 v U'.heap L ∧ FrameEnd U o U' L (RM 1 0 0 13).cells (RM 1 0 0 13).slots) := by
  refine MetFree.of_bodySF (plainFor_of_name own_pn3) hisR ?_
  intro p e s m args below meth c s₁ Bd hml0 hP hK
  obtain ⟨rfl, hZ, hh⟩ := hP
  have hx := Bd.exec
  have hby := Bd.bytes
  have hml : c.maxLocals = 1 := hml0
  have hown : s.vm.findClass "java/lang/String" = some m.cls := findClass_of_methodNamed Bd.named
  have X0 : Stand p l e (RM 1 0 0 13) s m #[(.ref t_o)] below meth c s₁ [] 0 0 := Stand.of_body Bd
  have e0 : s₁.heap = h0 := by rw [← hh, Bd.state]; rfl
  have N0 := Fr.nil n0
  have pre0 : ∀ t, Steps p.tables e below (s₁.setTop (mkF m 0 #[vR (t_o)] [])) t → Steps p.tables e below (s₁.setTop (entryFrame m #[(.ref t_o)] 1)) t := fun t k => castTop (own_ef_own_len35L m t_o) k
  obtain ⟨T3, X3, e3, st3⟩ := getF X0 hx hZ hown (host := "") (Or.inl (hw _ (gm 53 rfl))) Via.refl e0 hfv (g := (mkF m 1 #[vR (t_o)] [(.ref t_o)])) rfl rfl (hb hby d15_1)
  obtain ⟨cl5, Ar5, -, S5, M5, -, -⟩ := id hB
  obtain ⟨cq8, kq8, q8a, q8b, q8c⟩ := isOf hZ e3 hxa
  obtain ⟨_, _, ⟨T8, L8, k8, n8⟩, -, X8, ⟨Lc8, hQ8, l8, y8, z8⟩, st8⟩ := X3.virtualBack hx (y := y_25) (z := y_25) hown (mvT hZ (hw _ (gm 64 rfl))) (mvT hZ (hw _ (gm 65 rfl))) (notFace_of_selects (args := #[]) (mvT hZ (hw _ (gm 67 rfl)))) (mvT hZ (hw _ (gm 67 rfl))) (mvT hZ (hw _ (gm 66 rfl))) (by decide) (backOf (W := 1) (own_codL l Z a0 hw [] t_o cs h0 n0 Z0 hxa hcd hO hS hcs) hZ (hw _ (gm 68 rfl)) (hw _ (gm 28 rfl)) (by decide) (by decide)) q8a q8c (g := (mkF m 6 #[vR (t_o)] [(.ref t_o), (.int 35)])) rfl (by rw [hml]; rfl) (Steps.refl _) (argsL := []) (rest := [(.int 35)]) (lenOf own_pd16 rfl) rfl (by show 2 * 0 + _ ≤ _; exact Nat.le_of_eq rfl) (hb hby d15_6) (fun _ _ => ⟨rfl, e3, (by decide : 0 + 0 ≤ _), (by decide : 0 + 0 ≤ _)⟩)
  dsimp only [Pt.U, Pt.locs, Pt.cells, Pt.slots] at X8 l8 y8 z8 st8 hQ8
  rw [l8, y8, z8] at X8
  obtain ⟨rfl, Nq8, eh8⟩ := hQ8
  have N9 := Fr.app N0 Nq8
  obtain ⟨fs, hr, hrun, hended, hW, hsame⟩ := X8.leave (v := some (.int 35)) (fun h => by rw [Bd.returns] at h; cases h) (hlocks := BodyLoose.notSynchronized Bd)
  refine ⟨_, _, pre0 _ ?_, hrun, hended, _, _, rfl, ?_, ⟨_, rfl⟩, hW, hsame.mono (by decide) (by decide)⟩
  · show SS p e below m s₁ 0 #[vR (t_o)] [] _
    refine zaloadN X0 hx hby d15_0 rfl rfl ?_
    refine st3 _ ?_
    show SS p e below m T3 4 #[vR (t_o)] [(.ref b_o)] _
    refine X3.arraylength hx (by rw [e3]; exact Ar5.1) (State.isArrayOf_alike hZ.alike Ar5.2.1) (g := (mkF m 4 #[vR (t_o)] [(.ref b_o)])) rfl rfl (hb hby d15_4) _ ?_
    rw [len_of S5 M5]
    show SS p e below m T3 5 #[vR (t_o)] [(.int 35)] _
    refine zaloadN X3 hx hby d15_5 rfl rfl ?_
    refine st8.trans ?_
    show SS p e below m T8 9 #[vR (t_o)] [(.int 0), (.int 35)] _
    refine XS.ishr X8.here hx rfl (hb hby d15_9) rfl ?_
    show SS p e below m T8 10 #[vR (t_o)] [(.int 35)] _
    exact retI X8 hx Bd.returns (hb hby d15_10) hr
  · show Qown_len35L Z t_o b_o k_b vs_b cs h0 n0 _ T8.heap _
    rw [eh8]
    exact ⟨rfl, N9, rfl⟩
theorem own_ef_own_len36L (m : MethodId) (t_o : Addr) : entryFrame m #[(.ref t_o)] 1 = mkF m 0 #[.val (.ref t_o)] [] := by first | (simp [entryFrame, mkF, argsToLocals, Value.category]; done) | rfl
def Qown_len36L (Z : State) (t_o : Addr) (b_o : Addr) (k_b : ClassId) (vs_b : List Value) (cs : Int32) (h0 : Heap) (n0 : Nat) (v : Option Value) (h : Heap) (L : List Loc) : Prop := v = some (.int 36) ∧ Fr n0 L ∧ h = h0
set_option maxRecDepth 65536 in
set_option maxHeartbeats 40000000 in
theorem own_len36L (l : Launch) (Z : State) (a0 : Array Value) (hw : ∀ d ∈ tables_1, d.before a0 Z = true) (ws : List Jvm.Cond) (t_o : Addr) (b_o : Addr) (k_b : ClassId) (vs_b : List Value) (cs : Int32) (h0 : Heap) (n0 : Nat) (Z0 : n0 ≤ h0.size) (hxa : Exa Z h0 t_o "java/lang/String") (hcd : Fld Z h0 t_o "java/lang/String" "coder" "B" (.int 0)) (hO : Old Z n0 h0) (hS : Sta Z Z.heap "java/lang/String" "COMPACT_STRINGS" "Z" (.int cs)) (hcs : ¬ cs = (0 : Int32)) (hfv : Fld Z h0 t_o "java/lang/String" "value" "[B" (.ref b_o)) (hB : Arv Z h0 b_o k_b .byte (36 : Int32) vs_b (.int 0)) :
    MetFree l y_27 (head1 (Jvm.Cond.code y_27 jdk_42_method_54_code 1 (some .int) :: ws) (RM 1 0 0 13)) (fun a U => a = #[(.ref t_o)] ∧ Z.Warmed39 U.vm ∧ U.heap = h0) (fun _ _ _ _ _ => True) (fun _ U o U' => ∃ v L, o = .returned v ∧ Qown_len36L Z t_o b_o k_b vs_b cs h0 n0 v U'.heap L ∧ FrameEnd U o U' L (RM 1 0 0 13).cells (RM 1 0 0 13).slots) := by
  refine MetFree.of_bodySF (plainFor_of_name own_pn3) hisR ?_
  intro p e s m args below meth c s₁ Bd hml0 hP hK
  obtain ⟨rfl, hZ, hh⟩ := hP
  have hx := Bd.exec
  have hby := Bd.bytes
  have hml : c.maxLocals = 1 := hml0
  have hown : s.vm.findClass "java/lang/String" = some m.cls := findClass_of_methodNamed Bd.named
  have X0 : Stand p l e (RM 1 0 0 13) s m #[(.ref t_o)] below meth c s₁ [] 0 0 := Stand.of_body Bd
  have e0 : s₁.heap = h0 := by rw [← hh, Bd.state]; rfl
  have N0 := Fr.nil n0
  have pre0 : ∀ t, Steps p.tables e below (s₁.setTop (mkF m 0 #[vR (t_o)] [])) t → Steps p.tables e below (s₁.setTop (entryFrame m #[(.ref t_o)] 1)) t := fun t k => castTop (own_ef_own_len36L m t_o) k
  obtain ⟨T3, X3, e3, st3⟩ := getF X0 hx hZ hown (host := "") (Or.inl (hw _ (gm 53 rfl))) Via.refl e0 hfv (g := (mkF m 1 #[vR (t_o)] [(.ref t_o)])) rfl rfl (hb hby d15_1)
  obtain ⟨cl5, Ar5, -, S5, M5, -, -⟩ := id hB
  obtain ⟨cq8, kq8, q8a, q8b, q8c⟩ := isOf hZ e3 hxa
  obtain ⟨_, _, ⟨T8, L8, k8, n8⟩, -, X8, ⟨Lc8, hQ8, l8, y8, z8⟩, st8⟩ := X3.virtualBack hx (y := y_25) (z := y_25) hown (mvT hZ (hw _ (gm 64 rfl))) (mvT hZ (hw _ (gm 65 rfl))) (notFace_of_selects (args := #[]) (mvT hZ (hw _ (gm 67 rfl)))) (mvT hZ (hw _ (gm 67 rfl))) (mvT hZ (hw _ (gm 66 rfl))) (by decide) (backOf (W := 1) (own_codL l Z a0 hw [] t_o cs h0 n0 Z0 hxa hcd hO hS hcs) hZ (hw _ (gm 68 rfl)) (hw _ (gm 28 rfl)) (by decide) (by decide)) q8a q8c (g := (mkF m 6 #[vR (t_o)] [(.ref t_o), (.int 36)])) rfl (by rw [hml]; rfl) (Steps.refl _) (argsL := []) (rest := [(.int 36)]) (lenOf own_pd16 rfl) rfl (by show 2 * 0 + _ ≤ _; exact Nat.le_of_eq rfl) (hb hby d15_6) (fun _ _ => ⟨rfl, e3, (by decide : 0 + 0 ≤ _), (by decide : 0 + 0 ≤ _)⟩)
  dsimp only [Pt.U, Pt.locs, Pt.cells, Pt.slots] at X8 l8 y8 z8 st8 hQ8
  rw [l8, y8, z8] at X8
  obtain ⟨rfl, Nq8, eh8⟩ := hQ8
  have N9 := Fr.app N0 Nq8
  obtain ⟨fs, hr, hrun, hended, hW, hsame⟩ := X8.leave (v := some (.int 36)) (fun h => by rw [Bd.returns] at h; cases h) (hlocks := BodyLoose.notSynchronized Bd)
  refine ⟨_, _, pre0 _ ?_, hrun, hended, _, _, rfl, ?_, ⟨_, rfl⟩, hW, hsame.mono (by decide) (by decide)⟩
  · show SS p e below m s₁ 0 #[vR (t_o)] [] _
    refine zaloadN X0 hx hby d15_0 rfl rfl ?_
    refine st3 _ ?_
    show SS p e below m T3 4 #[vR (t_o)] [(.ref b_o)] _
    refine X3.arraylength hx (by rw [e3]; exact Ar5.1) (State.isArrayOf_alike hZ.alike Ar5.2.1) (g := (mkF m 4 #[vR (t_o)] [(.ref b_o)])) rfl rfl (hb hby d15_4) _ ?_
    rw [len_of S5 M5]
    show SS p e below m T3 5 #[vR (t_o)] [(.int 36)] _
    refine zaloadN X3 hx hby d15_5 rfl rfl ?_
    refine st8.trans ?_
    show SS p e below m T8 9 #[vR (t_o)] [(.int 0), (.int 36)] _
    refine XS.ishr X8.here hx rfl (hb hby d15_9) rfl ?_
    show SS p e below m T8 10 #[vR (t_o)] [(.int 36)] _
    exact retI X8 hx Bd.returns (hb hby d15_10) hr
  · show Qown_len36L Z t_o b_o k_b vs_b cs h0 n0 _ T8.heap _
    rw [eh8]
    exact ⟨rfl, N9, rfl⟩
theorem own_ef_own_len37L (m : MethodId) (t_o : Addr) : entryFrame m #[(.ref t_o)] 1 = mkF m 0 #[.val (.ref t_o)] [] := by first | (simp [entryFrame, mkF, argsToLocals, Value.category]; done) | rfl
def Qown_len37L (Z : State) (t_o : Addr) (b_o : Addr) (k_b : ClassId) (vs_b : List Value) (cs : Int32) (h0 : Heap) (n0 : Nat) (v : Option Value) (h : Heap) (L : List Loc) : Prop := v = some (.int 37) ∧ Fr n0 L ∧ h = h0
set_option maxRecDepth 65536 in
set_option maxHeartbeats 40000000 in
theorem own_len37L (l : Launch) (Z : State) (a0 : Array Value) (hw : ∀ d ∈ tables_1, d.before a0 Z = true) (ws : List Jvm.Cond) (t_o : Addr) (b_o : Addr) (k_b : ClassId) (vs_b : List Value) (cs : Int32) (h0 : Heap) (n0 : Nat) (Z0 : n0 ≤ h0.size) (hxa : Exa Z h0 t_o "java/lang/String") (hcd : Fld Z h0 t_o "java/lang/String" "coder" "B" (.int 0)) (hO : Old Z n0 h0) (hS : Sta Z Z.heap "java/lang/String" "COMPACT_STRINGS" "Z" (.int cs)) (hcs : ¬ cs = (0 : Int32)) (hfv : Fld Z h0 t_o "java/lang/String" "value" "[B" (.ref b_o)) (hB : Arv Z h0 b_o k_b .byte (37 : Int32) vs_b (.int 0)) :
    MetFree l y_27 (head1 (Jvm.Cond.code y_27 jdk_42_method_54_code 1 (some .int) :: ws) (RM 1 0 0 13)) (fun a U => a = #[(.ref t_o)] ∧ Z.Warmed39 U.vm ∧ U.heap = h0) (fun _ _ _ _ _ => True) (fun _ U o U' => ∃ v L, o = .returned v ∧ Qown_len37L Z t_o b_o k_b vs_b cs h0 n0 v U'.heap L ∧ FrameEnd U o U' L (RM 1 0 0 13).cells (RM 1 0 0 13).slots) := by
  refine MetFree.of_bodySF (plainFor_of_name own_pn3) hisR ?_
  intro p e s m args below meth c s₁ Bd hml0 hP hK
  obtain ⟨rfl, hZ, hh⟩ := hP
  have hx := Bd.exec
  have hby := Bd.bytes
  have hml : c.maxLocals = 1 := hml0
  have hown : s.vm.findClass "java/lang/String" = some m.cls := findClass_of_methodNamed Bd.named
  have X0 : Stand p l e (RM 1 0 0 13) s m #[(.ref t_o)] below meth c s₁ [] 0 0 := Stand.of_body Bd
  have e0 : s₁.heap = h0 := by rw [← hh, Bd.state]; rfl
  have N0 := Fr.nil n0
  have pre0 : ∀ t, Steps p.tables e below (s₁.setTop (mkF m 0 #[vR (t_o)] [])) t → Steps p.tables e below (s₁.setTop (entryFrame m #[(.ref t_o)] 1)) t := fun t k => castTop (own_ef_own_len37L m t_o) k
  obtain ⟨T3, X3, e3, st3⟩ := getF X0 hx hZ hown (host := "") (Or.inl (hw _ (gm 53 rfl))) Via.refl e0 hfv (g := (mkF m 1 #[vR (t_o)] [(.ref t_o)])) rfl rfl (hb hby d15_1)
  obtain ⟨cl5, Ar5, -, S5, M5, -, -⟩ := id hB
  obtain ⟨cq8, kq8, q8a, q8b, q8c⟩ := isOf hZ e3 hxa
  obtain ⟨_, _, ⟨T8, L8, k8, n8⟩, -, X8, ⟨Lc8, hQ8, l8, y8, z8⟩, st8⟩ := X3.virtualBack hx (y := y_25) (z := y_25) hown (mvT hZ (hw _ (gm 64 rfl))) (mvT hZ (hw _ (gm 65 rfl))) (notFace_of_selects (args := #[]) (mvT hZ (hw _ (gm 67 rfl)))) (mvT hZ (hw _ (gm 67 rfl))) (mvT hZ (hw _ (gm 66 rfl))) (by decide) (backOf (W := 1) (own_codL l Z a0 hw [] t_o cs h0 n0 Z0 hxa hcd hO hS hcs) hZ (hw _ (gm 68 rfl)) (hw _ (gm 28 rfl)) (by decide) (by decide)) q8a q8c (g := (mkF m 6 #[vR (t_o)] [(.ref t_o), (.int 37)])) rfl (by rw [hml]; rfl) (Steps.refl _) (argsL := []) (rest := [(.int 37)]) (lenOf own_pd16 rfl) rfl (by show 2 * 0 + _ ≤ _; exact Nat.le_of_eq rfl) (hb hby d15_6) (fun _ _ => ⟨rfl, e3, (by decide : 0 + 0 ≤ _), (by decide : 0 + 0 ≤ _)⟩)
  dsimp only [Pt.U, Pt.locs, Pt.cells, Pt.slots] at X8 l8 y8 z8 st8 hQ8
  rw [l8, y8, z8] at X8
  obtain ⟨rfl, Nq8, eh8⟩ := hQ8
  have N9 := Fr.app N0 Nq8
  obtain ⟨fs, hr, hrun, hended, hW, hsame⟩ := X8.leave (v := some (.int 37)) (fun h => by rw [Bd.returns] at h; cases h) (hlocks := BodyLoose.notSynchronized Bd)
  refine ⟨_, _, pre0 _ ?_, hrun, hended, _, _, rfl, ?_, ⟨_, rfl⟩, hW, hsame.mono (by decide) (by decide)⟩
  · show SS p e below m s₁ 0 #[vR (t_o)] [] _
    refine zaloadN X0 hx hby d15_0 rfl rfl ?_
    refine st3 _ ?_
    show SS p e below m T3 4 #[vR (t_o)] [(.ref b_o)] _
    refine X3.arraylength hx (by rw [e3]; exact Ar5.1) (State.isArrayOf_alike hZ.alike Ar5.2.1) (g := (mkF m 4 #[vR (t_o)] [(.ref b_o)])) rfl rfl (hb hby d15_4) _ ?_
    rw [len_of S5 M5]
    show SS p e below m T3 5 #[vR (t_o)] [(.int 37)] _
    refine zaloadN X3 hx hby d15_5 rfl rfl ?_
    refine st8.trans ?_
    show SS p e below m T8 9 #[vR (t_o)] [(.int 0), (.int 37)] _
    refine XS.ishr X8.here hx rfl (hb hby d15_9) rfl ?_
    show SS p e below m T8 10 #[vR (t_o)] [(.int 37)] _
    exact retI X8 hx Bd.returns (hb hby d15_10) hr
  · show Qown_len37L Z t_o b_o k_b vs_b cs h0 n0 _ T8.heap _
    rw [eh8]
    exact ⟨rfl, N9, rfl⟩
theorem own_ef_own_chaL (m : MethodId) (t_o : Addr) (i : Nat) : entryFrame m #[(.ref t_o), (.int (Int32.ofNat i))] 2 = mkF m 0 #[.val (.ref t_o), .val (.int (Int32.ofNat i))] [] := by first | (simp [entryFrame, mkF, argsToLocals, Value.category]; done) | rfl
theorem own_pd17 : parseMethodDescriptor "()Z" = some ⟨[], some .boolean⟩ := by decide +kernel
theorem d17_0 : decode b_17 0 = .ok (.aload_n 0, 1) := by decide +kernel
theorem d17_1 : decode b_17 1 = .ok (.invokevirtual 492, 3) := by decide +kernel
theorem d17_4 : decode b_17 4 = .ok (.ifCond .eq 12, 3) := by decide +kernel
theorem d17_7 : decode b_17 7 = .ok (.aload_n 0, 1) := by decide +kernel
theorem d17_8 : decode b_17 8 = .ok (.getfield 9, 3) := by decide +kernel
theorem d17_11 : decode b_17 11 = .ok (.iload_n 1, 1) := by decide +kernel
theorem d17_12 : decode b_17 12 = .ok (.invokestatic 495, 3) := by decide +kernel
theorem d17_15 : decode b_17 15 = .ok (.ireturn, 1) := by decide +kernel
def Qown_chaL (Z : State) (t_o : Addr) (i : Nat) (b_o : Addr) (k_b : ClassId) (ch : Nat → Int32) (u_f : Value) (cs : Int32) (h0 : Heap) (n0 : Nat) (v : Option Value) (h : Heap) (L : List Loc) : Prop := v = some (.int (ch i)) ∧ Fr n0 L ∧ h = h0
set_option maxRecDepth 65536 in
set_option maxHeartbeats 40000000 in
theorem own_chaL (l : Launch) (Z : State) (a0 : Array Value) (hw : ∀ d ∈ tables_1, d.before a0 Z = true) (ws : List Jvm.Cond) (t_o : Addr) (i : Nat) (b_o : Addr) (k_b : ClassId) (ch : Nat → Int32) (u_f : Value) (cs : Int32) (h0 : Heap) (n0 : Nat) (Z0 : n0 ≤ h0.size) (hxa : Exa Z h0 t_o "java/lang/String") (hcd : Fld Z h0 t_o "java/lang/String" "coder" "B" (.int 0)) (hO : Old Z n0 h0) (hS : Sta Z Z.heap "java/lang/String" "COMPACT_STRINGS" "Z" (.int cs)) (hcs : ¬ cs = (0 : Int32)) (hfv : Fld Z h0 t_o "java/lang/String" "value" "[B" (.ref b_o)) (hB : Arv Z h0 b_o k_b .byte (36 : Int32) (own_fl 36 (own_bg ch)) (.int 0)) (hi : i < 36) (hl : ∀ j, j < 36 → ¬ (255 : Int32) < ch j) (hrg : ∀ j, nar .char (ch j) = ch j) (hSf : Sta Z Z.heap "jdk/internal/util/Preconditions" "SIOOBE_FORMATTER" "Ljava/util/function/BiFunction;" u_f) (hf : u_f.isRef = true) :
    MetFree l y_28 (head1 (Jvm.Cond.code y_28 jdk_42_method_56_code 2 (some .char) :: ws) (RM 3 0 0 40)) (fun a U => a = #[(.ref t_o), (.int (Int32.ofNat i))] ∧ Z.Warmed39 U.vm ∧ U.heap = h0) (fun _ _ _ _ _ => True) (fun _ U o U' => ∃ v L, o = .returned v ∧ Qown_chaL Z t_o i b_o k_b ch u_f cs h0 n0 v U'.heap L ∧ FrameEnd U o U' L (RM 3 0 0 40).cells (RM 3 0 0 40).slots) := by
  refine MetFree.of_bodySF (plainFor_of_name own_pn3) hisR ?_
  intro p e s m args below meth c s₁ Bd hml0 hP hK
  obtain ⟨rfl, hZ, hh⟩ := hP
  have hx := Bd.exec
  have hby := Bd.bytes
  have hml : c.maxLocals = 2 := hml0
  have hown : s.vm.findClass "java/lang/String" = some m.cls := findClass_of_methodNamed Bd.named
  have X0 : Stand p l e (RM 3 0 0 40) s m #[(.ref t_o), (.int (Int32.ofNat i))] below meth c s₁ [] 0 0 := Stand.of_body Bd
  have e0 : s₁.heap = h0 := by rw [← hh, Bd.state]; rfl
  have N0 := Fr.nil n0
  have pre0 : ∀ t, Steps p.tables e below (s₁.setTop (mkF m 0 #[vR (t_o), vI ((Int32.ofNat i))] [])) t → Steps p.tables e below (s₁.setTop (entryFrame m #[(.ref t_o), (.int (Int32.ofNat i))] 2)) t := fun t k => castTop (own_ef_own_chaL m t_o i) k
  obtain ⟨cq3, kq3, q3a, q3b, q3c⟩ := isOf hZ e0 hxa
  obtain ⟨_, _, ⟨T3, L3, k3, n3⟩, -, X3, ⟨Lc3, hQ3, l3, y3, z3⟩, st3⟩ := X0.virtualBack hx (y := y_26) (z := y_26) hown (mvT hZ (hw _ (gm 74 rfl))) (mvT hZ (hw _ (gm 75 rfl))) (notFace_of_selects (args := #[]) (mvT hZ (hw _ (gm 77 rfl)))) (mvT hZ (hw _ (gm 77 rfl))) (mvT hZ (hw _ (gm 76 rfl))) (by decide) (backOf (W := 0) (own_islL l Z a0 hw [] t_o cs h0 n0 Z0 hxa hcd hO hS hcs) hZ (hw _ (gm 78 rfl)) (hw _ (gm 28 rfl)) (by decide) (by decide)) q3a q3c (g := (mkF m 1 #[vR (t_o), vI ((Int32.ofNat i))] [(.ref t_o)])) rfl (by rw [hml]; rfl) (Steps.refl _) (argsL := []) (rest := []) (lenOf own_pd17 rfl) rfl (by show 2 * 0 + _ ≤ _; exact Nat.le_of_eq rfl) (hb hby d17_1) (fun _ _ => ⟨rfl, e0, (by decide : 0 + 0 ≤ _), (by decide : 0 + 0 ≤ _)⟩)
  dsimp only [Pt.U, Pt.locs, Pt.cells, Pt.slots] at X3 l3 y3 z3 st3 hQ3
  rw [l3, y3, z3] at X3
  obtain ⟨rfl, Nq3, eh3⟩ := hQ3
  have N4 := Fr.app N0 Nq3
  obtain ⟨T8, X8, e8, st8⟩ := getF X3 hx hZ hown (host := "") (Or.inl (hw _ (gm 53 rfl))) Via.refl eh3 hfv (g := (mkF m 8 #[vR (t_o), vI ((Int32.ofNat i))] [(.ref t_o)])) rfl rfl (hb hby d17_8)
  obtain ⟨_, _, ⟨T11, L11, k11, n11⟩, -, X11, ⟨Lc11, hQ11, l11, y11, z11⟩, st11⟩ := Jvm.LawKit.callS X8 hx (y := y_24) hown (mvT hZ (hw _ (gm 79 rfl))) (mvT hZ (hw _ (gm 80 rfl))) (mvT hZ (hw _ (gm 81 rfl))) (mvT hZ (hw _ (gm 82 rfl))) (by decide) (backOf (W := 0) (own_lch l Z a0 hw [] b_o i k_b ch u_f h0 n0 Z0 hB hO hi hl hrg hSf hf) hZ (hw _ (gm 82 rfl)) (hw _ (gm 81 rfl)) (by decide) (by decide)) (g := (mkF m 12 #[vR (t_o), vI ((Int32.ofNat i))] [(.int (Int32.ofNat i)), (.ref b_o)])) rfl (by rw [hml]; rfl) (argsL := [(.ref b_o), (.int (Int32.ofNat i))]) (rest := []) (lenOf own_pd11 rfl) rfl (by show 2 * 0 + _ ≤ _; exact Nat.le_of_eq rfl) (hb hby d17_12) (fun _ _ => ⟨rfl, e8, (by decide : 0 + 0 ≤ _), (by decide : 0 + 0 ≤ _)⟩)
  dsimp only [Pt.U, Pt.locs, Pt.cells, Pt.slots] at X11 l11 y11 z11 st11 hQ11
  rw [l11, y11, z11] at X11
  obtain ⟨rfl, Nq11, eh11⟩ := hQ11
  have N12 := Fr.app N4 Nq11
  obtain ⟨fs, hr, hrun, hended, hW, hsame⟩ := X11.leave (v := some (.int (nar .char (ch i)))) (fun h => by rw [Bd.returns] at h; cases h) (hlocks := BodyLoose.notSynchronized Bd)
  refine ⟨_, _, pre0 _ ?_, hrun, hended, _, _, rfl, ?_, ⟨_, rfl⟩, hW, hsame.mono (by decide) (by decide)⟩
  · show SS p e below m s₁ 0 #[vR (t_o), vI ((Int32.ofNat i))] [] _
    refine zaloadN X0 hx hby d17_0 rfl rfl ?_
    refine st3.trans ?_
    refine zifNo X3 hx hby d17_4 ((if0 _ _).trans (feq ((by decide) : ¬ ((1 : Int32) = (0 : Int32)))).1) ?_
    refine zaloadN X3 hx hby d17_7 rfl rfl ?_
    refine st8 _ ?_
    refine ziloadN X8 hx hby d17_11 rfl ?_
    refine st11 _ ?_
    exact retN X11 hx (t := .char) Bd.returns (by simp) (hb hby d17_15) hr
  · show Qown_chaL Z t_o i b_o k_b ch u_f cs h0 n0 _ T11.heap _
    rw [eh11]
    exact ⟨(by rw [hrg i]), N12, rfl⟩
theorem own_ef_own_codU (m : MethodId) (t_o : Addr) : entryFrame m #[(.ref t_o)] 1 = mkF m 0 #[.val (.ref t_o)] [] := by first | (simp [entryFrame, mkF, argsToLocals, Value.category]; done) | rfl
def Qown_codU (Z : State) (t_o : Addr) (cs : Int32) (h0 : Heap) (n0 : Nat) (v : Option Value) (h : Heap) (L : List Loc) : Prop := v = some (.int 1) ∧ Fr n0 L ∧ h = h0
set_option maxRecDepth 65536 in
set_option maxHeartbeats 40000000 in
theorem own_codU (l : Launch) (Z : State) (a0 : Array Value) (hw : ∀ d ∈ tables_1, d.before a0 Z = true) (ws : List Jvm.Cond) (t_o : Addr) (cs : Int32) (h0 : Heap) (n0 : Nat) (Z0 : n0 ≤ h0.size) (hxa : Exa Z h0 t_o "java/lang/String") (hcd : Fld Z h0 t_o "java/lang/String" "coder" "B" (.int 1)) (hO : Old Z n0 h0) (hS : Sta Z Z.heap "java/lang/String" "COMPACT_STRINGS" "Z" (.int cs)) (hcs : ¬ cs = (0 : Int32)) :
    MetFree l y_25 (head1 (Jvm.Cond.code y_25 jdk_42_method_152_code 1 (some .byte) :: ws) (RM 0 0 0 0)) (fun a U => a = #[(.ref t_o)] ∧ Z.Warmed39 U.vm ∧ U.heap = h0) (fun _ _ _ _ _ => True) (fun _ U o U' => ∃ v L, o = .returned v ∧ Qown_codU Z t_o cs h0 n0 v U'.heap L ∧ FrameEnd U o U' L (RM 0 0 0 0).cells (RM 0 0 0 0).slots) := by
  refine MetFree.of_bodySF (plainFor_of_name own_pn3) hisR ?_
  intro p e s m args below meth c s₁ Bd hml0 hP hK
  obtain ⟨rfl, hZ, hh⟩ := hP
  have hx := Bd.exec
  have hby := Bd.bytes
  have hml : c.maxLocals = 1 := hml0
  have hown : s.vm.findClass "java/lang/String" = some m.cls := findClass_of_methodNamed Bd.named
  have X0 : Stand p l e (RM 0 0 0 0) s m #[(.ref t_o)] below meth c s₁ [] 0 0 := Stand.of_body Bd
  have e0 : s₁.heap = h0 := by rw [← hh, Bd.state]; rfl
  have N0 := Fr.nil n0
  have pre0 : ∀ t, Steps p.tables e below (s₁.setTop (mkF m 0 #[vR (t_o)] [])) t → Steps p.tables e below (s₁.setTop (entryFrame m #[(.ref t_o)] 1)) t := fun t k => castTop (own_ef_own_codU m t_o) k
  obtain ⟨T2, X2, e2, st2⟩ := getS2 X0 hx hZ hown (host := "") (Or.inl (hw _ (gm 39 rfl))) Via.refl e0 (hS.ext hO.2) (g := (mkF m 0 #[vR (t_o)] [])) rfl (hb hby d16_0)
  obtain ⟨T6, X6, e6, st6⟩ := getF X2 hx hZ hown (host := "") (Or.inl (hw _ (gm 51 rfl))) Via.refl e2 hcd (g := (mkF m 7 #[vR (t_o)] [(.ref t_o)])) rfl rfl (hb hby d16_7)
  obtain ⟨fs, hr, hrun, hended, hW, hsame⟩ := X6.leave (v := some (.int 1)) (fun h => by rw [Bd.returns] at h; cases h) (hlocks := BodyLoose.notSynchronized Bd)
  refine ⟨_, _, pre0 _ ?_, hrun, hended, _, _, rfl, ?_, ⟨_, rfl⟩, hW, hsame.mono (by decide) (by decide)⟩
  · show SS p e below m s₁ 0 #[vR (t_o)] [] _
    refine st2 _ ?_
    refine zifNo X2 hx hby d16_3 ((if0 _ _).trans (feq (hcs : ¬ (cs = (0 : Int32)))).1) ?_
    refine zaloadN X2 hx hby d16_6 rfl rfl ?_
    refine st6 _ ?_
    refine zgoto X6 hx hby 10 14 rfl d16_10 (by decide) (by decide) ?_
    exact retN X6 hx (t := .byte) Bd.returns (by simp) (hb hby d16_14) hr
  · show Qown_codU Z t_o cs h0 n0 _ T6.heap _
    rw [e6]
    exact ⟨rfl, N0, rfl⟩
theorem own_ef_own_islU (m : MethodId) (t_o : Addr) : entryFrame m #[(.ref t_o)] 1 = mkF m 0 #[.val (.ref t_o)] [] := by first | (simp [entryFrame, mkF, argsToLocals, Value.category]; done) | rfl
theorem d18_17 : decode b_18 17 = .ok (.iconst 0, 1) := by decide +kernel
def Qown_islU (Z : State) (t_o : Addr) (cs : Int32) (h0 : Heap) (n0 : Nat) (v : Option Value) (h : Heap) (L : List Loc) : Prop := v = some (.int 0) ∧ Fr n0 L ∧ h = h0
set_option maxRecDepth 65536 in
set_option maxHeartbeats 40000000 in
theorem own_islU (l : Launch) (Z : State) (a0 : Array Value) (hw : ∀ d ∈ tables_1, d.before a0 Z = true) (ws : List Jvm.Cond) (t_o : Addr) (cs : Int32) (h0 : Heap) (n0 : Nat) (Z0 : n0 ≤ h0.size) (hxa : Exa Z h0 t_o "java/lang/String") (hcd : Fld Z h0 t_o "java/lang/String" "coder" "B" (.int 1)) (hO : Old Z n0 h0) (hS : Sta Z Z.heap "java/lang/String" "COMPACT_STRINGS" "Z" (.int cs)) (hcs : ¬ cs = (0 : Int32)) :
    MetFree l y_26 (head1 (Jvm.Cond.code y_26 jdk_42_method_154_code 1 (some .boolean) :: ws) (RM 0 0 0 0)) (fun a U => a = #[(.ref t_o)] ∧ Z.Warmed39 U.vm ∧ U.heap = h0) (fun _ _ _ _ _ => True) (fun _ U o U' => ∃ v L, o = .returned v ∧ Qown_islU Z t_o cs h0 n0 v U'.heap L ∧ FrameEnd U o U' L (RM 0 0 0 0).cells (RM 0 0 0 0).slots) := by
  refine MetFree.of_bodySF (plainFor_of_name own_pn3) hisR ?_
  intro p e s m args below meth c s₁ Bd hml0 hP hK
  obtain ⟨rfl, hZ, hh⟩ := hP
  have hx := Bd.exec
  have hby := Bd.bytes
  have hml : c.maxLocals = 1 := hml0
  have hown : s.vm.findClass "java/lang/String" = some m.cls := findClass_of_methodNamed Bd.named
  have X0 : Stand p l e (RM 0 0 0 0) s m #[(.ref t_o)] below meth c s₁ [] 0 0 := Stand.of_body Bd
  have e0 : s₁.heap = h0 := by rw [← hh, Bd.state]; rfl
  have N0 := Fr.nil n0
  have pre0 : ∀ t, Steps p.tables e below (s₁.setTop (mkF m 0 #[vR (t_o)] [])) t → Steps p.tables e below (s₁.setTop (entryFrame m #[(.ref t_o)] 1)) t := fun t k => castTop (own_ef_own_islU m t_o) k
  obtain ⟨T2, X2, e2, st2⟩ := getS2 X0 hx hZ hown (host := "") (Or.inl (hw _ (gm 39 rfl))) Via.refl e0 (hS.ext hO.2) (g := (mkF m 0 #[vR (t_o)] [])) rfl (hb hby d18_0)
  obtain ⟨T6, X6, e6, st6⟩ := getF X2 hx hZ hown (host := "") (Or.inl (hw _ (gm 51 rfl))) Via.refl e2 hcd (g := (mkF m 7 #[vR (t_o)] [(.ref t_o)])) rfl rfl (hb hby d18_7)
  obtain ⟨fs, hr, hrun, hended, hW, hsame⟩ := X6.leave (v := some (.int 0)) (fun h => by rw [Bd.returns] at h; cases h) (hlocks := BodyLoose.notSynchronized Bd)
  refine ⟨_, _, pre0 _ ?_, hrun, hended, _, _, rfl, ?_, ⟨_, rfl⟩, hW, hsame.mono (by decide) (by decide)⟩
  · show SS p e below m s₁ 0 #[vR (t_o)] [] _
    refine st2 _ ?_
    refine zifNo X2 hx hby d18_3 ((if0 _ _).trans (feq (hcs : ¬ (cs = (0 : Int32)))).1) ?_
    refine zaloadN X2 hx hby d18_6 rfl rfl ?_
    refine st6 _ ?_
    refine zifYes X6 hx hby 10 17 rfl d18_10 ((if0 _ _).trans (feq ((by decide) : ¬ ((1 : Int32) = (0 : Int32)))).2) (by decide) (by decide) ?_
    refine ziconst X6 hx hby (0) d18_17 rfl ?_
    exact retN X6 hx (t := .boolean) Bd.returns (by simp) (hb hby d18_18) hr
  · show Qown_islU Z t_o cs h0 n0 _ T6.heap _
    rw [e6]
    exact ⟨rfl, N0, rfl⟩
theorem own_ef_own_len36U (m : MethodId) (t_o : Addr) : entryFrame m #[(.ref t_o)] 1 = mkF m 0 #[.val (.ref t_o)] [] := by first | (simp [entryFrame, mkF, argsToLocals, Value.category]; done) | rfl
def Qown_len36U (Z : State) (t_o : Addr) (b_o : Addr) (k_b : ClassId) (vs_b : List Value) (cs : Int32) (h0 : Heap) (n0 : Nat) (v : Option Value) (h : Heap) (L : List Loc) : Prop := v = some (.int 36) ∧ Fr n0 L ∧ h = h0
set_option maxRecDepth 65536 in
set_option maxHeartbeats 40000000 in
theorem own_len36U (l : Launch) (Z : State) (a0 : Array Value) (hw : ∀ d ∈ tables_1, d.before a0 Z = true) (ws : List Jvm.Cond) (t_o : Addr) (b_o : Addr) (k_b : ClassId) (vs_b : List Value) (cs : Int32) (h0 : Heap) (n0 : Nat) (Z0 : n0 ≤ h0.size) (hxa : Exa Z h0 t_o "java/lang/String") (hcd : Fld Z h0 t_o "java/lang/String" "coder" "B" (.int 1)) (hO : Old Z n0 h0) (hS : Sta Z Z.heap "java/lang/String" "COMPACT_STRINGS" "Z" (.int cs)) (hcs : ¬ cs = (0 : Int32)) (hfv : Fld Z h0 t_o "java/lang/String" "value" "[B" (.ref b_o)) (hB : Arv Z h0 b_o k_b .byte (72 : Int32) vs_b (.int 0)) :
    MetFree l y_27 (head1 (Jvm.Cond.code y_27 jdk_42_method_54_code 1 (some .int) :: ws) (RM 1 0 0 13)) (fun a U => a = #[(.ref t_o)] ∧ Z.Warmed39 U.vm ∧ U.heap = h0) (fun _ _ _ _ _ => True) (fun _ U o U' => ∃ v L, o = .returned v ∧ Qown_len36U Z t_o b_o k_b vs_b cs h0 n0 v U'.heap L ∧ FrameEnd U o U' L (RM 1 0 0 13).cells (RM 1 0 0 13).slots) := by
  refine MetFree.of_bodySF (plainFor_of_name own_pn3) hisR ?_
  intro p e s m args below meth c s₁ Bd hml0 hP hK
  obtain ⟨rfl, hZ, hh⟩ := hP
  have hx := Bd.exec
  have hby := Bd.bytes
  have hml : c.maxLocals = 1 := hml0
  have hown : s.vm.findClass "java/lang/String" = some m.cls := findClass_of_methodNamed Bd.named
  have X0 : Stand p l e (RM 1 0 0 13) s m #[(.ref t_o)] below meth c s₁ [] 0 0 := Stand.of_body Bd
  have e0 : s₁.heap = h0 := by rw [← hh, Bd.state]; rfl
  have N0 := Fr.nil n0
  have pre0 : ∀ t, Steps p.tables e below (s₁.setTop (mkF m 0 #[vR (t_o)] [])) t → Steps p.tables e below (s₁.setTop (entryFrame m #[(.ref t_o)] 1)) t := fun t k => castTop (own_ef_own_len36U m t_o) k
  obtain ⟨T3, X3, e3, st3⟩ := getF X0 hx hZ hown (host := "") (Or.inl (hw _ (gm 53 rfl))) Via.refl e0 hfv (g := (mkF m 1 #[vR (t_o)] [(.ref t_o)])) rfl rfl (hb hby d15_1)
  obtain ⟨cl5, Ar5, -, S5, M5, -, -⟩ := id hB
  obtain ⟨cq8, kq8, q8a, q8b, q8c⟩ := isOf hZ e3 hxa
  obtain ⟨_, _, ⟨T8, L8, k8, n8⟩, -, X8, ⟨Lc8, hQ8, l8, y8, z8⟩, st8⟩ := X3.virtualBack hx (y := y_25) (z := y_25) hown (mvT hZ (hw _ (gm 64 rfl))) (mvT hZ (hw _ (gm 65 rfl))) (notFace_of_selects (args := #[]) (mvT hZ (hw _ (gm 67 rfl)))) (mvT hZ (hw _ (gm 67 rfl))) (mvT hZ (hw _ (gm 66 rfl))) (by decide) (backOf (W := 1) (own_codU l Z a0 hw [] t_o cs h0 n0 Z0 hxa hcd hO hS hcs) hZ (hw _ (gm 68 rfl)) (hw _ (gm 28 rfl)) (by decide) (by decide)) q8a q8c (g := (mkF m 6 #[vR (t_o)] [(.ref t_o), (.int 72)])) rfl (by rw [hml]; rfl) (Steps.refl _) (argsL := []) (rest := [(.int 72)]) (lenOf own_pd16 rfl) rfl (by show 2 * 0 + _ ≤ _; exact Nat.le_of_eq rfl) (hb hby d15_6) (fun _ _ => ⟨rfl, e3, (by decide : 0 + 0 ≤ _), (by decide : 0 + 0 ≤ _)⟩)
  dsimp only [Pt.U, Pt.locs, Pt.cells, Pt.slots] at X8 l8 y8 z8 st8 hQ8
  rw [l8, y8, z8] at X8
  obtain ⟨rfl, Nq8, eh8⟩ := hQ8
  have N9 := Fr.app N0 Nq8
  obtain ⟨fs, hr, hrun, hended, hW, hsame⟩ := X8.leave (v := some (.int 36)) (fun h => by rw [Bd.returns] at h; cases h) (hlocks := BodyLoose.notSynchronized Bd)
  refine ⟨_, _, pre0 _ ?_, hrun, hended, _, _, rfl, ?_, ⟨_, rfl⟩, hW, hsame.mono (by decide) (by decide)⟩
  · show SS p e below m s₁ 0 #[vR (t_o)] [] _
    refine zaloadN X0 hx hby d15_0 rfl rfl ?_
    refine st3 _ ?_
    show SS p e below m T3 4 #[vR (t_o)] [(.ref b_o)] _
    refine X3.arraylength hx (by rw [e3]; exact Ar5.1) (State.isArrayOf_alike hZ.alike Ar5.2.1) (g := (mkF m 4 #[vR (t_o)] [(.ref b_o)])) rfl rfl (hb hby d15_4) _ ?_
    rw [len_of S5 M5]
    show SS p e below m T3 5 #[vR (t_o)] [(.int 72)] _
    refine zaloadN X3 hx hby d15_5 rfl rfl ?_
    refine st8.trans ?_
    show SS p e below m T8 9 #[vR (t_o)] [(.int 1), (.int 72)] _
    refine XS.ishr X8.here hx rfl (hb hby d15_9) rfl ?_
    show SS p e below m T8 10 #[vR (t_o)] [(.int 36)] _
    exact retI X8 hx Bd.returns (hb hby d15_10) hr
  · show Qown_len36U Z t_o b_o k_b vs_b cs h0 n0 _ T8.heap _
    rw [eh8]
    exact ⟨rfl, N9, rfl⟩
theorem own_ef_own_len37U (m : MethodId) (t_o : Addr) : entryFrame m #[(.ref t_o)] 1 = mkF m 0 #[.val (.ref t_o)] [] := by first | (simp [entryFrame, mkF, argsToLocals, Value.category]; done) | rfl
def Qown_len37U (Z : State) (t_o : Addr) (b_o : Addr) (k_b : ClassId) (vs_b : List Value) (cs : Int32) (h0 : Heap) (n0 : Nat) (v : Option Value) (h : Heap) (L : List Loc) : Prop := v = some (.int 37) ∧ Fr n0 L ∧ h = h0
set_option maxRecDepth 65536 in
set_option maxHeartbeats 40000000 in
theorem own_len37U (l : Launch) (Z : State) (a0 : Array Value) (hw : ∀ d ∈ tables_1, d.before a0 Z = true) (ws : List Jvm.Cond) (t_o : Addr) (b_o : Addr) (k_b : ClassId) (vs_b : List Value) (cs : Int32) (h0 : Heap) (n0 : Nat) (Z0 : n0 ≤ h0.size) (hxa : Exa Z h0 t_o "java/lang/String") (hcd : Fld Z h0 t_o "java/lang/String" "coder" "B" (.int 1)) (hO : Old Z n0 h0) (hS : Sta Z Z.heap "java/lang/String" "COMPACT_STRINGS" "Z" (.int cs)) (hcs : ¬ cs = (0 : Int32)) (hfv : Fld Z h0 t_o "java/lang/String" "value" "[B" (.ref b_o)) (hB : Arv Z h0 b_o k_b .byte (74 : Int32) vs_b (.int 0)) :
    MetFree l y_27 (head1 (Jvm.Cond.code y_27 jdk_42_method_54_code 1 (some .int) :: ws) (RM 1 0 0 13)) (fun a U => a = #[(.ref t_o)] ∧ Z.Warmed39 U.vm ∧ U.heap = h0) (fun _ _ _ _ _ => True) (fun _ U o U' => ∃ v L, o = .returned v ∧ Qown_len37U Z t_o b_o k_b vs_b cs h0 n0 v U'.heap L ∧ FrameEnd U o U' L (RM 1 0 0 13).cells (RM 1 0 0 13).slots) := by
  refine MetFree.of_bodySF (plainFor_of_name own_pn3) hisR ?_
  intro p e s m args below meth c s₁ Bd hml0 hP hK
  obtain ⟨rfl, hZ, hh⟩ := hP
  have hx := Bd.exec
  have hby := Bd.bytes
  have hml : c.maxLocals = 1 := hml0
  have hown : s.vm.findClass "java/lang/String" = some m.cls := findClass_of_methodNamed Bd.named
  have X0 : Stand p l e (RM 1 0 0 13) s m #[(.ref t_o)] below meth c s₁ [] 0 0 := Stand.of_body Bd
  have e0 : s₁.heap = h0 := by rw [← hh, Bd.state]; rfl
  have N0 := Fr.nil n0
  have pre0 : ∀ t, Steps p.tables e below (s₁.setTop (mkF m 0 #[vR (t_o)] [])) t → Steps p.tables e below (s₁.setTop (entryFrame m #[(.ref t_o)] 1)) t := fun t k => castTop (own_ef_own_len37U m t_o) k
  obtain ⟨T3, X3, e3, st3⟩ := getF X0 hx hZ hown (host := "") (Or.inl (hw _ (gm 53 rfl))) Via.refl e0 hfv (g := (mkF m 1 #[vR (t_o)] [(.ref t_o)])) rfl rfl (hb hby d15_1)
  obtain ⟨cl5, Ar5, -, S5, M5, -, -⟩ := id hB
  obtain ⟨cq8, kq8, q8a, q8b, q8c⟩ := isOf hZ e3 hxa
  obtain ⟨_, _, ⟨T8, L8, k8, n8⟩, -, X8, ⟨Lc8, hQ8, l8, y8, z8⟩, st8⟩ := X3.virtualBack hx (y := y_25) (z := y_25) hown (mvT hZ (hw _ (gm 64 rfl))) (mvT hZ (hw _ (gm 65 rfl))) (notFace_of_selects (args := #[]) (mvT hZ (hw _ (gm 67 rfl)))) (mvT hZ (hw _ (gm 67 rfl))) (mvT hZ (hw _ (gm 66 rfl))) (by decide) (backOf (W := 1) (own_codU l Z a0 hw [] t_o cs h0 n0 Z0 hxa hcd hO hS hcs) hZ (hw _ (gm 68 rfl)) (hw _ (gm 28 rfl)) (by decide) (by decide)) q8a q8c (g := (mkF m 6 #[vR (t_o)] [(.ref t_o), (.int 74)])) rfl (by rw [hml]; rfl) (Steps.refl _) (argsL := []) (rest := [(.int 74)]) (lenOf own_pd16 rfl) rfl (by show 2 * 0 + _ ≤ _; exact Nat.le_of_eq rfl) (hb hby d15_6) (fun _ _ => ⟨rfl, e3, (by decide : 0 + 0 ≤ _), (by decide : 0 + 0 ≤ _)⟩)
  dsimp only [Pt.U, Pt.locs, Pt.cells, Pt.slots] at X8 l8 y8 z8 st8 hQ8
  rw [l8, y8, z8] at X8
  obtain ⟨rfl, Nq8, eh8⟩ := hQ8
  have N9 := Fr.app N0 Nq8
  obtain ⟨fs, hr, hrun, hended, hW, hsame⟩ := X8.leave (v := some (.int 37)) (fun h => by rw [Bd.returns] at h; cases h) (hlocks := BodyLoose.notSynchronized Bd)
  refine ⟨_, _, pre0 _ ?_, hrun, hended, _, _, rfl, ?_, ⟨_, rfl⟩, hW, hsame.mono (by decide) (by decide)⟩
  · show SS p e below m s₁ 0 #[vR (t_o)] [] _
    refine zaloadN X0 hx hby d15_0 rfl rfl ?_
    refine st3 _ ?_
    show SS p e below m T3 4 #[vR (t_o)] [(.ref b_o)] _
    refine X3.arraylength hx (by rw [e3]; exact Ar5.1) (State.isArrayOf_alike hZ.alike Ar5.2.1) (g := (mkF m 4 #[vR (t_o)] [(.ref b_o)])) rfl rfl (hb hby d15_4) _ ?_
    rw [len_of S5 M5]
    show SS p e below m T3 5 #[vR (t_o)] [(.int 74)] _
    refine zaloadN X3 hx hby d15_5 rfl rfl ?_
    refine st8.trans ?_
    show SS p e below m T8 9 #[vR (t_o)] [(.int 1), (.int 74)] _
    refine XS.ishr X8.here hx rfl (hb hby d15_9) rfl ?_
    show SS p e below m T8 10 #[vR (t_o)] [(.int 37)] _
    exact retI X8 hx Bd.returns (hb hby d15_10) hr
  · show Qown_len37U Z t_o b_o k_b vs_b cs h0 n0 _ T8.heap _
    rw [eh8]
    exact ⟨rfl, N9, rfl⟩
theorem own_ef_own_chaU (m : MethodId) (t_o : Addr) (i : Nat) : entryFrame m #[(.ref t_o), (.int (Int32.ofNat i))] 2 = mkF m 0 #[.val (.ref t_o), .val (.int (Int32.ofNat i))] [] := by first | (simp [entryFrame, mkF, argsToLocals, Value.category]; done) | rfl
theorem d17_16 : decode b_17 16 = .ok (.aload_n 0, 1) := by decide +kernel
theorem d17_17 : decode b_17 17 = .ok (.getfield 9, 3) := by decide +kernel
theorem d17_20 : decode b_17 20 = .ok (.iload_n 1, 1) := by decide +kernel
theorem d17_21 : decode b_17 21 = .ok (.invokestatic 498, 3) := by decide +kernel
theorem d17_24 : decode b_17 24 = .ok (.ireturn, 1) := by decide +kernel
def Qown_chaU (Z : State) (t_o : Addr) (i : Nat) (b_o : Addr) (k_b : ClassId) (ch : Nat → Int32) (u_f : Value) (cs : Int32) (h0 : Heap) (n0 : Nat) (v : Option Value) (h : Heap) (L : List Loc) : Prop := v = some (.int (ch i)) ∧ Fr n0 L ∧ h = h0
set_option maxRecDepth 65536 in
set_option maxHeartbeats 40000000 in
theorem own_chaU (l : Launch) (Z : State) (a0 : Array Value) (hw : ∀ d ∈ tables_1, d.before a0 Z = true) (ws : List Jvm.Cond) (t_o : Addr) (i : Nat) (b_o : Addr) (k_b : ClassId) (ch : Nat → Int32) (u_f : Value) (cs : Int32) (h0 : Heap) (n0 : Nat) (Z0 : n0 ≤ h0.size) (hxa : Exa Z h0 t_o "java/lang/String") (hcd : Fld Z h0 t_o "java/lang/String" "coder" "B" (.int 1)) (hO : Old Z n0 h0) (hS : Sta Z Z.heap "java/lang/String" "COMPACT_STRINGS" "Z" (.int cs)) (hcs : ¬ cs = (0 : Int32)) (hfv : Fld Z h0 t_o "java/lang/String" "value" "[B" (.ref b_o)) (hB : Arv Z h0 b_o k_b .byte (72 : Int32) (own_fl 72 (own_ug ch)) (.int 0)) (hi : i < 36) (hSa : Sta Z Z.heap "java/lang/StringUTF16" "$assertionsDisabled" "Z" (.int 1)) (hSh : Sta Z Z.heap "java/lang/StringUTF16" "HI_BYTE_SHIFT" "I" (.int 0)) (hSl : Sta Z Z.heap "java/lang/StringUTF16" "LO_BYTE_SHIFT" "I" (.int 8)) (hrg : ∀ j, nar .char (ch j) = ch j) (hSf : Sta Z Z.heap "jdk/internal/util/Preconditions" "SIOOBE_FORMATTER" "Ljava/util/function/BiFunction;" u_f) (hf : u_f.isRef = true) :
    MetFree l y_28 (head1 (Jvm.Cond.code y_28 jdk_42_method_56_code 2 (some .char) :: ws) (RM 4 0 0 53)) (fun a U => a = #[(.ref t_o), (.int (Int32.ofNat i))] ∧ Z.Warmed39 U.vm ∧ U.heap = h0) (fun _ _ _ _ _ => True) (fun _ U o U' => ∃ v L, o = .returned v ∧ Qown_chaU Z t_o i b_o k_b ch u_f cs h0 n0 v U'.heap L ∧ FrameEnd U o U' L (RM 4 0 0 53).cells (RM 4 0 0 53).slots) := by
  refine MetFree.of_bodySF (plainFor_of_name own_pn3) hisR ?_
  intro p e s m args below meth c s₁ Bd hml0 hP hK
  obtain ⟨rfl, hZ, hh⟩ := hP
  have hx := Bd.exec
  have hby := Bd.bytes
  have hml : c.maxLocals = 2 := hml0
  have hown : s.vm.findClass "java/lang/String" = some m.cls := findClass_of_methodNamed Bd.named
  have X0 : Stand p l e (RM 4 0 0 53) s m #[(.ref t_o), (.int (Int32.ofNat i))] below meth c s₁ [] 0 0 := Stand.of_body Bd
  have e0 : s₁.heap = h0 := by rw [← hh, Bd.state]; rfl
  have N0 := Fr.nil n0
  have pre0 : ∀ t, Steps p.tables e below (s₁.setTop (mkF m 0 #[vR (t_o), vI ((Int32.ofNat i))] [])) t → Steps p.tables e below (s₁.setTop (entryFrame m #[(.ref t_o), (.int (Int32.ofNat i))] 2)) t := fun t k => castTop (own_ef_own_chaU m t_o i) k
  obtain ⟨cq3, kq3, q3a, q3b, q3c⟩ := isOf hZ e0 hxa
  obtain ⟨_, _, ⟨T3, L3, k3, n3⟩, -, X3, ⟨Lc3, hQ3, l3, y3, z3⟩, st3⟩ := X0.virtualBack hx (y := y_26) (z := y_26) hown (mvT hZ (hw _ (gm 74 rfl))) (mvT hZ (hw _ (gm 75 rfl))) (notFace_of_selects (args := #[]) (mvT hZ (hw _ (gm 77 rfl)))) (mvT hZ (hw _ (gm 77 rfl))) (mvT hZ (hw _ (gm 76 rfl))) (by decide) (backOf (W := 0) (own_islU l Z a0 hw [] t_o cs h0 n0 Z0 hxa hcd hO hS hcs) hZ (hw _ (gm 78 rfl)) (hw _ (gm 28 rfl)) (by decide) (by decide)) q3a q3c (g := (mkF m 1 #[vR (t_o), vI ((Int32.ofNat i))] [(.ref t_o)])) rfl (by rw [hml]; rfl) (Steps.refl _) (argsL := []) (rest := []) (lenOf own_pd17 rfl) rfl (by show 2 * 0 + _ ≤ _; exact Nat.le_of_eq rfl) (hb hby d17_1) (fun _ _ => ⟨rfl, e0, (by decide : 0 + 0 ≤ _), (by decide : 0 + 0 ≤ _)⟩)
  dsimp only [Pt.U, Pt.locs, Pt.cells, Pt.slots] at X3 l3 y3 z3 st3 hQ3
  rw [l3, y3, z3] at X3
  obtain ⟨rfl, Nq3, eh3⟩ := hQ3
  have N4 := Fr.app N0 Nq3
  obtain ⟨T8, X8, e8, st8⟩ := getF X3 hx hZ hown (host := "") (Or.inl (hw _ (gm 53 rfl))) Via.refl eh3 hfv (g := (mkF m 17 #[vR (t_o), vI ((Int32.ofNat i))] [(.ref t_o)])) rfl rfl (hb hby d17_17)
  obtain ⟨_, _, ⟨T11, L11, k11, n11⟩, -, X11, ⟨Lc11, hQ11, l11, y11, z11⟩, st11⟩ := Jvm.LawKit.callS X8 hx (y := y_23) hown (mvT hZ (hw _ (gm 171 rfl))) (mvT hZ (hw _ (gm 172 rfl))) (mvT hZ (hw _ (gm 42 rfl))) (mvT hZ (hw _ (gm 173 rfl))) (by decide) (backOf (W := 0) (own_uch l Z a0 hw [] b_o i k_b ch u_f h0 n0 Z0 hB hSa hSh hSl hO hi hrg hSf hf) hZ (hw _ (gm 173 rfl)) (hw _ (gm 42 rfl)) (by decide) (by decide)) (g := (mkF m 21 #[vR (t_o), vI ((Int32.ofNat i))] [(.int (Int32.ofNat i)), (.ref b_o)])) rfl (by rw [hml]; rfl) (argsL := [(.ref b_o), (.int (Int32.ofNat i))]) (rest := []) (lenOf own_pd11 rfl) rfl (by show 2 * 0 + _ ≤ _; exact Nat.le_of_eq rfl) (hb hby d17_21) (fun _ _ => ⟨rfl, e8, (by decide : 0 + 0 ≤ _), (by decide : 0 + 0 ≤ _)⟩)
  dsimp only [Pt.U, Pt.locs, Pt.cells, Pt.slots] at X11 l11 y11 z11 st11 hQ11
  rw [l11, y11, z11] at X11
  obtain ⟨rfl, Nq11, eh11⟩ := hQ11
  have N12 := Fr.app N4 Nq11
  obtain ⟨fs, hr, hrun, hended, hW, hsame⟩ := X11.leave (v := some (.int (nar .char (ch i)))) (fun h => by rw [Bd.returns] at h; cases h) (hlocks := BodyLoose.notSynchronized Bd)
  refine ⟨_, _, pre0 _ ?_, hrun, hended, _, _, rfl, ?_, ⟨_, rfl⟩, hW, hsame.mono (by decide) (by decide)⟩
  · show SS p e below m s₁ 0 #[vR (t_o), vI ((Int32.ofNat i))] [] _
    refine zaloadN X0 hx hby d17_0 rfl rfl ?_
    refine st3.trans ?_
    refine zifYes X3 hx hby 4 16 rfl d17_4 ((if0 _ _).trans (teq ((by decide) : (0 : Int32) = (0 : Int32))).1) (by decide) (by decide) ?_
    refine zaloadN X3 hx hby d17_16 rfl rfl ?_
    refine st8 _ ?_
    refine ziloadN X8 hx hby d17_20 rfl ?_
    refine st11 _ ?_
    exact retN X11 hx (t := .char) Bd.returns (by simp) (hb hby d17_24) hr
  · show Qown_chaU Z t_o i b_o k_b ch u_f cs h0 n0 _ T11.heap _
    rw [eh11]
    exact ⟨(by rw [hrg i]), N12, rfl⟩
theorem own_pn6 : plainName "java/lang/Record" = true := by first | (simp [plainName, overriddenIn]; done) | decide +kernel
theorem own_ef_own_rec (m : MethodId) (a_o : Addr) : entryFrame m #[(.ref a_o)] 1 = mkF m 0 #[.val (.ref a_o)] [] := by first | (simp [entryFrame, mkF, argsToLocals, Value.category]; done) | rfl
theorem d24_0 : decode b_24 0 = .ok (.aload_n 0, 1) := by decide +kernel
theorem d24_1 : decode b_24 1 = .ok (.invokespecial 1, 3) := by decide +kernel
theorem d24_4 : decode b_24 4 = .ok (.return_, 1) := by decide +kernel
def Qown_rec (Z : State) (a_o : Addr) (h0 : Heap) (n0 : Nat) (v : Option Value) (h : Heap) (L : List Loc) : Prop := v = none ∧ Fr n0 L ∧ h = h0
set_option maxRecDepth 65536 in
set_option maxHeartbeats 40000000 in
theorem own_rec (l : Launch) (Z : State) (a0 : Array Value) (hw : ∀ d ∈ tables_1, d.before a0 Z = true) (ws : List Jvm.Cond) (a_o : Addr) (h0 : Heap) (n0 : Nat) (Z0 : n0 ≤ h0.size) :
    MetFree l y_29 (head1 (Jvm.Cond.code y_29 jdk_30_method_1_code 1 none :: ws) (RM 1 0 0 12)) (fun a U => a = #[(.ref a_o)] ∧ Z.Warmed39 U.vm ∧ U.heap = h0) (fun _ _ _ _ _ => True) (fun _ U o U' => ∃ v L, o = .returned v ∧ Qown_rec Z a_o h0 n0 v U'.heap L ∧ FrameEnd U o U' L (RM 1 0 0 12).cells (RM 1 0 0 12).slots) := by
  refine MetFree.of_bodySF (plainFor_of_name own_pn6) hisR ?_
  intro p e s m args below meth c s₁ Bd hml0 hP hK
  obtain ⟨rfl, hZ, hh⟩ := hP
  have hx := Bd.exec
  have hby := Bd.bytes
  have hml : c.maxLocals = 1 := hml0
  have hown : s.vm.findClass "java/lang/Record" = some m.cls := findClass_of_methodNamed Bd.named
  have X0 : Stand p l e (RM 1 0 0 12) s m #[(.ref a_o)] below meth c s₁ [] 0 0 := Stand.of_body Bd
  have e0 : s₁.heap = h0 := by rw [← hh, Bd.state]; rfl
  have N0 := Fr.nil n0
  have pre0 : ∀ t, Steps p.tables e below (s₁.setTop (mkF m 0 #[vR (a_o)] [])) t → Steps p.tables e below (s₁.setTop (entryFrame m #[(.ref a_o)] 1)) t := fun t k => castTop (own_ef_own_rec m a_o) k
  obtain ⟨T3, X3, e3, st3⟩ := initO X0 hx hZ hown (hw _ (gm 104 rfl)) (hw _ (gm 37 rfl)) (hw _ (gm 38 rfl)) e0 (g := (mkF m 1 #[vR (a_o)] [(.ref a_o)])) rfl (by rw [hml]; rfl) rfl (hb hby d24_1) (by decide) (W := 0) (by show 2 * 0 + _ ≤ _; exact Nat.le_of_eq rfl) (by decide)
  obtain ⟨fs, hr, hrun, hended, hW, hsame⟩ := X3.leave (v := none) (fun _ => rfl) (hlocks := BodyLoose.notSynchronized Bd)
  refine ⟨_, _, pre0 _ ?_, hrun, hended, _, _, rfl, ?_, ⟨_, rfl⟩, hW, hsame.mono (by decide) (by decide)⟩
  · show SS p e below m s₁ 0 #[vR (a_o)] [] _
    refine zaloadN X0 hx hby d24_0 rfl rfl ?_
    refine st3 _ ?_
    exact X3.returnOut hx Bd.returns (hb hby d24_4) hr
  · show Qown_rec Z a_o h0 n0 _ T3.heap _
    rw [e3]
    exact ⟨rfl, N0, rfl⟩
theorem own_ef_own_rid (m : MethodId) (a_o : Addr) (q1 : Int64) (q3 : Int64) : entryFrame m #[(.ref a_o), (.long q1), (.long q3)] 5 = mkF m 0 #[.val (.ref a_o), .val (.long q1), .second, .val (.long q3), .second] [] := by first | (simp [entryFrame, mkF, argsToLocals, Value.category]; done) | rfl
theorem own_pd18 : parseMethodDescriptor "()V" = some ⟨[], none⟩ := by decide +kernel
theorem d23_0 : decode b_23 0 = .ok (.aload_n 0, 1) := by decide +kernel
theorem d23_1 : decode b_23 1 = .ok (.invokespecial 1, 3) := by decide +kernel
theorem d23_4 : decode b_23 4 = .ok (.aload_n 0, 1) := by decide +kernel
theorem d23_5 : decode b_23 5 = .ok (.lload_n 1, 1) := by decide +kernel
theorem d23_6 : decode b_23 6 = .ok (.putfield 7, 3) := by decide +kernel
theorem d23_9 : decode b_23 9 = .ok (.aload_n 0, 1) := by decide +kernel
theorem d23_10 : decode b_23 10 = .ok (.lload_n 3, 1) := by decide +kernel
theorem d23_11 : decode b_23 11 = .ok (.putfield 13, 3) := by decide +kernel
theorem d23_14 : decode b_23 14 = .ok (.return_, 1) := by decide +kernel
def Qown_rid (Z : State) (a_o : Addr) (q1 : Int64) (q3 : Int64) (u_1 : Value) (u_2 : Value) (h0 : Heap) (n0 : Nat) (v : Option Value) (h : Heap) (L : List Loc) : Prop := v = none ∧ Fr n0 L ∧ Keep h0 h [a_o] ∧ Fld Z h a_o "com/example/rosterhall/rosterhall/ResourceId" "high" "J" (.long q1) ∧ Fld Z h a_o "com/example/rosterhall/rosterhall/ResourceId" "low" "J" (.long q3)
set_option maxRecDepth 65536 in
set_option maxHeartbeats 40000000 in
theorem own_rid (l : Launch) (Z : State) (a0 : Array Value) (hw : ∀ d ∈ tables_1, d.before a0 Z = true) (ws : List Jvm.Cond) (a_o : Addr) (q1 : Int64) (q3 : Int64) (u_1 : Value) (u_2 : Value) (h0 : Heap) (n0 : Nat) (Z0 : n0 ≤ h0.size) (hxa : Exa Z h0 a_o "com/example/rosterhall/rosterhall/ResourceId") (hf_1 : Fld Z h0 a_o "com/example/rosterhall/rosterhall/ResourceId" "high" "J" u_1) (hf_2 : Fld Z h0 a_o "com/example/rosterhall/rosterhall/ResourceId" "low" "J" u_2) (hg : n0 ≤ a_o) :
    MetFree l y_30 (head1 (Jvm.Cond.code y_30 prog_20_method_1_code 5 none :: ws) (RM 2 0 0 24)) (fun a U => a = #[(.ref a_o), (.long q1), (.long q3)] ∧ Z.Warmed39 U.vm ∧ U.heap = h0) (fun _ _ _ _ _ => True) (fun _ U o U' => ∃ v L, o = .returned v ∧ Qown_rid Z a_o q1 q3 u_1 u_2 h0 n0 v U'.heap L ∧ FrameEnd U o U' L (RM 2 0 0 24).cells (RM 2 0 0 24).slots) := by
  refine MetFree.of_bodySF (plainFor_of_name own_pn1) hisR ?_
  intro p e s m args below meth c s₁ Bd hml0 hP hK
  obtain ⟨rfl, hZ, hh⟩ := hP
  have hx := Bd.exec
  have hby := Bd.bytes
  have hml : c.maxLocals = 5 := hml0
  have hown : s.vm.findClass "com/example/rosterhall/rosterhall/ResourceId" = some m.cls := findClass_of_methodNamed Bd.named
  have hnm := (name_of_methodNamed Bd.named Bd.method).1
  have X0 : Stand p l e (RM 2 0 0 24) s m #[(.ref a_o), (.long q1), (.long q3)] below meth c s₁ [] 0 0 := Stand.of_body Bd
  have e0 : s₁.heap = h0 := by rw [← hh, Bd.state]; rfl
  have N0 := Fr.nil n0
  have pre0 : ∀ t, Steps p.tables e below (s₁.setTop (mkF m 0 #[vR (a_o), vJ (q1), s_, vJ (q3), s_] [])) t → Steps p.tables e below (s₁.setTop (entryFrame m #[(.ref a_o), (.long q1), (.long q3)] 5)) t := fun t k => castTop (own_ef_own_rid m a_o q1 q3) k
  obtain ⟨_, _, ⟨T3, L3, k3, n3⟩, -, X3, ⟨Lc3, hQ3, l3, y3, z3⟩, st3⟩ := X0.specialBack hx (y := y_29) rfl hown (mvT hZ (hw _ (gm 99 rfl))) (mvT hZ (hw _ (gm 100 rfl))) (mvT hZ (hw _ (gm 103 rfl))) (by decide) (backOf (W := 0) (own_rec l Z a0 hw [] a_o h0 n0 Z0 ) hZ (hw _ (gm 103 rfl)) (hw _ (gm 102 rfl)) (by decide) (by decide)) (g := (mkF m 1 #[vR (a_o), vJ (q1), s_, vJ (q3), s_] [(.ref a_o)])) rfl (by rw [hml]; rfl) (Steps.refl _) (a := a_o) (argsL := []) (rest := []) (lenOf own_pd18 rfl) rfl (by show 2 * 0 + _ ≤ _; exact Nat.le_of_eq rfl) (hb hby d23_1) (fun _ _ => ⟨rfl, e0, (by decide : 0 + 0 ≤ _), (by decide : 0 + 0 ≤ _)⟩)
  dsimp only [Pt.U, Pt.locs, Pt.cells, Pt.slots] at X3 l3 y3 z3 st3 hQ3
  rw [l3, y3, z3] at X3
  obtain ⟨rfl, Nq3, eh3⟩ := hQ3
  have N4 := Fr.app N0 Nq3
  obtain ⟨T8, h8, X8, e8, W8, st8⟩ := putF X3 hx hZ hown (host := "") (Or.inl (hw _ (gm 105 rfl))) Via.refl eh3 hf_1 hxa (Or.inr ⟨(hw _ (gm 106 rfl)), rfl, hnm⟩) (hw _ (gm 95 rfl)) (ty := .long) (by decide) rfl rfl (g := (mkF m 6 #[vR (a_o), vJ (q1), s_, vJ (q3), s_] [(.long q1), (.ref a_o)])) rfl rfl (hb hby d23_6)
  have Kc9 : Keep h0 h8 [a_o] := (Keep.refl h0 [a_o]).wr W8 (Or.inl (ga 0 rfl))
  have N11 := Fr.snoc X8 N4 hg
  have Fw8 : Fld Z h8 a_o "com/example/rosterhall/rosterhall/ResourceId" "high" "J" (.long q1) := hf_1.same W8
  have Fq15 : Exa Z h8 a_o "com/example/rosterhall/rosterhall/ResourceId" := (hxa.wr W8)
  have Fq16 : Fld Z h8 a_o "com/example/rosterhall/rosterhall/ResourceId" "low" "J" u_2 := (hf_2.other W8 (Or.inr (slot_ne (Or.inr (hw _ (gm 108 rfl))) (Or.inr (hw _ (gm 106 rfl))) (by decide) (t := .long) (t' := .long) (by decide) (by decide))))
  obtain ⟨T17, h17, X17, e17, W17, st17⟩ := putF X8 hx hZ hown (host := "") (Or.inl (hw _ (gm 107 rfl))) Via.refl e8 Fq16 Fq15 (Or.inr ⟨(hw _ (gm 108 rfl)), rfl, hnm⟩) (hw _ (gm 95 rfl)) (ty := .long) (by decide) rfl rfl (g := (mkF m 11 #[vR (a_o), vJ (q1), s_, vJ (q3), s_] [(.long q3), (.ref a_o)])) rfl rfl (hb hby d23_11)
  have Kc18 : Keep h0 h17 [a_o] := Kc9.wr W17 (Or.inl (ga 0 rfl))
  have N20 := Fr.snoc X17 N11 hg
  have Fw17 : Fld Z h17 a_o "com/example/rosterhall/rosterhall/ResourceId" "low" "J" (.long q3) := Fq16.same W17
  obtain ⟨fs, hr, hrun, hended, hW, hsame⟩ := X17.leave (v := none) (fun _ => rfl) (hlocks := BodyLoose.notSynchronized Bd)
  refine ⟨_, _, pre0 _ ?_, hrun, hended, _, _, rfl, ?_, ⟨_, rfl⟩, hW, hsame.mono (by decide) (by decide)⟩
  · show SS p e below m s₁ 0 #[vR (a_o), vJ (q1), s_, vJ (q3), s_] [] _
    refine zaloadN X0 hx hby d23_0 rfl rfl ?_
    refine st3.trans ?_
    refine zaloadN X3 hx hby d23_4 rfl rfl ?_
    refine zlloadN X3 hx hby d23_5 rfl ?_
    refine st8 _ ?_
    refine zaloadN X8 hx hby d23_9 rfl rfl ?_
    refine zlloadN X8 hx hby d23_10 rfl ?_
    refine st17 _ ?_
    exact X17.returnOut hx Bd.returns (hb hby d23_14) hr
  · show Qown_rid Z a_o q1 q3 u_1 u_2 h0 n0 _ T17.heap _
    rw [e17]
    have Fq22 : Fld Z h17 a_o "com/example/rosterhall/rosterhall/ResourceId" "high" "J" (.long q1) := (Fw8.other W17 (Or.inr (slot_ne (Or.inr (hw _ (gm 106 rfl))) (Or.inr (hw _ (gm 108 rfl))) (by decide) (t := .long) (t' := .long) (by decide) (by decide))))
    exact ⟨rfl, N20, Kc18, Fq22, Fw17⟩
theorem own_pn7 : plainName "java/util/Objects" = true := by first | (simp [plainName, overriddenIn]; done) | decide +kernel
theorem own_ef_own_req (m : MethodId) (b_o : Addr) : entryFrame m #[(.ref b_o)] 1 = mkF m 0 #[.val (.ref b_o)] [] := by first | (simp [entryFrame, mkF, argsToLocals, Value.category]; done) | rfl
theorem d26_0 : decode b_26 0 = .ok (.aload_n 0, 1) := by decide +kernel
theorem d26_1 : decode b_26 1 = .ok (.ifnonnull 11, 3) := by decide +kernel
theorem d26_12 : decode b_26 12 = .ok (.aload_n 0, 1) := by decide +kernel
theorem d26_13 : decode b_26 13 = .ok (.areturn, 1) := by decide +kernel
def Qown_req (Z : State) (b_o : Addr) (h0 : Heap) (n0 : Nat) (v : Option Value) (h : Heap) (L : List Loc) : Prop := v = some (.ref b_o) ∧ Fr n0 L ∧ h = h0
set_option maxRecDepth 65536 in
set_option maxHeartbeats 40000000 in
theorem own_req (l : Launch) (Z : State) (a0 : Array Value) (hw : ∀ d ∈ tables_1, d.before a0 Z = true) (ws : List Jvm.Cond) (b_o : Addr) (h0 : Heap) (n0 : Nat) (Z0 : n0 ≤ h0.size) :
    MetFree l y_31 (head1 (Jvm.Cond.code y_31 jdk_31_method_10_code 1 (some (.object "java/lang/Object")) :: ws) (RM 0 0 0 0)) (fun a U => a = #[(.ref b_o)] ∧ Z.Warmed39 U.vm ∧ U.heap = h0) (fun _ _ _ _ _ => True) (fun _ U o U' => ∃ v L, o = .returned v ∧ Qown_req Z b_o h0 n0 v U'.heap L ∧ FrameEnd U o U' L (RM 0 0 0 0).cells (RM 0 0 0 0).slots) := by
  refine MetFree.of_bodySF (plainFor_of_name own_pn7) hisR ?_
  intro p e s m args below meth c s₁ Bd hml0 hP hK
  obtain ⟨rfl, hZ, hh⟩ := hP
  have hx := Bd.exec
  have hby := Bd.bytes
  have hml : c.maxLocals = 1 := hml0
  have hown : s.vm.findClass "java/util/Objects" = some m.cls := findClass_of_methodNamed Bd.named
  have X0 : Stand p l e (RM 0 0 0 0) s m #[(.ref b_o)] below meth c s₁ [] 0 0 := Stand.of_body Bd
  have e0 : s₁.heap = h0 := by rw [← hh, Bd.state]; rfl
  have N0 := Fr.nil n0
  have pre0 : ∀ t, Steps p.tables e below (s₁.setTop (mkF m 0 #[vR (b_o)] [])) t → Steps p.tables e below (s₁.setTop (entryFrame m #[(.ref b_o)] 1)) t := fun t k => castTop (own_ef_own_req m b_o) k
  obtain ⟨fs, hr, hrun, hended, hW, hsame⟩ := X0.leave (v := some (.ref b_o)) (fun h => by rw [Bd.returns] at h; cases h) (hlocks := BodyLoose.notSynchronized Bd)
  refine ⟨_, _, pre0 _ ?_, hrun, hended, _, _, rfl, ?_, ⟨_, rfl⟩, hW, hsame.mono (by decide) (by decide)⟩
  · show SS p e below m s₁ 0 #[vR (b_o)] [] _
    refine zaloadN X0 hx hby d26_0 rfl rfl ?_
    show SS p e below m s₁ 1 #[vR (b_o)] [(.ref b_o)] _
    refine XS.ifnonnullYes X0.here hx rfl (pc0 := 1) (pc' := 12) rfl (hb hby d26_1) rfl (by decide) (by decide) ?_
    show SS p e below m s₁ 12 #[vR (b_o)] [] _
    refine zaloadN X0 hx hby d26_12 rfl rfl ?_
    show SS p e below m s₁ 13 #[vR (b_o)] [(.ref b_o)] _
    jvm_step X0.here [X0.here.top, hx, (hb hby d26_13), X0.method', Bd.returns, Value.isRef, FieldType.isReference]
    first | (intro acts; rw [hr _ acts rfl rfl rfl]) | rw [hr _ _ rfl rfl rfl]
    exact Steps.refl _
  · show Qown_req Z b_o h0 n0 _ s₁.heap _
    rw [e0]
    exact ⟨rfl, N0, rfl⟩
theorem own_pn8 : plainName "java/util/Optional" = true := by first | (simp [plainName, overriddenIn]; done) | decide +kernel
theorem own_ef_own_opi (m : MethodId) (a_o : Addr) (b_o : Addr) : entryFrame m #[(.ref a_o), (.ref b_o)] 2 = mkF m 0 #[.val (.ref a_o), .val (.ref b_o)] [] := by first | (simp [entryFrame, mkF, argsToLocals, Value.category]; done) | rfl
theorem d27_0 : decode b_27 0 = .ok (.aload_n 0, 1) := by decide +kernel
theorem d27_1 : decode b_27 1 = .ok (.invokespecial 7, 3) := by decide +kernel
theorem d27_4 : decode b_27 4 = .ok (.aload_n 0, 1) := by decide +kernel
theorem d27_5 : decode b_27 5 = .ok (.aload_n 1, 1) := by decide +kernel
theorem d27_6 : decode b_27 6 = .ok (.putfield 13, 3) := by decide +kernel
theorem d27_9 : decode b_27 9 = .ok (.return_, 1) := by decide +kernel
def Qown_opi (Z : State) (a_o : Addr) (b_o : Addr) (u_1 : Value) (h0 : Heap) (n0 : Nat) (v : Option Value) (h : Heap) (L : List Loc) : Prop := v = none ∧ Fr n0 L ∧ Keep h0 h [a_o] ∧ Fld Z h a_o "java/util/Optional" "value" "Ljava/lang/Object;" (.ref b_o)
set_option maxRecDepth 65536 in
set_option maxHeartbeats 40000000 in
theorem own_opi (l : Launch) (Z : State) (a0 : Array Value) (hw : ∀ d ∈ tables_1, d.before a0 Z = true) (ws : List Jvm.Cond) (a_o : Addr) (b_o : Addr) (u_1 : Value) (h0 : Heap) (n0 : Nat) (Z0 : n0 ≤ h0.size) (hxa : Exa Z h0 a_o "java/util/Optional") (hfo : Fld Z h0 a_o "java/util/Optional" "value" "Ljava/lang/Object;" u_1) (hg : n0 ≤ a_o) :
    MetFree l y_32 (head1 (Jvm.Cond.code y_32 jdk_32_method_2_code 2 none :: ws) (RM 1 0 0 12)) (fun a U => a = #[(.ref a_o), (.ref b_o)] ∧ Z.Warmed39 U.vm ∧ U.heap = h0) (fun _ _ _ _ _ => True) (fun _ U o U' => ∃ v L, o = .returned v ∧ Qown_opi Z a_o b_o u_1 h0 n0 v U'.heap L ∧ FrameEnd U o U' L (RM 1 0 0 12).cells (RM 1 0 0 12).slots) := by
  refine MetFree.of_bodySF (plainFor_of_name own_pn8) hisR ?_
  intro p e s m args below meth c s₁ Bd hml0 hP hK
  obtain ⟨rfl, hZ, hh⟩ := hP
  have hx := Bd.exec
  have hby := Bd.bytes
  have hml : c.maxLocals = 2 := hml0
  have hown : s.vm.findClass "java/util/Optional" = some m.cls := findClass_of_methodNamed Bd.named
  have hnm := (name_of_methodNamed Bd.named Bd.method).1
  have X0 : Stand p l e (RM 1 0 0 12) s m #[(.ref a_o), (.ref b_o)] below meth c s₁ [] 0 0 := Stand.of_body Bd
  have e0 : s₁.heap = h0 := by rw [← hh, Bd.state]; rfl
  have N0 := Fr.nil n0
  have pre0 : ∀ t, Steps p.tables e below (s₁.setTop (mkF m 0 #[vR (a_o), vR (b_o)] [])) t → Steps p.tables e below (s₁.setTop (entryFrame m #[(.ref a_o), (.ref b_o)] 2)) t := fun t k => castTop (own_ef_own_opi m a_o b_o) k
  obtain ⟨T3, X3, e3, st3⟩ := initO X0 hx hZ hown (hw _ (gm 123 rfl)) (hw _ (gm 37 rfl)) (hw _ (gm 38 rfl)) e0 (g := (mkF m 1 #[vR (a_o), vR (b_o)] [(.ref a_o)])) rfl (by rw [hml]; rfl) rfl (hb hby d27_1) (by decide) (W := 0) (by show 2 * 0 + _ ≤ _; exact Nat.le_of_eq rfl) (by decide)
  obtain ⟨T7, h7, X7, e7, W7, st7⟩ := putF X3 hx hZ hown (host := "") (Or.inl (hw _ (gm 124 rfl))) Via.refl e3 hfo hxa (Or.inr ⟨(hw _ (gm 125 rfl)), rfl, hnm⟩) (hw _ (gm 114 rfl)) (ty := (.object "java/lang/Object")) (by decide) rfl rfl (g := (mkF m 6 #[vR (a_o), vR (b_o)] [(.ref b_o), (.ref a_o)])) rfl rfl (hb hby d27_6)
  have Kc8 : Keep h0 h7 [a_o] := (Keep.refl h0 [a_o]).wr W7 (Or.inl (ga 0 rfl))
  have N10 := Fr.snoc X7 N0 hg
  have Fw7 : Fld Z h7 a_o "java/util/Optional" "value" "Ljava/lang/Object;" (.ref b_o) := hfo.same W7
  obtain ⟨fs, hr, hrun, hended, hW, hsame⟩ := X7.leave (v := none) (fun _ => rfl) (hlocks := BodyLoose.notSynchronized Bd)
  refine ⟨_, _, pre0 _ ?_, hrun, hended, _, _, rfl, ?_, ⟨_, rfl⟩, hW, hsame.mono (by decide) (by decide)⟩
  · show SS p e below m s₁ 0 #[vR (a_o), vR (b_o)] [] _
    refine zaloadN X0 hx hby d27_0 rfl rfl ?_
    refine st3 _ ?_
    refine zaloadN X3 hx hby d27_4 rfl rfl ?_
    refine zaloadN X3 hx hby d27_5 rfl rfl ?_
    refine st7 _ ?_
    exact X7.returnOut hx Bd.returns (hb hby d27_9) hr
  · show Qown_opi Z a_o b_o u_1 h0 n0 _ T7.heap _
    rw [e7]
    exact ⟨rfl, N10, Kc8, Fw7⟩
theorem own_ef_own_of (m : MethodId) (b_o : Addr) : entryFrame m #[(.ref b_o)] 1 = mkF m 0 #[.val (.ref b_o)] [] := by first | (simp [entryFrame, mkF, argsToLocals, Value.category]; done) | rfl
theorem own_pd19 : parseMethodDescriptor "(Ljava/lang/Object;)Ljava/lang/Object;" = some ⟨[(.object "java/lang/Object")], some (.object "java/lang/Object")⟩ := by decide +kernel
theorem own_pd20 : parseMethodDescriptor "(Ljava/lang/Object;)V" = some ⟨[(.object "java/lang/Object")], none⟩ := by decide +kernel
theorem d25_0 : decode b_25 0 = .ok (.new 2, 3) := by decide +kernel
theorem d25_3 : decode b_25 3 = .ok (.dup, 1) := by decide +kernel
theorem d25_4 : decode b_25 4 = .ok (.aload_n 0, 1) := by decide +kernel
theorem d25_5 : decode b_25 5 = .ok (.invokestatic 17, 3) := by decide +kernel
theorem d25_8 : decode b_25 8 = .ok (.invokespecial 23, 3) := by decide +kernel
theorem d25_11 : decode b_25 11 = .ok (.areturn, 1) := by decide +kernel
def Qown_of (Z : State) (b_o : Addr) (h0 : Heap) (n0 : Nat) (v : Option Value) (h : Heap) (L : List Loc) : Prop := ∃ r_o : Addr, v = some (.ref r_o) ∧ Fr n0 L ∧ h0.size ≤ r_o ∧ Keep h0 h [] ∧ Exa Z h r_o "java/util/Optional" ∧ Fld Z h r_o "java/util/Optional" "value" "Ljava/lang/Object;" (.ref b_o)
set_option maxRecDepth 65536 in
set_option maxHeartbeats 40000000 in
theorem own_of (l : Launch) (Z : State) (a0 : Array Value) (hw : ∀ d ∈ tables_1, d.before a0 Z = true) (ws : List Jvm.Cond) (b_o : Addr) (h0 : Heap) (n0 : Nat) (Z0 : n0 ≤ h0.size) :
    MetFree l y_33 (head1 (Jvm.Cond.code y_33 jdk_32_method_3_code 1 (some (.object "java/util/Optional")) :: ws) (RM 2 1 1 26)) (fun a U => a = #[(.ref b_o)] ∧ Z.Warmed39 U.vm ∧ U.heap = h0) (fun _ _ _ _ _ => True) (fun _ U o U' => ∃ v L, o = .returned v ∧ Qown_of Z b_o h0 n0 v U'.heap L ∧ FrameEnd U o U' L (RM 2 1 1 26).cells (RM 2 1 1 26).slots) := by
  refine MetFree.of_bodySF (plainFor_of_name own_pn8) hisR ?_
  intro p e s m args below meth c s₁ Bd hml0 hP hK
  obtain ⟨rfl, hZ, hh⟩ := hP
  have hx := Bd.exec
  have hby := Bd.bytes
  have hml : c.maxLocals = 1 := hml0
  have hown : s.vm.findClass "java/util/Optional" = some m.cls := findClass_of_methodNamed Bd.named
  have X0 : Stand p l e (RM 2 1 1 26) s m #[(.ref b_o)] below meth c s₁ [] 0 0 := Stand.of_body Bd
  have e0 : s₁.heap = h0 := by rw [← hh, Bd.state]; rfl
  have N0 := Fr.nil n0
  have pre0 : ∀ t, Steps p.tables e below (s₁.setTop (mkF m 0 #[vR (b_o)] [])) t → Steps p.tables e below (s₁.setTop (entryFrame m #[(.ref b_o)] 1)) t := fun t k => castTop (own_ef_own_of m b_o) k
  obtain ⟨T2, h2, X2, e2, E2, A2, D2, -, st2⟩ := newO X0 hx hZ hown (hw _ (gm 113 rfl)) (hw _ (gm 114 rfl)) (hw _ (gm 111 rfl)) e0 (g := (mkF m 0 #[vR (b_o)] [])) rfl (hb hby d25_0) (by decide) (by decide)
  obtain ⟨b2, g2⟩ : ∃ z, z = h0.size := ⟨_, rfl⟩
  rw [← g2] at A2 D2 st2
  have Ge3 : n0 ≤ b2 := Nat.le_trans Z0 (Nat.le_of_eq g2.symm)
  have Sz4 : h0.size ≤ b2 := Nat.le_trans (Keep.refl h0 []).1 (Nat.le_of_eq g2.symm)
  have Kc5 : Keep h0 h2 [] := (Keep.refl h0 []).ext E2
  have Zs6 : n0 ≤ h2.size := (Nat.le_trans Z0 E2.1)
  have F2_value : Fld Z h2 b2 "java/util/Optional" "value" "Ljava/lang/Object;" .null := D2 (Or.inr (hw _ (gm 125 rfl))) (ty := (.object "java/lang/Object")) (by decide)
  obtain ⟨_, _, ⟨T10, L10, k10, n10⟩, -, X10, ⟨Lc10, hQ10, l10, y10, z10⟩, st10⟩ := Jvm.LawKit.callS X2 hx (y := y_31) hown (mvT hZ (hw _ (gm 115 rfl))) (mvT hZ (hw _ (gm 116 rfl))) (mvT hZ (hw _ (gm 117 rfl))) (mvT hZ (hw _ (gm 118 rfl))) (by decide) (backOf (W := 2) (own_req l Z a0 hw [] b_o h2 n0 Zs6 ) hZ (hw _ (gm 118 rfl)) (hw _ (gm 117 rfl)) (by decide) (by decide)) (g := (mkF m 5 #[vR (b_o)] [(.ref b_o), (.ref b2), (.ref b2)])) rfl (by rw [hml]; rfl) (argsL := [(.ref b_o)]) (rest := [(.ref b2), (.ref b2)]) (lenOf own_pd19 rfl) rfl (by show 2 * 0 + _ ≤ _; exact Nat.le_of_eq rfl) (hb hby d25_5) (fun _ _ => ⟨rfl, e2, (by decide : 1 + 0 ≤ _), (by decide : 1 + 0 ≤ _)⟩)
  dsimp only [Pt.U, Pt.locs, Pt.cells, Pt.slots] at X10 l10 y10 z10 st10 hQ10
  rw [l10, y10, z10] at X10
  obtain ⟨rfl, Nq10, eh10⟩ := hQ10
  have N11 := Fr.app N0 Nq10
  obtain ⟨_, _, ⟨T13, L13, k13, n13⟩, -, X13, ⟨Lc13, hQ13, l13, y13, z13⟩, st13⟩ := X10.specialBack hx (y := y_32) rfl hown (mvT hZ (hw _ (gm 119 rfl))) (mvT hZ (hw _ (gm 120 rfl))) (mvT hZ (hw _ (gm 122 rfl))) (by decide) (backOf (W := 1) (own_opi l Z a0 hw [] b2 b_o .null h2 n0 Zs6 A2 F2_value Ge3) hZ (hw _ (gm 122 rfl)) (hw _ (gm 111 rfl)) (by decide) (by decide)) (g := (mkF m 8 #[vR (b_o)] [(.ref b_o), (.ref b2), (.ref b2)])) rfl (by rw [hml]; rfl) (Steps.refl _) (a := b2) (argsL := [(.ref b_o)]) (rest := [(.ref b2)]) (lenOf own_pd20 rfl) rfl (by show 2 * 0 + _ ≤ _; exact Nat.le_of_eq rfl) (hb hby d25_8) (fun _ _ => ⟨rfl, eh10, (by decide : 1 + 0 ≤ _), (by decide : 1 + 0 ≤ _)⟩)
  dsimp only [Pt.U, Pt.locs, Pt.cells, Pt.slots] at X13 l13 y13 z13 st13 hQ13
  rw [l13, y13, z13] at X13
  obtain ⟨rfl, Nq13, K13, Pf13_0⟩ := hQ13
  have N14 := Fr.app N11 Nq13
  have Kc15 : Keep h0 T13.heap [] := Kc5.trans K13 (allS (Or.inr Sz4) all0)
  obtain ⟨fs, hr, hrun, hended, hW, hsame⟩ := X13.leave (v := some (.ref b2)) (fun h => by rw [Bd.returns] at h; cases h) (hlocks := BodyLoose.notSynchronized Bd)
  refine ⟨_, _, pre0 _ ?_, hrun, hended, _, _, rfl, ?_, ⟨_, rfl⟩, hW, hsame.mono (by decide) (by decide)⟩
  · show SS p e below m s₁ 0 #[vR (b_o)] [] _
    refine st2 _ ?_
    show SS p e below m T2 3 #[vR (b_o)] [(.ref b2)] _
    refine XS.dup X2.here hx rfl (hb hby d25_3) rfl rfl ?_
    show SS p e below m T2 4 #[vR (b_o)] [(.ref b2), (.ref b2)] _
    refine zaloadN X2 hx hby d25_4 rfl rfl ?_
    refine st10 _ ?_
    refine st13.trans ?_
    show SS p e below m T13 11 #[vR (b_o)] [(.ref b2)] _
    jvm_step X13.here [X13.here.top, hx, (hb hby d25_11), X13.method', Bd.returns, Value.isRef, FieldType.isReference]
    first | (intro acts; rw [hr _ acts rfl rfl rfl]) | rw [hr _ _ rfl rfl rfl]
    exact Steps.refl _
  · show Qown_of Z b_o h0 n0 _ T13.heap _
    have Fq18 : Exa Z T13.heap b2 "java/util/Optional" := (A2.keep K13)
    exact ⟨b2, rfl, N14, Sz4, Kc15, Fq18, Pf13_0⟩
theorem own_ef_own_ipN (m : MethodId) (a_o : Addr) : entryFrame m #[(.ref a_o)] 1 = mkF m 0 #[.val (.ref a_o)] [] := by first | (simp [entryFrame, mkF, argsToLocals, Value.category]; done) | rfl
theorem d28_0 : decode b_28 0 = .ok (.aload_n 0, 1) := by decide +kernel
theorem d28_1 : decode b_28 1 = .ok (.getfield 13, 3) := by decide +kernel
theorem d28_4 : decode b_28 4 = .ok (.ifnull 7, 3) := by decide +kernel
theorem d28_11 : decode b_28 11 = .ok (.iconst 0, 1) := by decide +kernel
theorem d28_12 : decode b_28 12 = .ok (.ireturn, 1) := by decide +kernel
def Qown_ipN (Z : State) (a_o : Addr) (h0 : Heap) (n0 : Nat) (v : Option Value) (h : Heap) (L : List Loc) : Prop := v = some (.int 0) ∧ Fr n0 L ∧ h = h0
set_option maxRecDepth 65536 in
set_option maxHeartbeats 40000000 in
theorem own_ipN (l : Launch) (Z : State) (a0 : Array Value) (hw : ∀ d ∈ tables_1, d.before a0 Z = true) (ws : List Jvm.Cond) (a_o : Addr) (h0 : Heap) (n0 : Nat) (Z0 : n0 ≤ h0.size) (hxa : Exa Z h0 a_o "java/util/Optional") (hfo : Fld Z h0 a_o "java/util/Optional" "value" "Ljava/lang/Object;" .null) :
    MetFree l y_34 (head1 (Jvm.Cond.code y_34 jdk_32_method_6_code 1 (some .boolean) :: ws) (RM 0 0 0 0)) (fun a U => a = #[(.ref a_o)] ∧ Z.Warmed39 U.vm ∧ U.heap = h0) (fun _ _ _ _ _ => True) (fun _ U o U' => ∃ v L, o = .returned v ∧ Qown_ipN Z a_o h0 n0 v U'.heap L ∧ FrameEnd U o U' L (RM 0 0 0 0).cells (RM 0 0 0 0).slots) := by
  refine MetFree.of_bodySF (plainFor_of_name own_pn8) hisR ?_
  intro p e s m args below meth c s₁ Bd hml0 hP hK
  obtain ⟨rfl, hZ, hh⟩ := hP
  have hx := Bd.exec
  have hby := Bd.bytes
  have hml : c.maxLocals = 1 := hml0
  have hown : s.vm.findClass "java/util/Optional" = some m.cls := findClass_of_methodNamed Bd.named
  have X0 : Stand p l e (RM 0 0 0 0) s m #[(.ref a_o)] below meth c s₁ [] 0 0 := Stand.of_body Bd
  have e0 : s₁.heap = h0 := by rw [← hh, Bd.state]; rfl
  have N0 := Fr.nil n0
  have pre0 : ∀ t, Steps p.tables e below (s₁.setTop (mkF m 0 #[vR (a_o)] [])) t → Steps p.tables e below (s₁.setTop (entryFrame m #[(.ref a_o)] 1)) t := fun t k => castTop (own_ef_own_ipN m a_o) k
  obtain ⟨T3, X3, e3, st3⟩ := getF X0 hx hZ hown (host := "") (Or.inl (hw _ (gm 124 rfl))) Via.refl e0 hfo (g := (mkF m 1 #[vR (a_o)] [(.ref a_o)])) rfl rfl (hb hby d28_1)
  obtain ⟨fs, hr, hrun, hended, hW, hsame⟩ := X3.leave (v := some (.int 0)) (fun h => by rw [Bd.returns] at h; cases h) (hlocks := BodyLoose.notSynchronized Bd)
  refine ⟨_, _, pre0 _ ?_, hrun, hended, _, _, rfl, ?_, ⟨_, rfl⟩, hW, hsame.mono (by decide) (by decide)⟩
  · show SS p e below m s₁ 0 #[vR (a_o)] [] _
    refine zaloadN X0 hx hby d28_0 rfl rfl ?_
    refine st3 _ ?_
    show SS p e below m T3 4 #[vR (a_o)] [.null] _
    refine XS.ifnullYes X3.here hx rfl (pc0 := 4) (pc' := 11) rfl (hb hby d28_4) rfl (by decide) (by decide) ?_
    show SS p e below m T3 11 #[vR (a_o)] [] _
    refine ziconst X3 hx hby (0) d28_11 rfl ?_
    exact retN X3 hx (t := .boolean) Bd.returns (by simp) (hb hby d28_12) hr
  · show Qown_ipN Z a_o h0 n0 _ T3.heap _
    rw [e3]
    exact ⟨rfl, N0, rfl⟩
theorem own_ef_own_ipS (m : MethodId) (a_o : Addr) : entryFrame m #[(.ref a_o)] 1 = mkF m 0 #[.val (.ref a_o)] [] := by first | (simp [entryFrame, mkF, argsToLocals, Value.category]; done) | rfl
theorem d28_7 : decode b_28 7 = .ok (.iconst 1, 1) := by decide +kernel
theorem d28_8 : decode b_28 8 = .ok (.goto 4, 3) := by decide +kernel
def Qown_ipS (Z : State) (a_o : Addr) (b_o : Addr) (h0 : Heap) (n0 : Nat) (v : Option Value) (h : Heap) (L : List Loc) : Prop := v = some (.int 1) ∧ Fr n0 L ∧ h = h0
set_option maxRecDepth 65536 in
set_option maxHeartbeats 40000000 in
theorem own_ipS (l : Launch) (Z : State) (a0 : Array Value) (hw : ∀ d ∈ tables_1, d.before a0 Z = true) (ws : List Jvm.Cond) (a_o : Addr) (b_o : Addr) (h0 : Heap) (n0 : Nat) (Z0 : n0 ≤ h0.size) (hxa : Exa Z h0 a_o "java/util/Optional") (hfo : Fld Z h0 a_o "java/util/Optional" "value" "Ljava/lang/Object;" (.ref b_o)) :
    MetFree l y_34 (head1 (Jvm.Cond.code y_34 jdk_32_method_6_code 1 (some .boolean) :: ws) (RM 0 0 0 0)) (fun a U => a = #[(.ref a_o)] ∧ Z.Warmed39 U.vm ∧ U.heap = h0) (fun _ _ _ _ _ => True) (fun _ U o U' => ∃ v L, o = .returned v ∧ Qown_ipS Z a_o b_o h0 n0 v U'.heap L ∧ FrameEnd U o U' L (RM 0 0 0 0).cells (RM 0 0 0 0).slots) := by
  refine MetFree.of_bodySF (plainFor_of_name own_pn8) hisR ?_
  intro p e s m args below meth c s₁ Bd hml0 hP hK
  obtain ⟨rfl, hZ, hh⟩ := hP
  have hx := Bd.exec
  have hby := Bd.bytes
  have hml : c.maxLocals = 1 := hml0
  have hown : s.vm.findClass "java/util/Optional" = some m.cls := findClass_of_methodNamed Bd.named
  have X0 : Stand p l e (RM 0 0 0 0) s m #[(.ref a_o)] below meth c s₁ [] 0 0 := Stand.of_body Bd
  have e0 : s₁.heap = h0 := by rw [← hh, Bd.state]; rfl
  have N0 := Fr.nil n0
  have pre0 : ∀ t, Steps p.tables e below (s₁.setTop (mkF m 0 #[vR (a_o)] [])) t → Steps p.tables e below (s₁.setTop (entryFrame m #[(.ref a_o)] 1)) t := fun t k => castTop (own_ef_own_ipS m a_o) k
  obtain ⟨T3, X3, e3, st3⟩ := getF X0 hx hZ hown (host := "") (Or.inl (hw _ (gm 124 rfl))) Via.refl e0 hfo (g := (mkF m 1 #[vR (a_o)] [(.ref a_o)])) rfl rfl (hb hby d28_1)
  obtain ⟨fs, hr, hrun, hended, hW, hsame⟩ := X3.leave (v := some (.int 1)) (fun h => by rw [Bd.returns] at h; cases h) (hlocks := BodyLoose.notSynchronized Bd)
  refine ⟨_, _, pre0 _ ?_, hrun, hended, _, _, rfl, ?_, ⟨_, rfl⟩, hW, hsame.mono (by decide) (by decide)⟩
  · show SS p e below m s₁ 0 #[vR (a_o)] [] _
    refine zaloadN X0 hx hby d28_0 rfl rfl ?_
    refine st3 _ ?_
    show SS p e below m T3 4 #[vR (a_o)] [(.ref b_o)] _
    refine XS.ifnullNo X3.here hx rfl (hb hby d28_4) rfl ?_
    show SS p e below m T3 7 #[vR (a_o)] [] _
    refine ziconst X3 hx hby (1) d28_7 rfl ?_
    refine zgoto X3 hx hby 8 12 rfl d28_8 (by decide) (by decide) ?_
    exact retN X3 hx (t := .boolean) Bd.returns (by simp) (hb hby d28_12) hr
  · show Qown_ipS Z a_o b_o h0 n0 _ T3.heap _
    rw [e3]
    exact ⟨rfl, N0, rfl⟩
theorem own_ef_own_get (m : MethodId) (a_o : Addr) : entryFrame m #[(.ref a_o)] 1 = mkF m 0 #[.val (.ref a_o)] [] := by first | (simp [entryFrame, mkF, argsToLocals, Value.category]; done) | rfl
theorem d29_0 : decode b_29 0 = .ok (.aload_n 0, 1) := by decide +kernel
theorem d29_1 : decode b_29 1 = .ok (.getfield 13, 3) := by decide +kernel
theorem d29_4 : decode b_29 4 = .ok (.ifnonnull 13, 3) := by decide +kernel
theorem d29_17 : decode b_29 17 = .ok (.aload_n 0, 1) := by decide +kernel
theorem d29_18 : decode b_29 18 = .ok (.getfield 13, 3) := by decide +kernel
theorem d29_21 : decode b_29 21 = .ok (.areturn, 1) := by decide +kernel
def Qown_get (Z : State) (a_o : Addr) (b_o : Addr) (h0 : Heap) (n0 : Nat) (v : Option Value) (h : Heap) (L : List Loc) : Prop := v = some (.ref b_o) ∧ Fr n0 L ∧ h = h0
set_option maxRecDepth 65536 in
set_option maxHeartbeats 40000000 in
theorem own_get (l : Launch) (Z : State) (a0 : Array Value) (hw : ∀ d ∈ tables_1, d.before a0 Z = true) (ws : List Jvm.Cond) (a_o : Addr) (b_o : Addr) (h0 : Heap) (n0 : Nat) (Z0 : n0 ≤ h0.size) (hxa : Exa Z h0 a_o "java/util/Optional") (hfo : Fld Z h0 a_o "java/util/Optional" "value" "Ljava/lang/Object;" (.ref b_o)) :
    MetFree l y_35 (head1 (Jvm.Cond.code y_35 jdk_32_method_5_code 1 (some (.object "java/lang/Object")) :: ws) (RM 0 0 0 0)) (fun a U => a = #[(.ref a_o)] ∧ Z.Warmed39 U.vm ∧ U.heap = h0) (fun _ _ _ _ _ => True) (fun _ U o U' => ∃ v L, o = .returned v ∧ Qown_get Z a_o b_o h0 n0 v U'.heap L ∧ FrameEnd U o U' L (RM 0 0 0 0).cells (RM 0 0 0 0).slots) := by
  refine MetFree.of_bodySF (plainFor_of_name own_pn8) hisR ?_
  intro p e s m args below meth c s₁ Bd hml0 hP hK
  obtain ⟨rfl, hZ, hh⟩ := hP
  have hx := Bd.exec
  have hby := Bd.bytes
  have hml : c.maxLocals = 1 := hml0
  have hown : s.vm.findClass "java/util/Optional" = some m.cls := findClass_of_methodNamed Bd.named
  have X0 : Stand p l e (RM 0 0 0 0) s m #[(.ref a_o)] below meth c s₁ [] 0 0 := Stand.of_body Bd
  have e0 : s₁.heap = h0 := by rw [← hh, Bd.state]; rfl
  have N0 := Fr.nil n0
  have pre0 : ∀ t, Steps p.tables e below (s₁.setTop (mkF m 0 #[vR (a_o)] [])) t → Steps p.tables e below (s₁.setTop (entryFrame m #[(.ref a_o)] 1)) t := fun t k => castTop (own_ef_own_get m a_o) k
  obtain ⟨T3, X3, e3, st3⟩ := getF X0 hx hZ hown (host := "") (Or.inl (hw _ (gm 124 rfl))) Via.refl e0 hfo (g := (mkF m 1 #[vR (a_o)] [(.ref a_o)])) rfl rfl (hb hby d29_1)
  obtain ⟨T7, X7, e7, st7⟩ := getF X3 hx hZ hown (host := "") (Or.inl (hw _ (gm 124 rfl))) Via.refl e3 hfo (g := (mkF m 18 #[vR (a_o)] [(.ref a_o)])) rfl rfl (hb hby d29_18)
  obtain ⟨fs, hr, hrun, hended, hW, hsame⟩ := X7.leave (v := some (.ref b_o)) (fun h => by rw [Bd.returns] at h; cases h) (hlocks := BodyLoose.notSynchronized Bd)
  refine ⟨_, _, pre0 _ ?_, hrun, hended, _, _, rfl, ?_, ⟨_, rfl⟩, hW, hsame.mono (by decide) (by decide)⟩
  · show SS p e below m s₁ 0 #[vR (a_o)] [] _
    refine zaloadN X0 hx hby d29_0 rfl rfl ?_
    refine st3 _ ?_
    show SS p e below m T3 4 #[vR (a_o)] [(.ref b_o)] _
    refine XS.ifnonnullYes X3.here hx rfl (pc0 := 4) (pc' := 17) rfl (hb hby d29_4) rfl (by decide) (by decide) ?_
    show SS p e below m T3 17 #[vR (a_o)] [] _
    refine zaloadN X3 hx hby d29_17 rfl rfl ?_
    refine st7 _ ?_
    show SS p e below m T7 21 #[vR (a_o)] [(.ref b_o)] _
    jvm_step X7.here [X7.here.top, hx, (hb hby d29_21), X7.method', Bd.returns, Value.isRef, FieldType.isReference]
    first | (intro acts; rw [hr _ acts rfl rfl rfl]) | rw [hr _ _ rfl rfl rfl]
    exact Steps.refl _
  · show Qown_get Z a_o b_o h0 n0 _ T7.heap _
    rw [e7]
    exact ⟨rfl, N0, rfl⟩
theorem own_ef_own_g_high (m : MethodId) (a_o : Addr) : entryFrame m #[(.ref a_o)] 1 = mkF m 0 #[.val (.ref a_o)] [] := by first | (simp [entryFrame, mkF, argsToLocals, Value.category]; done) | rfl
theorem d30_0 : decode b_30 0 = .ok (.aload_n 0, 1) := by decide +kernel
theorem d30_1 : decode b_30 1 = .ok (.getfield 7, 3) := by decide +kernel
theorem d30_4 : decode b_30 4 = .ok (.lreturn, 1) := by decide +kernel
def Qown_g_high (Z : State) (a_o : Addr) (q : Int64) (h0 : Heap) (n0 : Nat) (v : Option Value) (h : Heap) (L : List Loc) : Prop := v = some (.long q) ∧ Fr n0 L ∧ h = h0
set_option maxRecDepth 65536 in
set_option maxHeartbeats 40000000 in
theorem own_g_high (l : Launch) (Z : State) (a0 : Array Value) (hw : ∀ d ∈ tables_1, d.before a0 Z = true) (ws : List Jvm.Cond) (a_o : Addr) (q : Int64) (h0 : Heap) (n0 : Nat) (Z0 : n0 ≤ h0.size) (hxa : Exa Z h0 a_o "com/example/rosterhall/rosterhall/ResourceId") (hfo : Fld Z h0 a_o "com/example/rosterhall/rosterhall/ResourceId" "high" "J" (.long q)) :
    MetFree l y_36 (head1 (Jvm.Cond.code y_36 prog_20_method_10_code 1 (some .long) :: ws) (RM 0 0 0 0)) (fun a U => a = #[(.ref a_o)] ∧ Z.Warmed39 U.vm ∧ U.heap = h0) (fun _ _ _ _ _ => True) (fun _ U o U' => ∃ v L, o = .returned v ∧ Qown_g_high Z a_o q h0 n0 v U'.heap L ∧ FrameEnd U o U' L (RM 0 0 0 0).cells (RM 0 0 0 0).slots) := by
  refine MetFree.of_bodySF (plainFor_of_name own_pn1) hisR ?_
  intro p e s m args below meth c s₁ Bd hml0 hP hK
  obtain ⟨rfl, hZ, hh⟩ := hP
  have hx := Bd.exec
  have hby := Bd.bytes
  have hml : c.maxLocals = 1 := hml0
  have hown : s.vm.findClass "com/example/rosterhall/rosterhall/ResourceId" = some m.cls := findClass_of_methodNamed Bd.named
  have X0 : Stand p l e (RM 0 0 0 0) s m #[(.ref a_o)] below meth c s₁ [] 0 0 := Stand.of_body Bd
  have e0 : s₁.heap = h0 := by rw [← hh, Bd.state]; rfl
  have N0 := Fr.nil n0
  have pre0 : ∀ t, Steps p.tables e below (s₁.setTop (mkF m 0 #[vR (a_o)] [])) t → Steps p.tables e below (s₁.setTop (entryFrame m #[(.ref a_o)] 1)) t := fun t k => castTop (own_ef_own_g_high m a_o) k
  obtain ⟨T3, X3, e3, st3⟩ := getF X0 hx hZ hown (host := "") (Or.inl (hw _ (gm 105 rfl))) Via.refl e0 hfo (g := (mkF m 1 #[vR (a_o)] [(.ref a_o)])) rfl rfl (hb hby d30_1)
  obtain ⟨fs, hr, hrun, hended, hW, hsame⟩ := X3.leave (v := some (.long q)) (fun h => by rw [Bd.returns] at h; cases h) (hlocks := BodyLoose.notSynchronized Bd)
  refine ⟨_, _, pre0 _ ?_, hrun, hended, _, _, rfl, ?_, ⟨_, rfl⟩, hW, hsame.mono (by decide) (by decide)⟩
  · show SS p e below m s₁ 0 #[vR (a_o)] [] _
    refine zaloadN X0 hx hby d30_0 rfl rfl ?_
    refine st3 _ ?_
    exact X3.lreturnOut hx Bd.returns (hb hby d30_4) hr
  · show Qown_g_high Z a_o q h0 n0 _ T3.heap _
    rw [e3]
    exact ⟨rfl, N0, rfl⟩
theorem own_ef_own_g_low (m : MethodId) (a_o : Addr) : entryFrame m #[(.ref a_o)] 1 = mkF m 0 #[.val (.ref a_o)] [] := by first | (simp [entryFrame, mkF, argsToLocals, Value.category]; done) | rfl
theorem d31_0 : decode b_31 0 = .ok (.aload_n 0, 1) := by decide +kernel
theorem d31_1 : decode b_31 1 = .ok (.getfield 13, 3) := by decide +kernel
theorem d31_4 : decode b_31 4 = .ok (.lreturn, 1) := by decide +kernel
def Qown_g_low (Z : State) (a_o : Addr) (q : Int64) (h0 : Heap) (n0 : Nat) (v : Option Value) (h : Heap) (L : List Loc) : Prop := v = some (.long q) ∧ Fr n0 L ∧ h = h0
set_option maxRecDepth 65536 in
set_option maxHeartbeats 40000000 in
theorem own_g_low (l : Launch) (Z : State) (a0 : Array Value) (hw : ∀ d ∈ tables_1, d.before a0 Z = true) (ws : List Jvm.Cond) (a_o : Addr) (q : Int64) (h0 : Heap) (n0 : Nat) (Z0 : n0 ≤ h0.size) (hxa : Exa Z h0 a_o "com/example/rosterhall/rosterhall/ResourceId") (hfo : Fld Z h0 a_o "com/example/rosterhall/rosterhall/ResourceId" "low" "J" (.long q)) :
    MetFree l y_37 (head1 (Jvm.Cond.code y_37 prog_20_method_11_code 1 (some .long) :: ws) (RM 0 0 0 0)) (fun a U => a = #[(.ref a_o)] ∧ Z.Warmed39 U.vm ∧ U.heap = h0) (fun _ _ _ _ _ => True) (fun _ U o U' => ∃ v L, o = .returned v ∧ Qown_g_low Z a_o q h0 n0 v U'.heap L ∧ FrameEnd U o U' L (RM 0 0 0 0).cells (RM 0 0 0 0).slots) := by
  refine MetFree.of_bodySF (plainFor_of_name own_pn1) hisR ?_
  intro p e s m args below meth c s₁ Bd hml0 hP hK
  obtain ⟨rfl, hZ, hh⟩ := hP
  have hx := Bd.exec
  have hby := Bd.bytes
  have hml : c.maxLocals = 1 := hml0
  have hown : s.vm.findClass "com/example/rosterhall/rosterhall/ResourceId" = some m.cls := findClass_of_methodNamed Bd.named
  have X0 : Stand p l e (RM 0 0 0 0) s m #[(.ref a_o)] below meth c s₁ [] 0 0 := Stand.of_body Bd
  have e0 : s₁.heap = h0 := by rw [← hh, Bd.state]; rfl
  have N0 := Fr.nil n0
  have pre0 : ∀ t, Steps p.tables e below (s₁.setTop (mkF m 0 #[vR (a_o)] [])) t → Steps p.tables e below (s₁.setTop (entryFrame m #[(.ref a_o)] 1)) t := fun t k => castTop (own_ef_own_g_low m a_o) k
  obtain ⟨T3, X3, e3, st3⟩ := getF X0 hx hZ hown (host := "") (Or.inl (hw _ (gm 107 rfl))) Via.refl e0 hfo (g := (mkF m 1 #[vR (a_o)] [(.ref a_o)])) rfl rfl (hb hby d31_1)
  obtain ⟨fs, hr, hrun, hended, hW, hsame⟩ := X3.leave (v := some (.long q)) (fun h => by rw [Bd.returns] at h; cases h) (hlocks := BodyLoose.notSynchronized Bd)
  refine ⟨_, _, pre0 _ ?_, hrun, hended, _, _, rfl, ?_, ⟨_, rfl⟩, hW, hsame.mono (by decide) (by decide)⟩
  · show SS p e below m s₁ 0 #[vR (a_o)] [] _
    refine zaloadN X0 hx hby d31_0 rfl rfl ?_
    refine st3 _ ?_
    exact X3.lreturnOut hx Bd.returns (hb hby d31_4) hr
  · show Qown_g_low Z a_o q h0 n0 _ T3.heap _
    rw [e3]
    exact ⟨rfl, N0, rfl⟩
theorem own_ef_own_emp (m : MethodId) : entryFrame m #[] 1 = mkF m 0 #[.unset] [] := by first | (simp [entryFrame, mkF, argsToLocals, Value.category]; done) | rfl
theorem d32_0 : decode b_32 0 = .ok (.getstatic 1, 3) := by decide +kernel
theorem d32_3 : decode b_32 3 = .ok (.astore_n 0, 1) := by decide +kernel
theorem d32_4 : decode b_32 4 = .ok (.aload_n 0, 1) := by decide +kernel
theorem d32_5 : decode b_32 5 = .ok (.areturn, 1) := by decide +kernel
def Qown_emp (Z : State) (e_o : Addr) (h0 : Heap) (n0 : Nat) (v : Option Value) (h : Heap) (L : List Loc) : Prop := v = some (.ref e_o) ∧ Fr n0 L ∧ h = h0
set_option maxRecDepth 65536 in
set_option maxHeartbeats 40000000 in
theorem own_emp (l : Launch) (Z : State) (a0 : Array Value) (hw : ∀ d ∈ tables_1, d.before a0 Z = true) (ws : List Jvm.Cond) (e_o : Addr) (h0 : Heap) (n0 : Nat) (Z0 : n0 ≤ h0.size) (hSe : Sta Z Z.heap "java/util/Optional" "EMPTY" "Ljava/util/Optional;" (.ref e_o)) (hO : Old Z n0 h0) :
    MetFree l y_38 (head1 (Jvm.Cond.code y_38 jdk_32_method_1_code 1 (some (.object "java/util/Optional")) :: ws) (RM 0 0 0 0)) (fun a U => a = #[] ∧ Z.Warmed39 U.vm ∧ U.heap = h0) (fun _ _ _ _ _ => True) (fun _ U o U' => ∃ v L, o = .returned v ∧ Qown_emp Z e_o h0 n0 v U'.heap L ∧ FrameEnd U o U' L (RM 0 0 0 0).cells (RM 0 0 0 0).slots) := by
  refine MetFree.of_bodySF (plainFor_of_name own_pn8) hisR ?_
  intro p e s m args below meth c s₁ Bd hml0 hP hK
  obtain ⟨rfl, hZ, hh⟩ := hP
  have hx := Bd.exec
  have hby := Bd.bytes
  have hml : c.maxLocals = 1 := hml0
  have hown : s.vm.findClass "java/util/Optional" = some m.cls := findClass_of_methodNamed Bd.named
  have X0 : Stand p l e (RM 0 0 0 0) s m #[] below meth c s₁ [] 0 0 := Stand.of_body Bd
  have e0 : s₁.heap = h0 := by rw [← hh, Bd.state]; rfl
  have N0 := Fr.nil n0
  have pre0 : ∀ t, Steps p.tables e below (s₁.setTop (mkF m 0 #[u_] [])) t → Steps p.tables e below (s₁.setTop (entryFrame m #[] 1)) t := fun t k => castTop (own_ef_own_emp m) k
  obtain ⟨T2, X2, e2, st2⟩ := getS2 X0 hx hZ hown (host := "") (Or.inl (hw _ (gm 151 rfl))) Via.refl e0 (hSe.ext hO.2) (g := (mkF m 0 #[u_] [])) rfl (hb hby d32_0)
  obtain ⟨fs, hr, hrun, hended, hW, hsame⟩ := X2.leave (v := some (.ref e_o)) (fun h => by rw [Bd.returns] at h; cases h) (hlocks := BodyLoose.notSynchronized Bd)
  refine ⟨_, _, pre0 _ ?_, hrun, hended, _, _, rfl, ?_, ⟨_, rfl⟩, hW, hsame.mono (by decide) (by decide)⟩
  · show SS p e below m s₁ 0 #[u_] [] _
    refine st2 _ ?_
    refine zastoreN (l' := #[vR (e_o)]) X2 hx hby d32_3 rfl rfl ?_
    refine zaloadN X2 hx hby d32_4 rfl rfl ?_
    show SS p e below m T2 5 #[vR (e_o)] [(.ref e_o)] _
    jvm_step X2.here [X2.here.top, hx, (hb hby d32_5), X2.method', Bd.returns, Value.isRef, FieldType.isReference]
    first | (intro acts; rw [hr _ acts rfl rfl rfl]) | rw [hr _ _ rfl rfl rfl]
    exact Steps.refl _
  · show Qown_emp Z e_o h0 n0 _ T2.heap _
    rw [e2]
    exact ⟨rfl, N0, rfl⟩
theorem own_ef_own_prZ35L (m : MethodId) (t_o : Addr) : entryFrame m #[(.ref t_o)] 9 = mkF m 0 #[.val (.ref t_o), .unset, .unset, .unset, .unset, .unset, .unset, .unset, .unset] [] := by first | (simp [entryFrame, mkF, argsToLocals, Value.category]; done) | rfl
theorem own_pd21 : parseMethodDescriptor "()I" = some ⟨[], some .int⟩ := by decide +kernel
theorem own_pd22 : parseMethodDescriptor "()Ljava/util/Optional;" = some ⟨[], some (.object "java/util/Optional")⟩ := by decide +kernel
theorem d14_0 : decode b_14 0 = .ok (.aload_n 0, 1) := by decide +kernel
theorem d14_1 : decode b_14 1 = .ok (.invokevirtual 32, 3) := by decide +kernel
theorem d14_4 : decode b_14 4 = .ok (.bipush 36, 2) := by decide +kernel
theorem d14_6 : decode b_14 6 = .ok (.if_icmp .eq 7, 3) := by decide +kernel
theorem d14_9 : decode b_14 9 = .ok (.invokestatic 38, 3) := by decide +kernel
theorem d14_12 : decode b_14 12 = .ok (.areturn, 1) := by decide +kernel
def Qown_prZ35L (Z : State) (t_o : Addr) (b_o : Addr) (k_b : ClassId) (ch : Nat → Int32) (cs : Int32) (e_o : Addr) (h0 : Heap) (n0 : Nat) (v : Option Value) (h : Heap) (L : List Loc) : Prop := v = some (.ref e_o) ∧ Fr n0 L ∧ h = h0
set_option maxRecDepth 65536 in
set_option maxHeartbeats 40000000 in
theorem own_prZ35L (l : Launch) (Z : State) (a0 : Array Value) (hw : ∀ d ∈ tables_1, d.before a0 Z = true) (ws : List Jvm.Cond) (t_o : Addr) (b_o : Addr) (k_b : ClassId) (ch : Nat → Int32) (cs : Int32) (e_o : Addr) (h0 : Heap) (n0 : Nat) (Z0 : n0 ≤ h0.size) (hxa : Exa Z h0 t_o "java/lang/String") (hcd : Fld Z h0 t_o "java/lang/String" "coder" "B" (.int 0)) (hfv : Fld Z h0 t_o "java/lang/String" "value" "[B" (.ref b_o)) (hB : Arv Z h0 b_o k_b .byte (35 : Int32) (own_fl 35 (own_bg ch)) (.int 0)) (hO : Old Z n0 h0) (hS : Sta Z Z.heap "java/lang/String" "COMPACT_STRINGS" "Z" (.int cs)) (hcs : ¬ cs = (0 : Int32)) (hSe : Sta Z Z.heap "java/util/Optional" "EMPTY" "Ljava/util/Optional;" (.ref e_o)) :
    MetFree l y_39 (head1 (Jvm.Cond.code y_39 prog_20_method_3_code 9 (some (.object "java/util/Optional")) :: ws) (RM 2 0 0 25)) (fun a U => a = #[(.ref t_o)] ∧ Z.Warmed39 U.vm ∧ U.heap = h0) (fun _ _ _ _ _ => True) (fun _ U o U' => ∃ v L, o = .returned v ∧ Qown_prZ35L Z t_o b_o k_b ch cs e_o h0 n0 v U'.heap L ∧ FrameEnd U o U' L (RM 2 0 0 25).cells (RM 2 0 0 25).slots) := by
  refine MetFree.of_bodySF (plainFor_of_name own_pn1) hisR ?_
  intro p e s m args below meth c s₁ Bd hml0 hP hK
  obtain ⟨rfl, hZ, hh⟩ := hP
  have hx := Bd.exec
  have hby := Bd.bytes
  have hml : c.maxLocals = 9 := hml0
  have hown : s.vm.findClass "com/example/rosterhall/rosterhall/ResourceId" = some m.cls := findClass_of_methodNamed Bd.named
  have X0 : Stand p l e (RM 2 0 0 25) s m #[(.ref t_o)] below meth c s₁ [] 0 0 := Stand.of_body Bd
  have e0 : s₁.heap = h0 := by rw [← hh, Bd.state]; rfl
  have N0 := Fr.nil n0
  have pre0 : ∀ t, Steps p.tables e below (s₁.setTop (mkF m 0 #[vR (t_o), u_, u_, u_, u_, u_, u_, u_, u_] [])) t → Steps p.tables e below (s₁.setTop (entryFrame m #[(.ref t_o)] 9)) t := fun t k => castTop (own_ef_own_prZ35L m t_o) k
  obtain ⟨cq3, kq3, q3a, q3b, q3c⟩ := isOf hZ e0 hxa
  obtain ⟨_, _, ⟨T3, L3, k3, n3⟩, -, X3, ⟨Lc3, hQ3, l3, y3, z3⟩, st3⟩ := X0.virtualBack hx (y := y_27) (z := y_27) hown (mvT hZ (hw _ (gm 59 rfl))) (mvT hZ (hw _ (gm 60 rfl))) (notFace_of_selects (args := #[]) (mvT hZ (hw _ (gm 62 rfl)))) (mvT hZ (hw _ (gm 62 rfl))) (mvT hZ (hw _ (gm 61 rfl))) (by decide) (backOf (W := 0) (own_len35L l Z a0 hw [] t_o b_o k_b (own_fl 35 (own_bg ch)) cs h0 n0 Z0 hxa hcd hO hS hcs hfv hB) hZ (hw _ (gm 63 rfl)) (hw _ (gm 28 rfl)) (by decide) (by decide)) q3a q3c (g := (mkF m 1 #[vR (t_o), u_, u_, u_, u_, u_, u_, u_, u_] [(.ref t_o)])) rfl (by rw [hml]; rfl) (Steps.refl _) (argsL := []) (rest := []) (lenOf own_pd21 rfl) rfl (by show 2 * 0 + _ ≤ _; exact Nat.le_of_eq rfl) (hb hby d14_1) (fun _ _ => ⟨rfl, e0, (by decide : 0 + 0 ≤ _), (by decide : 0 + 0 ≤ _)⟩)
  dsimp only [Pt.U, Pt.locs, Pt.cells, Pt.slots] at X3 l3 y3 z3 st3 hQ3
  rw [l3, y3, z3] at X3
  obtain ⟨rfl, Nq3, eh3⟩ := hQ3
  have N4 := Fr.app N0 Nq3
  obtain ⟨_, _, ⟨T8, L8, k8, n8⟩, -, X8, ⟨Lc8, hQ8, l8, y8, z8⟩, st8⟩ := Jvm.LawKit.callS X3 hx (y := y_38) hown (mvT hZ (hw _ (gm 148 rfl))) (mvT hZ (hw _ (gm 149 rfl))) (mvT hZ (hw _ (gm 111 rfl))) (mvT hZ (hw _ (gm 150 rfl))) (by decide) (backOf (W := 0) (own_emp l Z a0 hw [] e_o h0 n0 Z0 hSe hO) hZ (hw _ (gm 150 rfl)) (hw _ (gm 111 rfl)) (by decide) (by decide)) (g := (mkF m 9 #[vR (t_o), u_, u_, u_, u_, u_, u_, u_, u_] [])) rfl (by rw [hml]; rfl) (argsL := []) (rest := []) (lenOf own_pd22 rfl) rfl (by show 2 * 0 + _ ≤ _; exact Nat.le_of_eq rfl) (hb hby d14_9) (fun _ _ => ⟨rfl, eh3, (by decide : 0 + 0 ≤ _), (by decide : 0 + 0 ≤ _)⟩)
  dsimp only [Pt.U, Pt.locs, Pt.cells, Pt.slots] at X8 l8 y8 z8 st8 hQ8
  rw [l8, y8, z8] at X8
  obtain ⟨rfl, Nq8, eh8⟩ := hQ8
  have N9 := Fr.app N4 Nq8
  obtain ⟨fs, hr, hrun, hended, hW, hsame⟩ := X8.leave (v := some (.ref e_o)) (fun h => by rw [Bd.returns] at h; cases h) (hlocks := BodyLoose.notSynchronized Bd)
  refine ⟨_, _, pre0 _ ?_, hrun, hended, _, _, rfl, ?_, ⟨_, rfl⟩, hW, hsame.mono (by decide) (by decide)⟩
  · show SS p e below m s₁ 0 #[vR (t_o), u_, u_, u_, u_, u_, u_, u_, u_] [] _
    refine zaloadN X0 hx hby d14_0 rfl rfl ?_
    refine st3.trans ?_
    refine zbipush X3 hx hby (36) d14_4 rfl ?_
    refine zicmpNo X3 hx hby d14_6 (feq ((by decide) : ¬ ((35 : Int32) = (36 : Int32)))).1 ?_
    refine st8 _ ?_
    show SS p e below m T8 12 #[vR (t_o), u_, u_, u_, u_, u_, u_, u_, u_] [(.ref e_o)] _
    jvm_step X8.here [X8.here.top, hx, (hb hby d14_12), X8.method', Bd.returns, Value.isRef, FieldType.isReference]
    first | (intro acts; rw [hr _ acts rfl rfl rfl]) | rw [hr _ _ rfl rfl rfl]
    exact Steps.refl _
  · show Qown_prZ35L Z t_o b_o k_b ch cs e_o h0 n0 _ T8.heap _
    rw [eh8]
    exact ⟨rfl, N9, rfl⟩
theorem own_ef_own_prZ37L (m : MethodId) (t_o : Addr) : entryFrame m #[(.ref t_o)] 9 = mkF m 0 #[.val (.ref t_o), .unset, .unset, .unset, .unset, .unset, .unset, .unset, .unset] [] := by first | (simp [entryFrame, mkF, argsToLocals, Value.category]; done) | rfl
def Qown_prZ37L (Z : State) (t_o : Addr) (b_o : Addr) (k_b : ClassId) (ch : Nat → Int32) (cs : Int32) (e_o : Addr) (h0 : Heap) (n0 : Nat) (v : Option Value) (h : Heap) (L : List Loc) : Prop := v = some (.ref e_o) ∧ Fr n0 L ∧ h = h0
set_option maxRecDepth 65536 in
set_option maxHeartbeats 40000000 in
theorem own_prZ37L (l : Launch) (Z : State) (a0 : Array Value) (hw : ∀ d ∈ tables_1, d.before a0 Z = true) (ws : List Jvm.Cond) (t_o : Addr) (b_o : Addr) (k_b : ClassId) (ch : Nat → Int32) (cs : Int32) (e_o : Addr) (h0 : Heap) (n0 : Nat) (Z0 : n0 ≤ h0.size) (hxa : Exa Z h0 t_o "java/lang/String") (hcd : Fld Z h0 t_o "java/lang/String" "coder" "B" (.int 0)) (hfv : Fld Z h0 t_o "java/lang/String" "value" "[B" (.ref b_o)) (hB : Arv Z h0 b_o k_b .byte (37 : Int32) (own_fl 37 (own_bg ch)) (.int 0)) (hO : Old Z n0 h0) (hS : Sta Z Z.heap "java/lang/String" "COMPACT_STRINGS" "Z" (.int cs)) (hcs : ¬ cs = (0 : Int32)) (hSe : Sta Z Z.heap "java/util/Optional" "EMPTY" "Ljava/util/Optional;" (.ref e_o)) :
    MetFree l y_39 (head1 (Jvm.Cond.code y_39 prog_20_method_3_code 9 (some (.object "java/util/Optional")) :: ws) (RM 2 0 0 25)) (fun a U => a = #[(.ref t_o)] ∧ Z.Warmed39 U.vm ∧ U.heap = h0) (fun _ _ _ _ _ => True) (fun _ U o U' => ∃ v L, o = .returned v ∧ Qown_prZ37L Z t_o b_o k_b ch cs e_o h0 n0 v U'.heap L ∧ FrameEnd U o U' L (RM 2 0 0 25).cells (RM 2 0 0 25).slots) := by
  refine MetFree.of_bodySF (plainFor_of_name own_pn1) hisR ?_
  intro p e s m args below meth c s₁ Bd hml0 hP hK
  obtain ⟨rfl, hZ, hh⟩ := hP
  have hx := Bd.exec
  have hby := Bd.bytes
  have hml : c.maxLocals = 9 := hml0
  have hown : s.vm.findClass "com/example/rosterhall/rosterhall/ResourceId" = some m.cls := findClass_of_methodNamed Bd.named
  have X0 : Stand p l e (RM 2 0 0 25) s m #[(.ref t_o)] below meth c s₁ [] 0 0 := Stand.of_body Bd
  have e0 : s₁.heap = h0 := by rw [← hh, Bd.state]; rfl
  have N0 := Fr.nil n0
  have pre0 : ∀ t, Steps p.tables e below (s₁.setTop (mkF m 0 #[vR (t_o), u_, u_, u_, u_, u_, u_, u_, u_] [])) t → Steps p.tables e below (s₁.setTop (entryFrame m #[(.ref t_o)] 9)) t := fun t k => castTop (own_ef_own_prZ37L m t_o) k
  obtain ⟨cq3, kq3, q3a, q3b, q3c⟩ := isOf hZ e0 hxa
  obtain ⟨_, _, ⟨T3, L3, k3, n3⟩, -, X3, ⟨Lc3, hQ3, l3, y3, z3⟩, st3⟩ := X0.virtualBack hx (y := y_27) (z := y_27) hown (mvT hZ (hw _ (gm 59 rfl))) (mvT hZ (hw _ (gm 60 rfl))) (notFace_of_selects (args := #[]) (mvT hZ (hw _ (gm 62 rfl)))) (mvT hZ (hw _ (gm 62 rfl))) (mvT hZ (hw _ (gm 61 rfl))) (by decide) (backOf (W := 0) (own_len37L l Z a0 hw [] t_o b_o k_b (own_fl 37 (own_bg ch)) cs h0 n0 Z0 hxa hcd hO hS hcs hfv hB) hZ (hw _ (gm 63 rfl)) (hw _ (gm 28 rfl)) (by decide) (by decide)) q3a q3c (g := (mkF m 1 #[vR (t_o), u_, u_, u_, u_, u_, u_, u_, u_] [(.ref t_o)])) rfl (by rw [hml]; rfl) (Steps.refl _) (argsL := []) (rest := []) (lenOf own_pd21 rfl) rfl (by show 2 * 0 + _ ≤ _; exact Nat.le_of_eq rfl) (hb hby d14_1) (fun _ _ => ⟨rfl, e0, (by decide : 0 + 0 ≤ _), (by decide : 0 + 0 ≤ _)⟩)
  dsimp only [Pt.U, Pt.locs, Pt.cells, Pt.slots] at X3 l3 y3 z3 st3 hQ3
  rw [l3, y3, z3] at X3
  obtain ⟨rfl, Nq3, eh3⟩ := hQ3
  have N4 := Fr.app N0 Nq3
  obtain ⟨_, _, ⟨T8, L8, k8, n8⟩, -, X8, ⟨Lc8, hQ8, l8, y8, z8⟩, st8⟩ := Jvm.LawKit.callS X3 hx (y := y_38) hown (mvT hZ (hw _ (gm 148 rfl))) (mvT hZ (hw _ (gm 149 rfl))) (mvT hZ (hw _ (gm 111 rfl))) (mvT hZ (hw _ (gm 150 rfl))) (by decide) (backOf (W := 0) (own_emp l Z a0 hw [] e_o h0 n0 Z0 hSe hO) hZ (hw _ (gm 150 rfl)) (hw _ (gm 111 rfl)) (by decide) (by decide)) (g := (mkF m 9 #[vR (t_o), u_, u_, u_, u_, u_, u_, u_, u_] [])) rfl (by rw [hml]; rfl) (argsL := []) (rest := []) (lenOf own_pd22 rfl) rfl (by show 2 * 0 + _ ≤ _; exact Nat.le_of_eq rfl) (hb hby d14_9) (fun _ _ => ⟨rfl, eh3, (by decide : 0 + 0 ≤ _), (by decide : 0 + 0 ≤ _)⟩)
  dsimp only [Pt.U, Pt.locs, Pt.cells, Pt.slots] at X8 l8 y8 z8 st8 hQ8
  rw [l8, y8, z8] at X8
  obtain ⟨rfl, Nq8, eh8⟩ := hQ8
  have N9 := Fr.app N4 Nq8
  obtain ⟨fs, hr, hrun, hended, hW, hsame⟩ := X8.leave (v := some (.ref e_o)) (fun h => by rw [Bd.returns] at h; cases h) (hlocks := BodyLoose.notSynchronized Bd)
  refine ⟨_, _, pre0 _ ?_, hrun, hended, _, _, rfl, ?_, ⟨_, rfl⟩, hW, hsame.mono (by decide) (by decide)⟩
  · show SS p e below m s₁ 0 #[vR (t_o), u_, u_, u_, u_, u_, u_, u_, u_] [] _
    refine zaloadN X0 hx hby d14_0 rfl rfl ?_
    refine st3.trans ?_
    refine zbipush X3 hx hby (36) d14_4 rfl ?_
    refine zicmpNo X3 hx hby d14_6 (feq ((by decide) : ¬ ((37 : Int32) = (36 : Int32)))).1 ?_
    refine st8 _ ?_
    show SS p e below m T8 12 #[vR (t_o), u_, u_, u_, u_, u_, u_, u_, u_] [(.ref e_o)] _
    jvm_step X8.here [X8.here.top, hx, (hb hby d14_12), X8.method', Bd.returns, Value.isRef, FieldType.isReference]
    first | (intro acts; rw [hr _ acts rfl rfl rfl]) | rw [hr _ _ rfl rfl rfl]
    exact Steps.refl _
  · show Qown_prZ37L Z t_o b_o k_b ch cs e_o h0 n0 _ T8.heap _
    rw [eh8]
    exact ⟨rfl, N9, rfl⟩
theorem own_ef_own_prZ37U (m : MethodId) (t_o : Addr) : entryFrame m #[(.ref t_o)] 9 = mkF m 0 #[.val (.ref t_o), .unset, .unset, .unset, .unset, .unset, .unset, .unset, .unset] [] := by first | (simp [entryFrame, mkF, argsToLocals, Value.category]; done) | rfl
def Qown_prZ37U (Z : State) (t_o : Addr) (b_o : Addr) (k_b : ClassId) (ch : Nat → Int32) (cs : Int32) (e_o : Addr) (h0 : Heap) (n0 : Nat) (v : Option Value) (h : Heap) (L : List Loc) : Prop := v = some (.ref e_o) ∧ Fr n0 L ∧ h = h0
set_option maxRecDepth 65536 in
set_option maxHeartbeats 40000000 in
theorem own_prZ37U (l : Launch) (Z : State) (a0 : Array Value) (hw : ∀ d ∈ tables_1, d.before a0 Z = true) (ws : List Jvm.Cond) (t_o : Addr) (b_o : Addr) (k_b : ClassId) (ch : Nat → Int32) (cs : Int32) (e_o : Addr) (h0 : Heap) (n0 : Nat) (Z0 : n0 ≤ h0.size) (hxa : Exa Z h0 t_o "java/lang/String") (hcd : Fld Z h0 t_o "java/lang/String" "coder" "B" (.int 1)) (hfv : Fld Z h0 t_o "java/lang/String" "value" "[B" (.ref b_o)) (hB : Arv Z h0 b_o k_b .byte (74 : Int32) (own_fl 74 (own_ug ch)) (.int 0)) (hO : Old Z n0 h0) (hS : Sta Z Z.heap "java/lang/String" "COMPACT_STRINGS" "Z" (.int cs)) (hcs : ¬ cs = (0 : Int32)) (hSe : Sta Z Z.heap "java/util/Optional" "EMPTY" "Ljava/util/Optional;" (.ref e_o)) :
    MetFree l y_39 (head1 (Jvm.Cond.code y_39 prog_20_method_3_code 9 (some (.object "java/util/Optional")) :: ws) (RM 2 0 0 25)) (fun a U => a = #[(.ref t_o)] ∧ Z.Warmed39 U.vm ∧ U.heap = h0) (fun _ _ _ _ _ => True) (fun _ U o U' => ∃ v L, o = .returned v ∧ Qown_prZ37U Z t_o b_o k_b ch cs e_o h0 n0 v U'.heap L ∧ FrameEnd U o U' L (RM 2 0 0 25).cells (RM 2 0 0 25).slots) := by
  refine MetFree.of_bodySF (plainFor_of_name own_pn1) hisR ?_
  intro p e s m args below meth c s₁ Bd hml0 hP hK
  obtain ⟨rfl, hZ, hh⟩ := hP
  have hx := Bd.exec
  have hby := Bd.bytes
  have hml : c.maxLocals = 9 := hml0
  have hown : s.vm.findClass "com/example/rosterhall/rosterhall/ResourceId" = some m.cls := findClass_of_methodNamed Bd.named
  have X0 : Stand p l e (RM 2 0 0 25) s m #[(.ref t_o)] below meth c s₁ [] 0 0 := Stand.of_body Bd
  have e0 : s₁.heap = h0 := by rw [← hh, Bd.state]; rfl
  have N0 := Fr.nil n0
  have pre0 : ∀ t, Steps p.tables e below (s₁.setTop (mkF m 0 #[vR (t_o), u_, u_, u_, u_, u_, u_, u_, u_] [])) t → Steps p.tables e below (s₁.setTop (entryFrame m #[(.ref t_o)] 9)) t := fun t k => castTop (own_ef_own_prZ37U m t_o) k
  obtain ⟨cq3, kq3, q3a, q3b, q3c⟩ := isOf hZ e0 hxa
  obtain ⟨_, _, ⟨T3, L3, k3, n3⟩, -, X3, ⟨Lc3, hQ3, l3, y3, z3⟩, st3⟩ := X0.virtualBack hx (y := y_27) (z := y_27) hown (mvT hZ (hw _ (gm 59 rfl))) (mvT hZ (hw _ (gm 60 rfl))) (notFace_of_selects (args := #[]) (mvT hZ (hw _ (gm 62 rfl)))) (mvT hZ (hw _ (gm 62 rfl))) (mvT hZ (hw _ (gm 61 rfl))) (by decide) (backOf (W := 0) (own_len37U l Z a0 hw [] t_o b_o k_b (own_fl 74 (own_ug ch)) cs h0 n0 Z0 hxa hcd hO hS hcs hfv hB) hZ (hw _ (gm 63 rfl)) (hw _ (gm 28 rfl)) (by decide) (by decide)) q3a q3c (g := (mkF m 1 #[vR (t_o), u_, u_, u_, u_, u_, u_, u_, u_] [(.ref t_o)])) rfl (by rw [hml]; rfl) (Steps.refl _) (argsL := []) (rest := []) (lenOf own_pd21 rfl) rfl (by show 2 * 0 + _ ≤ _; exact Nat.le_of_eq rfl) (hb hby d14_1) (fun _ _ => ⟨rfl, e0, (by decide : 0 + 0 ≤ _), (by decide : 0 + 0 ≤ _)⟩)
  dsimp only [Pt.U, Pt.locs, Pt.cells, Pt.slots] at X3 l3 y3 z3 st3 hQ3
  rw [l3, y3, z3] at X3
  obtain ⟨rfl, Nq3, eh3⟩ := hQ3
  have N4 := Fr.app N0 Nq3
  obtain ⟨_, _, ⟨T8, L8, k8, n8⟩, -, X8, ⟨Lc8, hQ8, l8, y8, z8⟩, st8⟩ := Jvm.LawKit.callS X3 hx (y := y_38) hown (mvT hZ (hw _ (gm 148 rfl))) (mvT hZ (hw _ (gm 149 rfl))) (mvT hZ (hw _ (gm 111 rfl))) (mvT hZ (hw _ (gm 150 rfl))) (by decide) (backOf (W := 0) (own_emp l Z a0 hw [] e_o h0 n0 Z0 hSe hO) hZ (hw _ (gm 150 rfl)) (hw _ (gm 111 rfl)) (by decide) (by decide)) (g := (mkF m 9 #[vR (t_o), u_, u_, u_, u_, u_, u_, u_, u_] [])) rfl (by rw [hml]; rfl) (argsL := []) (rest := []) (lenOf own_pd22 rfl) rfl (by show 2 * 0 + _ ≤ _; exact Nat.le_of_eq rfl) (hb hby d14_9) (fun _ _ => ⟨rfl, eh3, (by decide : 0 + 0 ≤ _), (by decide : 0 + 0 ≤ _)⟩)
  dsimp only [Pt.U, Pt.locs, Pt.cells, Pt.slots] at X8 l8 y8 z8 st8 hQ8
  rw [l8, y8, z8] at X8
  obtain ⟨rfl, Nq8, eh8⟩ := hQ8
  have N9 := Fr.app N4 Nq8
  obtain ⟨fs, hr, hrun, hended, hW, hsame⟩ := X8.leave (v := some (.ref e_o)) (fun h => by rw [Bd.returns] at h; cases h) (hlocks := BodyLoose.notSynchronized Bd)
  refine ⟨_, _, pre0 _ ?_, hrun, hended, _, _, rfl, ?_, ⟨_, rfl⟩, hW, hsame.mono (by decide) (by decide)⟩
  · show SS p e below m s₁ 0 #[vR (t_o), u_, u_, u_, u_, u_, u_, u_, u_] [] _
    refine zaloadN X0 hx hby d14_0 rfl rfl ?_
    refine st3.trans ?_
    refine zbipush X3 hx hby (36) d14_4 rfl ?_
    refine zicmpNo X3 hx hby d14_6 (feq ((by decide) : ¬ ((37 : Int32) = (36 : Int32)))).1 ?_
    refine st8 _ ?_
    show SS p e below m T8 12 #[vR (t_o), u_, u_, u_, u_, u_, u_, u_, u_] [(.ref e_o)] _
    jvm_step X8.here [X8.here.top, hx, (hb hby d14_12), X8.method', Bd.returns, Value.isRef, FieldType.isReference]
    first | (intro acts; rw [hr _ acts rfl rfl rfl]) | rw [hr _ _ rfl rfl rfl]
    exact Steps.refl _
  · show Qown_prZ37U Z t_o b_o k_b ch cs e_o h0 n0 _ T8.heap _
    rw [eh8]
    exact ⟨rfl, N9, rfl⟩
theorem own_ef_own_prNL (m : MethodId) (t_o : Addr) : entryFrame m #[(.ref t_o)] 9 = mkF m 0 #[.val (.ref t_o), .unset, .unset, .unset, .unset, .unset, .unset, .unset, .unset] [] := by first | (simp [entryFrame, mkF, argsToLocals, Value.category]; done) | rfl
theorem own_pd23 : parseMethodDescriptor "(C)I" = some ⟨[.char], some .int⟩ := by decide +kernel
theorem d14_13 : decode b_14 13 = .ok (.lconst 0, 1) := by decide +kernel
theorem d14_14 : decode b_14 14 = .ok (.lstore_n 1, 1) := by decide +kernel
theorem d14_15 : decode b_14 15 = .ok (.lconst 0, 1) := by decide +kernel
theorem d14_16 : decode b_14 16 = .ok (.lstore_n 3, 1) := by decide +kernel
theorem d14_17 : decode b_14 17 = .ok (.iconst 0, 1) := by decide +kernel
theorem d14_18 : decode b_14 18 = .ok (.istore 5, 2) := by decide +kernel
theorem d14_20 : decode b_14 20 = .ok (.iconst 0, 1) := by decide +kernel
theorem d14_21 : decode b_14 21 = .ok (.istore 6, 2) := by decide +kernel
theorem d14_23 : decode b_14 23 = .ok (.iload 6, 2) := by decide +kernel
theorem d14_25 : decode b_14 25 = .ok (.bipush 36, 2) := by decide +kernel
theorem d14_27 : decode b_14 27 = .ok (.if_icmp .ge 101, 3) := by decide +kernel
theorem d14_30 : decode b_14 30 = .ok (.aload_n 0, 1) := by decide +kernel
theorem d14_31 : decode b_14 31 = .ok (.iload 6, 2) := by decide +kernel
theorem d14_33 : decode b_14 33 = .ok (.invokevirtual 44, 3) := by decide +kernel
theorem d14_36 : decode b_14 36 = .ok (.istore 7, 2) := by decide +kernel
theorem d14_38 : decode b_14 38 = .ok (.iload 6, 2) := by decide +kernel
theorem d14_40 : decode b_14 40 = .ok (.bipush 8, 2) := by decide +kernel
theorem d14_42 : decode b_14 42 = .ok (.if_icmp .eq 24, 3) := by decide +kernel
theorem d14_45 : decode b_14 45 = .ok (.iload 6, 2) := by decide +kernel
theorem d14_47 : decode b_14 47 = .ok (.bipush 13, 2) := by decide +kernel
theorem d14_49 : decode b_14 49 = .ok (.if_icmp .eq 17, 3) := by decide +kernel
theorem d14_52 : decode b_14 52 = .ok (.iload 6, 2) := by decide +kernel
theorem d14_54 : decode b_14 54 = .ok (.bipush 18, 2) := by decide +kernel
theorem d14_56 : decode b_14 56 = .ok (.if_icmp .eq 10, 3) := by decide +kernel
theorem d14_59 : decode b_14 59 = .ok (.iload 6, 2) := by decide +kernel
theorem d14_61 : decode b_14 61 = .ok (.bipush 23, 2) := by decide +kernel
theorem d14_63 : decode b_14 63 = .ok (.if_icmp .ne 14, 3) := by decide +kernel
theorem d14_66 : decode b_14 66 = .ok (.iload 7, 2) := by decide +kernel
theorem d14_68 : decode b_14 68 = .ok (.bipush 45, 2) := by decide +kernel
theorem d14_70 : decode b_14 70 = .ok (.if_icmp .eq 52, 3) := by decide +kernel
theorem d14_73 : decode b_14 73 = .ok (.invokestatic 38, 3) := by decide +kernel
theorem d14_76 : decode b_14 76 = .ok (.areturn, 1) := by decide +kernel
theorem d14_77 : decode b_14 77 = .ok (.iload 7, 2) := by decide +kernel
theorem d14_79 : decode b_14 79 = .ok (.invokestatic 48, 3) := by decide +kernel
theorem d14_82 : decode b_14 82 = .ok (.istore 8, 2) := by decide +kernel
theorem d14_84 : decode b_14 84 = .ok (.iload 8, 2) := by decide +kernel
theorem d14_86 : decode b_14 86 = .ok (.ifCond .ge 7, 3) := by decide +kernel
theorem d14_89 : decode b_14 89 = .ok (.invokestatic 38, 3) := by decide +kernel
theorem d14_92 : decode b_14 92 = .ok (.areturn, 1) := by decide +kernel
theorem d14_93 : decode b_14 93 = .ok (.iload 5, 2) := by decide +kernel
theorem d14_95 : decode b_14 95 = .ok (.bipush 16, 2) := by decide +kernel
theorem d14_97 : decode b_14 97 = .ok (.if_icmp .ge 14, 3) := by decide +kernel
theorem d14_100 : decode b_14 100 = .ok (.lload_n 1, 1) := by decide +kernel
theorem d14_101 : decode b_14 101 = .ok (.iconst 4, 1) := by decide +kernel
theorem d14_102 : decode b_14 102 = .ok (.lshl, 1) := by decide +kernel
theorem d14_103 : decode b_14 103 = .ok (.iload 8, 2) := by decide +kernel
theorem d14_105 : decode b_14 105 = .ok (.i2l, 1) := by decide +kernel
theorem d14_106 : decode b_14 106 = .ok (.lor, 1) := by decide +kernel
theorem d14_107 : decode b_14 107 = .ok (.lstore_n 1, 1) := by decide +kernel
theorem d14_108 : decode b_14 108 = .ok (.goto 11, 3) := by decide +kernel
theorem d14_111 : decode b_14 111 = .ok (.lload_n 3, 1) := by decide +kernel
theorem d14_112 : decode b_14 112 = .ok (.iconst 4, 1) := by decide +kernel
theorem d14_113 : decode b_14 113 = .ok (.lshl, 1) := by decide +kernel
theorem d14_114 : decode b_14 114 = .ok (.iload 8, 2) := by decide +kernel
theorem d14_116 : decode b_14 116 = .ok (.i2l, 1) := by decide +kernel
theorem d14_117 : decode b_14 117 = .ok (.lor, 1) := by decide +kernel
theorem d14_118 : decode b_14 118 = .ok (.lstore_n 3, 1) := by decide +kernel
theorem d14_119 : decode b_14 119 = .ok (.iinc 5 1, 3) := by decide +kernel
theorem d14_122 : decode b_14 122 = .ok (.iinc 6 1, 3) := by decide +kernel
theorem d14_125 : decode b_14 125 = .ok (.goto (-102), 3) := by decide +kernel
def Qown_prNL (Z : State) (t_o : Addr) (b_o : Addr) (k_b : ClassId) (ch : Nat → Int32) (cs : Int32) (e_o : Addr) (u_f : Value) (h0 : Heap) (n0 : Nat) (v : Option Value) (h : Heap) (L : List Loc) : Prop := v = some (.ref e_o) ∧ Fr n0 L ∧ h = h0
set_option maxRecDepth 65536 in
set_option maxHeartbeats 40000000 in
theorem own_prNL (l : Launch) (Z : State) (a0 : Array Value) (hw : ∀ d ∈ tables_1, d.before a0 Z = true) (ws : List Jvm.Cond) (t_o : Addr) (b_o : Addr) (k_b : ClassId) (ch : Nat → Int32) (cs : Int32) (e_o : Addr) (u_f : Value) (h0 : Heap) (n0 : Nat) (Z0 : n0 ≤ h0.size) (hxa : Exa Z h0 t_o "java/lang/String") (hcd : Fld Z h0 t_o "java/lang/String" "coder" "B" (.int 0)) (hfv : Fld Z h0 t_o "java/lang/String" "value" "[B" (.ref b_o)) (hB : Arv Z h0 b_o k_b .byte (36 : Int32) (own_fl 36 (own_bg ch)) (.int 0)) (hO : Old Z n0 h0) (hS : Sta Z Z.heap "java/lang/String" "COMPACT_STRINGS" "Z" (.int cs)) (hcs : ¬ cs = (0 : Int32)) (hSe : Sta Z Z.heap "java/util/Optional" "EMPTY" "Ljava/util/Optional;" (.ref e_o)) (hl : ∀ j, j < 36 → ¬ (255 : Int32) < ch j) (hrg : ∀ j, nar .char (ch j) = ch j) (hSf : Sta Z Z.heap "jdk/internal/util/Preconditions" "SIOOBE_FORMATTER" "Ljava/util/function/BiFunction;" u_f) (hf : u_f.isRef = true) (hPp : own_pl ch 36 0 (0 : Int32) (0 : Int64) (0 : Int64) = none) :
    MetFree l y_39 (head1 (Jvm.Cond.code y_39 prog_20_method_3_code 9 (some (.object "java/util/Optional")) :: ws) (RM 4 0 0 53)) (fun a U => a = #[(.ref t_o)] ∧ Z.Warmed39 U.vm ∧ U.heap = h0) (fun _ _ _ _ _ => True) (fun _ U o U' => ∃ v L, o = .returned v ∧ Qown_prNL Z t_o b_o k_b ch cs e_o u_f h0 n0 v U'.heap L ∧ FrameEnd U o U' L (RM 4 0 0 53).cells (RM 4 0 0 53).slots) := by
  refine MetFree.of_bodySF (plainFor_of_name own_pn1) hisR ?_
  intro p e s m args below meth c s₁ Bd hml0 hP hK
  obtain ⟨rfl, hZ, hh⟩ := hP
  have hx := Bd.exec
  have hby := Bd.bytes
  have hml : c.maxLocals = 9 := hml0
  have hown : s.vm.findClass "com/example/rosterhall/rosterhall/ResourceId" = some m.cls := findClass_of_methodNamed Bd.named
  have X0 : Stand p l e (RM 4 0 0 53) s m #[(.ref t_o)] below meth c s₁ [] 0 0 := Stand.of_body Bd
  have e0 : s₁.heap = h0 := by rw [← hh, Bd.state]; rfl
  have N0 := Fr.nil n0
  have pre0 : ∀ t, Steps p.tables e below (s₁.setTop (mkF m 0 #[vR (t_o), u_, u_, u_, u_, u_, u_, u_, u_] [])) t → Steps p.tables e below (s₁.setTop (entryFrame m #[(.ref t_o)] 9)) t := fun t k => castTop (own_ef_own_prNL m t_o) k
  obtain ⟨cq3, kq3, q3a, q3b, q3c⟩ := isOf hZ e0 hxa
  obtain ⟨_, _, ⟨T3, L3, k3, n3⟩, -, X3, ⟨Lc3, hQ3, l3, y3, z3⟩, st3⟩ := X0.virtualBack hx (y := y_27) (z := y_27) hown (mvT hZ (hw _ (gm 59 rfl))) (mvT hZ (hw _ (gm 60 rfl))) (notFace_of_selects (args := #[]) (mvT hZ (hw _ (gm 62 rfl)))) (mvT hZ (hw _ (gm 62 rfl))) (mvT hZ (hw _ (gm 61 rfl))) (by decide) (backOf (W := 0) (own_len36L l Z a0 hw [] t_o b_o k_b (own_fl 36 (own_bg ch)) cs h0 n0 Z0 hxa hcd hO hS hcs hfv hB) hZ (hw _ (gm 63 rfl)) (hw _ (gm 28 rfl)) (by decide) (by decide)) q3a q3c (g := (mkF m 1 #[vR (t_o), u_, u_, u_, u_, u_, u_, u_, u_] [(.ref t_o)])) rfl (by rw [hml]; rfl) (Steps.refl _) (argsL := []) (rest := []) (lenOf own_pd21 rfl) rfl (by show 2 * 0 + _ ≤ _; exact Nat.le_of_eq rfl) (hb hby d14_1) (fun _ _ => ⟨rfl, e0, (by decide : 0 + 0 ≤ _), (by decide : 0 + 0 ≤ _)⟩)
  dsimp only [Pt.U, Pt.locs, Pt.cells, Pt.slots] at X3 l3 y3 z3 st3 hQ3
  rw [l3, y3, z3] at X3
  obtain ⟨rfl, Nq3, eh3⟩ := hQ3
  have N4 := Fr.app N0 Nq3
  have pre16 : ∀ t, Steps p.tables e below (T3.setTop (mkF m 23 #[vR (t_o), vJ (0), s_, vJ (0), s_, vI (0), vI (0), u_, u_] [])) t → Steps p.tables e below (s₁.setTop (entryFrame m #[(.ref t_o)] 9)) t := by
    intro t kt
    refine pre0 _ ?_
    show SS p e below m s₁ 0 #[vR (t_o), u_, u_, u_, u_, u_, u_, u_, u_] [] _
    refine zaloadN X0 hx hby d14_0 rfl rfl ?_
    refine st3.trans ?_
    refine zbipush X3 hx hby (36) d14_4 rfl ?_
    refine zicmpYes X3 hx hby 6 13 rfl d14_6 (teq ((by decide) : (36 : Int32) = (36 : Int32))).1 (by decide) (by decide) ?_
    show SS p e below m T3 13 #[vR (t_o), u_, u_, u_, u_, u_, u_, u_, u_] [] _
    refine XS.lconst X3.here hx rfl (hb hby d14_13) ?_
    show SS p e below m T3 14 #[vR (t_o), u_, u_, u_, u_, u_, u_, u_, u_] [(.long 0)] _
    refine zlstoreN (l' := #[vR (t_o), vJ (0), s_, u_, u_, u_, u_, u_, u_]) X3 hx hby d14_14 rfl ?_
    show SS p e below m T3 15 #[vR (t_o), vJ (0), s_, u_, u_, u_, u_, u_, u_] [] _
    refine XS.lconst X3.here hx rfl (hb hby d14_15) ?_
    show SS p e below m T3 16 #[vR (t_o), vJ (0), s_, u_, u_, u_, u_, u_, u_] [(.long 0)] _
    refine zlstoreN (l' := #[vR (t_o), vJ (0), s_, vJ (0), s_, u_, u_, u_, u_]) X3 hx hby d14_16 rfl ?_
    refine ziconst X3 hx hby (0) d14_17 rfl ?_
    refine zistore (l' := #[vR (t_o), vJ (0), s_, vJ (0), s_, vI (0), u_, u_, u_]) X3 hx hby d14_18 rfl ?_
    refine ziconst X3 hx hby (0) d14_20 rfl ?_
    refine zistore (l' := #[vR (t_o), vJ (0), s_, vJ (0), s_, vI (0), vI (0), u_, u_]) X3 hx hby d14_21 rfl ?_
    exact kt
  obtain ⟨k, i, hi, lo, d, s7, s8, TL17, LL17, XL17, eL17, NL17, hiL, hPL, preL17⟩ : ∃ (k : Nat) (i : Nat) (hi : Int64) (lo : Int64) (d : Int32) (s7 : Option Int32) (s8 : Option Int32) (TL17 : State) (LL17 : List Loc), Stand p l e (RM 4 0 0 53) s m #[(.ref t_o)] below meth c TL17 LL17 0 0 ∧ TL17.heap = h0 ∧ Fr n0 LL17 ∧ (i + k = 36) ∧ (own_pl ch k i d hi lo = none) ∧ (∀ t, Steps p.tables e below (TL17.setTop (mkF m 23 #[vR (t_o), vJ (hi), s_, vJ (lo), s_, vI (d), vI ((Int32.ofNat i)), (own_sl s7), (own_sl s8)] [])) t → Steps p.tables e below (s₁.setTop (entryFrame m #[(.ref t_o)] 9)) t) := ⟨36, 0, (0 : Int64), (0 : Int64), (0 : Int32), none, none, T3, _, X3, eh3, N4, (Nat.zero_add _), hPp, pre16⟩
  induction k generalizing i hi lo d s7 s8 TL17 LL17 with
  | zero =>
    exact absurd hPL (by simp [own_pl])
  | succ k ih17 =>
    obtain ⟨cq24, kq24, q24a, q24b, q24c⟩ := isOf hZ eL17 hxa
    obtain ⟨_, _, ⟨T24, L24, k24, n24⟩, -, X24, ⟨Lc24, hQ24, l24, y24, z24⟩, st24⟩ := XL17.virtualBack hx (y := y_28) (z := y_28) hown (mvT hZ (hw _ (gm 69 rfl))) (mvT hZ (hw _ (gm 70 rfl))) (notFace_of_selects (args := #[]) (mvT hZ (hw _ (gm 72 rfl)))) (mvT hZ (hw _ (gm 72 rfl))) (mvT hZ (hw _ (gm 71 rfl))) (by decide) (backOf (W := 0) (own_chaL l Z a0 hw [] t_o i b_o k_b ch u_f cs h0 n0 Z0 hxa hcd hO hS hcs hfv hB (by omega) hl hrg hSf hf) hZ (hw _ (gm 73 rfl)) (hw _ (gm 28 rfl)) (by decide) (by decide)) q24a q24c (g := (mkF m 33 #[vR (t_o), vJ (hi), s_, vJ (lo), s_, vI (d), vI ((Int32.ofNat i)), (own_sl s7), (own_sl s8)] [(.int (Int32.ofNat i)), (.ref t_o)])) rfl (by rw [hml]; rfl) (Steps.refl _) (argsL := [(.int (Int32.ofNat i))]) (rest := []) (lenOf own_pd0 rfl) rfl (by show 2 * 0 + _ ≤ _; exact Nat.le_of_eq rfl) (hb hby d14_33) (fun _ _ => ⟨rfl, eL17, (by decide : 0 + 0 ≤ _), (by decide : 0 + 0 ≤ _)⟩)
    dsimp only [Pt.U, Pt.locs, Pt.cells, Pt.slots] at X24 l24 y24 z24 st24 hQ24
    rw [l24, y24, z24] at X24
    obtain ⟨rfl, Nq24, eh24⟩ := hQ24
    have N25 := Fr.app NL17 Nq24
    have pre30 : ∀ t, Steps p.tables e below (T24.setTop (mkF m 42 #[vR (t_o), vJ (hi), s_, vJ (lo), s_, vI (d), vI ((Int32.ofNat i)), vI ((ch i)), (own_sl s8)] [(.int 8), (.int (Int32.ofNat i))])) t → Steps p.tables e below (s₁.setTop (entryFrame m #[(.ref t_o)] 9)) t := by
      intro t kt
      refine preL17 _ ?_
      show SS p e below m TL17 23 #[vR (t_o), vJ (hi), s_, vJ (lo), s_, vI (d), vI ((Int32.ofNat i)), (own_sl s7), (own_sl s8)] [] _
      refine ziload XL17 hx hby d14_23 rfl ?_
      refine zbipush XL17 hx hby (36) d14_25 rfl ?_
      refine zicmpNo XL17 hx hby d14_27 (tlt ((own_ltN (n := 36) (by omega) (by decide)) : (Int32.ofNat i) < (36 : Int32))).2.1 ?_
      refine zaloadN XL17 hx hby d14_30 rfl rfl ?_
      refine ziload XL17 hx hby d14_31 rfl ?_
      refine st24.trans ?_
      refine zistore (l' := #[vR (t_o), vJ (hi), s_, vJ (lo), s_, vI (d), vI ((Int32.ofNat i)), vI ((ch i)), (own_sl s8)]) X24 hx hby d14_36 (match s7 with | none => rfl | some _ => rfl) ?_
      refine ziload X24 hx hby d14_38 rfl ?_
      refine zbipush X24 hx hby (8) d14_40 rfl ?_
      exact kt
    by_cases hc42_31 : (Int32.ofNat i) = (8 : Int32)
    · have pre35 : ∀ t, Steps p.tables e below (T24.setTop (mkF m 70 #[vR (t_o), vJ (hi), s_, vJ (lo), s_, vI (d), vI ((Int32.ofNat i)), vI ((ch i)), (own_sl s8)] [(.int 45), (.int (ch i))])) t → Steps p.tables e below (s₁.setTop (entryFrame m #[(.ref t_o)] 9)) t := by
        intro t kt
        refine pre30 _ ?_
        show SS p e below m T24 42 #[vR (t_o), vJ (hi), s_, vJ (lo), s_, vI (d), vI ((Int32.ofNat i)), vI ((ch i)), (own_sl s8)] [(.int 8), (.int (Int32.ofNat i))] _
        refine zicmpYes X24 hx hby 42 66 rfl d14_42 (teq hc42_31).1 (by decide) (by decide) ?_
        refine ziload X24 hx hby d14_66 rfl ?_
        refine zbipush X24 hx hby (45) d14_68 rfl ?_
        exact kt
      by_cases hc70_36 : (ch i) = (45 : Int32)
      · have preB40 : ∀ t, Steps p.tables e below (T24.setTop (mkF m 23 #[vR (t_o), vJ (hi), s_, vJ (lo), s_, vI (d), vI ((Int32.ofNat (i + 1))), (own_sl (some (ch i))), (own_sl s8)] [])) t → Steps p.tables e below (s₁.setTop (entryFrame m #[(.ref t_o)] 9)) t := by
          intro t kt
          refine pre35 _ ?_
          show SS p e below m T24 70 #[vR (t_o), vJ (hi), s_, vJ (lo), s_, vI (d), vI ((Int32.ofNat i)), vI ((ch i)), (own_sl s8)] [(.int 45), (.int (ch i))] _
          refine zicmpYes X24 hx hby 70 122 rfl d14_70 (teq hc70_36).1 (by decide) (by decide) ?_
          refine ziinc (l' := #[vR (t_o), vJ (hi), s_, vJ (lo), s_, vI (d), vI (((Int32.ofNat i) + (1 : Int32))), vI ((ch i)), (own_sl s8)]) X24 hx hby d14_122 rfl rfl ?_
          refine zgoto X24 hx hby 125 23 rfl d14_125 (by decide) (by decide) ?_
          show SS p e below m T24 23 #[vR (t_o), vJ (hi), s_, vJ (lo), s_, vI (d), vI (((Int32.ofNat i) + (1 : Int32))), vI ((ch i)), (own_sl s8)] [] _
          rw [own_one]
          exact kt
        exact ih17 (i + 1) hi lo d (some (ch i)) s8 T24 _ X24 eh24 N25 (by omega) (by rw [own_pl, if_pos hc42_31, if_pos hc70_36] at hPL; exact hPL) preB40
      · obtain ⟨_, _, ⟨T42, L42, k42, n42⟩, -, X42, ⟨Lc42, hQ42, l42, y42, z42⟩, st42⟩ := Jvm.LawKit.callS X24 hx (y := y_38) hown (mvT hZ (hw _ (gm 148 rfl))) (mvT hZ (hw _ (gm 149 rfl))) (mvT hZ (hw _ (gm 111 rfl))) (mvT hZ (hw _ (gm 150 rfl))) (by decide) (backOf (W := 0) (own_emp l Z a0 hw [] e_o h0 n0 Z0 hSe hO) hZ (hw _ (gm 150 rfl)) (hw _ (gm 111 rfl)) (by decide) (by decide)) (g := (mkF m 73 #[vR (t_o), vJ (hi), s_, vJ (lo), s_, vI (d), vI ((Int32.ofNat i)), vI ((ch i)), (own_sl s8)] [])) rfl (by rw [hml]; rfl) (argsL := []) (rest := []) (lenOf own_pd22 rfl) rfl (by show 2 * 0 + _ ≤ _; exact Nat.le_of_eq rfl) (hb hby d14_73) (fun _ _ => ⟨rfl, eh24, (by decide : 0 + 0 ≤ _), (by decide : 0 + 0 ≤ _)⟩)
        dsimp only [Pt.U, Pt.locs, Pt.cells, Pt.slots] at X42 l42 y42 z42 st42 hQ42
        rw [l42, y42, z42] at X42
        obtain ⟨rfl, Nq42, eh42⟩ := hQ42
        have N43 := Fr.app N25 Nq42
        obtain ⟨fs, hr, hrun, hended, hW, hsame⟩ := X42.leave (v := some (.ref e_o)) (fun h => by rw [Bd.returns] at h; cases h) (hlocks := BodyLoose.notSynchronized Bd)
        refine ⟨_, _, pre35 _ ?_, hrun, hended, _, _, rfl, ?_, ⟨_, rfl⟩, hW, hsame.mono (by decide) (by decide)⟩
        · show SS p e below m T24 70 #[vR (t_o), vJ (hi), s_, vJ (lo), s_, vI (d), vI ((Int32.ofNat i)), vI ((ch i)), (own_sl s8)] [(.int 45), (.int (ch i))] _
          refine zicmpNo X24 hx hby d14_70 (feq hc70_36).1 ?_
          refine st42 _ ?_
          show SS p e below m T42 76 #[vR (t_o), vJ (hi), s_, vJ (lo), s_, vI (d), vI ((Int32.ofNat i)), vI ((ch i)), (own_sl s8)] [(.ref e_o)] _
          jvm_step X42.here [X42.here.top, hx, (hb hby d14_76), X42.method', Bd.returns, Value.isRef, FieldType.isReference]
          first | (intro acts; rw [hr _ acts rfl rfl rfl]) | rw [hr _ _ rfl rfl rfl]
          exact Steps.refl _
        · show Qown_prNL Z t_o b_o k_b ch cs e_o u_f h0 n0 _ T42.heap _
          rw [eh42]
          exact ⟨rfl, N43, rfl⟩
    · have pre48 : ∀ t, Steps p.tables e below (T24.setTop (mkF m 49 #[vR (t_o), vJ (hi), s_, vJ (lo), s_, vI (d), vI ((Int32.ofNat i)), vI ((ch i)), (own_sl s8)] [(.int 13), (.int (Int32.ofNat i))])) t → Steps p.tables e below (s₁.setTop (entryFrame m #[(.ref t_o)] 9)) t := by
        intro t kt
        refine pre30 _ ?_
        show SS p e below m T24 42 #[vR (t_o), vJ (hi), s_, vJ (lo), s_, vI (d), vI ((Int32.ofNat i)), vI ((ch i)), (own_sl s8)] [(.int 8), (.int (Int32.ofNat i))] _
        refine zicmpNo X24 hx hby d14_42 (feq hc42_31).1 ?_
        refine ziload X24 hx hby d14_45 rfl ?_
        refine zbipush X24 hx hby (13) d14_47 rfl ?_
        exact kt
      by_cases hc49_49 : (Int32.ofNat i) = (13 : Int32)
      · have pre53 : ∀ t, Steps p.tables e below (T24.setTop (mkF m 70 #[vR (t_o), vJ (hi), s_, vJ (lo), s_, vI (d), vI ((Int32.ofNat i)), vI ((ch i)), (own_sl s8)] [(.int 45), (.int (ch i))])) t → Steps p.tables e below (s₁.setTop (entryFrame m #[(.ref t_o)] 9)) t := by
          intro t kt
          refine pre48 _ ?_
          show SS p e below m T24 49 #[vR (t_o), vJ (hi), s_, vJ (lo), s_, vI (d), vI ((Int32.ofNat i)), vI ((ch i)), (own_sl s8)] [(.int 13), (.int (Int32.ofNat i))] _
          refine zicmpYes X24 hx hby 49 66 rfl d14_49 (teq hc49_49).1 (by decide) (by decide) ?_
          refine ziload X24 hx hby d14_66 rfl ?_
          refine zbipush X24 hx hby (45) d14_68 rfl ?_
          exact kt
        by_cases hc70_54 : (ch i) = (45 : Int32)
        · have preB58 : ∀ t, Steps p.tables e below (T24.setTop (mkF m 23 #[vR (t_o), vJ (hi), s_, vJ (lo), s_, vI (d), vI ((Int32.ofNat (i + 1))), (own_sl (some (ch i))), (own_sl s8)] [])) t → Steps p.tables e below (s₁.setTop (entryFrame m #[(.ref t_o)] 9)) t := by
            intro t kt
            refine pre53 _ ?_
            show SS p e below m T24 70 #[vR (t_o), vJ (hi), s_, vJ (lo), s_, vI (d), vI ((Int32.ofNat i)), vI ((ch i)), (own_sl s8)] [(.int 45), (.int (ch i))] _
            refine zicmpYes X24 hx hby 70 122 rfl d14_70 (teq hc70_54).1 (by decide) (by decide) ?_
            refine ziinc (l' := #[vR (t_o), vJ (hi), s_, vJ (lo), s_, vI (d), vI (((Int32.ofNat i) + (1 : Int32))), vI ((ch i)), (own_sl s8)]) X24 hx hby d14_122 rfl rfl ?_
            refine zgoto X24 hx hby 125 23 rfl d14_125 (by decide) (by decide) ?_
            show SS p e below m T24 23 #[vR (t_o), vJ (hi), s_, vJ (lo), s_, vI (d), vI (((Int32.ofNat i) + (1 : Int32))), vI ((ch i)), (own_sl s8)] [] _
            rw [own_one]
            exact kt
          exact ih17 (i + 1) hi lo d (some (ch i)) s8 T24 _ X24 eh24 N25 (by omega) (by rw [own_pl, if_neg hc42_31, if_pos hc49_49, if_pos hc70_54] at hPL; exact hPL) preB58
        · obtain ⟨_, _, ⟨T60, L60, k60, n60⟩, -, X60, ⟨Lc60, hQ60, l60, y60, z60⟩, st60⟩ := Jvm.LawKit.callS X24 hx (y := y_38) hown (mvT hZ (hw _ (gm 148 rfl))) (mvT hZ (hw _ (gm 149 rfl))) (mvT hZ (hw _ (gm 111 rfl))) (mvT hZ (hw _ (gm 150 rfl))) (by decide) (backOf (W := 0) (own_emp l Z a0 hw [] e_o h0 n0 Z0 hSe hO) hZ (hw _ (gm 150 rfl)) (hw _ (gm 111 rfl)) (by decide) (by decide)) (g := (mkF m 73 #[vR (t_o), vJ (hi), s_, vJ (lo), s_, vI (d), vI ((Int32.ofNat i)), vI ((ch i)), (own_sl s8)] [])) rfl (by rw [hml]; rfl) (argsL := []) (rest := []) (lenOf own_pd22 rfl) rfl (by show 2 * 0 + _ ≤ _; exact Nat.le_of_eq rfl) (hb hby d14_73) (fun _ _ => ⟨rfl, eh24, (by decide : 0 + 0 ≤ _), (by decide : 0 + 0 ≤ _)⟩)
          dsimp only [Pt.U, Pt.locs, Pt.cells, Pt.slots] at X60 l60 y60 z60 st60 hQ60
          rw [l60, y60, z60] at X60
          obtain ⟨rfl, Nq60, eh60⟩ := hQ60
          have N61 := Fr.app N25 Nq60
          obtain ⟨fs, hr, hrun, hended, hW, hsame⟩ := X60.leave (v := some (.ref e_o)) (fun h => by rw [Bd.returns] at h; cases h) (hlocks := BodyLoose.notSynchronized Bd)
          refine ⟨_, _, pre53 _ ?_, hrun, hended, _, _, rfl, ?_, ⟨_, rfl⟩, hW, hsame.mono (by decide) (by decide)⟩
          · show SS p e below m T24 70 #[vR (t_o), vJ (hi), s_, vJ (lo), s_, vI (d), vI ((Int32.ofNat i)), vI ((ch i)), (own_sl s8)] [(.int 45), (.int (ch i))] _
            refine zicmpNo X24 hx hby d14_70 (feq hc70_54).1 ?_
            refine st60 _ ?_
            show SS p e below m T60 76 #[vR (t_o), vJ (hi), s_, vJ (lo), s_, vI (d), vI ((Int32.ofNat i)), vI ((ch i)), (own_sl s8)] [(.ref e_o)] _
            jvm_step X60.here [X60.here.top, hx, (hb hby d14_76), X60.method', Bd.returns, Value.isRef, FieldType.isReference]
            first | (intro acts; rw [hr _ acts rfl rfl rfl]) | rw [hr _ _ rfl rfl rfl]
            exact Steps.refl _
          · show Qown_prNL Z t_o b_o k_b ch cs e_o u_f h0 n0 _ T60.heap _
            rw [eh60]
            exact ⟨rfl, N61, rfl⟩
      · have pre66 : ∀ t, Steps p.tables e below (T24.setTop (mkF m 56 #[vR (t_o), vJ (hi), s_, vJ (lo), s_, vI (d), vI ((Int32.ofNat i)), vI ((ch i)), (own_sl s8)] [(.int 18), (.int (Int32.ofNat i))])) t → Steps p.tables e below (s₁.setTop (entryFrame m #[(.ref t_o)] 9)) t := by
          intro t kt
          refine pre48 _ ?_
          show SS p e below m T24 49 #[vR (t_o), vJ (hi), s_, vJ (lo), s_, vI (d), vI ((Int32.ofNat i)), vI ((ch i)), (own_sl s8)] [(.int 13), (.int (Int32.ofNat i))] _
          refine zicmpNo X24 hx hby d14_49 (feq hc49_49).1 ?_
          refine ziload X24 hx hby d14_52 rfl ?_
          refine zbipush X24 hx hby (18) d14_54 rfl ?_
          exact kt
        by_cases hc56_67 : (Int32.ofNat i) = (18 : Int32)
        · have pre71 : ∀ t, Steps p.tables e below (T24.setTop (mkF m 70 #[vR (t_o), vJ (hi), s_, vJ (lo), s_, vI (d), vI ((Int32.ofNat i)), vI ((ch i)), (own_sl s8)] [(.int 45), (.int (ch i))])) t → Steps p.tables e below (s₁.setTop (entryFrame m #[(.ref t_o)] 9)) t := by
            intro t kt
            refine pre66 _ ?_
            show SS p e below m T24 56 #[vR (t_o), vJ (hi), s_, vJ (lo), s_, vI (d), vI ((Int32.ofNat i)), vI ((ch i)), (own_sl s8)] [(.int 18), (.int (Int32.ofNat i))] _
            refine zicmpYes X24 hx hby 56 66 rfl d14_56 (teq hc56_67).1 (by decide) (by decide) ?_
            refine ziload X24 hx hby d14_66 rfl ?_
            refine zbipush X24 hx hby (45) d14_68 rfl ?_
            exact kt
          by_cases hc70_72 : (ch i) = (45 : Int32)
          · have preB76 : ∀ t, Steps p.tables e below (T24.setTop (mkF m 23 #[vR (t_o), vJ (hi), s_, vJ (lo), s_, vI (d), vI ((Int32.ofNat (i + 1))), (own_sl (some (ch i))), (own_sl s8)] [])) t → Steps p.tables e below (s₁.setTop (entryFrame m #[(.ref t_o)] 9)) t := by
              intro t kt
              refine pre71 _ ?_
              show SS p e below m T24 70 #[vR (t_o), vJ (hi), s_, vJ (lo), s_, vI (d), vI ((Int32.ofNat i)), vI ((ch i)), (own_sl s8)] [(.int 45), (.int (ch i))] _
              refine zicmpYes X24 hx hby 70 122 rfl d14_70 (teq hc70_72).1 (by decide) (by decide) ?_
              refine ziinc (l' := #[vR (t_o), vJ (hi), s_, vJ (lo), s_, vI (d), vI (((Int32.ofNat i) + (1 : Int32))), vI ((ch i)), (own_sl s8)]) X24 hx hby d14_122 rfl rfl ?_
              refine zgoto X24 hx hby 125 23 rfl d14_125 (by decide) (by decide) ?_
              show SS p e below m T24 23 #[vR (t_o), vJ (hi), s_, vJ (lo), s_, vI (d), vI (((Int32.ofNat i) + (1 : Int32))), vI ((ch i)), (own_sl s8)] [] _
              rw [own_one]
              exact kt
            exact ih17 (i + 1) hi lo d (some (ch i)) s8 T24 _ X24 eh24 N25 (by omega) (by rw [own_pl, if_neg hc42_31, if_neg hc49_49, if_pos hc56_67, if_pos hc70_72] at hPL; exact hPL) preB76
          · obtain ⟨_, _, ⟨T78, L78, k78, n78⟩, -, X78, ⟨Lc78, hQ78, l78, y78, z78⟩, st78⟩ := Jvm.LawKit.callS X24 hx (y := y_38) hown (mvT hZ (hw _ (gm 148 rfl))) (mvT hZ (hw _ (gm 149 rfl))) (mvT hZ (hw _ (gm 111 rfl))) (mvT hZ (hw _ (gm 150 rfl))) (by decide) (backOf (W := 0) (own_emp l Z a0 hw [] e_o h0 n0 Z0 hSe hO) hZ (hw _ (gm 150 rfl)) (hw _ (gm 111 rfl)) (by decide) (by decide)) (g := (mkF m 73 #[vR (t_o), vJ (hi), s_, vJ (lo), s_, vI (d), vI ((Int32.ofNat i)), vI ((ch i)), (own_sl s8)] [])) rfl (by rw [hml]; rfl) (argsL := []) (rest := []) (lenOf own_pd22 rfl) rfl (by show 2 * 0 + _ ≤ _; exact Nat.le_of_eq rfl) (hb hby d14_73) (fun _ _ => ⟨rfl, eh24, (by decide : 0 + 0 ≤ _), (by decide : 0 + 0 ≤ _)⟩)
            dsimp only [Pt.U, Pt.locs, Pt.cells, Pt.slots] at X78 l78 y78 z78 st78 hQ78
            rw [l78, y78, z78] at X78
            obtain ⟨rfl, Nq78, eh78⟩ := hQ78
            have N79 := Fr.app N25 Nq78
            obtain ⟨fs, hr, hrun, hended, hW, hsame⟩ := X78.leave (v := some (.ref e_o)) (fun h => by rw [Bd.returns] at h; cases h) (hlocks := BodyLoose.notSynchronized Bd)
            refine ⟨_, _, pre71 _ ?_, hrun, hended, _, _, rfl, ?_, ⟨_, rfl⟩, hW, hsame.mono (by decide) (by decide)⟩
            · show SS p e below m T24 70 #[vR (t_o), vJ (hi), s_, vJ (lo), s_, vI (d), vI ((Int32.ofNat i)), vI ((ch i)), (own_sl s8)] [(.int 45), (.int (ch i))] _
              refine zicmpNo X24 hx hby d14_70 (feq hc70_72).1 ?_
              refine st78 _ ?_
              show SS p e below m T78 76 #[vR (t_o), vJ (hi), s_, vJ (lo), s_, vI (d), vI ((Int32.ofNat i)), vI ((ch i)), (own_sl s8)] [(.ref e_o)] _
              jvm_step X78.here [X78.here.top, hx, (hb hby d14_76), X78.method', Bd.returns, Value.isRef, FieldType.isReference]
              first | (intro acts; rw [hr _ acts rfl rfl rfl]) | rw [hr _ _ rfl rfl rfl]
              exact Steps.refl _
            · show Qown_prNL Z t_o b_o k_b ch cs e_o u_f h0 n0 _ T78.heap _
              rw [eh78]
              exact ⟨rfl, N79, rfl⟩
        · have pre84 : ∀ t, Steps p.tables e below (T24.setTop (mkF m 63 #[vR (t_o), vJ (hi), s_, vJ (lo), s_, vI (d), vI ((Int32.ofNat i)), vI ((ch i)), (own_sl s8)] [(.int 23), (.int (Int32.ofNat i))])) t → Steps p.tables e below (s₁.setTop (entryFrame m #[(.ref t_o)] 9)) t := by
            intro t kt
            refine pre66 _ ?_
            show SS p e below m T24 56 #[vR (t_o), vJ (hi), s_, vJ (lo), s_, vI (d), vI ((Int32.ofNat i)), vI ((ch i)), (own_sl s8)] [(.int 18), (.int (Int32.ofNat i))] _
            refine zicmpNo X24 hx hby d14_56 (feq hc56_67).1 ?_
            refine ziload X24 hx hby d14_59 rfl ?_
            refine zbipush X24 hx hby (23) d14_61 rfl ?_
            exact kt
          by_cases hc63_85 : (Int32.ofNat i) = (23 : Int32)
          · have pre89 : ∀ t, Steps p.tables e below (T24.setTop (mkF m 70 #[vR (t_o), vJ (hi), s_, vJ (lo), s_, vI (d), vI ((Int32.ofNat i)), vI ((ch i)), (own_sl s8)] [(.int 45), (.int (ch i))])) t → Steps p.tables e below (s₁.setTop (entryFrame m #[(.ref t_o)] 9)) t := by
              intro t kt
              refine pre84 _ ?_
              show SS p e below m T24 63 #[vR (t_o), vJ (hi), s_, vJ (lo), s_, vI (d), vI ((Int32.ofNat i)), vI ((ch i)), (own_sl s8)] [(.int 23), (.int (Int32.ofNat i))] _
              refine zicmpNo X24 hx hby d14_63 (teq hc63_85).2 ?_
              refine ziload X24 hx hby d14_66 rfl ?_
              refine zbipush X24 hx hby (45) d14_68 rfl ?_
              exact kt
            by_cases hc70_90 : (ch i) = (45 : Int32)
            · have preB94 : ∀ t, Steps p.tables e below (T24.setTop (mkF m 23 #[vR (t_o), vJ (hi), s_, vJ (lo), s_, vI (d), vI ((Int32.ofNat (i + 1))), (own_sl (some (ch i))), (own_sl s8)] [])) t → Steps p.tables e below (s₁.setTop (entryFrame m #[(.ref t_o)] 9)) t := by
                intro t kt
                refine pre89 _ ?_
                show SS p e below m T24 70 #[vR (t_o), vJ (hi), s_, vJ (lo), s_, vI (d), vI ((Int32.ofNat i)), vI ((ch i)), (own_sl s8)] [(.int 45), (.int (ch i))] _
                refine zicmpYes X24 hx hby 70 122 rfl d14_70 (teq hc70_90).1 (by decide) (by decide) ?_
                refine ziinc (l' := #[vR (t_o), vJ (hi), s_, vJ (lo), s_, vI (d), vI (((Int32.ofNat i) + (1 : Int32))), vI ((ch i)), (own_sl s8)]) X24 hx hby d14_122 rfl rfl ?_
                refine zgoto X24 hx hby 125 23 rfl d14_125 (by decide) (by decide) ?_
                show SS p e below m T24 23 #[vR (t_o), vJ (hi), s_, vJ (lo), s_, vI (d), vI (((Int32.ofNat i) + (1 : Int32))), vI ((ch i)), (own_sl s8)] [] _
                rw [own_one]
                exact kt
              exact ih17 (i + 1) hi lo d (some (ch i)) s8 T24 _ X24 eh24 N25 (by omega) (by rw [own_pl, if_neg hc42_31, if_neg hc49_49, if_neg hc56_67, if_pos hc63_85, if_pos hc70_90] at hPL; exact hPL) preB94
            · obtain ⟨_, _, ⟨T96, L96, k96, n96⟩, -, X96, ⟨Lc96, hQ96, l96, y96, z96⟩, st96⟩ := Jvm.LawKit.callS X24 hx (y := y_38) hown (mvT hZ (hw _ (gm 148 rfl))) (mvT hZ (hw _ (gm 149 rfl))) (mvT hZ (hw _ (gm 111 rfl))) (mvT hZ (hw _ (gm 150 rfl))) (by decide) (backOf (W := 0) (own_emp l Z a0 hw [] e_o h0 n0 Z0 hSe hO) hZ (hw _ (gm 150 rfl)) (hw _ (gm 111 rfl)) (by decide) (by decide)) (g := (mkF m 73 #[vR (t_o), vJ (hi), s_, vJ (lo), s_, vI (d), vI ((Int32.ofNat i)), vI ((ch i)), (own_sl s8)] [])) rfl (by rw [hml]; rfl) (argsL := []) (rest := []) (lenOf own_pd22 rfl) rfl (by show 2 * 0 + _ ≤ _; exact Nat.le_of_eq rfl) (hb hby d14_73) (fun _ _ => ⟨rfl, eh24, (by decide : 0 + 0 ≤ _), (by decide : 0 + 0 ≤ _)⟩)
              dsimp only [Pt.U, Pt.locs, Pt.cells, Pt.slots] at X96 l96 y96 z96 st96 hQ96
              rw [l96, y96, z96] at X96
              obtain ⟨rfl, Nq96, eh96⟩ := hQ96
              have N97 := Fr.app N25 Nq96
              obtain ⟨fs, hr, hrun, hended, hW, hsame⟩ := X96.leave (v := some (.ref e_o)) (fun h => by rw [Bd.returns] at h; cases h) (hlocks := BodyLoose.notSynchronized Bd)
              refine ⟨_, _, pre89 _ ?_, hrun, hended, _, _, rfl, ?_, ⟨_, rfl⟩, hW, hsame.mono (by decide) (by decide)⟩
              · show SS p e below m T24 70 #[vR (t_o), vJ (hi), s_, vJ (lo), s_, vI (d), vI ((Int32.ofNat i)), vI ((ch i)), (own_sl s8)] [(.int 45), (.int (ch i))] _
                refine zicmpNo X24 hx hby d14_70 (feq hc70_90).1 ?_
                refine st96 _ ?_
                show SS p e below m T96 76 #[vR (t_o), vJ (hi), s_, vJ (lo), s_, vI (d), vI ((Int32.ofNat i)), vI ((ch i)), (own_sl s8)] [(.ref e_o)] _
                jvm_step X96.here [X96.here.top, hx, (hb hby d14_76), X96.method', Bd.returns, Value.isRef, FieldType.isReference]
                first | (intro acts; rw [hr _ acts rfl rfl rfl]) | rw [hr _ _ rfl rfl rfl]
                exact Steps.refl _
              · show Qown_prNL Z t_o b_o k_b ch cs e_o u_f h0 n0 _ T96.heap _
                rw [eh96]
                exact ⟨rfl, N97, rfl⟩
          · obtain ⟨_, _, ⟨T101, L101, k101, n101⟩, -, X101, ⟨Lc101, hQ101, l101, y101, z101⟩, st101⟩ := Jvm.LawKit.callS X24 hx (y := y_6) hown (mvT hZ (hw _ (gm 91 rfl))) (mvT hZ (hw _ (gm 92 rfl))) (mvT hZ (hw _ (gm 57 rfl))) (mvT hZ (hw _ (gm 93 rfl))) (by decide) (backOf (W := 0) (own_hxd l Z a0 hw [] (ch i) h0 n0 Z0 ) hZ (hw _ (gm 93 rfl)) (hw _ (gm 57 rfl)) (by decide) (by decide)) (g := (mkF m 79 #[vR (t_o), vJ (hi), s_, vJ (lo), s_, vI (d), vI ((Int32.ofNat i)), vI ((ch i)), (own_sl s8)] [(.int (ch i))])) rfl (by rw [hml]; rfl) (argsL := [(.int (ch i))]) (rest := []) (lenOf own_pd23 rfl) rfl (by show 2 * 0 + _ ≤ _; exact Nat.le_of_eq rfl) (hb hby d14_79) (fun _ _ => ⟨rfl, eh24, (by decide : 0 + 0 ≤ _), (by decide : 0 + 0 ≤ _)⟩)
            dsimp only [Pt.U, Pt.locs, Pt.cells, Pt.slots] at X101 l101 y101 z101 st101 hQ101
            rw [l101, y101, z101] at X101
            obtain ⟨rfl, Nq101, eh101⟩ := hQ101
            have N102 := Fr.app N25 Nq101
            have pre106 : ∀ t, Steps p.tables e below (T101.setTop (mkF m 86 #[vR (t_o), vJ (hi), s_, vJ (lo), s_, vI (d), vI ((Int32.ofNat i)), vI ((ch i)), vI ((own_hxd_f (ch i)))] [(.int (own_hxd_f (ch i)))])) t → Steps p.tables e below (s₁.setTop (entryFrame m #[(.ref t_o)] 9)) t := by
              intro t kt
              refine pre84 _ ?_
              show SS p e below m T24 63 #[vR (t_o), vJ (hi), s_, vJ (lo), s_, vI (d), vI ((Int32.ofNat i)), vI ((ch i)), (own_sl s8)] [(.int 23), (.int (Int32.ofNat i))] _
              refine zicmpYes X24 hx hby 63 77 rfl d14_63 (feq hc63_85).2 (by decide) (by decide) ?_
              refine ziload X24 hx hby d14_77 rfl ?_
              refine st101 _ ?_
              refine zistore (l' := #[vR (t_o), vJ (hi), s_, vJ (lo), s_, vI (d), vI ((Int32.ofNat i)), vI ((ch i)), vI ((own_hxd_f (ch i)))]) X101 hx hby d14_82 (match s8 with | none => rfl | some _ => rfl) ?_
              refine ziload X101 hx hby d14_84 rfl ?_
              exact kt
            by_cases hc86_107 : (own_hxd_f (ch i)) < (0 : Int32)
            · obtain ⟨_, _, ⟨T109, L109, k109, n109⟩, -, X109, ⟨Lc109, hQ109, l109, y109, z109⟩, st109⟩ := Jvm.LawKit.callS X101 hx (y := y_38) hown (mvT hZ (hw _ (gm 148 rfl))) (mvT hZ (hw _ (gm 149 rfl))) (mvT hZ (hw _ (gm 111 rfl))) (mvT hZ (hw _ (gm 150 rfl))) (by decide) (backOf (W := 0) (own_emp l Z a0 hw [] e_o h0 n0 Z0 hSe hO) hZ (hw _ (gm 150 rfl)) (hw _ (gm 111 rfl)) (by decide) (by decide)) (g := (mkF m 89 #[vR (t_o), vJ (hi), s_, vJ (lo), s_, vI (d), vI ((Int32.ofNat i)), vI ((ch i)), vI ((own_hxd_f (ch i)))] [])) rfl (by rw [hml]; rfl) (argsL := []) (rest := []) (lenOf own_pd22 rfl) rfl (by show 2 * 0 + _ ≤ _; exact Nat.le_of_eq rfl) (hb hby d14_89) (fun _ _ => ⟨rfl, eh101, (by decide : 0 + 0 ≤ _), (by decide : 0 + 0 ≤ _)⟩)
              dsimp only [Pt.U, Pt.locs, Pt.cells, Pt.slots] at X109 l109 y109 z109 st109 hQ109
              rw [l109, y109, z109] at X109
              obtain ⟨rfl, Nq109, eh109⟩ := hQ109
              have N110 := Fr.app N102 Nq109
              obtain ⟨fs, hr, hrun, hended, hW, hsame⟩ := X109.leave (v := some (.ref e_o)) (fun h => by rw [Bd.returns] at h; cases h) (hlocks := BodyLoose.notSynchronized Bd)
              refine ⟨_, _, pre106 _ ?_, hrun, hended, _, _, rfl, ?_, ⟨_, rfl⟩, hW, hsame.mono (by decide) (by decide)⟩
              · show SS p e below m T101 86 #[vR (t_o), vJ (hi), s_, vJ (lo), s_, vI (d), vI ((Int32.ofNat i)), vI ((ch i)), vI ((own_hxd_f (ch i)))] [(.int (own_hxd_f (ch i)))] _
                refine zifNo X101 hx hby d14_86 ((if0 _ _).trans (tlt hc86_107).2.1) ?_
                refine st109 _ ?_
                show SS p e below m T109 92 #[vR (t_o), vJ (hi), s_, vJ (lo), s_, vI (d), vI ((Int32.ofNat i)), vI ((ch i)), vI ((own_hxd_f (ch i)))] [(.ref e_o)] _
                jvm_step X109.here [X109.here.top, hx, (hb hby d14_92), X109.method', Bd.returns, Value.isRef, FieldType.isReference]
                first | (intro acts; rw [hr _ acts rfl rfl rfl]) | rw [hr _ _ rfl rfl rfl]
                exact Steps.refl _
              · show Qown_prNL Z t_o b_o k_b ch cs e_o u_f h0 n0 _ T109.heap _
                rw [eh109]
                exact ⟨rfl, N110, rfl⟩
            · have pre115 : ∀ t, Steps p.tables e below (T101.setTop (mkF m 97 #[vR (t_o), vJ (hi), s_, vJ (lo), s_, vI (d), vI ((Int32.ofNat i)), vI ((ch i)), vI ((own_hxd_f (ch i)))] [(.int 16), (.int d)])) t → Steps p.tables e below (s₁.setTop (entryFrame m #[(.ref t_o)] 9)) t := by
                intro t kt
                refine pre106 _ ?_
                show SS p e below m T101 86 #[vR (t_o), vJ (hi), s_, vJ (lo), s_, vI (d), vI ((Int32.ofNat i)), vI ((ch i)), vI ((own_hxd_f (ch i)))] [(.int (own_hxd_f (ch i)))] _
                refine zifYes X101 hx hby 86 93 rfl d14_86 ((if0 _ _).trans (flt hc86_107).2.1) (by decide) (by decide) ?_
                refine ziload X101 hx hby d14_93 rfl ?_
                refine zbipush X101 hx hby (16) d14_95 rfl ?_
                exact kt
              by_cases hc97_116 : d < (16 : Int32)
              · have preB129 : ∀ t, Steps p.tables e below (T101.setTop (mkF m 23 #[vR (t_o), vJ (((hi <<< ((4 : Int32) &&& 0x3f).toInt64) ||| ((own_hxd_f (ch i)).toInt64))), s_, vJ (lo), s_, vI ((d + (1 : Int32))), vI ((Int32.ofNat (i + 1))), (own_sl (some (ch i))), (own_sl (some (own_hxd_f (ch i))))] [])) t → Steps p.tables e below (s₁.setTop (entryFrame m #[(.ref t_o)] 9)) t := by
                  intro t kt
                  refine pre115 _ ?_
                  show SS p e below m T101 97 #[vR (t_o), vJ (hi), s_, vJ (lo), s_, vI (d), vI ((Int32.ofNat i)), vI ((ch i)), vI ((own_hxd_f (ch i)))] [(.int 16), (.int d)] _
                  refine zicmpNo X101 hx hby d14_97 (tlt hc97_116).2.1 ?_
                  refine zlloadN X101 hx hby d14_100 rfl ?_
                  refine ziconst X101 hx hby (4) d14_101 rfl ?_
                  show SS p e below m T101 102 #[vR (t_o), vJ (hi), s_, vJ (lo), s_, vI (d), vI ((Int32.ofNat i)), vI ((ch i)), vI ((own_hxd_f (ch i)))] [(.int 4), (.long hi)] _
                  refine XS.lshl X101.here hx rfl (hb hby d14_102) rfl ?_
                  show SS p e below m T101 103 #[vR (t_o), vJ (hi), s_, vJ (lo), s_, vI (d), vI ((Int32.ofNat i)), vI ((ch i)), vI ((own_hxd_f (ch i)))] [(.long (hi <<< ((4 : Int32) &&& 0x3f).toInt64))] _
                  refine ziload X101 hx hby d14_103 rfl ?_
                  show SS p e below m T101 105 #[vR (t_o), vJ (hi), s_, vJ (lo), s_, vI (d), vI ((Int32.ofNat i)), vI ((ch i)), vI ((own_hxd_f (ch i)))] [(.int (own_hxd_f (ch i))), (.long (hi <<< ((4 : Int32) &&& 0x3f).toInt64))] _
                  refine XS.i2l X101.here hx rfl (hb hby d14_105) rfl ?_
                  show SS p e below m T101 106 #[vR (t_o), vJ (hi), s_, vJ (lo), s_, vI (d), vI ((Int32.ofNat i)), vI ((ch i)), vI ((own_hxd_f (ch i)))] [(.long ((own_hxd_f (ch i)).toInt64)), (.long (hi <<< ((4 : Int32) &&& 0x3f).toInt64))] _
                  refine XS.lor X101.here hx rfl (hb hby d14_106) rfl ?_
                  show SS p e below m T101 107 #[vR (t_o), vJ (hi), s_, vJ (lo), s_, vI (d), vI ((Int32.ofNat i)), vI ((ch i)), vI ((own_hxd_f (ch i)))] [(.long ((hi <<< ((4 : Int32) &&& 0x3f).toInt64) ||| ((own_hxd_f (ch i)).toInt64)))] _
                  refine zlstoreN (l' := #[vR (t_o), vJ (((hi <<< ((4 : Int32) &&& 0x3f).toInt64) ||| ((own_hxd_f (ch i)).toInt64))), s_, vJ (lo), s_, vI (d), vI ((Int32.ofNat i)), vI ((ch i)), vI ((own_hxd_f (ch i)))]) X101 hx hby d14_107 rfl ?_
                  refine zgoto X101 hx hby 108 119 rfl d14_108 (by decide) (by decide) ?_
                  refine ziinc (l' := #[vR (t_o), vJ (((hi <<< ((4 : Int32) &&& 0x3f).toInt64) ||| ((own_hxd_f (ch i)).toInt64))), s_, vJ (lo), s_, vI ((d + (1 : Int32))), vI ((Int32.ofNat i)), vI ((ch i)), vI ((own_hxd_f (ch i)))]) X101 hx hby d14_119 rfl rfl ?_
                  refine ziinc (l' := #[vR (t_o), vJ (((hi <<< ((4 : Int32) &&& 0x3f).toInt64) ||| ((own_hxd_f (ch i)).toInt64))), s_, vJ (lo), s_, vI ((d + (1 : Int32))), vI (((Int32.ofNat i) + (1 : Int32))), vI ((ch i)), vI ((own_hxd_f (ch i)))]) X101 hx hby d14_122 rfl rfl ?_
                  refine zgoto X101 hx hby 125 23 rfl d14_125 (by decide) (by decide) ?_
                  show SS p e below m T101 23 #[vR (t_o), vJ (((hi <<< ((4 : Int32) &&& 0x3f).toInt64) ||| ((own_hxd_f (ch i)).toInt64))), s_, vJ (lo), s_, vI ((d + (1 : Int32))), vI (((Int32.ofNat i) + (1 : Int32))), vI ((ch i)), vI ((own_hxd_f (ch i)))] [] _
                  rw [own_one]
                  exact kt
                exact ih17 (i + 1) ((hi <<< ((4 : Int32) &&& 0x3f).toInt64) ||| ((own_hxd_f (ch i)).toInt64)) lo (d + (1 : Int32)) (some (ch i)) (some (own_hxd_f (ch i))) T101 _ X101 eh101 N102 (by omega) (by rw [own_pl, if_neg hc42_31, if_neg hc49_49, if_neg hc56_67, if_neg hc63_85, if_neg hc86_107, if_pos hc97_116] at hPL; exact hPL) preB129
              · have preB141 : ∀ t, Steps p.tables e below (T101.setTop (mkF m 23 #[vR (t_o), vJ (hi), s_, vJ (((lo <<< ((4 : Int32) &&& 0x3f).toInt64) ||| ((own_hxd_f (ch i)).toInt64))), s_, vI ((d + (1 : Int32))), vI ((Int32.ofNat (i + 1))), (own_sl (some (ch i))), (own_sl (some (own_hxd_f (ch i))))] [])) t → Steps p.tables e below (s₁.setTop (entryFrame m #[(.ref t_o)] 9)) t := by
                  intro t kt
                  refine pre115 _ ?_
                  show SS p e below m T101 97 #[vR (t_o), vJ (hi), s_, vJ (lo), s_, vI (d), vI ((Int32.ofNat i)), vI ((ch i)), vI ((own_hxd_f (ch i)))] [(.int 16), (.int d)] _
                  refine zicmpYes X101 hx hby 97 111 rfl d14_97 (flt hc97_116).2.1 (by decide) (by decide) ?_
                  refine zlloadN X101 hx hby d14_111 rfl ?_
                  refine ziconst X101 hx hby (4) d14_112 rfl ?_
                  show SS p e below m T101 113 #[vR (t_o), vJ (hi), s_, vJ (lo), s_, vI (d), vI ((Int32.ofNat i)), vI ((ch i)), vI ((own_hxd_f (ch i)))] [(.int 4), (.long lo)] _
                  refine XS.lshl X101.here hx rfl (hb hby d14_113) rfl ?_
                  show SS p e below m T101 114 #[vR (t_o), vJ (hi), s_, vJ (lo), s_, vI (d), vI ((Int32.ofNat i)), vI ((ch i)), vI ((own_hxd_f (ch i)))] [(.long (lo <<< ((4 : Int32) &&& 0x3f).toInt64))] _
                  refine ziload X101 hx hby d14_114 rfl ?_
                  show SS p e below m T101 116 #[vR (t_o), vJ (hi), s_, vJ (lo), s_, vI (d), vI ((Int32.ofNat i)), vI ((ch i)), vI ((own_hxd_f (ch i)))] [(.int (own_hxd_f (ch i))), (.long (lo <<< ((4 : Int32) &&& 0x3f).toInt64))] _
                  refine XS.i2l X101.here hx rfl (hb hby d14_116) rfl ?_
                  show SS p e below m T101 117 #[vR (t_o), vJ (hi), s_, vJ (lo), s_, vI (d), vI ((Int32.ofNat i)), vI ((ch i)), vI ((own_hxd_f (ch i)))] [(.long ((own_hxd_f (ch i)).toInt64)), (.long (lo <<< ((4 : Int32) &&& 0x3f).toInt64))] _
                  refine XS.lor X101.here hx rfl (hb hby d14_117) rfl ?_
                  show SS p e below m T101 118 #[vR (t_o), vJ (hi), s_, vJ (lo), s_, vI (d), vI ((Int32.ofNat i)), vI ((ch i)), vI ((own_hxd_f (ch i)))] [(.long ((lo <<< ((4 : Int32) &&& 0x3f).toInt64) ||| ((own_hxd_f (ch i)).toInt64)))] _
                  refine zlstoreN (l' := #[vR (t_o), vJ (hi), s_, vJ (((lo <<< ((4 : Int32) &&& 0x3f).toInt64) ||| ((own_hxd_f (ch i)).toInt64))), s_, vI (d), vI ((Int32.ofNat i)), vI ((ch i)), vI ((own_hxd_f (ch i)))]) X101 hx hby d14_118 rfl ?_
                  refine ziinc (l' := #[vR (t_o), vJ (hi), s_, vJ (((lo <<< ((4 : Int32) &&& 0x3f).toInt64) ||| ((own_hxd_f (ch i)).toInt64))), s_, vI ((d + (1 : Int32))), vI ((Int32.ofNat i)), vI ((ch i)), vI ((own_hxd_f (ch i)))]) X101 hx hby d14_119 rfl rfl ?_
                  refine ziinc (l' := #[vR (t_o), vJ (hi), s_, vJ (((lo <<< ((4 : Int32) &&& 0x3f).toInt64) ||| ((own_hxd_f (ch i)).toInt64))), s_, vI ((d + (1 : Int32))), vI (((Int32.ofNat i) + (1 : Int32))), vI ((ch i)), vI ((own_hxd_f (ch i)))]) X101 hx hby d14_122 rfl rfl ?_
                  refine zgoto X101 hx hby 125 23 rfl d14_125 (by decide) (by decide) ?_
                  show SS p e below m T101 23 #[vR (t_o), vJ (hi), s_, vJ (((lo <<< ((4 : Int32) &&& 0x3f).toInt64) ||| ((own_hxd_f (ch i)).toInt64))), s_, vI ((d + (1 : Int32))), vI (((Int32.ofNat i) + (1 : Int32))), vI ((ch i)), vI ((own_hxd_f (ch i)))] [] _
                  rw [own_one]
                  exact kt
                exact ih17 (i + 1) hi ((lo <<< ((4 : Int32) &&& 0x3f).toInt64) ||| ((own_hxd_f (ch i)).toInt64)) (d + (1 : Int32)) (some (ch i)) (some (own_hxd_f (ch i))) T101 _ X101 eh101 N102 (by omega) (by rw [own_pl, if_neg hc42_31, if_neg hc49_49, if_neg hc56_67, if_neg hc63_85, if_neg hc86_107, if_neg hc97_116] at hPL; exact hPL) preB141
theorem own_ef_own_prNU (m : MethodId) (t_o : Addr) : entryFrame m #[(.ref t_o)] 9 = mkF m 0 #[.val (.ref t_o), .unset, .unset, .unset, .unset, .unset, .unset, .unset, .unset] [] := by first | (simp [entryFrame, mkF, argsToLocals, Value.category]; done) | rfl
def Qown_prNU (Z : State) (t_o : Addr) (b_o : Addr) (k_b : ClassId) (ch : Nat → Int32) (cs : Int32) (e_o : Addr) (u_f : Value) (h0 : Heap) (n0 : Nat) (v : Option Value) (h : Heap) (L : List Loc) : Prop := v = some (.ref e_o) ∧ Fr n0 L ∧ h = h0
set_option maxRecDepth 65536 in
set_option maxHeartbeats 40000000 in
theorem own_prNU (l : Launch) (Z : State) (a0 : Array Value) (hw : ∀ d ∈ tables_1, d.before a0 Z = true) (ws : List Jvm.Cond) (t_o : Addr) (b_o : Addr) (k_b : ClassId) (ch : Nat → Int32) (cs : Int32) (e_o : Addr) (u_f : Value) (h0 : Heap) (n0 : Nat) (Z0 : n0 ≤ h0.size) (hxa : Exa Z h0 t_o "java/lang/String") (hcd : Fld Z h0 t_o "java/lang/String" "coder" "B" (.int 1)) (hfv : Fld Z h0 t_o "java/lang/String" "value" "[B" (.ref b_o)) (hB : Arv Z h0 b_o k_b .byte (72 : Int32) (own_fl 72 (own_ug ch)) (.int 0)) (hO : Old Z n0 h0) (hS : Sta Z Z.heap "java/lang/String" "COMPACT_STRINGS" "Z" (.int cs)) (hcs : ¬ cs = (0 : Int32)) (hSe : Sta Z Z.heap "java/util/Optional" "EMPTY" "Ljava/util/Optional;" (.ref e_o)) (hSa : Sta Z Z.heap "java/lang/StringUTF16" "$assertionsDisabled" "Z" (.int 1)) (hSh : Sta Z Z.heap "java/lang/StringUTF16" "HI_BYTE_SHIFT" "I" (.int 0)) (hSl : Sta Z Z.heap "java/lang/StringUTF16" "LO_BYTE_SHIFT" "I" (.int 8)) (hrg : ∀ j, nar .char (ch j) = ch j) (hSf : Sta Z Z.heap "jdk/internal/util/Preconditions" "SIOOBE_FORMATTER" "Ljava/util/function/BiFunction;" u_f) (hf : u_f.isRef = true) (hPp : own_pl ch 36 0 (0 : Int32) (0 : Int64) (0 : Int64) = none) :
    MetFree l y_39 (head1 (Jvm.Cond.code y_39 prog_20_method_3_code 9 (some (.object "java/util/Optional")) :: ws) (RM 5 0 0 66)) (fun a U => a = #[(.ref t_o)] ∧ Z.Warmed39 U.vm ∧ U.heap = h0) (fun _ _ _ _ _ => True) (fun _ U o U' => ∃ v L, o = .returned v ∧ Qown_prNU Z t_o b_o k_b ch cs e_o u_f h0 n0 v U'.heap L ∧ FrameEnd U o U' L (RM 5 0 0 66).cells (RM 5 0 0 66).slots) := by
  refine MetFree.of_bodySF (plainFor_of_name own_pn1) hisR ?_
  intro p e s m args below meth c s₁ Bd hml0 hP hK
  obtain ⟨rfl, hZ, hh⟩ := hP
  have hx := Bd.exec
  have hby := Bd.bytes
  have hml : c.maxLocals = 9 := hml0
  have hown : s.vm.findClass "com/example/rosterhall/rosterhall/ResourceId" = some m.cls := findClass_of_methodNamed Bd.named
  have X0 : Stand p l e (RM 5 0 0 66) s m #[(.ref t_o)] below meth c s₁ [] 0 0 := Stand.of_body Bd
  have e0 : s₁.heap = h0 := by rw [← hh, Bd.state]; rfl
  have N0 := Fr.nil n0
  have pre0 : ∀ t, Steps p.tables e below (s₁.setTop (mkF m 0 #[vR (t_o), u_, u_, u_, u_, u_, u_, u_, u_] [])) t → Steps p.tables e below (s₁.setTop (entryFrame m #[(.ref t_o)] 9)) t := fun t k => castTop (own_ef_own_prNU m t_o) k
  obtain ⟨cq3, kq3, q3a, q3b, q3c⟩ := isOf hZ e0 hxa
  obtain ⟨_, _, ⟨T3, L3, k3, n3⟩, -, X3, ⟨Lc3, hQ3, l3, y3, z3⟩, st3⟩ := X0.virtualBack hx (y := y_27) (z := y_27) hown (mvT hZ (hw _ (gm 59 rfl))) (mvT hZ (hw _ (gm 60 rfl))) (notFace_of_selects (args := #[]) (mvT hZ (hw _ (gm 62 rfl)))) (mvT hZ (hw _ (gm 62 rfl))) (mvT hZ (hw _ (gm 61 rfl))) (by decide) (backOf (W := 0) (own_len36U l Z a0 hw [] t_o b_o k_b (own_fl 72 (own_ug ch)) cs h0 n0 Z0 hxa hcd hO hS hcs hfv hB) hZ (hw _ (gm 63 rfl)) (hw _ (gm 28 rfl)) (by decide) (by decide)) q3a q3c (g := (mkF m 1 #[vR (t_o), u_, u_, u_, u_, u_, u_, u_, u_] [(.ref t_o)])) rfl (by rw [hml]; rfl) (Steps.refl _) (argsL := []) (rest := []) (lenOf own_pd21 rfl) rfl (by show 2 * 0 + _ ≤ _; exact Nat.le_of_eq rfl) (hb hby d14_1) (fun _ _ => ⟨rfl, e0, (by decide : 0 + 0 ≤ _), (by decide : 0 + 0 ≤ _)⟩)
  dsimp only [Pt.U, Pt.locs, Pt.cells, Pt.slots] at X3 l3 y3 z3 st3 hQ3
  rw [l3, y3, z3] at X3
  obtain ⟨rfl, Nq3, eh3⟩ := hQ3
  have N4 := Fr.app N0 Nq3
  have pre16 : ∀ t, Steps p.tables e below (T3.setTop (mkF m 23 #[vR (t_o), vJ (0), s_, vJ (0), s_, vI (0), vI (0), u_, u_] [])) t → Steps p.tables e below (s₁.setTop (entryFrame m #[(.ref t_o)] 9)) t := by
    intro t kt
    refine pre0 _ ?_
    show SS p e below m s₁ 0 #[vR (t_o), u_, u_, u_, u_, u_, u_, u_, u_] [] _
    refine zaloadN X0 hx hby d14_0 rfl rfl ?_
    refine st3.trans ?_
    refine zbipush X3 hx hby (36) d14_4 rfl ?_
    refine zicmpYes X3 hx hby 6 13 rfl d14_6 (teq ((by decide) : (36 : Int32) = (36 : Int32))).1 (by decide) (by decide) ?_
    show SS p e below m T3 13 #[vR (t_o), u_, u_, u_, u_, u_, u_, u_, u_] [] _
    refine XS.lconst X3.here hx rfl (hb hby d14_13) ?_
    show SS p e below m T3 14 #[vR (t_o), u_, u_, u_, u_, u_, u_, u_, u_] [(.long 0)] _
    refine zlstoreN (l' := #[vR (t_o), vJ (0), s_, u_, u_, u_, u_, u_, u_]) X3 hx hby d14_14 rfl ?_
    show SS p e below m T3 15 #[vR (t_o), vJ (0), s_, u_, u_, u_, u_, u_, u_] [] _
    refine XS.lconst X3.here hx rfl (hb hby d14_15) ?_
    show SS p e below m T3 16 #[vR (t_o), vJ (0), s_, u_, u_, u_, u_, u_, u_] [(.long 0)] _
    refine zlstoreN (l' := #[vR (t_o), vJ (0), s_, vJ (0), s_, u_, u_, u_, u_]) X3 hx hby d14_16 rfl ?_
    refine ziconst X3 hx hby (0) d14_17 rfl ?_
    refine zistore (l' := #[vR (t_o), vJ (0), s_, vJ (0), s_, vI (0), u_, u_, u_]) X3 hx hby d14_18 rfl ?_
    refine ziconst X3 hx hby (0) d14_20 rfl ?_
    refine zistore (l' := #[vR (t_o), vJ (0), s_, vJ (0), s_, vI (0), vI (0), u_, u_]) X3 hx hby d14_21 rfl ?_
    exact kt
  obtain ⟨k, i, hi, lo, d, s7, s8, TL17, LL17, XL17, eL17, NL17, hiL, hPL, preL17⟩ : ∃ (k : Nat) (i : Nat) (hi : Int64) (lo : Int64) (d : Int32) (s7 : Option Int32) (s8 : Option Int32) (TL17 : State) (LL17 : List Loc), Stand p l e (RM 5 0 0 66) s m #[(.ref t_o)] below meth c TL17 LL17 0 0 ∧ TL17.heap = h0 ∧ Fr n0 LL17 ∧ (i + k = 36) ∧ (own_pl ch k i d hi lo = none) ∧ (∀ t, Steps p.tables e below (TL17.setTop (mkF m 23 #[vR (t_o), vJ (hi), s_, vJ (lo), s_, vI (d), vI ((Int32.ofNat i)), (own_sl s7), (own_sl s8)] [])) t → Steps p.tables e below (s₁.setTop (entryFrame m #[(.ref t_o)] 9)) t) := ⟨36, 0, (0 : Int64), (0 : Int64), (0 : Int32), none, none, T3, _, X3, eh3, N4, (Nat.zero_add _), hPp, pre16⟩
  induction k generalizing i hi lo d s7 s8 TL17 LL17 with
  | zero =>
    exact absurd hPL (by simp [own_pl])
  | succ k ih17 =>
    obtain ⟨cq24, kq24, q24a, q24b, q24c⟩ := isOf hZ eL17 hxa
    obtain ⟨_, _, ⟨T24, L24, k24, n24⟩, -, X24, ⟨Lc24, hQ24, l24, y24, z24⟩, st24⟩ := XL17.virtualBack hx (y := y_28) (z := y_28) hown (mvT hZ (hw _ (gm 69 rfl))) (mvT hZ (hw _ (gm 70 rfl))) (notFace_of_selects (args := #[]) (mvT hZ (hw _ (gm 72 rfl)))) (mvT hZ (hw _ (gm 72 rfl))) (mvT hZ (hw _ (gm 71 rfl))) (by decide) (backOf (W := 0) (own_chaU l Z a0 hw [] t_o i b_o k_b ch u_f cs h0 n0 Z0 hxa hcd hO hS hcs hfv hB (by omega) hSa hSh hSl hrg hSf hf) hZ (hw _ (gm 73 rfl)) (hw _ (gm 28 rfl)) (by decide) (by decide)) q24a q24c (g := (mkF m 33 #[vR (t_o), vJ (hi), s_, vJ (lo), s_, vI (d), vI ((Int32.ofNat i)), (own_sl s7), (own_sl s8)] [(.int (Int32.ofNat i)), (.ref t_o)])) rfl (by rw [hml]; rfl) (Steps.refl _) (argsL := [(.int (Int32.ofNat i))]) (rest := []) (lenOf own_pd0 rfl) rfl (by show 2 * 0 + _ ≤ _; exact Nat.le_of_eq rfl) (hb hby d14_33) (fun _ _ => ⟨rfl, eL17, (by decide : 0 + 0 ≤ _), (by decide : 0 + 0 ≤ _)⟩)
    dsimp only [Pt.U, Pt.locs, Pt.cells, Pt.slots] at X24 l24 y24 z24 st24 hQ24
    rw [l24, y24, z24] at X24
    obtain ⟨rfl, Nq24, eh24⟩ := hQ24
    have N25 := Fr.app NL17 Nq24
    have pre30 : ∀ t, Steps p.tables e below (T24.setTop (mkF m 42 #[vR (t_o), vJ (hi), s_, vJ (lo), s_, vI (d), vI ((Int32.ofNat i)), vI ((ch i)), (own_sl s8)] [(.int 8), (.int (Int32.ofNat i))])) t → Steps p.tables e below (s₁.setTop (entryFrame m #[(.ref t_o)] 9)) t := by
      intro t kt
      refine preL17 _ ?_
      show SS p e below m TL17 23 #[vR (t_o), vJ (hi), s_, vJ (lo), s_, vI (d), vI ((Int32.ofNat i)), (own_sl s7), (own_sl s8)] [] _
      refine ziload XL17 hx hby d14_23 rfl ?_
      refine zbipush XL17 hx hby (36) d14_25 rfl ?_
      refine zicmpNo XL17 hx hby d14_27 (tlt ((own_ltN (n := 36) (by omega) (by decide)) : (Int32.ofNat i) < (36 : Int32))).2.1 ?_
      refine zaloadN XL17 hx hby d14_30 rfl rfl ?_
      refine ziload XL17 hx hby d14_31 rfl ?_
      refine st24.trans ?_
      refine zistore (l' := #[vR (t_o), vJ (hi), s_, vJ (lo), s_, vI (d), vI ((Int32.ofNat i)), vI ((ch i)), (own_sl s8)]) X24 hx hby d14_36 (match s7 with | none => rfl | some _ => rfl) ?_
      refine ziload X24 hx hby d14_38 rfl ?_
      refine zbipush X24 hx hby (8) d14_40 rfl ?_
      exact kt
    by_cases hc42_31 : (Int32.ofNat i) = (8 : Int32)
    · have pre35 : ∀ t, Steps p.tables e below (T24.setTop (mkF m 70 #[vR (t_o), vJ (hi), s_, vJ (lo), s_, vI (d), vI ((Int32.ofNat i)), vI ((ch i)), (own_sl s8)] [(.int 45), (.int (ch i))])) t → Steps p.tables e below (s₁.setTop (entryFrame m #[(.ref t_o)] 9)) t := by
        intro t kt
        refine pre30 _ ?_
        show SS p e below m T24 42 #[vR (t_o), vJ (hi), s_, vJ (lo), s_, vI (d), vI ((Int32.ofNat i)), vI ((ch i)), (own_sl s8)] [(.int 8), (.int (Int32.ofNat i))] _
        refine zicmpYes X24 hx hby 42 66 rfl d14_42 (teq hc42_31).1 (by decide) (by decide) ?_
        refine ziload X24 hx hby d14_66 rfl ?_
        refine zbipush X24 hx hby (45) d14_68 rfl ?_
        exact kt
      by_cases hc70_36 : (ch i) = (45 : Int32)
      · have preB40 : ∀ t, Steps p.tables e below (T24.setTop (mkF m 23 #[vR (t_o), vJ (hi), s_, vJ (lo), s_, vI (d), vI ((Int32.ofNat (i + 1))), (own_sl (some (ch i))), (own_sl s8)] [])) t → Steps p.tables e below (s₁.setTop (entryFrame m #[(.ref t_o)] 9)) t := by
          intro t kt
          refine pre35 _ ?_
          show SS p e below m T24 70 #[vR (t_o), vJ (hi), s_, vJ (lo), s_, vI (d), vI ((Int32.ofNat i)), vI ((ch i)), (own_sl s8)] [(.int 45), (.int (ch i))] _
          refine zicmpYes X24 hx hby 70 122 rfl d14_70 (teq hc70_36).1 (by decide) (by decide) ?_
          refine ziinc (l' := #[vR (t_o), vJ (hi), s_, vJ (lo), s_, vI (d), vI (((Int32.ofNat i) + (1 : Int32))), vI ((ch i)), (own_sl s8)]) X24 hx hby d14_122 rfl rfl ?_
          refine zgoto X24 hx hby 125 23 rfl d14_125 (by decide) (by decide) ?_
          show SS p e below m T24 23 #[vR (t_o), vJ (hi), s_, vJ (lo), s_, vI (d), vI (((Int32.ofNat i) + (1 : Int32))), vI ((ch i)), (own_sl s8)] [] _
          rw [own_one]
          exact kt
        exact ih17 (i + 1) hi lo d (some (ch i)) s8 T24 _ X24 eh24 N25 (by omega) (by rw [own_pl, if_pos hc42_31, if_pos hc70_36] at hPL; exact hPL) preB40
      · obtain ⟨_, _, ⟨T42, L42, k42, n42⟩, -, X42, ⟨Lc42, hQ42, l42, y42, z42⟩, st42⟩ := Jvm.LawKit.callS X24 hx (y := y_38) hown (mvT hZ (hw _ (gm 148 rfl))) (mvT hZ (hw _ (gm 149 rfl))) (mvT hZ (hw _ (gm 111 rfl))) (mvT hZ (hw _ (gm 150 rfl))) (by decide) (backOf (W := 0) (own_emp l Z a0 hw [] e_o h0 n0 Z0 hSe hO) hZ (hw _ (gm 150 rfl)) (hw _ (gm 111 rfl)) (by decide) (by decide)) (g := (mkF m 73 #[vR (t_o), vJ (hi), s_, vJ (lo), s_, vI (d), vI ((Int32.ofNat i)), vI ((ch i)), (own_sl s8)] [])) rfl (by rw [hml]; rfl) (argsL := []) (rest := []) (lenOf own_pd22 rfl) rfl (by show 2 * 0 + _ ≤ _; exact Nat.le_of_eq rfl) (hb hby d14_73) (fun _ _ => ⟨rfl, eh24, (by decide : 0 + 0 ≤ _), (by decide : 0 + 0 ≤ _)⟩)
        dsimp only [Pt.U, Pt.locs, Pt.cells, Pt.slots] at X42 l42 y42 z42 st42 hQ42
        rw [l42, y42, z42] at X42
        obtain ⟨rfl, Nq42, eh42⟩ := hQ42
        have N43 := Fr.app N25 Nq42
        obtain ⟨fs, hr, hrun, hended, hW, hsame⟩ := X42.leave (v := some (.ref e_o)) (fun h => by rw [Bd.returns] at h; cases h) (hlocks := BodyLoose.notSynchronized Bd)
        refine ⟨_, _, pre35 _ ?_, hrun, hended, _, _, rfl, ?_, ⟨_, rfl⟩, hW, hsame.mono (by decide) (by decide)⟩
        · show SS p e below m T24 70 #[vR (t_o), vJ (hi), s_, vJ (lo), s_, vI (d), vI ((Int32.ofNat i)), vI ((ch i)), (own_sl s8)] [(.int 45), (.int (ch i))] _
          refine zicmpNo X24 hx hby d14_70 (feq hc70_36).1 ?_
          refine st42 _ ?_
          show SS p e below m T42 76 #[vR (t_o), vJ (hi), s_, vJ (lo), s_, vI (d), vI ((Int32.ofNat i)), vI ((ch i)), (own_sl s8)] [(.ref e_o)] _
          jvm_step X42.here [X42.here.top, hx, (hb hby d14_76), X42.method', Bd.returns, Value.isRef, FieldType.isReference]
          first | (intro acts; rw [hr _ acts rfl rfl rfl]) | rw [hr _ _ rfl rfl rfl]
          exact Steps.refl _
        · show Qown_prNU Z t_o b_o k_b ch cs e_o u_f h0 n0 _ T42.heap _
          rw [eh42]
          exact ⟨rfl, N43, rfl⟩
    · have pre48 : ∀ t, Steps p.tables e below (T24.setTop (mkF m 49 #[vR (t_o), vJ (hi), s_, vJ (lo), s_, vI (d), vI ((Int32.ofNat i)), vI ((ch i)), (own_sl s8)] [(.int 13), (.int (Int32.ofNat i))])) t → Steps p.tables e below (s₁.setTop (entryFrame m #[(.ref t_o)] 9)) t := by
        intro t kt
        refine pre30 _ ?_
        show SS p e below m T24 42 #[vR (t_o), vJ (hi), s_, vJ (lo), s_, vI (d), vI ((Int32.ofNat i)), vI ((ch i)), (own_sl s8)] [(.int 8), (.int (Int32.ofNat i))] _
        refine zicmpNo X24 hx hby d14_42 (feq hc42_31).1 ?_
        refine ziload X24 hx hby d14_45 rfl ?_
        refine zbipush X24 hx hby (13) d14_47 rfl ?_
        exact kt
      by_cases hc49_49 : (Int32.ofNat i) = (13 : Int32)
      · have pre53 : ∀ t, Steps p.tables e below (T24.setTop (mkF m 70 #[vR (t_o), vJ (hi), s_, vJ (lo), s_, vI (d), vI ((Int32.ofNat i)), vI ((ch i)), (own_sl s8)] [(.int 45), (.int (ch i))])) t → Steps p.tables e below (s₁.setTop (entryFrame m #[(.ref t_o)] 9)) t := by
          intro t kt
          refine pre48 _ ?_
          show SS p e below m T24 49 #[vR (t_o), vJ (hi), s_, vJ (lo), s_, vI (d), vI ((Int32.ofNat i)), vI ((ch i)), (own_sl s8)] [(.int 13), (.int (Int32.ofNat i))] _
          refine zicmpYes X24 hx hby 49 66 rfl d14_49 (teq hc49_49).1 (by decide) (by decide) ?_
          refine ziload X24 hx hby d14_66 rfl ?_
          refine zbipush X24 hx hby (45) d14_68 rfl ?_
          exact kt
        by_cases hc70_54 : (ch i) = (45 : Int32)
        · have preB58 : ∀ t, Steps p.tables e below (T24.setTop (mkF m 23 #[vR (t_o), vJ (hi), s_, vJ (lo), s_, vI (d), vI ((Int32.ofNat (i + 1))), (own_sl (some (ch i))), (own_sl s8)] [])) t → Steps p.tables e below (s₁.setTop (entryFrame m #[(.ref t_o)] 9)) t := by
            intro t kt
            refine pre53 _ ?_
            show SS p e below m T24 70 #[vR (t_o), vJ (hi), s_, vJ (lo), s_, vI (d), vI ((Int32.ofNat i)), vI ((ch i)), (own_sl s8)] [(.int 45), (.int (ch i))] _
            refine zicmpYes X24 hx hby 70 122 rfl d14_70 (teq hc70_54).1 (by decide) (by decide) ?_
            refine ziinc (l' := #[vR (t_o), vJ (hi), s_, vJ (lo), s_, vI (d), vI (((Int32.ofNat i) + (1 : Int32))), vI ((ch i)), (own_sl s8)]) X24 hx hby d14_122 rfl rfl ?_
            refine zgoto X24 hx hby 125 23 rfl d14_125 (by decide) (by decide) ?_
            show SS p e below m T24 23 #[vR (t_o), vJ (hi), s_, vJ (lo), s_, vI (d), vI (((Int32.ofNat i) + (1 : Int32))), vI ((ch i)), (own_sl s8)] [] _
            rw [own_one]
            exact kt
          exact ih17 (i + 1) hi lo d (some (ch i)) s8 T24 _ X24 eh24 N25 (by omega) (by rw [own_pl, if_neg hc42_31, if_pos hc49_49, if_pos hc70_54] at hPL; exact hPL) preB58
        · obtain ⟨_, _, ⟨T60, L60, k60, n60⟩, -, X60, ⟨Lc60, hQ60, l60, y60, z60⟩, st60⟩ := Jvm.LawKit.callS X24 hx (y := y_38) hown (mvT hZ (hw _ (gm 148 rfl))) (mvT hZ (hw _ (gm 149 rfl))) (mvT hZ (hw _ (gm 111 rfl))) (mvT hZ (hw _ (gm 150 rfl))) (by decide) (backOf (W := 0) (own_emp l Z a0 hw [] e_o h0 n0 Z0 hSe hO) hZ (hw _ (gm 150 rfl)) (hw _ (gm 111 rfl)) (by decide) (by decide)) (g := (mkF m 73 #[vR (t_o), vJ (hi), s_, vJ (lo), s_, vI (d), vI ((Int32.ofNat i)), vI ((ch i)), (own_sl s8)] [])) rfl (by rw [hml]; rfl) (argsL := []) (rest := []) (lenOf own_pd22 rfl) rfl (by show 2 * 0 + _ ≤ _; exact Nat.le_of_eq rfl) (hb hby d14_73) (fun _ _ => ⟨rfl, eh24, (by decide : 0 + 0 ≤ _), (by decide : 0 + 0 ≤ _)⟩)
          dsimp only [Pt.U, Pt.locs, Pt.cells, Pt.slots] at X60 l60 y60 z60 st60 hQ60
          rw [l60, y60, z60] at X60
          obtain ⟨rfl, Nq60, eh60⟩ := hQ60
          have N61 := Fr.app N25 Nq60
          obtain ⟨fs, hr, hrun, hended, hW, hsame⟩ := X60.leave (v := some (.ref e_o)) (fun h => by rw [Bd.returns] at h; cases h) (hlocks := BodyLoose.notSynchronized Bd)
          refine ⟨_, _, pre53 _ ?_, hrun, hended, _, _, rfl, ?_, ⟨_, rfl⟩, hW, hsame.mono (by decide) (by decide)⟩
          · show SS p e below m T24 70 #[vR (t_o), vJ (hi), s_, vJ (lo), s_, vI (d), vI ((Int32.ofNat i)), vI ((ch i)), (own_sl s8)] [(.int 45), (.int (ch i))] _
            refine zicmpNo X24 hx hby d14_70 (feq hc70_54).1 ?_
            refine st60 _ ?_
            show SS p e below m T60 76 #[vR (t_o), vJ (hi), s_, vJ (lo), s_, vI (d), vI ((Int32.ofNat i)), vI ((ch i)), (own_sl s8)] [(.ref e_o)] _
            jvm_step X60.here [X60.here.top, hx, (hb hby d14_76), X60.method', Bd.returns, Value.isRef, FieldType.isReference]
            first | (intro acts; rw [hr _ acts rfl rfl rfl]) | rw [hr _ _ rfl rfl rfl]
            exact Steps.refl _
          · show Qown_prNU Z t_o b_o k_b ch cs e_o u_f h0 n0 _ T60.heap _
            rw [eh60]
            exact ⟨rfl, N61, rfl⟩
      · have pre66 : ∀ t, Steps p.tables e below (T24.setTop (mkF m 56 #[vR (t_o), vJ (hi), s_, vJ (lo), s_, vI (d), vI ((Int32.ofNat i)), vI ((ch i)), (own_sl s8)] [(.int 18), (.int (Int32.ofNat i))])) t → Steps p.tables e below (s₁.setTop (entryFrame m #[(.ref t_o)] 9)) t := by
          intro t kt
          refine pre48 _ ?_
          show SS p e below m T24 49 #[vR (t_o), vJ (hi), s_, vJ (lo), s_, vI (d), vI ((Int32.ofNat i)), vI ((ch i)), (own_sl s8)] [(.int 13), (.int (Int32.ofNat i))] _
          refine zicmpNo X24 hx hby d14_49 (feq hc49_49).1 ?_
          refine ziload X24 hx hby d14_52 rfl ?_
          refine zbipush X24 hx hby (18) d14_54 rfl ?_
          exact kt
        by_cases hc56_67 : (Int32.ofNat i) = (18 : Int32)
        · have pre71 : ∀ t, Steps p.tables e below (T24.setTop (mkF m 70 #[vR (t_o), vJ (hi), s_, vJ (lo), s_, vI (d), vI ((Int32.ofNat i)), vI ((ch i)), (own_sl s8)] [(.int 45), (.int (ch i))])) t → Steps p.tables e below (s₁.setTop (entryFrame m #[(.ref t_o)] 9)) t := by
            intro t kt
            refine pre66 _ ?_
            show SS p e below m T24 56 #[vR (t_o), vJ (hi), s_, vJ (lo), s_, vI (d), vI ((Int32.ofNat i)), vI ((ch i)), (own_sl s8)] [(.int 18), (.int (Int32.ofNat i))] _
            refine zicmpYes X24 hx hby 56 66 rfl d14_56 (teq hc56_67).1 (by decide) (by decide) ?_
            refine ziload X24 hx hby d14_66 rfl ?_
            refine zbipush X24 hx hby (45) d14_68 rfl ?_
            exact kt
          by_cases hc70_72 : (ch i) = (45 : Int32)
          · have preB76 : ∀ t, Steps p.tables e below (T24.setTop (mkF m 23 #[vR (t_o), vJ (hi), s_, vJ (lo), s_, vI (d), vI ((Int32.ofNat (i + 1))), (own_sl (some (ch i))), (own_sl s8)] [])) t → Steps p.tables e below (s₁.setTop (entryFrame m #[(.ref t_o)] 9)) t := by
              intro t kt
              refine pre71 _ ?_
              show SS p e below m T24 70 #[vR (t_o), vJ (hi), s_, vJ (lo), s_, vI (d), vI ((Int32.ofNat i)), vI ((ch i)), (own_sl s8)] [(.int 45), (.int (ch i))] _
              refine zicmpYes X24 hx hby 70 122 rfl d14_70 (teq hc70_72).1 (by decide) (by decide) ?_
              refine ziinc (l' := #[vR (t_o), vJ (hi), s_, vJ (lo), s_, vI (d), vI (((Int32.ofNat i) + (1 : Int32))), vI ((ch i)), (own_sl s8)]) X24 hx hby d14_122 rfl rfl ?_
              refine zgoto X24 hx hby 125 23 rfl d14_125 (by decide) (by decide) ?_
              show SS p e below m T24 23 #[vR (t_o), vJ (hi), s_, vJ (lo), s_, vI (d), vI (((Int32.ofNat i) + (1 : Int32))), vI ((ch i)), (own_sl s8)] [] _
              rw [own_one]
              exact kt
            exact ih17 (i + 1) hi lo d (some (ch i)) s8 T24 _ X24 eh24 N25 (by omega) (by rw [own_pl, if_neg hc42_31, if_neg hc49_49, if_pos hc56_67, if_pos hc70_72] at hPL; exact hPL) preB76
          · obtain ⟨_, _, ⟨T78, L78, k78, n78⟩, -, X78, ⟨Lc78, hQ78, l78, y78, z78⟩, st78⟩ := Jvm.LawKit.callS X24 hx (y := y_38) hown (mvT hZ (hw _ (gm 148 rfl))) (mvT hZ (hw _ (gm 149 rfl))) (mvT hZ (hw _ (gm 111 rfl))) (mvT hZ (hw _ (gm 150 rfl))) (by decide) (backOf (W := 0) (own_emp l Z a0 hw [] e_o h0 n0 Z0 hSe hO) hZ (hw _ (gm 150 rfl)) (hw _ (gm 111 rfl)) (by decide) (by decide)) (g := (mkF m 73 #[vR (t_o), vJ (hi), s_, vJ (lo), s_, vI (d), vI ((Int32.ofNat i)), vI ((ch i)), (own_sl s8)] [])) rfl (by rw [hml]; rfl) (argsL := []) (rest := []) (lenOf own_pd22 rfl) rfl (by show 2 * 0 + _ ≤ _; exact Nat.le_of_eq rfl) (hb hby d14_73) (fun _ _ => ⟨rfl, eh24, (by decide : 0 + 0 ≤ _), (by decide : 0 + 0 ≤ _)⟩)
            dsimp only [Pt.U, Pt.locs, Pt.cells, Pt.slots] at X78 l78 y78 z78 st78 hQ78
            rw [l78, y78, z78] at X78
            obtain ⟨rfl, Nq78, eh78⟩ := hQ78
            have N79 := Fr.app N25 Nq78
            obtain ⟨fs, hr, hrun, hended, hW, hsame⟩ := X78.leave (v := some (.ref e_o)) (fun h => by rw [Bd.returns] at h; cases h) (hlocks := BodyLoose.notSynchronized Bd)
            refine ⟨_, _, pre71 _ ?_, hrun, hended, _, _, rfl, ?_, ⟨_, rfl⟩, hW, hsame.mono (by decide) (by decide)⟩
            · show SS p e below m T24 70 #[vR (t_o), vJ (hi), s_, vJ (lo), s_, vI (d), vI ((Int32.ofNat i)), vI ((ch i)), (own_sl s8)] [(.int 45), (.int (ch i))] _
              refine zicmpNo X24 hx hby d14_70 (feq hc70_72).1 ?_
              refine st78 _ ?_
              show SS p e below m T78 76 #[vR (t_o), vJ (hi), s_, vJ (lo), s_, vI (d), vI ((Int32.ofNat i)), vI ((ch i)), (own_sl s8)] [(.ref e_o)] _
              jvm_step X78.here [X78.here.top, hx, (hb hby d14_76), X78.method', Bd.returns, Value.isRef, FieldType.isReference]
              first | (intro acts; rw [hr _ acts rfl rfl rfl]) | rw [hr _ _ rfl rfl rfl]
              exact Steps.refl _
            · show Qown_prNU Z t_o b_o k_b ch cs e_o u_f h0 n0 _ T78.heap _
              rw [eh78]
              exact ⟨rfl, N79, rfl⟩
        · have pre84 : ∀ t, Steps p.tables e below (T24.setTop (mkF m 63 #[vR (t_o), vJ (hi), s_, vJ (lo), s_, vI (d), vI ((Int32.ofNat i)), vI ((ch i)), (own_sl s8)] [(.int 23), (.int (Int32.ofNat i))])) t → Steps p.tables e below (s₁.setTop (entryFrame m #[(.ref t_o)] 9)) t := by
            intro t kt
            refine pre66 _ ?_
            show SS p e below m T24 56 #[vR (t_o), vJ (hi), s_, vJ (lo), s_, vI (d), vI ((Int32.ofNat i)), vI ((ch i)), (own_sl s8)] [(.int 18), (.int (Int32.ofNat i))] _
            refine zicmpNo X24 hx hby d14_56 (feq hc56_67).1 ?_
            refine ziload X24 hx hby d14_59 rfl ?_
            refine zbipush X24 hx hby (23) d14_61 rfl ?_
            exact kt
          by_cases hc63_85 : (Int32.ofNat i) = (23 : Int32)
          · have pre89 : ∀ t, Steps p.tables e below (T24.setTop (mkF m 70 #[vR (t_o), vJ (hi), s_, vJ (lo), s_, vI (d), vI ((Int32.ofNat i)), vI ((ch i)), (own_sl s8)] [(.int 45), (.int (ch i))])) t → Steps p.tables e below (s₁.setTop (entryFrame m #[(.ref t_o)] 9)) t := by
              intro t kt
              refine pre84 _ ?_
              show SS p e below m T24 63 #[vR (t_o), vJ (hi), s_, vJ (lo), s_, vI (d), vI ((Int32.ofNat i)), vI ((ch i)), (own_sl s8)] [(.int 23), (.int (Int32.ofNat i))] _
              refine zicmpNo X24 hx hby d14_63 (teq hc63_85).2 ?_
              refine ziload X24 hx hby d14_66 rfl ?_
              refine zbipush X24 hx hby (45) d14_68 rfl ?_
              exact kt
            by_cases hc70_90 : (ch i) = (45 : Int32)
            · have preB94 : ∀ t, Steps p.tables e below (T24.setTop (mkF m 23 #[vR (t_o), vJ (hi), s_, vJ (lo), s_, vI (d), vI ((Int32.ofNat (i + 1))), (own_sl (some (ch i))), (own_sl s8)] [])) t → Steps p.tables e below (s₁.setTop (entryFrame m #[(.ref t_o)] 9)) t := by
                intro t kt
                refine pre89 _ ?_
                show SS p e below m T24 70 #[vR (t_o), vJ (hi), s_, vJ (lo), s_, vI (d), vI ((Int32.ofNat i)), vI ((ch i)), (own_sl s8)] [(.int 45), (.int (ch i))] _
                refine zicmpYes X24 hx hby 70 122 rfl d14_70 (teq hc70_90).1 (by decide) (by decide) ?_
                refine ziinc (l' := #[vR (t_o), vJ (hi), s_, vJ (lo), s_, vI (d), vI (((Int32.ofNat i) + (1 : Int32))), vI ((ch i)), (own_sl s8)]) X24 hx hby d14_122 rfl rfl ?_
                refine zgoto X24 hx hby 125 23 rfl d14_125 (by decide) (by decide) ?_
                show SS p e below m T24 23 #[vR (t_o), vJ (hi), s_, vJ (lo), s_, vI (d), vI (((Int32.ofNat i) + (1 : Int32))), vI ((ch i)), (own_sl s8)] [] _
                rw [own_one]
                exact kt
              exact ih17 (i + 1) hi lo d (some (ch i)) s8 T24 _ X24 eh24 N25 (by omega) (by rw [own_pl, if_neg hc42_31, if_neg hc49_49, if_neg hc56_67, if_pos hc63_85, if_pos hc70_90] at hPL; exact hPL) preB94
            · obtain ⟨_, _, ⟨T96, L96, k96, n96⟩, -, X96, ⟨Lc96, hQ96, l96, y96, z96⟩, st96⟩ := Jvm.LawKit.callS X24 hx (y := y_38) hown (mvT hZ (hw _ (gm 148 rfl))) (mvT hZ (hw _ (gm 149 rfl))) (mvT hZ (hw _ (gm 111 rfl))) (mvT hZ (hw _ (gm 150 rfl))) (by decide) (backOf (W := 0) (own_emp l Z a0 hw [] e_o h0 n0 Z0 hSe hO) hZ (hw _ (gm 150 rfl)) (hw _ (gm 111 rfl)) (by decide) (by decide)) (g := (mkF m 73 #[vR (t_o), vJ (hi), s_, vJ (lo), s_, vI (d), vI ((Int32.ofNat i)), vI ((ch i)), (own_sl s8)] [])) rfl (by rw [hml]; rfl) (argsL := []) (rest := []) (lenOf own_pd22 rfl) rfl (by show 2 * 0 + _ ≤ _; exact Nat.le_of_eq rfl) (hb hby d14_73) (fun _ _ => ⟨rfl, eh24, (by decide : 0 + 0 ≤ _), (by decide : 0 + 0 ≤ _)⟩)
              dsimp only [Pt.U, Pt.locs, Pt.cells, Pt.slots] at X96 l96 y96 z96 st96 hQ96
              rw [l96, y96, z96] at X96
              obtain ⟨rfl, Nq96, eh96⟩ := hQ96
              have N97 := Fr.app N25 Nq96
              obtain ⟨fs, hr, hrun, hended, hW, hsame⟩ := X96.leave (v := some (.ref e_o)) (fun h => by rw [Bd.returns] at h; cases h) (hlocks := BodyLoose.notSynchronized Bd)
              refine ⟨_, _, pre89 _ ?_, hrun, hended, _, _, rfl, ?_, ⟨_, rfl⟩, hW, hsame.mono (by decide) (by decide)⟩
              · show SS p e below m T24 70 #[vR (t_o), vJ (hi), s_, vJ (lo), s_, vI (d), vI ((Int32.ofNat i)), vI ((ch i)), (own_sl s8)] [(.int 45), (.int (ch i))] _
                refine zicmpNo X24 hx hby d14_70 (feq hc70_90).1 ?_
                refine st96 _ ?_
                show SS p e below m T96 76 #[vR (t_o), vJ (hi), s_, vJ (lo), s_, vI (d), vI ((Int32.ofNat i)), vI ((ch i)), (own_sl s8)] [(.ref e_o)] _
                jvm_step X96.here [X96.here.top, hx, (hb hby d14_76), X96.method', Bd.returns, Value.isRef, FieldType.isReference]
                first | (intro acts; rw [hr _ acts rfl rfl rfl]) | rw [hr _ _ rfl rfl rfl]
                exact Steps.refl _
              · show Qown_prNU Z t_o b_o k_b ch cs e_o u_f h0 n0 _ T96.heap _
                rw [eh96]
                exact ⟨rfl, N97, rfl⟩
          · obtain ⟨_, _, ⟨T101, L101, k101, n101⟩, -, X101, ⟨Lc101, hQ101, l101, y101, z101⟩, st101⟩ := Jvm.LawKit.callS X24 hx (y := y_6) hown (mvT hZ (hw _ (gm 91 rfl))) (mvT hZ (hw _ (gm 92 rfl))) (mvT hZ (hw _ (gm 57 rfl))) (mvT hZ (hw _ (gm 93 rfl))) (by decide) (backOf (W := 0) (own_hxd l Z a0 hw [] (ch i) h0 n0 Z0 ) hZ (hw _ (gm 93 rfl)) (hw _ (gm 57 rfl)) (by decide) (by decide)) (g := (mkF m 79 #[vR (t_o), vJ (hi), s_, vJ (lo), s_, vI (d), vI ((Int32.ofNat i)), vI ((ch i)), (own_sl s8)] [(.int (ch i))])) rfl (by rw [hml]; rfl) (argsL := [(.int (ch i))]) (rest := []) (lenOf own_pd23 rfl) rfl (by show 2 * 0 + _ ≤ _; exact Nat.le_of_eq rfl) (hb hby d14_79) (fun _ _ => ⟨rfl, eh24, (by decide : 0 + 0 ≤ _), (by decide : 0 + 0 ≤ _)⟩)
            dsimp only [Pt.U, Pt.locs, Pt.cells, Pt.slots] at X101 l101 y101 z101 st101 hQ101
            rw [l101, y101, z101] at X101
            obtain ⟨rfl, Nq101, eh101⟩ := hQ101
            have N102 := Fr.app N25 Nq101
            have pre106 : ∀ t, Steps p.tables e below (T101.setTop (mkF m 86 #[vR (t_o), vJ (hi), s_, vJ (lo), s_, vI (d), vI ((Int32.ofNat i)), vI ((ch i)), vI ((own_hxd_f (ch i)))] [(.int (own_hxd_f (ch i)))])) t → Steps p.tables e below (s₁.setTop (entryFrame m #[(.ref t_o)] 9)) t := by
              intro t kt
              refine pre84 _ ?_
              show SS p e below m T24 63 #[vR (t_o), vJ (hi), s_, vJ (lo), s_, vI (d), vI ((Int32.ofNat i)), vI ((ch i)), (own_sl s8)] [(.int 23), (.int (Int32.ofNat i))] _
              refine zicmpYes X24 hx hby 63 77 rfl d14_63 (feq hc63_85).2 (by decide) (by decide) ?_
              refine ziload X24 hx hby d14_77 rfl ?_
              refine st101 _ ?_
              refine zistore (l' := #[vR (t_o), vJ (hi), s_, vJ (lo), s_, vI (d), vI ((Int32.ofNat i)), vI ((ch i)), vI ((own_hxd_f (ch i)))]) X101 hx hby d14_82 (match s8 with | none => rfl | some _ => rfl) ?_
              refine ziload X101 hx hby d14_84 rfl ?_
              exact kt
            by_cases hc86_107 : (own_hxd_f (ch i)) < (0 : Int32)
            · obtain ⟨_, _, ⟨T109, L109, k109, n109⟩, -, X109, ⟨Lc109, hQ109, l109, y109, z109⟩, st109⟩ := Jvm.LawKit.callS X101 hx (y := y_38) hown (mvT hZ (hw _ (gm 148 rfl))) (mvT hZ (hw _ (gm 149 rfl))) (mvT hZ (hw _ (gm 111 rfl))) (mvT hZ (hw _ (gm 150 rfl))) (by decide) (backOf (W := 0) (own_emp l Z a0 hw [] e_o h0 n0 Z0 hSe hO) hZ (hw _ (gm 150 rfl)) (hw _ (gm 111 rfl)) (by decide) (by decide)) (g := (mkF m 89 #[vR (t_o), vJ (hi), s_, vJ (lo), s_, vI (d), vI ((Int32.ofNat i)), vI ((ch i)), vI ((own_hxd_f (ch i)))] [])) rfl (by rw [hml]; rfl) (argsL := []) (rest := []) (lenOf own_pd22 rfl) rfl (by show 2 * 0 + _ ≤ _; exact Nat.le_of_eq rfl) (hb hby d14_89) (fun _ _ => ⟨rfl, eh101, (by decide : 0 + 0 ≤ _), (by decide : 0 + 0 ≤ _)⟩)
              dsimp only [Pt.U, Pt.locs, Pt.cells, Pt.slots] at X109 l109 y109 z109 st109 hQ109
              rw [l109, y109, z109] at X109
              obtain ⟨rfl, Nq109, eh109⟩ := hQ109
              have N110 := Fr.app N102 Nq109
              obtain ⟨fs, hr, hrun, hended, hW, hsame⟩ := X109.leave (v := some (.ref e_o)) (fun h => by rw [Bd.returns] at h; cases h) (hlocks := BodyLoose.notSynchronized Bd)
              refine ⟨_, _, pre106 _ ?_, hrun, hended, _, _, rfl, ?_, ⟨_, rfl⟩, hW, hsame.mono (by decide) (by decide)⟩
              · show SS p e below m T101 86 #[vR (t_o), vJ (hi), s_, vJ (lo), s_, vI (d), vI ((Int32.ofNat i)), vI ((ch i)), vI ((own_hxd_f (ch i)))] [(.int (own_hxd_f (ch i)))] _
                refine zifNo X101 hx hby d14_86 ((if0 _ _).trans (tlt hc86_107).2.1) ?_
                refine st109 _ ?_
                show SS p e below m T109 92 #[vR (t_o), vJ (hi), s_, vJ (lo), s_, vI (d), vI ((Int32.ofNat i)), vI ((ch i)), vI ((own_hxd_f (ch i)))] [(.ref e_o)] _
                jvm_step X109.here [X109.here.top, hx, (hb hby d14_92), X109.method', Bd.returns, Value.isRef, FieldType.isReference]
                first | (intro acts; rw [hr _ acts rfl rfl rfl]) | rw [hr _ _ rfl rfl rfl]
                exact Steps.refl _
              · show Qown_prNU Z t_o b_o k_b ch cs e_o u_f h0 n0 _ T109.heap _
                rw [eh109]
                exact ⟨rfl, N110, rfl⟩
            · have pre115 : ∀ t, Steps p.tables e below (T101.setTop (mkF m 97 #[vR (t_o), vJ (hi), s_, vJ (lo), s_, vI (d), vI ((Int32.ofNat i)), vI ((ch i)), vI ((own_hxd_f (ch i)))] [(.int 16), (.int d)])) t → Steps p.tables e below (s₁.setTop (entryFrame m #[(.ref t_o)] 9)) t := by
                intro t kt
                refine pre106 _ ?_
                show SS p e below m T101 86 #[vR (t_o), vJ (hi), s_, vJ (lo), s_, vI (d), vI ((Int32.ofNat i)), vI ((ch i)), vI ((own_hxd_f (ch i)))] [(.int (own_hxd_f (ch i)))] _
                refine zifYes X101 hx hby 86 93 rfl d14_86 ((if0 _ _).trans (flt hc86_107).2.1) (by decide) (by decide) ?_
                refine ziload X101 hx hby d14_93 rfl ?_
                refine zbipush X101 hx hby (16) d14_95 rfl ?_
                exact kt
              by_cases hc97_116 : d < (16 : Int32)
              · have preB129 : ∀ t, Steps p.tables e below (T101.setTop (mkF m 23 #[vR (t_o), vJ (((hi <<< ((4 : Int32) &&& 0x3f).toInt64) ||| ((own_hxd_f (ch i)).toInt64))), s_, vJ (lo), s_, vI ((d + (1 : Int32))), vI ((Int32.ofNat (i + 1))), (own_sl (some (ch i))), (own_sl (some (own_hxd_f (ch i))))] [])) t → Steps p.tables e below (s₁.setTop (entryFrame m #[(.ref t_o)] 9)) t := by
                  intro t kt
                  refine pre115 _ ?_
                  show SS p e below m T101 97 #[vR (t_o), vJ (hi), s_, vJ (lo), s_, vI (d), vI ((Int32.ofNat i)), vI ((ch i)), vI ((own_hxd_f (ch i)))] [(.int 16), (.int d)] _
                  refine zicmpNo X101 hx hby d14_97 (tlt hc97_116).2.1 ?_
                  refine zlloadN X101 hx hby d14_100 rfl ?_
                  refine ziconst X101 hx hby (4) d14_101 rfl ?_
                  show SS p e below m T101 102 #[vR (t_o), vJ (hi), s_, vJ (lo), s_, vI (d), vI ((Int32.ofNat i)), vI ((ch i)), vI ((own_hxd_f (ch i)))] [(.int 4), (.long hi)] _
                  refine XS.lshl X101.here hx rfl (hb hby d14_102) rfl ?_
                  show SS p e below m T101 103 #[vR (t_o), vJ (hi), s_, vJ (lo), s_, vI (d), vI ((Int32.ofNat i)), vI ((ch i)), vI ((own_hxd_f (ch i)))] [(.long (hi <<< ((4 : Int32) &&& 0x3f).toInt64))] _
                  refine ziload X101 hx hby d14_103 rfl ?_
                  show SS p e below m T101 105 #[vR (t_o), vJ (hi), s_, vJ (lo), s_, vI (d), vI ((Int32.ofNat i)), vI ((ch i)), vI ((own_hxd_f (ch i)))] [(.int (own_hxd_f (ch i))), (.long (hi <<< ((4 : Int32) &&& 0x3f).toInt64))] _
                  refine XS.i2l X101.here hx rfl (hb hby d14_105) rfl ?_
                  show SS p e below m T101 106 #[vR (t_o), vJ (hi), s_, vJ (lo), s_, vI (d), vI ((Int32.ofNat i)), vI ((ch i)), vI ((own_hxd_f (ch i)))] [(.long ((own_hxd_f (ch i)).toInt64)), (.long (hi <<< ((4 : Int32) &&& 0x3f).toInt64))] _
                  refine XS.lor X101.here hx rfl (hb hby d14_106) rfl ?_
                  show SS p e below m T101 107 #[vR (t_o), vJ (hi), s_, vJ (lo), s_, vI (d), vI ((Int32.ofNat i)), vI ((ch i)), vI ((own_hxd_f (ch i)))] [(.long ((hi <<< ((4 : Int32) &&& 0x3f).toInt64) ||| ((own_hxd_f (ch i)).toInt64)))] _
                  refine zlstoreN (l' := #[vR (t_o), vJ (((hi <<< ((4 : Int32) &&& 0x3f).toInt64) ||| ((own_hxd_f (ch i)).toInt64))), s_, vJ (lo), s_, vI (d), vI ((Int32.ofNat i)), vI ((ch i)), vI ((own_hxd_f (ch i)))]) X101 hx hby d14_107 rfl ?_
                  refine zgoto X101 hx hby 108 119 rfl d14_108 (by decide) (by decide) ?_
                  refine ziinc (l' := #[vR (t_o), vJ (((hi <<< ((4 : Int32) &&& 0x3f).toInt64) ||| ((own_hxd_f (ch i)).toInt64))), s_, vJ (lo), s_, vI ((d + (1 : Int32))), vI ((Int32.ofNat i)), vI ((ch i)), vI ((own_hxd_f (ch i)))]) X101 hx hby d14_119 rfl rfl ?_
                  refine ziinc (l' := #[vR (t_o), vJ (((hi <<< ((4 : Int32) &&& 0x3f).toInt64) ||| ((own_hxd_f (ch i)).toInt64))), s_, vJ (lo), s_, vI ((d + (1 : Int32))), vI (((Int32.ofNat i) + (1 : Int32))), vI ((ch i)), vI ((own_hxd_f (ch i)))]) X101 hx hby d14_122 rfl rfl ?_
                  refine zgoto X101 hx hby 125 23 rfl d14_125 (by decide) (by decide) ?_
                  show SS p e below m T101 23 #[vR (t_o), vJ (((hi <<< ((4 : Int32) &&& 0x3f).toInt64) ||| ((own_hxd_f (ch i)).toInt64))), s_, vJ (lo), s_, vI ((d + (1 : Int32))), vI (((Int32.ofNat i) + (1 : Int32))), vI ((ch i)), vI ((own_hxd_f (ch i)))] [] _
                  rw [own_one]
                  exact kt
                exact ih17 (i + 1) ((hi <<< ((4 : Int32) &&& 0x3f).toInt64) ||| ((own_hxd_f (ch i)).toInt64)) lo (d + (1 : Int32)) (some (ch i)) (some (own_hxd_f (ch i))) T101 _ X101 eh101 N102 (by omega) (by rw [own_pl, if_neg hc42_31, if_neg hc49_49, if_neg hc56_67, if_neg hc63_85, if_neg hc86_107, if_pos hc97_116] at hPL; exact hPL) preB129
              · have preB141 : ∀ t, Steps p.tables e below (T101.setTop (mkF m 23 #[vR (t_o), vJ (hi), s_, vJ (((lo <<< ((4 : Int32) &&& 0x3f).toInt64) ||| ((own_hxd_f (ch i)).toInt64))), s_, vI ((d + (1 : Int32))), vI ((Int32.ofNat (i + 1))), (own_sl (some (ch i))), (own_sl (some (own_hxd_f (ch i))))] [])) t → Steps p.tables e below (s₁.setTop (entryFrame m #[(.ref t_o)] 9)) t := by
                  intro t kt
                  refine pre115 _ ?_
                  show SS p e below m T101 97 #[vR (t_o), vJ (hi), s_, vJ (lo), s_, vI (d), vI ((Int32.ofNat i)), vI ((ch i)), vI ((own_hxd_f (ch i)))] [(.int 16), (.int d)] _
                  refine zicmpYes X101 hx hby 97 111 rfl d14_97 (flt hc97_116).2.1 (by decide) (by decide) ?_
                  refine zlloadN X101 hx hby d14_111 rfl ?_
                  refine ziconst X101 hx hby (4) d14_112 rfl ?_
                  show SS p e below m T101 113 #[vR (t_o), vJ (hi), s_, vJ (lo), s_, vI (d), vI ((Int32.ofNat i)), vI ((ch i)), vI ((own_hxd_f (ch i)))] [(.int 4), (.long lo)] _
                  refine XS.lshl X101.here hx rfl (hb hby d14_113) rfl ?_
                  show SS p e below m T101 114 #[vR (t_o), vJ (hi), s_, vJ (lo), s_, vI (d), vI ((Int32.ofNat i)), vI ((ch i)), vI ((own_hxd_f (ch i)))] [(.long (lo <<< ((4 : Int32) &&& 0x3f).toInt64))] _
                  refine ziload X101 hx hby d14_114 rfl ?_
                  show SS p e below m T101 116 #[vR (t_o), vJ (hi), s_, vJ (lo), s_, vI (d), vI ((Int32.ofNat i)), vI ((ch i)), vI ((own_hxd_f (ch i)))] [(.int (own_hxd_f (ch i))), (.long (lo <<< ((4 : Int32) &&& 0x3f).toInt64))] _
                  refine XS.i2l X101.here hx rfl (hb hby d14_116) rfl ?_
                  show SS p e below m T101 117 #[vR (t_o), vJ (hi), s_, vJ (lo), s_, vI (d), vI ((Int32.ofNat i)), vI ((ch i)), vI ((own_hxd_f (ch i)))] [(.long ((own_hxd_f (ch i)).toInt64)), (.long (lo <<< ((4 : Int32) &&& 0x3f).toInt64))] _
                  refine XS.lor X101.here hx rfl (hb hby d14_117) rfl ?_
                  show SS p e below m T101 118 #[vR (t_o), vJ (hi), s_, vJ (lo), s_, vI (d), vI ((Int32.ofNat i)), vI ((ch i)), vI ((own_hxd_f (ch i)))] [(.long ((lo <<< ((4 : Int32) &&& 0x3f).toInt64) ||| ((own_hxd_f (ch i)).toInt64)))] _
                  refine zlstoreN (l' := #[vR (t_o), vJ (hi), s_, vJ (((lo <<< ((4 : Int32) &&& 0x3f).toInt64) ||| ((own_hxd_f (ch i)).toInt64))), s_, vI (d), vI ((Int32.ofNat i)), vI ((ch i)), vI ((own_hxd_f (ch i)))]) X101 hx hby d14_118 rfl ?_
                  refine ziinc (l' := #[vR (t_o), vJ (hi), s_, vJ (((lo <<< ((4 : Int32) &&& 0x3f).toInt64) ||| ((own_hxd_f (ch i)).toInt64))), s_, vI ((d + (1 : Int32))), vI ((Int32.ofNat i)), vI ((ch i)), vI ((own_hxd_f (ch i)))]) X101 hx hby d14_119 rfl rfl ?_
                  refine ziinc (l' := #[vR (t_o), vJ (hi), s_, vJ (((lo <<< ((4 : Int32) &&& 0x3f).toInt64) ||| ((own_hxd_f (ch i)).toInt64))), s_, vI ((d + (1 : Int32))), vI (((Int32.ofNat i) + (1 : Int32))), vI ((ch i)), vI ((own_hxd_f (ch i)))]) X101 hx hby d14_122 rfl rfl ?_
                  refine zgoto X101 hx hby 125 23 rfl d14_125 (by decide) (by decide) ?_
                  show SS p e below m T101 23 #[vR (t_o), vJ (hi), s_, vJ (((lo <<< ((4 : Int32) &&& 0x3f).toInt64) ||| ((own_hxd_f (ch i)).toInt64))), s_, vI ((d + (1 : Int32))), vI (((Int32.ofNat i) + (1 : Int32))), vI ((ch i)), vI ((own_hxd_f (ch i)))] [] _
                  rw [own_one]
                  exact kt
                exact ih17 (i + 1) hi ((lo <<< ((4 : Int32) &&& 0x3f).toInt64) ||| ((own_hxd_f (ch i)).toInt64)) (d + (1 : Int32)) (some (ch i)) (some (own_hxd_f (ch i))) T101 _ X101 eh101 N102 (by omega) (by rw [own_pl, if_neg hc42_31, if_neg hc49_49, if_neg hc56_67, if_neg hc63_85, if_neg hc86_107, if_neg hc97_116] at hPL; exact hPL) preB141
theorem own_ef_own_prSL (m : MethodId) (t_o : Addr) : entryFrame m #[(.ref t_o)] 9 = mkF m 0 #[.val (.ref t_o), .unset, .unset, .unset, .unset, .unset, .unset, .unset, .unset] [] := by first | (simp [entryFrame, mkF, argsToLocals, Value.category]; done) | rfl
theorem own_pd24 : parseMethodDescriptor "(JJ)V" = some ⟨[.long, .long], none⟩ := by decide +kernel
theorem own_pd25 : parseMethodDescriptor "(Ljava/lang/Object;)Ljava/util/Optional;" = some ⟨[(.object "java/lang/Object")], some (.object "java/util/Optional")⟩ := by decide +kernel
theorem d14_128 : decode b_14 128 = .ok (.new 8, 3) := by decide +kernel
theorem d14_131 : decode b_14 131 = .ok (.dup, 1) := by decide +kernel
theorem d14_132 : decode b_14 132 = .ok (.lload_n 1, 1) := by decide +kernel
theorem d14_133 : decode b_14 133 = .ok (.lload_n 3, 1) := by decide +kernel
theorem d14_134 : decode b_14 134 = .ok (.invokespecial 29, 3) := by decide +kernel
theorem d14_137 : decode b_14 137 = .ok (.invokestatic 52, 3) := by decide +kernel
theorem d14_140 : decode b_14 140 = .ok (.areturn, 1) := by decide +kernel
def Qown_prSL (Z : State) (t_o : Addr) (b_o : Addr) (k_b : ClassId) (ch : Nat → Int32) (cs : Int32) (e_o : Addr) (u_f : Value) (qh : Int64) (ql : Int64) (h0 : Heap) (n0 : Nat) (v : Option Value) (h : Heap) (L : List Loc) : Prop := ∃ r_o : Addr, ∃ w_o : Addr, v = some (.ref r_o) ∧ Fr n0 L ∧ h0.size ≤ r_o ∧ h0.size ≤ w_o ∧ Keep h0 h [] ∧ Exa Z h r_o "java/util/Optional" ∧ Fld Z h r_o "java/util/Optional" "value" "Ljava/lang/Object;" (.ref w_o) ∧ Exa Z h w_o "com/example/rosterhall/rosterhall/ResourceId" ∧ Fld Z h w_o "com/example/rosterhall/rosterhall/ResourceId" "high" "J" (.long qh) ∧ Fld Z h w_o "com/example/rosterhall/rosterhall/ResourceId" "low" "J" (.long ql)
set_option maxRecDepth 65536 in
set_option maxHeartbeats 40000000 in
theorem own_prSL (l : Launch) (Z : State) (a0 : Array Value) (hw : ∀ d ∈ tables_1, d.before a0 Z = true) (ws : List Jvm.Cond) (t_o : Addr) (b_o : Addr) (k_b : ClassId) (ch : Nat → Int32) (cs : Int32) (e_o : Addr) (u_f : Value) (qh : Int64) (ql : Int64) (h0 : Heap) (n0 : Nat) (Z0 : n0 ≤ h0.size) (hxa : Exa Z h0 t_o "java/lang/String") (hcd : Fld Z h0 t_o "java/lang/String" "coder" "B" (.int 0)) (hfv : Fld Z h0 t_o "java/lang/String" "value" "[B" (.ref b_o)) (hB : Arv Z h0 b_o k_b .byte (36 : Int32) (own_fl 36 (own_bg ch)) (.int 0)) (hO : Old Z n0 h0) (hS : Sta Z Z.heap "java/lang/String" "COMPACT_STRINGS" "Z" (.int cs)) (hcs : ¬ cs = (0 : Int32)) (hSe : Sta Z Z.heap "java/util/Optional" "EMPTY" "Ljava/util/Optional;" (.ref e_o)) (hl : ∀ j, j < 36 → ¬ (255 : Int32) < ch j) (hrg : ∀ j, nar .char (ch j) = ch j) (hSf : Sta Z Z.heap "jdk/internal/util/Preconditions" "SIOOBE_FORMATTER" "Ljava/util/function/BiFunction;" u_f) (hf : u_f.isRef = true) (hPp : own_pl ch 36 0 (0 : Int32) (0 : Int64) (0 : Int64) = some (qh, ql)) :
    MetFree l y_39 (head1 (Jvm.Cond.code y_39 prog_20_method_3_code 9 (some (.object "java/util/Optional")) :: ws) (RM 4 2 3 53)) (fun a U => a = #[(.ref t_o)] ∧ Z.Warmed39 U.vm ∧ U.heap = h0) (fun _ _ _ _ _ => True) (fun _ U o U' => ∃ v L, o = .returned v ∧ Qown_prSL Z t_o b_o k_b ch cs e_o u_f qh ql h0 n0 v U'.heap L ∧ FrameEnd U o U' L (RM 4 2 3 53).cells (RM 4 2 3 53).slots) := by
  refine MetFree.of_bodySF (plainFor_of_name own_pn1) hisR ?_
  intro p e s m args below meth c s₁ Bd hml0 hP hK
  obtain ⟨rfl, hZ, hh⟩ := hP
  have hx := Bd.exec
  have hby := Bd.bytes
  have hml : c.maxLocals = 9 := hml0
  have hown : s.vm.findClass "com/example/rosterhall/rosterhall/ResourceId" = some m.cls := findClass_of_methodNamed Bd.named
  have X0 : Stand p l e (RM 4 2 3 53) s m #[(.ref t_o)] below meth c s₁ [] 0 0 := Stand.of_body Bd
  have e0 : s₁.heap = h0 := by rw [← hh, Bd.state]; rfl
  have N0 := Fr.nil n0
  have pre0 : ∀ t, Steps p.tables e below (s₁.setTop (mkF m 0 #[vR (t_o), u_, u_, u_, u_, u_, u_, u_, u_] [])) t → Steps p.tables e below (s₁.setTop (entryFrame m #[(.ref t_o)] 9)) t := fun t k => castTop (own_ef_own_prSL m t_o) k
  obtain ⟨cq3, kq3, q3a, q3b, q3c⟩ := isOf hZ e0 hxa
  obtain ⟨_, _, ⟨T3, L3, k3, n3⟩, -, X3, ⟨Lc3, hQ3, l3, y3, z3⟩, st3⟩ := X0.virtualBack hx (y := y_27) (z := y_27) hown (mvT hZ (hw _ (gm 59 rfl))) (mvT hZ (hw _ (gm 60 rfl))) (notFace_of_selects (args := #[]) (mvT hZ (hw _ (gm 62 rfl)))) (mvT hZ (hw _ (gm 62 rfl))) (mvT hZ (hw _ (gm 61 rfl))) (by decide) (backOf (W := 0) (own_len36L l Z a0 hw [] t_o b_o k_b (own_fl 36 (own_bg ch)) cs h0 n0 Z0 hxa hcd hO hS hcs hfv hB) hZ (hw _ (gm 63 rfl)) (hw _ (gm 28 rfl)) (by decide) (by decide)) q3a q3c (g := (mkF m 1 #[vR (t_o), u_, u_, u_, u_, u_, u_, u_, u_] [(.ref t_o)])) rfl (by rw [hml]; rfl) (Steps.refl _) (argsL := []) (rest := []) (lenOf own_pd21 rfl) rfl (by show 2 * 0 + _ ≤ _; exact Nat.le_of_eq rfl) (hb hby d14_1) (fun _ _ => ⟨rfl, e0, (by decide : 0 + 0 ≤ _), (by decide : 0 + 0 ≤ _)⟩)
  dsimp only [Pt.U, Pt.locs, Pt.cells, Pt.slots] at X3 l3 y3 z3 st3 hQ3
  rw [l3, y3, z3] at X3
  obtain ⟨rfl, Nq3, eh3⟩ := hQ3
  have N4 := Fr.app N0 Nq3
  have pre16 : ∀ t, Steps p.tables e below (T3.setTop (mkF m 23 #[vR (t_o), vJ (0), s_, vJ (0), s_, vI (0), vI (0), u_, u_] [])) t → Steps p.tables e below (s₁.setTop (entryFrame m #[(.ref t_o)] 9)) t := by
    intro t kt
    refine pre0 _ ?_
    show SS p e below m s₁ 0 #[vR (t_o), u_, u_, u_, u_, u_, u_, u_, u_] [] _
    refine zaloadN X0 hx hby d14_0 rfl rfl ?_
    refine st3.trans ?_
    refine zbipush X3 hx hby (36) d14_4 rfl ?_
    refine zicmpYes X3 hx hby 6 13 rfl d14_6 (teq ((by decide) : (36 : Int32) = (36 : Int32))).1 (by decide) (by decide) ?_
    show SS p e below m T3 13 #[vR (t_o), u_, u_, u_, u_, u_, u_, u_, u_] [] _
    refine XS.lconst X3.here hx rfl (hb hby d14_13) ?_
    show SS p e below m T3 14 #[vR (t_o), u_, u_, u_, u_, u_, u_, u_, u_] [(.long 0)] _
    refine zlstoreN (l' := #[vR (t_o), vJ (0), s_, u_, u_, u_, u_, u_, u_]) X3 hx hby d14_14 rfl ?_
    show SS p e below m T3 15 #[vR (t_o), vJ (0), s_, u_, u_, u_, u_, u_, u_] [] _
    refine XS.lconst X3.here hx rfl (hb hby d14_15) ?_
    show SS p e below m T3 16 #[vR (t_o), vJ (0), s_, u_, u_, u_, u_, u_, u_] [(.long 0)] _
    refine zlstoreN (l' := #[vR (t_o), vJ (0), s_, vJ (0), s_, u_, u_, u_, u_]) X3 hx hby d14_16 rfl ?_
    refine ziconst X3 hx hby (0) d14_17 rfl ?_
    refine zistore (l' := #[vR (t_o), vJ (0), s_, vJ (0), s_, vI (0), u_, u_, u_]) X3 hx hby d14_18 rfl ?_
    refine ziconst X3 hx hby (0) d14_20 rfl ?_
    refine zistore (l' := #[vR (t_o), vJ (0), s_, vJ (0), s_, vI (0), vI (0), u_, u_]) X3 hx hby d14_21 rfl ?_
    exact kt
  obtain ⟨k, i, hi, lo, d, s7, s8, TL17, LL17, XL17, eL17, NL17, hiL, hPL, preL17⟩ : ∃ (k : Nat) (i : Nat) (hi : Int64) (lo : Int64) (d : Int32) (s7 : Option Int32) (s8 : Option Int32) (TL17 : State) (LL17 : List Loc), Stand p l e (RM 4 2 3 53) s m #[(.ref t_o)] below meth c TL17 LL17 0 0 ∧ TL17.heap = h0 ∧ Fr n0 LL17 ∧ (i + k = 36) ∧ (own_pl ch k i d hi lo = some (qh, ql)) ∧ (∀ t, Steps p.tables e below (TL17.setTop (mkF m 23 #[vR (t_o), vJ (hi), s_, vJ (lo), s_, vI (d), vI ((Int32.ofNat i)), (own_sl s7), (own_sl s8)] [])) t → Steps p.tables e below (s₁.setTop (entryFrame m #[(.ref t_o)] 9)) t) := ⟨36, 0, (0 : Int64), (0 : Int64), (0 : Int32), none, none, T3, _, X3, eh3, N4, (Nat.zero_add _), hPp, pre16⟩
  induction k generalizing i hi lo d s7 s8 TL17 LL17 with
  | zero =>
    obtain ⟨eH, eLo⟩ : hi = qh ∧ lo = ql := by simpa [own_pl] using hPL
    obtain ⟨T22, h22, X22, e22, E22, A22, D22, -, st22⟩ := newO XL17 hx hZ hown (hw _ (gm 94 rfl)) (hw _ (gm 95 rfl)) (hw _ (gm 57 rfl)) eL17 (g := (mkF m 128 #[vR (t_o), vJ (hi), s_, vJ (lo), s_, vI (d), vI ((Int32.ofNat i)), (own_sl s7), (own_sl s8)] [])) rfl (hb hby d14_128) (by decide) (by decide)
    obtain ⟨b22, g22⟩ : ∃ z, z = h0.size := ⟨_, rfl⟩
    rw [← g22] at A22 D22 st22
    have Ge25 : n0 ≤ b22 := Nat.le_trans Z0 (Nat.le_of_eq g22.symm)
    have Sz26 : h0.size ≤ b22 := Nat.le_trans (Keep.refl h0 []).1 (Nat.le_of_eq g22.symm)
    have Kc27 : Keep h0 h22 [] := (Keep.refl h0 []).ext E22
    have Zs28 : n0 ≤ h22.size := (Nat.le_trans Z0 E22.1)
    have F22_high : Fld Z h22 b22 "com/example/rosterhall/rosterhall/ResourceId" "high" "J" (.long 0) := D22 (Or.inr (hw _ (gm 106 rfl))) (ty := .long) (by decide)
    have F22_low : Fld Z h22 b22 "com/example/rosterhall/rosterhall/ResourceId" "low" "J" (.long 0) := D22 (Or.inr (hw _ (gm 108 rfl))) (ty := .long) (by decide)
    obtain ⟨_, _, ⟨T33, L33, k33, n33⟩, -, X33, ⟨Lc33, hQ33, l33, y33, z33⟩, st33⟩ := X22.specialBack hx (y := y_30) rfl hown (mvT hZ (hw _ (gm 96 rfl))) (mvT hZ (hw _ (gm 97 rfl))) (mvT hZ (hw _ (gm 98 rfl))) (by decide) (backOf (W := 1) (own_rid l Z a0 hw [] b22 hi lo (.long 0) (.long 0) h22 n0 Zs28 A22 F22_high F22_low Ge25) hZ (hw _ (gm 98 rfl)) (hw _ (gm 57 rfl)) (by decide) (by decide)) (g := (mkF m 134 #[vR (t_o), vJ (hi), s_, vJ (lo), s_, vI (d), vI ((Int32.ofNat i)), (own_sl s7), (own_sl s8)] [(.long lo), (.long hi), (.ref b22), (.ref b22)])) rfl (by rw [hml]; rfl) (Steps.refl _) (a := b22) (argsL := [(.long hi), (.long lo)]) (rest := [(.ref b22)]) (lenOf own_pd24 rfl) rfl (by show 2 * 0 + _ ≤ _; exact Nat.le_of_eq rfl) (hb hby d14_134) (fun _ _ => ⟨rfl, e22, (by decide : 1 + 0 ≤ _), (by decide : 2 + 0 ≤ _)⟩)
    dsimp only [Pt.U, Pt.locs, Pt.cells, Pt.slots] at X33 l33 y33 z33 st33 hQ33
    rw [l33, y33, z33] at X33
    obtain ⟨rfl, Nq33, K33, Pf33_0, Pf33_1⟩ := hQ33
    have N34 := Fr.app NL17 Nq33
    have Kc35 : Keep h0 T33.heap [] := Kc27.trans K33 (allS (Or.inr Sz26) all0)
    have Zs36 : n0 ≤ T33.heap.size := Nat.le_trans Zs28 K33.1
    obtain ⟨_, _, ⟨T38, L38, k38, n38⟩, -, X38, ⟨Lc38, hQ38, l38, y38, z38⟩, st38⟩ := Jvm.LawKit.callS X33 hx (y := y_33) hown (mvT hZ (hw _ (gm 109 rfl))) (mvT hZ (hw _ (gm 110 rfl))) (mvT hZ (hw _ (gm 111 rfl))) (mvT hZ (hw _ (gm 112 rfl))) (by decide) (backOf (W := 0) (own_of l Z a0 hw [] b22 T33.heap n0 Zs36 ) hZ (hw _ (gm 112 rfl)) (hw _ (gm 111 rfl)) (by decide) (by decide)) (g := (mkF m 137 #[vR (t_o), vJ (hi), s_, vJ (lo), s_, vI (d), vI ((Int32.ofNat i)), (own_sl s7), (own_sl s8)] [(.ref b22)])) rfl (by rw [hml]; rfl) (argsL := [(.ref b22)]) (rest := []) (lenOf own_pd25 rfl) rfl (by show 2 * 0 + _ ≤ _; exact Nat.le_of_eq rfl) (hb hby d14_137) (fun _ _ => ⟨rfl, rfl, (by decide : 1 + 1 ≤ _), (by decide : 2 + 1 ≤ _)⟩)
    dsimp only [Pt.U, Pt.locs, Pt.cells, Pt.slots] at X38 l38 y38 z38 st38 hQ38
    rw [l38, y38, z38] at X38
    obtain ⟨r_o_38, rfl, Nq38, sz38_r_o, K38, Pf38_0, Pf38_1⟩ := hQ38
    have N39 := Fr.app N34 Nq38
    have Fq45 : Exa Z T33.heap b22 "com/example/rosterhall/rosterhall/ResourceId" := (A22.keep K33)
    have Sz47 : h0.size ≤ r_o_38 := Nat.le_trans Kc35.1 sz38_r_o
    have Kc48 : Keep h0 T38.heap [] := Kc35.trans K38 all0
    obtain ⟨fs, hr, hrun, hended, hW, hsame⟩ := X38.leave (v := some (.ref r_o_38)) (fun h => by rw [Bd.returns] at h; cases h) (hlocks := BodyLoose.notSynchronized Bd)
    refine ⟨_, _, preL17 _ ?_, hrun, hended, _, _, rfl, ?_, ⟨_, rfl⟩, hW, hsame.mono (by decide) (by decide)⟩
    · show SS p e below m TL17 23 #[vR (t_o), vJ (hi), s_, vJ (lo), s_, vI (d), vI ((Int32.ofNat i)), (own_sl s7), (own_sl s8)] [] _
      refine ziload XL17 hx hby d14_23 rfl ?_
      refine zbipush XL17 hx hby (36) d14_25 rfl ?_
      refine zicmpYes XL17 hx hby 27 128 rfl d14_27 (flt ((own_nltN (n := 36) (by omega) (by omega)) : ¬ ((Int32.ofNat i) < (36 : Int32)))).2.1 (by decide) (by decide) ?_
      refine st22 _ ?_
      show SS p e below m T22 131 #[vR (t_o), vJ (hi), s_, vJ (lo), s_, vI (d), vI ((Int32.ofNat i)), (own_sl s7), (own_sl s8)] [(.ref b22)] _
      refine XS.dup X22.here hx rfl (hb hby d14_131) rfl rfl ?_
      show SS p e below m T22 132 #[vR (t_o), vJ (hi), s_, vJ (lo), s_, vI (d), vI ((Int32.ofNat i)), (own_sl s7), (own_sl s8)] [(.ref b22), (.ref b22)] _
      refine zlloadN X22 hx hby d14_132 rfl ?_
      refine zlloadN X22 hx hby d14_133 rfl ?_
      refine st33.trans ?_
      refine st38 _ ?_
      show SS p e below m T38 140 #[vR (t_o), vJ (hi), s_, vJ (lo), s_, vI (d), vI ((Int32.ofNat i)), (own_sl s7), (own_sl s8)] [(.ref r_o_38)] _
      jvm_step X38.here [X38.here.top, hx, (hb hby d14_140), X38.method', Bd.returns, Value.isRef, FieldType.isReference]
      first | (intro acts; rw [hr _ acts rfl rfl rfl]) | rw [hr _ _ rfl rfl rfl]
      exact Steps.refl _
    · show Qown_prSL Z t_o b_o k_b ch cs e_o u_f qh ql h0 n0 _ T38.heap _
      have Fq51 : Exa Z T38.heap b22 "com/example/rosterhall/rosterhall/ResourceId" := (Fq45.keep K38)
      have Fq52 : Fld Z T38.heap b22 "com/example/rosterhall/rosterhall/ResourceId" "high" "J" (.long hi) := (Pf33_0.keep K38 nin0)
      have Fq53 : Fld Z T38.heap b22 "com/example/rosterhall/rosterhall/ResourceId" "low" "J" (.long lo) := (Pf33_1.keep K38 nin0)
      exact ⟨r_o_38, b22, rfl, N39, Sz47, Sz26, Kc48, Pf38_0, Pf38_1, Fq51, (by rw [← eH]; exact Fq52), (by rw [← eLo]; exact Fq53)⟩
  | succ k ih17 =>
    obtain ⟨cq60, kq60, q60a, q60b, q60c⟩ := isOf hZ eL17 hxa
    obtain ⟨_, _, ⟨T60, L60, k60, n60⟩, -, X60, ⟨Lc60, hQ60, l60, y60, z60⟩, st60⟩ := XL17.virtualBack hx (y := y_28) (z := y_28) hown (mvT hZ (hw _ (gm 69 rfl))) (mvT hZ (hw _ (gm 70 rfl))) (notFace_of_selects (args := #[]) (mvT hZ (hw _ (gm 72 rfl)))) (mvT hZ (hw _ (gm 72 rfl))) (mvT hZ (hw _ (gm 71 rfl))) (by decide) (backOf (W := 0) (own_chaL l Z a0 hw [] t_o i b_o k_b ch u_f cs h0 n0 Z0 hxa hcd hO hS hcs hfv hB (by omega) hl hrg hSf hf) hZ (hw _ (gm 73 rfl)) (hw _ (gm 28 rfl)) (by decide) (by decide)) q60a q60c (g := (mkF m 33 #[vR (t_o), vJ (hi), s_, vJ (lo), s_, vI (d), vI ((Int32.ofNat i)), (own_sl s7), (own_sl s8)] [(.int (Int32.ofNat i)), (.ref t_o)])) rfl (by rw [hml]; rfl) (Steps.refl _) (argsL := [(.int (Int32.ofNat i))]) (rest := []) (lenOf own_pd0 rfl) rfl (by show 2 * 0 + _ ≤ _; exact Nat.le_of_eq rfl) (hb hby d14_33) (fun _ _ => ⟨rfl, eL17, (by decide : 0 + 0 ≤ _), (by decide : 0 + 0 ≤ _)⟩)
    dsimp only [Pt.U, Pt.locs, Pt.cells, Pt.slots] at X60 l60 y60 z60 st60 hQ60
    rw [l60, y60, z60] at X60
    obtain ⟨rfl, Nq60, eh60⟩ := hQ60
    have N61 := Fr.app NL17 Nq60
    have pre66 : ∀ t, Steps p.tables e below (T60.setTop (mkF m 42 #[vR (t_o), vJ (hi), s_, vJ (lo), s_, vI (d), vI ((Int32.ofNat i)), vI ((ch i)), (own_sl s8)] [(.int 8), (.int (Int32.ofNat i))])) t → Steps p.tables e below (s₁.setTop (entryFrame m #[(.ref t_o)] 9)) t := by
      intro t kt
      refine preL17 _ ?_
      show SS p e below m TL17 23 #[vR (t_o), vJ (hi), s_, vJ (lo), s_, vI (d), vI ((Int32.ofNat i)), (own_sl s7), (own_sl s8)] [] _
      refine ziload XL17 hx hby d14_23 rfl ?_
      refine zbipush XL17 hx hby (36) d14_25 rfl ?_
      refine zicmpNo XL17 hx hby d14_27 (tlt ((own_ltN (n := 36) (by omega) (by decide)) : (Int32.ofNat i) < (36 : Int32))).2.1 ?_
      refine zaloadN XL17 hx hby d14_30 rfl rfl ?_
      refine ziload XL17 hx hby d14_31 rfl ?_
      refine st60.trans ?_
      refine zistore (l' := #[vR (t_o), vJ (hi), s_, vJ (lo), s_, vI (d), vI ((Int32.ofNat i)), vI ((ch i)), (own_sl s8)]) X60 hx hby d14_36 (match s7 with | none => rfl | some _ => rfl) ?_
      refine ziload X60 hx hby d14_38 rfl ?_
      refine zbipush X60 hx hby (8) d14_40 rfl ?_
      exact kt
    by_cases hc42_67 : (Int32.ofNat i) = (8 : Int32)
    · have pre71 : ∀ t, Steps p.tables e below (T60.setTop (mkF m 70 #[vR (t_o), vJ (hi), s_, vJ (lo), s_, vI (d), vI ((Int32.ofNat i)), vI ((ch i)), (own_sl s8)] [(.int 45), (.int (ch i))])) t → Steps p.tables e below (s₁.setTop (entryFrame m #[(.ref t_o)] 9)) t := by
        intro t kt
        refine pre66 _ ?_
        show SS p e below m T60 42 #[vR (t_o), vJ (hi), s_, vJ (lo), s_, vI (d), vI ((Int32.ofNat i)), vI ((ch i)), (own_sl s8)] [(.int 8), (.int (Int32.ofNat i))] _
        refine zicmpYes X60 hx hby 42 66 rfl d14_42 (teq hc42_67).1 (by decide) (by decide) ?_
        refine ziload X60 hx hby d14_66 rfl ?_
        refine zbipush X60 hx hby (45) d14_68 rfl ?_
        exact kt
      by_cases hc70_72 : (ch i) = (45 : Int32)
      · have preB76 : ∀ t, Steps p.tables e below (T60.setTop (mkF m 23 #[vR (t_o), vJ (hi), s_, vJ (lo), s_, vI (d), vI ((Int32.ofNat (i + 1))), (own_sl (some (ch i))), (own_sl s8)] [])) t → Steps p.tables e below (s₁.setTop (entryFrame m #[(.ref t_o)] 9)) t := by
          intro t kt
          refine pre71 _ ?_
          show SS p e below m T60 70 #[vR (t_o), vJ (hi), s_, vJ (lo), s_, vI (d), vI ((Int32.ofNat i)), vI ((ch i)), (own_sl s8)] [(.int 45), (.int (ch i))] _
          refine zicmpYes X60 hx hby 70 122 rfl d14_70 (teq hc70_72).1 (by decide) (by decide) ?_
          refine ziinc (l' := #[vR (t_o), vJ (hi), s_, vJ (lo), s_, vI (d), vI (((Int32.ofNat i) + (1 : Int32))), vI ((ch i)), (own_sl s8)]) X60 hx hby d14_122 rfl rfl ?_
          refine zgoto X60 hx hby 125 23 rfl d14_125 (by decide) (by decide) ?_
          show SS p e below m T60 23 #[vR (t_o), vJ (hi), s_, vJ (lo), s_, vI (d), vI (((Int32.ofNat i) + (1 : Int32))), vI ((ch i)), (own_sl s8)] [] _
          rw [own_one]
          exact kt
        exact ih17 (i + 1) hi lo d (some (ch i)) s8 T60 _ X60 eh60 N61 (by omega) (by rw [own_pl, if_pos hc42_67, if_pos hc70_72] at hPL; exact hPL) preB76
      · exact absurd hPL (by rw [own_pl, if_pos hc42_67, if_neg hc70_72]; exact nofun)
    · have pre80 : ∀ t, Steps p.tables e below (T60.setTop (mkF m 49 #[vR (t_o), vJ (hi), s_, vJ (lo), s_, vI (d), vI ((Int32.ofNat i)), vI ((ch i)), (own_sl s8)] [(.int 13), (.int (Int32.ofNat i))])) t → Steps p.tables e below (s₁.setTop (entryFrame m #[(.ref t_o)] 9)) t := by
        intro t kt
        refine pre66 _ ?_
        show SS p e below m T60 42 #[vR (t_o), vJ (hi), s_, vJ (lo), s_, vI (d), vI ((Int32.ofNat i)), vI ((ch i)), (own_sl s8)] [(.int 8), (.int (Int32.ofNat i))] _
        refine zicmpNo X60 hx hby d14_42 (feq hc42_67).1 ?_
        refine ziload X60 hx hby d14_45 rfl ?_
        refine zbipush X60 hx hby (13) d14_47 rfl ?_
        exact kt
      by_cases hc49_81 : (Int32.ofNat i) = (13 : Int32)
      · have pre85 : ∀ t, Steps p.tables e below (T60.setTop (mkF m 70 #[vR (t_o), vJ (hi), s_, vJ (lo), s_, vI (d), vI ((Int32.ofNat i)), vI ((ch i)), (own_sl s8)] [(.int 45), (.int (ch i))])) t → Steps p.tables e below (s₁.setTop (entryFrame m #[(.ref t_o)] 9)) t := by
          intro t kt
          refine pre80 _ ?_
          show SS p e below m T60 49 #[vR (t_o), vJ (hi), s_, vJ (lo), s_, vI (d), vI ((Int32.ofNat i)), vI ((ch i)), (own_sl s8)] [(.int 13), (.int (Int32.ofNat i))] _
          refine zicmpYes X60 hx hby 49 66 rfl d14_49 (teq hc49_81).1 (by decide) (by decide) ?_
          refine ziload X60 hx hby d14_66 rfl ?_
          refine zbipush X60 hx hby (45) d14_68 rfl ?_
          exact kt
        by_cases hc70_86 : (ch i) = (45 : Int32)
        · have preB90 : ∀ t, Steps p.tables e below (T60.setTop (mkF m 23 #[vR (t_o), vJ (hi), s_, vJ (lo), s_, vI (d), vI ((Int32.ofNat (i + 1))), (own_sl (some (ch i))), (own_sl s8)] [])) t → Steps p.tables e below (s₁.setTop (entryFrame m #[(.ref t_o)] 9)) t := by
            intro t kt
            refine pre85 _ ?_
            show SS p e below m T60 70 #[vR (t_o), vJ (hi), s_, vJ (lo), s_, vI (d), vI ((Int32.ofNat i)), vI ((ch i)), (own_sl s8)] [(.int 45), (.int (ch i))] _
            refine zicmpYes X60 hx hby 70 122 rfl d14_70 (teq hc70_86).1 (by decide) (by decide) ?_
            refine ziinc (l' := #[vR (t_o), vJ (hi), s_, vJ (lo), s_, vI (d), vI (((Int32.ofNat i) + (1 : Int32))), vI ((ch i)), (own_sl s8)]) X60 hx hby d14_122 rfl rfl ?_
            refine zgoto X60 hx hby 125 23 rfl d14_125 (by decide) (by decide) ?_
            show SS p e below m T60 23 #[vR (t_o), vJ (hi), s_, vJ (lo), s_, vI (d), vI (((Int32.ofNat i) + (1 : Int32))), vI ((ch i)), (own_sl s8)] [] _
            rw [own_one]
            exact kt
          exact ih17 (i + 1) hi lo d (some (ch i)) s8 T60 _ X60 eh60 N61 (by omega) (by rw [own_pl, if_neg hc42_67, if_pos hc49_81, if_pos hc70_86] at hPL; exact hPL) preB90
        · exact absurd hPL (by rw [own_pl, if_neg hc42_67, if_pos hc49_81, if_neg hc70_86]; exact nofun)
      · have pre94 : ∀ t, Steps p.tables e below (T60.setTop (mkF m 56 #[vR (t_o), vJ (hi), s_, vJ (lo), s_, vI (d), vI ((Int32.ofNat i)), vI ((ch i)), (own_sl s8)] [(.int 18), (.int (Int32.ofNat i))])) t → Steps p.tables e below (s₁.setTop (entryFrame m #[(.ref t_o)] 9)) t := by
          intro t kt
          refine pre80 _ ?_
          show SS p e below m T60 49 #[vR (t_o), vJ (hi), s_, vJ (lo), s_, vI (d), vI ((Int32.ofNat i)), vI ((ch i)), (own_sl s8)] [(.int 13), (.int (Int32.ofNat i))] _
          refine zicmpNo X60 hx hby d14_49 (feq hc49_81).1 ?_
          refine ziload X60 hx hby d14_52 rfl ?_
          refine zbipush X60 hx hby (18) d14_54 rfl ?_
          exact kt
        by_cases hc56_95 : (Int32.ofNat i) = (18 : Int32)
        · have pre99 : ∀ t, Steps p.tables e below (T60.setTop (mkF m 70 #[vR (t_o), vJ (hi), s_, vJ (lo), s_, vI (d), vI ((Int32.ofNat i)), vI ((ch i)), (own_sl s8)] [(.int 45), (.int (ch i))])) t → Steps p.tables e below (s₁.setTop (entryFrame m #[(.ref t_o)] 9)) t := by
            intro t kt
            refine pre94 _ ?_
            show SS p e below m T60 56 #[vR (t_o), vJ (hi), s_, vJ (lo), s_, vI (d), vI ((Int32.ofNat i)), vI ((ch i)), (own_sl s8)] [(.int 18), (.int (Int32.ofNat i))] _
            refine zicmpYes X60 hx hby 56 66 rfl d14_56 (teq hc56_95).1 (by decide) (by decide) ?_
            refine ziload X60 hx hby d14_66 rfl ?_
            refine zbipush X60 hx hby (45) d14_68 rfl ?_
            exact kt
          by_cases hc70_100 : (ch i) = (45 : Int32)
          · have preB104 : ∀ t, Steps p.tables e below (T60.setTop (mkF m 23 #[vR (t_o), vJ (hi), s_, vJ (lo), s_, vI (d), vI ((Int32.ofNat (i + 1))), (own_sl (some (ch i))), (own_sl s8)] [])) t → Steps p.tables e below (s₁.setTop (entryFrame m #[(.ref t_o)] 9)) t := by
              intro t kt
              refine pre99 _ ?_
              show SS p e below m T60 70 #[vR (t_o), vJ (hi), s_, vJ (lo), s_, vI (d), vI ((Int32.ofNat i)), vI ((ch i)), (own_sl s8)] [(.int 45), (.int (ch i))] _
              refine zicmpYes X60 hx hby 70 122 rfl d14_70 (teq hc70_100).1 (by decide) (by decide) ?_
              refine ziinc (l' := #[vR (t_o), vJ (hi), s_, vJ (lo), s_, vI (d), vI (((Int32.ofNat i) + (1 : Int32))), vI ((ch i)), (own_sl s8)]) X60 hx hby d14_122 rfl rfl ?_
              refine zgoto X60 hx hby 125 23 rfl d14_125 (by decide) (by decide) ?_
              show SS p e below m T60 23 #[vR (t_o), vJ (hi), s_, vJ (lo), s_, vI (d), vI (((Int32.ofNat i) + (1 : Int32))), vI ((ch i)), (own_sl s8)] [] _
              rw [own_one]
              exact kt
            exact ih17 (i + 1) hi lo d (some (ch i)) s8 T60 _ X60 eh60 N61 (by omega) (by rw [own_pl, if_neg hc42_67, if_neg hc49_81, if_pos hc56_95, if_pos hc70_100] at hPL; exact hPL) preB104
          · exact absurd hPL (by rw [own_pl, if_neg hc42_67, if_neg hc49_81, if_pos hc56_95, if_neg hc70_100]; exact nofun)
        · have pre108 : ∀ t, Steps p.tables e below (T60.setTop (mkF m 63 #[vR (t_o), vJ (hi), s_, vJ (lo), s_, vI (d), vI ((Int32.ofNat i)), vI ((ch i)), (own_sl s8)] [(.int 23), (.int (Int32.ofNat i))])) t → Steps p.tables e below (s₁.setTop (entryFrame m #[(.ref t_o)] 9)) t := by
            intro t kt
            refine pre94 _ ?_
            show SS p e below m T60 56 #[vR (t_o), vJ (hi), s_, vJ (lo), s_, vI (d), vI ((Int32.ofNat i)), vI ((ch i)), (own_sl s8)] [(.int 18), (.int (Int32.ofNat i))] _
            refine zicmpNo X60 hx hby d14_56 (feq hc56_95).1 ?_
            refine ziload X60 hx hby d14_59 rfl ?_
            refine zbipush X60 hx hby (23) d14_61 rfl ?_
            exact kt
          by_cases hc63_109 : (Int32.ofNat i) = (23 : Int32)
          · have pre113 : ∀ t, Steps p.tables e below (T60.setTop (mkF m 70 #[vR (t_o), vJ (hi), s_, vJ (lo), s_, vI (d), vI ((Int32.ofNat i)), vI ((ch i)), (own_sl s8)] [(.int 45), (.int (ch i))])) t → Steps p.tables e below (s₁.setTop (entryFrame m #[(.ref t_o)] 9)) t := by
              intro t kt
              refine pre108 _ ?_
              show SS p e below m T60 63 #[vR (t_o), vJ (hi), s_, vJ (lo), s_, vI (d), vI ((Int32.ofNat i)), vI ((ch i)), (own_sl s8)] [(.int 23), (.int (Int32.ofNat i))] _
              refine zicmpNo X60 hx hby d14_63 (teq hc63_109).2 ?_
              refine ziload X60 hx hby d14_66 rfl ?_
              refine zbipush X60 hx hby (45) d14_68 rfl ?_
              exact kt
            by_cases hc70_114 : (ch i) = (45 : Int32)
            · have preB118 : ∀ t, Steps p.tables e below (T60.setTop (mkF m 23 #[vR (t_o), vJ (hi), s_, vJ (lo), s_, vI (d), vI ((Int32.ofNat (i + 1))), (own_sl (some (ch i))), (own_sl s8)] [])) t → Steps p.tables e below (s₁.setTop (entryFrame m #[(.ref t_o)] 9)) t := by
                intro t kt
                refine pre113 _ ?_
                show SS p e below m T60 70 #[vR (t_o), vJ (hi), s_, vJ (lo), s_, vI (d), vI ((Int32.ofNat i)), vI ((ch i)), (own_sl s8)] [(.int 45), (.int (ch i))] _
                refine zicmpYes X60 hx hby 70 122 rfl d14_70 (teq hc70_114).1 (by decide) (by decide) ?_
                refine ziinc (l' := #[vR (t_o), vJ (hi), s_, vJ (lo), s_, vI (d), vI (((Int32.ofNat i) + (1 : Int32))), vI ((ch i)), (own_sl s8)]) X60 hx hby d14_122 rfl rfl ?_
                refine zgoto X60 hx hby 125 23 rfl d14_125 (by decide) (by decide) ?_
                show SS p e below m T60 23 #[vR (t_o), vJ (hi), s_, vJ (lo), s_, vI (d), vI (((Int32.ofNat i) + (1 : Int32))), vI ((ch i)), (own_sl s8)] [] _
                rw [own_one]
                exact kt
              exact ih17 (i + 1) hi lo d (some (ch i)) s8 T60 _ X60 eh60 N61 (by omega) (by rw [own_pl, if_neg hc42_67, if_neg hc49_81, if_neg hc56_95, if_pos hc63_109, if_pos hc70_114] at hPL; exact hPL) preB118
            · exact absurd hPL (by rw [own_pl, if_neg hc42_67, if_neg hc49_81, if_neg hc56_95, if_pos hc63_109, if_neg hc70_114]; exact nofun)
          · obtain ⟨_, _, ⟨T121, L121, k121, n121⟩, -, X121, ⟨Lc121, hQ121, l121, y121, z121⟩, st121⟩ := Jvm.LawKit.callS X60 hx (y := y_6) hown (mvT hZ (hw _ (gm 91 rfl))) (mvT hZ (hw _ (gm 92 rfl))) (mvT hZ (hw _ (gm 57 rfl))) (mvT hZ (hw _ (gm 93 rfl))) (by decide) (backOf (W := 0) (own_hxd l Z a0 hw [] (ch i) h0 n0 Z0 ) hZ (hw _ (gm 93 rfl)) (hw _ (gm 57 rfl)) (by decide) (by decide)) (g := (mkF m 79 #[vR (t_o), vJ (hi), s_, vJ (lo), s_, vI (d), vI ((Int32.ofNat i)), vI ((ch i)), (own_sl s8)] [(.int (ch i))])) rfl (by rw [hml]; rfl) (argsL := [(.int (ch i))]) (rest := []) (lenOf own_pd23 rfl) rfl (by show 2 * 0 + _ ≤ _; exact Nat.le_of_eq rfl) (hb hby d14_79) (fun _ _ => ⟨rfl, eh60, (by decide : 0 + 0 ≤ _), (by decide : 0 + 0 ≤ _)⟩)
            dsimp only [Pt.U, Pt.locs, Pt.cells, Pt.slots] at X121 l121 y121 z121 st121 hQ121
            rw [l121, y121, z121] at X121
            obtain ⟨rfl, Nq121, eh121⟩ := hQ121
            have N122 := Fr.app N61 Nq121
            have pre126 : ∀ t, Steps p.tables e below (T121.setTop (mkF m 86 #[vR (t_o), vJ (hi), s_, vJ (lo), s_, vI (d), vI ((Int32.ofNat i)), vI ((ch i)), vI ((own_hxd_f (ch i)))] [(.int (own_hxd_f (ch i)))])) t → Steps p.tables e below (s₁.setTop (entryFrame m #[(.ref t_o)] 9)) t := by
              intro t kt
              refine pre108 _ ?_
              show SS p e below m T60 63 #[vR (t_o), vJ (hi), s_, vJ (lo), s_, vI (d), vI ((Int32.ofNat i)), vI ((ch i)), (own_sl s8)] [(.int 23), (.int (Int32.ofNat i))] _
              refine zicmpYes X60 hx hby 63 77 rfl d14_63 (feq hc63_109).2 (by decide) (by decide) ?_
              refine ziload X60 hx hby d14_77 rfl ?_
              refine st121 _ ?_
              refine zistore (l' := #[vR (t_o), vJ (hi), s_, vJ (lo), s_, vI (d), vI ((Int32.ofNat i)), vI ((ch i)), vI ((own_hxd_f (ch i)))]) X121 hx hby d14_82 (match s8 with | none => rfl | some _ => rfl) ?_
              refine ziload X121 hx hby d14_84 rfl ?_
              exact kt
            by_cases hc86_127 : (own_hxd_f (ch i)) < (0 : Int32)
            · exact absurd hPL (by rw [own_pl, if_neg hc42_67, if_neg hc49_81, if_neg hc56_95, if_neg hc63_109, if_pos hc86_127]; exact nofun)
            · have pre131 : ∀ t, Steps p.tables e below (T121.setTop (mkF m 97 #[vR (t_o), vJ (hi), s_, vJ (lo), s_, vI (d), vI ((Int32.ofNat i)), vI ((ch i)), vI ((own_hxd_f (ch i)))] [(.int 16), (.int d)])) t → Steps p.tables e below (s₁.setTop (entryFrame m #[(.ref t_o)] 9)) t := by
                intro t kt
                refine pre126 _ ?_
                show SS p e below m T121 86 #[vR (t_o), vJ (hi), s_, vJ (lo), s_, vI (d), vI ((Int32.ofNat i)), vI ((ch i)), vI ((own_hxd_f (ch i)))] [(.int (own_hxd_f (ch i)))] _
                refine zifYes X121 hx hby 86 93 rfl d14_86 ((if0 _ _).trans (flt hc86_127).2.1) (by decide) (by decide) ?_
                refine ziload X121 hx hby d14_93 rfl ?_
                refine zbipush X121 hx hby (16) d14_95 rfl ?_
                exact kt
              by_cases hc97_132 : d < (16 : Int32)
              · have preB145 : ∀ t, Steps p.tables e below (T121.setTop (mkF m 23 #[vR (t_o), vJ (((hi <<< ((4 : Int32) &&& 0x3f).toInt64) ||| ((own_hxd_f (ch i)).toInt64))), s_, vJ (lo), s_, vI ((d + (1 : Int32))), vI ((Int32.ofNat (i + 1))), (own_sl (some (ch i))), (own_sl (some (own_hxd_f (ch i))))] [])) t → Steps p.tables e below (s₁.setTop (entryFrame m #[(.ref t_o)] 9)) t := by
                  intro t kt
                  refine pre131 _ ?_
                  show SS p e below m T121 97 #[vR (t_o), vJ (hi), s_, vJ (lo), s_, vI (d), vI ((Int32.ofNat i)), vI ((ch i)), vI ((own_hxd_f (ch i)))] [(.int 16), (.int d)] _
                  refine zicmpNo X121 hx hby d14_97 (tlt hc97_132).2.1 ?_
                  refine zlloadN X121 hx hby d14_100 rfl ?_
                  refine ziconst X121 hx hby (4) d14_101 rfl ?_
                  show SS p e below m T121 102 #[vR (t_o), vJ (hi), s_, vJ (lo), s_, vI (d), vI ((Int32.ofNat i)), vI ((ch i)), vI ((own_hxd_f (ch i)))] [(.int 4), (.long hi)] _
                  refine XS.lshl X121.here hx rfl (hb hby d14_102) rfl ?_
                  show SS p e below m T121 103 #[vR (t_o), vJ (hi), s_, vJ (lo), s_, vI (d), vI ((Int32.ofNat i)), vI ((ch i)), vI ((own_hxd_f (ch i)))] [(.long (hi <<< ((4 : Int32) &&& 0x3f).toInt64))] _
                  refine ziload X121 hx hby d14_103 rfl ?_
                  show SS p e below m T121 105 #[vR (t_o), vJ (hi), s_, vJ (lo), s_, vI (d), vI ((Int32.ofNat i)), vI ((ch i)), vI ((own_hxd_f (ch i)))] [(.int (own_hxd_f (ch i))), (.long (hi <<< ((4 : Int32) &&& 0x3f).toInt64))] _
                  refine XS.i2l X121.here hx rfl (hb hby d14_105) rfl ?_
                  show SS p e below m T121 106 #[vR (t_o), vJ (hi), s_, vJ (lo), s_, vI (d), vI ((Int32.ofNat i)), vI ((ch i)), vI ((own_hxd_f (ch i)))] [(.long ((own_hxd_f (ch i)).toInt64)), (.long (hi <<< ((4 : Int32) &&& 0x3f).toInt64))] _
                  refine XS.lor X121.here hx rfl (hb hby d14_106) rfl ?_
                  show SS p e below m T121 107 #[vR (t_o), vJ (hi), s_, vJ (lo), s_, vI (d), vI ((Int32.ofNat i)), vI ((ch i)), vI ((own_hxd_f (ch i)))] [(.long ((hi <<< ((4 : Int32) &&& 0x3f).toInt64) ||| ((own_hxd_f (ch i)).toInt64)))] _
                  refine zlstoreN (l' := #[vR (t_o), vJ (((hi <<< ((4 : Int32) &&& 0x3f).toInt64) ||| ((own_hxd_f (ch i)).toInt64))), s_, vJ (lo), s_, vI (d), vI ((Int32.ofNat i)), vI ((ch i)), vI ((own_hxd_f (ch i)))]) X121 hx hby d14_107 rfl ?_
                  refine zgoto X121 hx hby 108 119 rfl d14_108 (by decide) (by decide) ?_
                  refine ziinc (l' := #[vR (t_o), vJ (((hi <<< ((4 : Int32) &&& 0x3f).toInt64) ||| ((own_hxd_f (ch i)).toInt64))), s_, vJ (lo), s_, vI ((d + (1 : Int32))), vI ((Int32.ofNat i)), vI ((ch i)), vI ((own_hxd_f (ch i)))]) X121 hx hby d14_119 rfl rfl ?_
                  refine ziinc (l' := #[vR (t_o), vJ (((hi <<< ((4 : Int32) &&& 0x3f).toInt64) ||| ((own_hxd_f (ch i)).toInt64))), s_, vJ (lo), s_, vI ((d + (1 : Int32))), vI (((Int32.ofNat i) + (1 : Int32))), vI ((ch i)), vI ((own_hxd_f (ch i)))]) X121 hx hby d14_122 rfl rfl ?_
                  refine zgoto X121 hx hby 125 23 rfl d14_125 (by decide) (by decide) ?_
                  show SS p e below m T121 23 #[vR (t_o), vJ (((hi <<< ((4 : Int32) &&& 0x3f).toInt64) ||| ((own_hxd_f (ch i)).toInt64))), s_, vJ (lo), s_, vI ((d + (1 : Int32))), vI (((Int32.ofNat i) + (1 : Int32))), vI ((ch i)), vI ((own_hxd_f (ch i)))] [] _
                  rw [own_one]
                  exact kt
                exact ih17 (i + 1) ((hi <<< ((4 : Int32) &&& 0x3f).toInt64) ||| ((own_hxd_f (ch i)).toInt64)) lo (d + (1 : Int32)) (some (ch i)) (some (own_hxd_f (ch i))) T121 _ X121 eh121 N122 (by omega) (by rw [own_pl, if_neg hc42_67, if_neg hc49_81, if_neg hc56_95, if_neg hc63_109, if_neg hc86_127, if_pos hc97_132] at hPL; exact hPL) preB145
              · have preB157 : ∀ t, Steps p.tables e below (T121.setTop (mkF m 23 #[vR (t_o), vJ (hi), s_, vJ (((lo <<< ((4 : Int32) &&& 0x3f).toInt64) ||| ((own_hxd_f (ch i)).toInt64))), s_, vI ((d + (1 : Int32))), vI ((Int32.ofNat (i + 1))), (own_sl (some (ch i))), (own_sl (some (own_hxd_f (ch i))))] [])) t → Steps p.tables e below (s₁.setTop (entryFrame m #[(.ref t_o)] 9)) t := by
                  intro t kt
                  refine pre131 _ ?_
                  show SS p e below m T121 97 #[vR (t_o), vJ (hi), s_, vJ (lo), s_, vI (d), vI ((Int32.ofNat i)), vI ((ch i)), vI ((own_hxd_f (ch i)))] [(.int 16), (.int d)] _
                  refine zicmpYes X121 hx hby 97 111 rfl d14_97 (flt hc97_132).2.1 (by decide) (by decide) ?_
                  refine zlloadN X121 hx hby d14_111 rfl ?_
                  refine ziconst X121 hx hby (4) d14_112 rfl ?_
                  show SS p e below m T121 113 #[vR (t_o), vJ (hi), s_, vJ (lo), s_, vI (d), vI ((Int32.ofNat i)), vI ((ch i)), vI ((own_hxd_f (ch i)))] [(.int 4), (.long lo)] _
                  refine XS.lshl X121.here hx rfl (hb hby d14_113) rfl ?_
                  show SS p e below m T121 114 #[vR (t_o), vJ (hi), s_, vJ (lo), s_, vI (d), vI ((Int32.ofNat i)), vI ((ch i)), vI ((own_hxd_f (ch i)))] [(.long (lo <<< ((4 : Int32) &&& 0x3f).toInt64))] _
                  refine ziload X121 hx hby d14_114 rfl ?_
                  show SS p e below m T121 116 #[vR (t_o), vJ (hi), s_, vJ (lo), s_, vI (d), vI ((Int32.ofNat i)), vI ((ch i)), vI ((own_hxd_f (ch i)))] [(.int (own_hxd_f (ch i))), (.long (lo <<< ((4 : Int32) &&& 0x3f).toInt64))] _
                  refine XS.i2l X121.here hx rfl (hb hby d14_116) rfl ?_
                  show SS p e below m T121 117 #[vR (t_o), vJ (hi), s_, vJ (lo), s_, vI (d), vI ((Int32.ofNat i)), vI ((ch i)), vI ((own_hxd_f (ch i)))] [(.long ((own_hxd_f (ch i)).toInt64)), (.long (lo <<< ((4 : Int32) &&& 0x3f).toInt64))] _
                  refine XS.lor X121.here hx rfl (hb hby d14_117) rfl ?_
                  show SS p e below m T121 118 #[vR (t_o), vJ (hi), s_, vJ (lo), s_, vI (d), vI ((Int32.ofNat i)), vI ((ch i)), vI ((own_hxd_f (ch i)))] [(.long ((lo <<< ((4 : Int32) &&& 0x3f).toInt64) ||| ((own_hxd_f (ch i)).toInt64)))] _
                  refine zlstoreN (l' := #[vR (t_o), vJ (hi), s_, vJ (((lo <<< ((4 : Int32) &&& 0x3f).toInt64) ||| ((own_hxd_f (ch i)).toInt64))), s_, vI (d), vI ((Int32.ofNat i)), vI ((ch i)), vI ((own_hxd_f (ch i)))]) X121 hx hby d14_118 rfl ?_
                  refine ziinc (l' := #[vR (t_o), vJ (hi), s_, vJ (((lo <<< ((4 : Int32) &&& 0x3f).toInt64) ||| ((own_hxd_f (ch i)).toInt64))), s_, vI ((d + (1 : Int32))), vI ((Int32.ofNat i)), vI ((ch i)), vI ((own_hxd_f (ch i)))]) X121 hx hby d14_119 rfl rfl ?_
                  refine ziinc (l' := #[vR (t_o), vJ (hi), s_, vJ (((lo <<< ((4 : Int32) &&& 0x3f).toInt64) ||| ((own_hxd_f (ch i)).toInt64))), s_, vI ((d + (1 : Int32))), vI (((Int32.ofNat i) + (1 : Int32))), vI ((ch i)), vI ((own_hxd_f (ch i)))]) X121 hx hby d14_122 rfl rfl ?_
                  refine zgoto X121 hx hby 125 23 rfl d14_125 (by decide) (by decide) ?_
                  show SS p e below m T121 23 #[vR (t_o), vJ (hi), s_, vJ (((lo <<< ((4 : Int32) &&& 0x3f).toInt64) ||| ((own_hxd_f (ch i)).toInt64))), s_, vI ((d + (1 : Int32))), vI (((Int32.ofNat i) + (1 : Int32))), vI ((ch i)), vI ((own_hxd_f (ch i)))] [] _
                  rw [own_one]
                  exact kt
                exact ih17 (i + 1) hi ((lo <<< ((4 : Int32) &&& 0x3f).toInt64) ||| ((own_hxd_f (ch i)).toInt64)) (d + (1 : Int32)) (some (ch i)) (some (own_hxd_f (ch i))) T121 _ X121 eh121 N122 (by omega) (by rw [own_pl, if_neg hc42_67, if_neg hc49_81, if_neg hc56_95, if_neg hc63_109, if_neg hc86_127, if_neg hc97_132] at hPL; exact hPL) preB157
theorem own_compact {Z : State} {a0 : Array Value} {C n : String} (h : (Cond.isInt (Term.static C n "Z")).before a0 Z = true) (h2 : (Cond.not (Cond.eq (Term.static C n "Z") (Term.int (0 : Int32)))).before a0 Z = true) (hi : (Cond.initializedFor C n "Z").before a0 Z = true) : ∃ w : Int32, Sta Z Z.heap C n "Z" (.int w) ∧ ¬ w = (0 : Int32) := by
  obtain ⟨w, e1⟩ := is_v (Cond.before_iff.mp h)
  refine ⟨w, Sta.start e1 (Or.inl hi), fun q => ?_⟩
  subst q
  simp [Cond.before, Cond.holds, Cond.value, e1, Term.int_eval] at h2
theorem own_staI {Z : State} {a0 : Array Value} {C n d : String} {w : Int32} (h : (Cond.eq (Term.static C n d) (Term.int w)).before a0 Z = true) (hi : (Cond.initializedFor C n d).before a0 Z = true) : Sta Z Z.heap C n d (.int w) := by
  refine Sta.start (args := a0) ?_ (Or.inl hi)
  have q := Cond.before_iff.mp h
  simp only [Cond.value, Term.int_eval] at q
  cases ht : (Term.static C n d).eval a0 Z none [] Z with
  | none => simp [ht] at q
  | some x => cases x <;> simp [ht] at q ⊢; exact q
theorem own_four {m : Nat} (h : m < 4) : m = 0 ∨ m = 1 ∨ m = 2 ∨ m = 3 := by omega
theorem own_ef_own_law (m : MethodId) (q0 : Int64) (q1 : Int64) (p2 : Int32) (p3 : Int32) (p4 : Int32) : entryFrame m #[(.long q0), (.long q1), (.int p2), (.int p3), (.int p4)] maxLocals = mkF m 0 #[.val (.long q0), .second, .val (.long q1), .second, .val (.int p2), .val (.int p3), .val (.int p4), .unset, .unset, .unset, .unset, .unset, .unset, .unset, .unset, .unset, .unset, .unset, .unset, .unset, .unset] [] := by first | (simp [entryFrame, mkF, argsToLocals, Value.category, maxLocals]; done) | rfl
theorem own_pd26 : parseMethodDescriptor "(JJI)[C" = some ⟨[.long, .long, .int], some (.array .char)⟩ := by decide +kernel
theorem own_pd27 : parseMethodDescriptor "([C)V" = some ⟨[(.array .char)], none⟩ := by decide +kernel
theorem own_pd28 : parseMethodDescriptor "(Ljava/lang/String;)Ljava/util/Optional;" = some ⟨[(.object "java/lang/String")], some (.object "java/util/Optional")⟩ := by decide +kernel
theorem own_pd29 : parseMethodDescriptor "()Ljava/lang/Object;" = some ⟨[], some (.object "java/lang/Object")⟩ := by decide +kernel
theorem own_pd30 : parseMethodDescriptor "()J" = some ⟨[], some .long⟩ := by decide +kernel
def Qown_law (Z : State) (q0 : Int64) (q1 : Int64) (p2 : Int32) (p3 : Int32) (p4 : Int32) (cs : Int32) (u_f : Value) (e_o : Addr) (h0 : Heap) (n0 : Nat) (v : Option Value) (h : Heap) (L : List Loc) : Prop := v = some (.int 1) ∧ Fr n0 L
set_option maxRecDepth 65536 in
set_option maxHeartbeats 40000000 in
theorem own_law (l : Launch) (Z : State) (a0 : Array Value) (hw : ∀ d ∈ tables_1, d.before a0 Z = true) (ws : List Jvm.Cond) (q0 : Int64) (q1 : Int64) (p2 : Int32) (p3 : Int32) (p4 : Int32) (cs : Int32) (u_f : Value) (e_o : Addr) (h0 : Heap) (n0 : Nat) (Z0 : n0 ≤ h0.size) (hSa : Sta Z Z.heap "java/lang/StringUTF16" "$assertionsDisabled" "Z" (.int 1)) (hSh : Sta Z Z.heap "java/lang/StringUTF16" "HI_BYTE_SHIFT" "I" (.int 0)) (hSl : Sta Z Z.heap "java/lang/StringUTF16" "LO_BYTE_SHIFT" "I" (.int 8)) (hO : Old Z n0 h0) (hS : Sta Z Z.heap "java/lang/String" "COMPACT_STRINGS" "Z" (.int cs)) (hcs : ¬ cs = (0 : Int32)) (hSf : Sta Z Z.heap "jdk/internal/util/Preconditions" "SIOOBE_FORMATTER" "Ljava/util/function/BiFunction;" u_f) (hf : u_f.isRef = true) (hSe : Sta Z Z.heap "java/util/Optional" "EMPTY" "Ljava/util/Optional;" (.ref e_o)) (hEe : Exa Z h0 e_o "java/util/Optional") (hFe : Fld Z h0 e_o "java/util/Optional" "value" "Ljava/lang/Object;" .null) :
    MetFree l x (head1 (Jvm.Cond.code x code maxLocals ret :: ws) room_1) (fun a U => a = #[(.long q0), (.long q1), (.int p2), (.int p3), (.int p4)] ∧ Z.Warmed39 U.vm ∧ U.heap = h0) (fun _ _ _ _ _ => True) (fun _ U o U' => ∃ v L, o = .returned v ∧ Qown_law Z q0 q1 p2 p3 p4 cs u_f e_o h0 n0 v U'.heap L ∧ FrameEnd U o U' L room_1.cells room_1.slots) := by
  refine MetFree.of_bodySF (plainFor_of_name own_pn0) hisR ?_
  intro p e s m args below meth c s₁ Bd hml0 hP hK
  obtain ⟨rfl, hZ, hh⟩ := hP
  have hx := Bd.exec
  have hby := Bd.bytes
  have hml : c.maxLocals = 21 := hml0
  have hown : s.vm.findClass "com/example/rosterhall/rosterhall/ResourceIdParsePinLaw" = some m.cls := findClass_of_methodNamed Bd.named
  have X0 : Stand p l e room_1 s m #[(.long q0), (.long q1), (.int p2), (.int p3), (.int p4)] below meth c s₁ [] 0 0 := Stand.of_body Bd
  have e0 : s₁.heap = h0 := by rw [← hh, Bd.state]; rfl
  have N0 := Fr.nil n0
  have pre0 : ∀ t, Steps p.tables e below (s₁.setTop (mkF m 0 #[vJ (q0), s_, vJ (q1), s_, vI (p2), vI (p3), vI (p4), u_, u_, u_, u_, u_, u_, u_, u_, u_, u_, u_, u_, u_, u_] [])) t → Steps p.tables e below (s₁.setTop (entryFrame m #[(.long q0), (.long q1), (.int p2), (.int p3), (.int p4)] maxLocals)) t := fun t k => castTop (own_ef_own_law m q0 q1 p2 p3 p4) k
  obtain ⟨mm, hmm, em6'⟩ := own_modN p4 4 (by decide) (by decide)
  have em6 : ((p4 &&& (2147483647 : Int32)) % (4 : Int32)) = Int32.ofNat mm := em6'
  have pre8 : ∀ t, Steps p.tables e below (s₁.setTop (mkF m 7 #[vJ (q0), s_, vJ (q1), s_, vI (p2), vI (p3), vI (p4), u_, u_, u_, u_, u_, u_, u_, u_, u_, u_, u_, u_, u_, u_] [(.int (Int32.ofNat mm))])) t → Steps p.tables e below (s₁.setTop (entryFrame m #[(.long q0), (.long q1), (.int p2), (.int p3), (.int p4)] maxLocals)) t := by
    intro t kt
    refine pre0 _ ?_
    show SS p e below m s₁ 0 #[vJ (q0), s_, vJ (q1), s_, vI (p2), vI (p3), vI (p4), u_, u_, u_, u_, u_, u_, u_, u_, u_, u_, u_, u_, u_, u_] [] _
    refine ziload X0 hx hby at_0 rfl ?_
    show SS p e below m s₁ 2 #[vJ (q0), s_, vJ (q1), s_, vI (p2), vI (p3), vI (p4), u_, u_, u_, u_, u_, u_, u_, u_, u_, u_, u_, u_, u_, u_] [(.int p4)] _
    refine X0.ldcInt hx hown (mvT hZ (hw _ (gm 0 rfl))) (g := (mkF m 2 #[vJ (q0), s_, vJ (q1), s_, vI (p2), vI (p3), vI (p4), u_, u_, u_, u_, u_, u_, u_, u_, u_, u_, u_, u_, u_, u_] [(.int p4)])) rfl (hb hby at_2) _ ?_
    show SS p e below m s₁ 4 #[vJ (q0), s_, vJ (q1), s_, vI (p2), vI (p3), vI (p4), u_, u_, u_, u_, u_, u_, u_, u_, u_, u_, u_, u_, u_, u_] [(.int 2147483647), (.int p4)] _
    refine XS.iand X0.here hx rfl (hb hby at_4) rfl ?_
    show SS p e below m s₁ 5 #[vJ (q0), s_, vJ (q1), s_, vI (p2), vI (p3), vI (p4), u_, u_, u_, u_, u_, u_, u_, u_, u_, u_, u_, u_, u_, u_] [(.int (p4 &&& (2147483647 : Int32)))] _
    refine ziconst X0 hx hby (4) at_5 rfl ?_
    show SS p e below m s₁ 6 #[vJ (q0), s_, vJ (q1), s_, vI (p2), vI (p3), vI (p4), u_, u_, u_, u_, u_, u_, u_, u_, u_, u_, u_, u_, u_, u_] [(.int 4), (.int (p4 &&& (2147483647 : Int32)))] _
    refine iremM X0 hx rfl (hb hby at_6) rfl (by decide) ?_
    rw [em6]
    exact kt
  rcases (own_four hmm) with hs9 | hs9 | hs9 | hs9
  · subst hs9
    obtain ⟨pp, hpp, em16'⟩ := own_modN p2 36 (by decide) (by decide)
    have em16 : ((p2 &&& (2147483647 : Int32)) % (36 : Int32)) = Int32.ofNat pp := em16'
    obtain ⟨cv, ecv⟩ : ∃ cv : Int32, ((p3 &&& (65535 : Int32)).toUInt32.toUInt16.toUInt32.toInt32) = cv := ⟨_, rfl⟩
    have hcv : nar .char cv = cv := by rw [← ecv]; exact own_nn _
    obtain ⟨_, _, ⟨T35, L35, k35, n35⟩, -, X35, ⟨Lc35, hQ35, l35, y35, z35⟩, st35⟩ := Jvm.LawKit.callS X0 hx (y := y_8) hown (mvT hZ (hw _ (gm 2 rfl))) (mvT hZ (hw _ (gm 3 rfl))) (mvT hZ (hw _ (gm 4 rfl))) (mvT hZ (hw _ (gm 5 rfl))) (by decide) (backOf (W := 0) (own_draw l Z a0 hw [] q0 q1 (36 : Int32) 36 h0 n0 Z0 (by first | assumption | decide : (36 : Int32) = Int32.ofNat 36) (by first | assumption | decide : 36 ≤ 37)) hZ (hw _ (gm 5 rfl)) (hw _ (gm 4 rfl)) (by decide) (by decide)) (g := (mkF m 57 #[vJ (q0), s_, vJ (q1), s_, vI (p2), vI (p3), vI (p4), vI (0), vI ((Int32.ofNat pp)), vI (cv), vI (36), u_, u_, u_, u_, u_, u_, u_, u_, u_, u_] [(.int 36), (.long q1), (.long q0)])) rfl (by rw [hml]; rfl) (argsL := [(.long q0), (.long q1), (.int 36)]) (rest := []) (lenOf own_pd26 rfl) rfl (by show 2 * 0 + _ ≤ _; exact Nat.le_of_eq rfl) (hb hby at_57) (fun _ _ => ⟨rfl, e0, (by decide : 0 + 1 ≤ _), (by decide : 0 + 37 ≤ _)⟩)
    dsimp only [Pt.U, Pt.locs, Pt.cells, Pt.slots] at X35 l35 y35 z35 st35 hQ35
    rw [l35, y35, z35] at X35
    obtain ⟨r_o_35, k_r_35, rfl, Nq35, sz35_r_o, K35, Pf35_0⟩ := hQ35
    have N36 := Fr.app N0 Nq35
    have Zs41 : n0 ≤ T35.heap.size := Nat.le_trans Z0 K35.1
    obtain ⟨T50, h50, X50, e50, E50, A50, D50, -, st50⟩ := newO X35 hx hZ hown (hw _ (gm 26 rfl)) (hw _ (gm 27 rfl)) (hw _ (gm 28 rfl)) rfl (g := (mkF m 88 #[vJ (q0), s_, vJ (q1), s_, vI (p2), vI (p3), vI (p4), vI (0), vI ((Int32.ofNat pp)), vI (cv), vI (36), vR (r_o_35), u_, u_, u_, u_, u_, u_, u_, u_, u_] [])) rfl (hb hby at_88) (by decide) (by decide)
    obtain ⟨b50, g50⟩ : ∃ z, z = T35.heap.size := ⟨_, rfl⟩
    rw [← g50] at A50 D50 st50
    have Ge54 : n0 ≤ b50 := Nat.le_trans Zs41 (Nat.le_of_eq g50.symm)
    have Zs57 : n0 ≤ h50.size := (Nat.le_trans Zs41 E50.1)
    have F50_coder : Fld Z h50 b50 "java/lang/String" "coder" "B" (.int 0) := D50 (Or.inr (hw _ (gm 52 rfl))) (ty := .byte) (by decide)
    have F50_value : Fld Z h50 b50 "java/lang/String" "value" "[B" .null := D50 (Or.inr (hw _ (gm 54 rfl))) (ty := (.array .byte)) (by decide)
    have Fq62 : Arv Z h50 r_o_35 k_r_35 .char (36 : Int32) (own_cl 36 (own_dr q0 q1)) (.int 0) := (Pf35_0.ext E50)
    have Fq63 : Old Z n0 h50 := ((hO.keep K35 all0).ext E50)
    obtain ⟨_, _, ⟨T61, L61, k61, n61⟩, -, X61, ⟨Lc61, hQ61, l61, y61, z61⟩, st61⟩ := X50.specialBack hx (y := y_18) rfl hown (mvT hZ (hw _ (gm 29 rfl))) (mvT hZ (hw _ (gm 30 rfl))) (mvT hZ (hw _ (gm 31 rfl))) (by decide) (backOf (W := 1) (own_initCL l Z a0 hw [] b50 .null (.int 0) r_o_35 k_r_35 (own_dr q0 q1) (36 : Int32) 36 cs h50 n0 Zs57 A50 F50_value F50_coder Ge54 Fq62 (fun j _ => own_dr255 q0 q1 j) (by first | assumption | decide : (36 : Int32) = Int32.ofNat 36) (by first | assumption | decide : 36 ≤ 37) (by first | assumption | decide : ¬ (36 : Int32) = (0 : Int32)) Fq63 hS hcs) hZ (hw _ (gm 31 rfl)) (hw _ (gm 28 rfl)) (by decide) (by decide)) (g := (mkF m 94 #[vJ (q0), s_, vJ (q1), s_, vI (p2), vI (p3), vI (p4), vI (0), vI ((Int32.ofNat pp)), vI (cv), vI (36), vR (r_o_35), u_, u_, u_, u_, u_, u_, u_, u_, u_] [(.ref r_o_35), (.ref b50), (.ref b50)])) rfl (by rw [hml]; rfl) (Steps.refl _) (a := b50) (argsL := [(.ref r_o_35)]) (rest := [(.ref b50)]) (lenOf own_pd27 rfl) rfl (by show 2 * 0 + _ ≤ _; exact Nat.le_of_eq rfl) (hb hby at_94) (fun _ _ => ⟨rfl, e50, (by decide : 2 + 1 ≤ _), (by decide : 41 + 37 ≤ _)⟩)
    dsimp only [Pt.U, Pt.locs, Pt.cells, Pt.slots] at X61 l61 y61 z61 st61 hQ61
    rw [l61, y61, z61] at X61
    obtain ⟨r_o_61, k_r_61, rfl, Nq61, sz61_r_o, K61, Pf61_0, Pf61_1, Pf61_2⟩ := hQ61
    have N64 := Fr.app N36 Nq61
    have Zs72 : n0 ≤ T61.heap.size := Nat.le_trans Zs57 K61.1
    have Fq75 : Exa Z T61.heap b50 "java/lang/String" := (A50.keep K61)
    have Fq76 : Old Z n0 T61.heap := (Fq63.keep K61 (allS Ge54 all0))
    obtain ⟨_, _, ⟨T74, L74, k74, n74⟩, -, X74, ⟨Lc74, hQ74, l74, y74, z74⟩, st74⟩ := Jvm.LawKit.callS X61 hx (y := y_39) hown (mvT hZ (hw _ (gm 55 rfl))) (mvT hZ (hw _ (gm 56 rfl))) (mvT hZ (hw _ (gm 57 rfl))) (mvT hZ (hw _ (gm 58 rfl))) (by decide) (backOf (W := 0) (own_prSL l Z a0 hw [] b50 r_o_61 k_r_61 (own_dr q0 q1) cs e_o u_f q0 q1 T61.heap n0 Zs72 Fq75 Pf61_0 Pf61_1 Pf61_2 Fq76 hS hcs hSe (fun j _ => own_dr255 q0 q1 j) (own_drN q0 q1) hSf hf (own_L0 q0 q1)) hZ (hw _ (gm 58 rfl)) (hw _ (gm 57 rfl)) (by decide) (by decide)) (g := (mkF m 97 #[vJ (q0), s_, vJ (q1), s_, vI (p2), vI (p3), vI (p4), vI (0), vI ((Int32.ofNat pp)), vI (cv), vI (36), vR (r_o_35), u_, u_, u_, u_, u_, u_, u_, u_, u_] [(.ref b50)])) rfl (by rw [hml]; rfl) (argsL := [(.ref b50)]) (rest := []) (lenOf own_pd28 rfl) rfl (by show 2 * 0 + _ ≤ _; exact Nat.le_of_eq rfl) (hb hby at_97) (fun _ _ => ⟨rfl, rfl, (by decide : 3 + 2 ≤ _), (by decide : 78 + 3 ≤ _)⟩)
    dsimp only [Pt.U, Pt.locs, Pt.cells, Pt.slots] at X74 l74 y74 z74 st74 hQ74
    rw [l74, y74, z74] at X74
    obtain ⟨r_o_74, w_o_74, rfl, Nq74, sz74_r_o, sz74_w_o, K74, Pf74_0, Pf74_1, Pf74_2, Pf74_3, Pf74_4⟩ := hQ74
    have N77 := Fr.app N64 Nq74
    have Zs93 : n0 ≤ T74.heap.size := Nat.le_trans Zs72 K74.1
    obtain ⟨cq114, kq114, q114a, q114b, q114c⟩ := isOf hZ rfl Pf74_0
    obtain ⟨_, _, ⟨T114, L114, k114, n114⟩, -, X114, ⟨Lc114, hQ114, l114, y114, z114⟩, st114⟩ := X74.virtualBack hx (y := y_34) (z := y_34) hown (mvT hZ (hw _ (gm 126 rfl))) (mvT hZ (hw _ (gm 127 rfl))) (notFace_of_selects (args := #[]) (mvT hZ (hw _ (gm 129 rfl)))) (mvT hZ (hw _ (gm 129 rfl))) (mvT hZ (hw _ (gm 128 rfl))) (by decide) (backOf (W := 0) (own_ipS l Z a0 hw [] r_o_74 w_o_74 T74.heap n0 Zs93 Pf74_0 Pf74_1) hZ (hw _ (gm 130 rfl)) (hw _ (gm 111 rfl)) (by decide) (by decide)) q114a q114c (g := (mkF m 293 #[vJ (q0), s_, vJ (q1), s_, vI (p2), vI (p3), vI (p4), vI (0), vI ((Int32.ofNat pp)), vI (cv), vI (36), vR (r_o_35), vR (r_o_74), vI (1), vJ (q0), s_, vJ (q1), s_, u_, u_, u_] [(.ref r_o_74)])) rfl (by rw [hml]; rfl) (Steps.refl _) (argsL := []) (rest := []) (lenOf own_pd17 rfl) rfl (by show 2 * 0 + _ ≤ _; exact Nat.le_of_eq rfl) (hb hby at_293) (fun _ _ => ⟨rfl, rfl, (by decide : 5 + 0 ≤ _), (by decide : 81 + 0 ≤ _)⟩)
    dsimp only [Pt.U, Pt.locs, Pt.cells, Pt.slots] at X114 l114 y114 z114 st114 hQ114
    rw [l114, y114, z114] at X114
    obtain ⟨rfl, Nq114, eh114⟩ := hQ114
    have N115 := Fr.app N77 Nq114
    obtain ⟨cq119, kq119, q119a, q119b, q119c⟩ := isOf hZ eh114 Pf74_0
    obtain ⟨_, _, ⟨T119, L119, k119, n119⟩, -, X119, ⟨Lc119, hQ119, l119, y119, z119⟩, st119⟩ := X114.virtualBack hx (y := y_35) (z := y_35) hown (mvT hZ (hw _ (gm 131 rfl))) (mvT hZ (hw _ (gm 132 rfl))) (notFace_of_selects (args := #[]) (mvT hZ (hw _ (gm 134 rfl)))) (mvT hZ (hw _ (gm 134 rfl))) (mvT hZ (hw _ (gm 133 rfl))) (by decide) (backOf (W := 0) (own_get l Z a0 hw [] r_o_74 w_o_74 T74.heap n0 Zs93 Pf74_0 Pf74_1) hZ (hw _ (gm 135 rfl)) (hw _ (gm 111 rfl)) (by decide) (by decide)) q119a q119c (g := (mkF m 301 #[vJ (q0), s_, vJ (q1), s_, vI (p2), vI (p3), vI (p4), vI (0), vI ((Int32.ofNat pp)), vI (cv), vI (36), vR (r_o_35), vR (r_o_74), vI (1), vJ (q0), s_, vJ (q1), s_, u_, u_, u_] [(.ref r_o_74)])) rfl (by rw [hml]; rfl) (Steps.refl _) (argsL := []) (rest := []) (lenOf own_pd29 rfl) rfl (by show 2 * 0 + _ ≤ _; exact Nat.le_of_eq rfl) (hb hby at_301) (fun _ _ => ⟨rfl, eh114, (by decide : 5 + 0 ≤ _), (by decide : 81 + 0 ≤ _)⟩)
    dsimp only [Pt.U, Pt.locs, Pt.cells, Pt.slots] at X119 l119 y119 z119 st119 hQ119
    rw [l119, y119, z119] at X119
    obtain ⟨rfl, Nq119, eh119⟩ := hQ119
    have N120 := Fr.app N115 Nq119
    obtain ⟨T122, X122, e122, st122⟩ := castY X119 hx hZ hown (hw _ (gm 136 rfl)) eh119 (Ins.self Pf74_2) (g := (mkF m 304 #[vJ (q0), s_, vJ (q1), s_, vI (p2), vI (p3), vI (p4), vI (0), vI ((Int32.ofNat pp)), vI (cv), vI (36), vR (r_o_35), vR (r_o_74), vI (1), vJ (q0), s_, vJ (q1), s_, u_, u_, u_] [(.ref w_o_74)])) rfl rfl (hb hby at_304)
    obtain ⟨cq124, kq124, q124a, q124b, q124c⟩ := isOf hZ e122 Pf74_2
    obtain ⟨_, _, ⟨T124, L124, k124, n124⟩, -, X124, ⟨Lc124, hQ124, l124, y124, z124⟩, st124⟩ := X122.virtualBack hx (y := y_36) (z := y_36) hown (mvT hZ (hw _ (gm 138 rfl))) (mvT hZ (hw _ (gm 139 rfl))) (notFace_of_selects (args := #[]) (mvT hZ (hw _ (gm 141 rfl)))) (mvT hZ (hw _ (gm 141 rfl))) (mvT hZ (hw _ (gm 140 rfl))) (by decide) (backOf (W := 0) (own_g_high l Z a0 hw [] w_o_74 q0 T74.heap n0 Zs93 Pf74_2 Pf74_3) hZ (hw _ (gm 142 rfl)) (hw _ (gm 57 rfl)) (by decide) (by decide)) q124a q124c (g := (mkF m 307 #[vJ (q0), s_, vJ (q1), s_, vI (p2), vI (p3), vI (p4), vI (0), vI ((Int32.ofNat pp)), vI (cv), vI (36), vR (r_o_35), vR (r_o_74), vI (1), vJ (q0), s_, vJ (q1), s_, u_, u_, u_] [(.ref w_o_74)])) rfl (by rw [hml]; rfl) (Steps.refl _) (argsL := []) (rest := []) (lenOf own_pd30 rfl) rfl (by show 2 * 0 + _ ≤ _; exact Nat.le_of_eq rfl) (hb hby at_307) (fun _ _ => ⟨rfl, e122, (by decide : 5 + 0 ≤ _), (by decide : 81 + 0 ≤ _)⟩)
    dsimp only [Pt.U, Pt.locs, Pt.cells, Pt.slots] at X124 l124 y124 z124 st124 hQ124
    rw [l124, y124, z124] at X124
    obtain ⟨rfl, Nq124, eh124⟩ := hQ124
    have N125 := Fr.app N120 Nq124
    obtain ⟨cq131, kq131, q131a, q131b, q131c⟩ := isOf hZ eh124 Pf74_0
    obtain ⟨_, _, ⟨T131, L131, k131, n131⟩, -, X131, ⟨Lc131, hQ131, l131, y131, z131⟩, st131⟩ := X124.virtualBack hx (y := y_35) (z := y_35) hown (mvT hZ (hw _ (gm 131 rfl))) (mvT hZ (hw _ (gm 132 rfl))) (notFace_of_selects (args := #[]) (mvT hZ (hw _ (gm 134 rfl)))) (mvT hZ (hw _ (gm 134 rfl))) (mvT hZ (hw _ (gm 133 rfl))) (by decide) (backOf (W := 0) (own_get l Z a0 hw [] r_o_74 w_o_74 T74.heap n0 Zs93 Pf74_0 Pf74_1) hZ (hw _ (gm 135 rfl)) (hw _ (gm 111 rfl)) (by decide) (by decide)) q131a q131c (g := (mkF m 318 #[vJ (q0), s_, vJ (q1), s_, vI (p2), vI (p3), vI (p4), vI (0), vI ((Int32.ofNat pp)), vI (cv), vI (36), vR (r_o_35), vR (r_o_74), vI (1), vJ (q0), s_, vJ (q1), s_, u_, u_, u_] [(.ref r_o_74)])) rfl (by rw [hml]; rfl) (Steps.refl _) (argsL := []) (rest := []) (lenOf own_pd29 rfl) rfl (by show 2 * 0 + _ ≤ _; exact Nat.le_of_eq rfl) (hb hby at_318) (fun _ _ => ⟨rfl, eh124, (by decide : 5 + 0 ≤ _), (by decide : 81 + 0 ≤ _)⟩)
    dsimp only [Pt.U, Pt.locs, Pt.cells, Pt.slots] at X131 l131 y131 z131 st131 hQ131
    rw [l131, y131, z131] at X131
    obtain ⟨rfl, Nq131, eh131⟩ := hQ131
    have N132 := Fr.app N125 Nq131
    obtain ⟨T134, X134, e134, st134⟩ := castY X131 hx hZ hown (hw _ (gm 136 rfl)) eh131 (Ins.self Pf74_2) (g := (mkF m 321 #[vJ (q0), s_, vJ (q1), s_, vI (p2), vI (p3), vI (p4), vI (0), vI ((Int32.ofNat pp)), vI (cv), vI (36), vR (r_o_35), vR (r_o_74), vI (1), vJ (q0), s_, vJ (q1), s_, u_, u_, u_] [(.ref w_o_74)])) rfl rfl (hb hby at_321)
    obtain ⟨cq136, kq136, q136a, q136b, q136c⟩ := isOf hZ e134 Pf74_2
    obtain ⟨_, _, ⟨T136, L136, k136, n136⟩, -, X136, ⟨Lc136, hQ136, l136, y136, z136⟩, st136⟩ := X134.virtualBack hx (y := y_37) (z := y_37) hown (mvT hZ (hw _ (gm 143 rfl))) (mvT hZ (hw _ (gm 144 rfl))) (notFace_of_selects (args := #[]) (mvT hZ (hw _ (gm 146 rfl)))) (mvT hZ (hw _ (gm 146 rfl))) (mvT hZ (hw _ (gm 145 rfl))) (by decide) (backOf (W := 0) (own_g_low l Z a0 hw [] w_o_74 q1 T74.heap n0 Zs93 Pf74_2 Pf74_4) hZ (hw _ (gm 147 rfl)) (hw _ (gm 57 rfl)) (by decide) (by decide)) q136a q136c (g := (mkF m 324 #[vJ (q0), s_, vJ (q1), s_, vI (p2), vI (p3), vI (p4), vI (0), vI ((Int32.ofNat pp)), vI (cv), vI (36), vR (r_o_35), vR (r_o_74), vI (1), vJ (q0), s_, vJ (q1), s_, u_, u_, u_] [(.ref w_o_74)])) rfl (by rw [hml]; rfl) (Steps.refl _) (argsL := []) (rest := []) (lenOf own_pd30 rfl) rfl (by show 2 * 0 + _ ≤ _; exact Nat.le_of_eq rfl) (hb hby at_324) (fun _ _ => ⟨rfl, e134, (by decide : 5 + 0 ≤ _), (by decide : 81 + 0 ≤ _)⟩)
    dsimp only [Pt.U, Pt.locs, Pt.cells, Pt.slots] at X136 l136 y136 z136 st136 hQ136
    rw [l136, y136, z136] at X136
    obtain ⟨rfl, Nq136, eh136⟩ := hQ136
    have N137 := Fr.app N132 Nq136
    obtain ⟨fs, hr, hrun, hended, hW, hsame⟩ := X136.leave (v := some (.int 1)) (fun h => by rw [Bd.returns] at h; cases h) (hlocks := BodyLoose.notSynchronized Bd)
    refine ⟨_, _, pre8 _ ?_, hrun, hended, _, _, rfl, ?_, ⟨_, rfl⟩, hW, hsame.mono (by decide) (by decide)⟩
    · show SS p e below m s₁ 7 #[vJ (q0), s_, vJ (q1), s_, vI (p2), vI (p3), vI (p4), u_, u_, u_, u_, u_, u_, u_, u_, u_, u_, u_, u_, u_, u_] [(.int 0)] _
      show SS p e below m s₁ 7 #[vJ (q0), s_, vJ (q1), s_, vI (p2), vI (p3), vI (p4), u_, u_, u_, u_, u_, u_, u_, u_, u_, u_, u_, u_, u_, u_] [(.int 0)] _
      refine zistore (l' := #[vJ (q0), s_, vJ (q1), s_, vI (p2), vI (p3), vI (p4), vI (0), u_, u_, u_, u_, u_, u_, u_, u_, u_, u_, u_, u_, u_]) X0 hx hby at_7 rfl ?_
      refine ziload X0 hx hby at_9 rfl ?_
      show SS p e below m s₁ 11 #[vJ (q0), s_, vJ (q1), s_, vI (p2), vI (p3), vI (p4), vI (0), u_, u_, u_, u_, u_, u_, u_, u_, u_, u_, u_, u_, u_] [(.int p2)] _
      refine X0.ldcInt hx hown (mvT hZ (hw _ (gm 0 rfl))) (g := (mkF m 11 #[vJ (q0), s_, vJ (q1), s_, vI (p2), vI (p3), vI (p4), vI (0), u_, u_, u_, u_, u_, u_, u_, u_, u_, u_, u_, u_, u_] [(.int p2)])) rfl (hb hby at_11) _ ?_
      show SS p e below m s₁ 13 #[vJ (q0), s_, vJ (q1), s_, vI (p2), vI (p3), vI (p4), vI (0), u_, u_, u_, u_, u_, u_, u_, u_, u_, u_, u_, u_, u_] [(.int 2147483647), (.int p2)] _
      refine XS.iand X0.here hx rfl (hb hby at_13) rfl ?_
      show SS p e below m s₁ 14 #[vJ (q0), s_, vJ (q1), s_, vI (p2), vI (p3), vI (p4), vI (0), u_, u_, u_, u_, u_, u_, u_, u_, u_, u_, u_, u_, u_] [(.int (p2 &&& (2147483647 : Int32)))] _
      refine zbipush X0 hx hby (36) at_14 rfl ?_
      show SS p e below m s₁ 16 #[vJ (q0), s_, vJ (q1), s_, vI (p2), vI (p3), vI (p4), vI (0), u_, u_, u_, u_, u_, u_, u_, u_, u_, u_, u_, u_, u_] [(.int 36), (.int (p2 &&& (2147483647 : Int32)))] _
      refine iremM X0 hx rfl (hb hby at_16) rfl (by decide) ?_
      rw [em16]
      show SS p e below m s₁ 17 #[vJ (q0), s_, vJ (q1), s_, vI (p2), vI (p3), vI (p4), vI (0), u_, u_, u_, u_, u_, u_, u_, u_, u_, u_, u_, u_, u_] [(.int (Int32.ofNat pp))] _
      refine zistore (l' := #[vJ (q0), s_, vJ (q1), s_, vI (p2), vI (p3), vI (p4), vI (0), vI ((Int32.ofNat pp)), u_, u_, u_, u_, u_, u_, u_, u_, u_, u_, u_, u_]) X0 hx hby at_17 rfl ?_
      refine ziload X0 hx hby at_19 rfl ?_
      show SS p e below m s₁ 21 #[vJ (q0), s_, vJ (q1), s_, vI (p2), vI (p3), vI (p4), vI (0), vI ((Int32.ofNat pp)), u_, u_, u_, u_, u_, u_, u_, u_, u_, u_, u_, u_] [(.int p3)] _
      refine X0.ldcInt hx hown (mvT hZ (hw _ (gm 1 rfl))) (g := (mkF m 21 #[vJ (q0), s_, vJ (q1), s_, vI (p2), vI (p3), vI (p4), vI (0), vI ((Int32.ofNat pp)), u_, u_, u_, u_, u_, u_, u_, u_, u_, u_, u_, u_] [(.int p3)])) rfl (hb hby at_21) _ ?_
      show SS p e below m s₁ 23 #[vJ (q0), s_, vJ (q1), s_, vI (p2), vI (p3), vI (p4), vI (0), vI ((Int32.ofNat pp)), u_, u_, u_, u_, u_, u_, u_, u_, u_, u_, u_, u_] [(.int 65535), (.int p3)] _
      refine XS.iand X0.here hx rfl (hb hby at_23) rfl ?_
      show SS p e below m s₁ 24 #[vJ (q0), s_, vJ (q1), s_, vI (p2), vI (p3), vI (p4), vI (0), vI ((Int32.ofNat pp)), u_, u_, u_, u_, u_, u_, u_, u_, u_, u_, u_, u_] [(.int (p3 &&& (65535 : Int32)))] _
      refine XS.i2c X0.here hx rfl (hb hby at_24) rfl ?_
      rw [ecv]
      show SS p e below m s₁ 25 #[vJ (q0), s_, vJ (q1), s_, vI (p2), vI (p3), vI (p4), vI (0), vI ((Int32.ofNat pp)), u_, u_, u_, u_, u_, u_, u_, u_, u_, u_, u_, u_] [(.int cv)] _
      refine zistore (l' := #[vJ (q0), s_, vJ (q1), s_, vI (p2), vI (p3), vI (p4), vI (0), vI ((Int32.ofNat pp)), vI (cv), u_, u_, u_, u_, u_, u_, u_, u_, u_, u_, u_]) X0 hx hby at_25 rfl ?_
      refine ziload X0 hx hby at_27 rfl ?_
      refine ziconst X0 hx hby (2) at_29 rfl ?_
      refine zicmpYes X0 hx hby 30 38 rfl at_30 (feq ((by decide) : ¬ ((0 : Int32) = (2 : Int32)))).2 (by decide) (by decide) ?_
      refine ziload X0 hx hby at_38 rfl ?_
      refine ziconst X0 hx hby (3) at_40 rfl ?_
      refine zicmpYes X0 hx hby 41 49 rfl at_41 (feq ((by decide) : ¬ ((0 : Int32) = (3 : Int32)))).2 (by decide) (by decide) ?_
      refine zbipush X0 hx hby (36) at_49 rfl ?_
      refine zistore (l' := #[vJ (q0), s_, vJ (q1), s_, vI (p2), vI (p3), vI (p4), vI (0), vI ((Int32.ofNat pp)), vI (cv), vI (36), u_, u_, u_, u_, u_, u_, u_, u_, u_, u_]) X0 hx hby at_51 rfl ?_
      refine zlloadN X0 hx hby at_53 rfl ?_
      refine zlloadN X0 hx hby at_54 rfl ?_
      refine ziload X0 hx hby at_55 rfl ?_
      show SS p e below m s₁ 57 #[vJ (q0), s_, vJ (q1), s_, vI (p2), vI (p3), vI (p4), vI (0), vI ((Int32.ofNat pp)), vI (cv), vI (36), u_, u_, u_, u_, u_, u_, u_, u_, u_, u_] [(.int 36), (.long q1), (.long q0)] _
      refine st35 _ ?_
      refine zastore (l' := #[vJ (q0), s_, vJ (q1), s_, vI (p2), vI (p3), vI (p4), vI (0), vI ((Int32.ofNat pp)), vI (cv), vI (36), vR (r_o_35), u_, u_, u_, u_, u_, u_, u_, u_, u_]) X35 hx hby at_60 rfl rfl ?_
      refine ziload X35 hx hby at_62 rfl ?_
      refine ziconst X35 hx hby (1) at_64 rfl ?_
      refine zicmpYes X35 hx hby 65 75 rfl at_65 (feq ((by decide) : ¬ ((0 : Int32) = (1 : Int32)))).2 (by decide) (by decide) ?_
      refine ziload X35 hx hby at_75 rfl ?_
      refine ziconst X35 hx hby (3) at_77 rfl ?_
      refine zicmpYes X35 hx hby 78 88 rfl at_78 (feq ((by decide) : ¬ ((0 : Int32) = (3 : Int32)))).2 (by decide) (by decide) ?_
      refine st50 _ ?_
      show SS p e below m T50 91 #[vJ (q0), s_, vJ (q1), s_, vI (p2), vI (p3), vI (p4), vI (0), vI ((Int32.ofNat pp)), vI (cv), vI (36), vR (r_o_35), u_, u_, u_, u_, u_, u_, u_, u_, u_] [(.ref b50)] _
      refine XS.dup X50.here hx rfl (hb hby at_91) rfl rfl ?_
      show SS p e below m T50 92 #[vJ (q0), s_, vJ (q1), s_, vI (p2), vI (p3), vI (p4), vI (0), vI ((Int32.ofNat pp)), vI (cv), vI (36), vR (r_o_35), u_, u_, u_, u_, u_, u_, u_, u_, u_] [(.ref b50), (.ref b50)] _
      refine zaload X50 hx hby at_92 rfl rfl ?_
      refine st61.trans ?_
      refine st74 _ ?_
      refine zastore (l' := #[vJ (q0), s_, vJ (q1), s_, vI (p2), vI (p3), vI (p4), vI (0), vI ((Int32.ofNat pp)), vI (cv), vI (36), vR (r_o_35), vR (r_o_74), u_, u_, u_, u_, u_, u_, u_, u_]) X74 hx hby at_100 rfl rfl ?_
      refine ziload X74 hx hby at_102 rfl ?_
      refine ziconst X74 hx hby (2) at_104 rfl ?_
      refine zicmpNo X74 hx hby at_105 (feq ((by decide) : ¬ ((0 : Int32) = (2 : Int32)))).1 ?_
      refine ziload X74 hx hby at_108 rfl ?_
      refine ziconst X74 hx hby (3) at_110 rfl ?_
      refine zicmpYes X74 hx hby 111 128 rfl at_111 (feq ((by decide) : ¬ ((0 : Int32) = (3 : Int32)))).2 (by decide) (by decide) ?_
      refine ziconst X74 hx hby (1) at_128 rfl ?_
      refine zistore (l' := #[vJ (q0), s_, vJ (q1), s_, vI (p2), vI (p3), vI (p4), vI (0), vI ((Int32.ofNat pp)), vI (cv), vI (36), vR (r_o_35), vR (r_o_74), vI (1), u_, u_, u_, u_, u_, u_, u_]) X74 hx hby at_129 rfl ?_
      show SS p e below m T74 131 #[vJ (q0), s_, vJ (q1), s_, vI (p2), vI (p3), vI (p4), vI (0), vI ((Int32.ofNat pp)), vI (cv), vI (36), vR (r_o_35), vR (r_o_74), vI (1), u_, u_, u_, u_, u_, u_, u_] [] _
      refine zlloadN X74 hx hby at_131 rfl ?_
      refine zlstore (l' := #[vJ (q0), s_, vJ (q1), s_, vI (p2), vI (p3), vI (p4), vI (0), vI ((Int32.ofNat pp)), vI (cv), vI (36), vR (r_o_35), vR (r_o_74), vI (1), vJ (q0), s_, u_, u_, u_, u_, u_]) X74 hx hby at_132 rfl ?_
      refine zlloadN X74 hx hby at_134 rfl ?_
      refine zlstore (l' := #[vJ (q0), s_, vJ (q1), s_, vI (p2), vI (p3), vI (p4), vI (0), vI ((Int32.ofNat pp)), vI (cv), vI (36), vR (r_o_35), vR (r_o_74), vI (1), vJ (q0), s_, vJ (q1), s_, u_, u_, u_]) X74 hx hby at_135 rfl ?_
      refine ziload X74 hx hby at_137 rfl ?_
      refine ziconst X74 hx hby (1) at_139 rfl ?_
      refine zicmpYes X74 hx hby 140 272 rfl at_140 (feq ((by decide) : ¬ ((0 : Int32) = (1 : Int32)))).2 (by decide) (by decide) ?_
      refine ziload X74 hx hby at_272 rfl ?_
      refine zifYes X74 hx hby 274 291 rfl at_274 ((if0 _ _).trans (feq ((by decide) : ¬ ((1 : Int32) = (0 : Int32)))).2) (by decide) (by decide) ?_
      refine zaload X74 hx hby at_291 rfl rfl ?_
      refine st114.trans ?_
      refine zifNo X114 hx hby at_296 ((if0 _ _).trans (feq ((by decide) : ¬ ((1 : Int32) = (0 : Int32)))).1) ?_
      show SS p e below m T114 299 #[vJ (q0), s_, vJ (q1), s_, vI (p2), vI (p3), vI (p4), vI (0), vI ((Int32.ofNat pp)), vI (cv), vI (36), vR (r_o_35), vR (r_o_74), vI (1), vJ (q0), s_, vJ (q1), s_, u_, u_, u_] [] _
      refine zaload X114 hx hby at_299 rfl rfl ?_
      refine st119.trans ?_
      refine st122 _ ?_
      refine st124.trans ?_
      refine zlload X124 hx hby at_310 rfl ?_
      show SS p e below m T124 312 #[vJ (q0), s_, vJ (q1), s_, vI (p2), vI (p3), vI (p4), vI (0), vI ((Int32.ofNat pp)), vI (cv), vI (36), vR (r_o_35), vR (r_o_74), vI (1), vJ (q0), s_, vJ (q1), s_, u_, u_, u_] [(.long q0), (.long q0)] _
      refine XS.lcmp X124.here hx rfl (hb hby at_312) rfl ?_
      show SS p e below m T124 313 #[vJ (q0), s_, vJ (q1), s_, vI (p2), vI (p3), vI (p4), vI (0), vI ((Int32.ofNat pp)), vI (cv), vI (36), vR (r_o_35), vR (r_o_74), vI (1), vJ (q0), s_, vJ (q1), s_, u_, u_, u_] [(.int (lcmpW q0 q0))] _
      refine zifNo X124 hx hby at_313 ((if0 _ _).trans (teq (own_lcEq.mpr (rfl : q0 = q0))).2) ?_
      refine zaload X124 hx hby at_316 rfl rfl ?_
      refine st131.trans ?_
      refine st134 _ ?_
      refine st136.trans ?_
      refine zlload X136 hx hby at_327 rfl ?_
      show SS p e below m T136 329 #[vJ (q0), s_, vJ (q1), s_, vI (p2), vI (p3), vI (p4), vI (0), vI ((Int32.ofNat pp)), vI (cv), vI (36), vR (r_o_35), vR (r_o_74), vI (1), vJ (q0), s_, vJ (q1), s_, u_, u_, u_] [(.long q1), (.long q1)] _
      refine XS.lcmp X136.here hx rfl (hb hby at_329) rfl ?_
      show SS p e below m T136 330 #[vJ (q0), s_, vJ (q1), s_, vI (p2), vI (p3), vI (p4), vI (0), vI ((Int32.ofNat pp)), vI (cv), vI (36), vR (r_o_35), vR (r_o_74), vI (1), vJ (q0), s_, vJ (q1), s_, u_, u_, u_] [(.int (lcmpW q1 q1))] _
      refine zifNo X136 hx hby at_330 ((if0 _ _).trans (teq (own_lcEq.mpr (rfl : q1 = q1))).2) ?_
      refine ziconst X136 hx hby (1) at_333 rfl ?_
      refine zgoto X136 hx hby 334 338 rfl at_334 (by decide) (by decide) ?_
      exact retN X136 hx (t := .boolean) Bd.returns (by simp) (hb hby at_338) hr
    · show Qown_law Z q0 q1 p2 p3 p4 cs u_f e_o h0 n0 _ T136.heap _
      rw [eh136]
      exact ⟨rfl, N137⟩
  · subst hs9
    obtain ⟨pp, hpp, em150'⟩ := own_modN p2 36 (by decide) (by decide)
    have em150 : ((p2 &&& (2147483647 : Int32)) % (36 : Int32)) = Int32.ofNat pp := em150'
    obtain ⟨cv, ecv⟩ : ∃ cv : Int32, ((p3 &&& (65535 : Int32)).toUInt32.toUInt16.toUInt32.toInt32) = cv := ⟨_, rfl⟩
    have hcv : nar .char cv = cv := by rw [← ecv]; exact own_nn _
    obtain ⟨_, _, ⟨T169, L169, k169, n169⟩, -, X169, ⟨Lc169, hQ169, l169, y169, z169⟩, st169⟩ := Jvm.LawKit.callS X0 hx (y := y_8) hown (mvT hZ (hw _ (gm 2 rfl))) (mvT hZ (hw _ (gm 3 rfl))) (mvT hZ (hw _ (gm 4 rfl))) (mvT hZ (hw _ (gm 5 rfl))) (by decide) (backOf (W := 0) (own_draw l Z a0 hw [] q0 q1 (36 : Int32) 36 h0 n0 Z0 (by first | assumption | decide : (36 : Int32) = Int32.ofNat 36) (by first | assumption | decide : 36 ≤ 37)) hZ (hw _ (gm 5 rfl)) (hw _ (gm 4 rfl)) (by decide) (by decide)) (g := (mkF m 57 #[vJ (q0), s_, vJ (q1), s_, vI (p2), vI (p3), vI (p4), vI (1), vI ((Int32.ofNat pp)), vI (cv), vI (36), u_, u_, u_, u_, u_, u_, u_, u_, u_, u_] [(.int 36), (.long q1), (.long q0)])) rfl (by rw [hml]; rfl) (argsL := [(.long q0), (.long q1), (.int 36)]) (rest := []) (lenOf own_pd26 rfl) rfl (by show 2 * 0 + _ ≤ _; exact Nat.le_of_eq rfl) (hb hby at_57) (fun _ _ => ⟨rfl, e0, (by decide : 0 + 1 ≤ _), (by decide : 0 + 37 ≤ _)⟩)
    dsimp only [Pt.U, Pt.locs, Pt.cells, Pt.slots] at X169 l169 y169 z169 st169 hQ169
    rw [l169, y169, z169] at X169
    obtain ⟨r_o_169, k_r_169, rfl, Nq169, sz169_r_o, K169, Pf169_0⟩ := hQ169
    have N170 := Fr.app N0 Nq169
    have Ne171 : e_o ≠ r_o_169 := Nat.ne_of_lt (Nat.lt_of_lt_of_le hEe.lt sz169_r_o)
    have Ge172 : n0 ≤ r_o_169 := Nat.le_trans Z0 sz169_r_o
    have Zs175 : n0 ≤ T169.heap.size := Nat.le_trans Z0 K169.1
    obtain ⟨cl184, Ar184, q184, S184, M184, H184, G184⟩ := id Pf169_0
    have hin184 : ¬ ((Int32.ofNat pp) < 0 ∨ cl184.slots.size ≤ ((Int32.ofNat pp)).toNatClampNeg) := inb_of S184 ⟨own_nneg (by omega), (own_ltN (n := 36) hpp (by decide))⟩
    obtain ⟨T185, h185, X185, e185, W185, st185⟩ := stC X169 hx hZ rfl Ar184 (j := (Int32.ofNat pp)) hin184 (g := (mkF m 74 #[vJ (q0), s_, vJ (q1), s_, vI (p2), vI (p3), vI (p4), vI (1), vI ((Int32.ofNat pp)), vI (cv), vI (36), vR (r_o_169), u_, u_, u_, u_, u_, u_, u_, u_, u_] [(.int cv), (.int (Int32.ofNat pp)), (.ref r_o_169)])) rfl rfl (hb hby at_74)
    have Zs188 : n0 ≤ h185.size := Nat.le_trans Zs175 (Keep.of_wr W185).1
    have N189 := Fr.snoc X185 N170 Ge172
    have Vm186 : Arv Z h185 r_o_169 k_r_169 .char (36 : Int32) ((own_cl 36 (own_dr q0 q1)).set pp (.int (nar .char cv))) (.int 0) := Arv.set Ar184 q184 S184 M184 H184 G184 (fits_nar_char _) W185 pp (own_clamp (by omega)) (by rw [own_cl_len]; exact hpp)
    have Vc191 : Arv Z h185 r_o_169 k_r_169 .char (36 : Int32) (own_cl 36 (own_st (own_dr q0 q1) pp cv)) (.int 0) := by rw [← own_cl_set]; have q := Vm186; rw [hcv] at q; exact q
    have pre195 : ∀ t, Steps p.tables e below (T185.setTop (mkF m 88 #[vJ (q0), s_, vJ (q1), s_, vI (p2), vI (p3), vI (p4), vI (1), vI ((Int32.ofNat pp)), vI (cv), vI (36), vR (r_o_169), u_, u_, u_, u_, u_, u_, u_, u_, u_] [])) t → Steps p.tables e below (s₁.setTop (entryFrame m #[(.long q0), (.long q1), (.int p2), (.int p3), (.int p4)] maxLocals)) t := by
      intro t kt
      refine pre8 _ ?_
      show SS p e below m s₁ 7 #[vJ (q0), s_, vJ (q1), s_, vI (p2), vI (p3), vI (p4), u_, u_, u_, u_, u_, u_, u_, u_, u_, u_, u_, u_, u_, u_] [(.int 1)] _
      show SS p e below m s₁ 7 #[vJ (q0), s_, vJ (q1), s_, vI (p2), vI (p3), vI (p4), u_, u_, u_, u_, u_, u_, u_, u_, u_, u_, u_, u_, u_, u_] [(.int 1)] _
      refine zistore (l' := #[vJ (q0), s_, vJ (q1), s_, vI (p2), vI (p3), vI (p4), vI (1), u_, u_, u_, u_, u_, u_, u_, u_, u_, u_, u_, u_, u_]) X0 hx hby at_7 rfl ?_
      refine ziload X0 hx hby at_9 rfl ?_
      show SS p e below m s₁ 11 #[vJ (q0), s_, vJ (q1), s_, vI (p2), vI (p3), vI (p4), vI (1), u_, u_, u_, u_, u_, u_, u_, u_, u_, u_, u_, u_, u_] [(.int p2)] _
      refine X0.ldcInt hx hown (mvT hZ (hw _ (gm 0 rfl))) (g := (mkF m 11 #[vJ (q0), s_, vJ (q1), s_, vI (p2), vI (p3), vI (p4), vI (1), u_, u_, u_, u_, u_, u_, u_, u_, u_, u_, u_, u_, u_] [(.int p2)])) rfl (hb hby at_11) _ ?_
      show SS p e below m s₁ 13 #[vJ (q0), s_, vJ (q1), s_, vI (p2), vI (p3), vI (p4), vI (1), u_, u_, u_, u_, u_, u_, u_, u_, u_, u_, u_, u_, u_] [(.int 2147483647), (.int p2)] _
      refine XS.iand X0.here hx rfl (hb hby at_13) rfl ?_
      show SS p e below m s₁ 14 #[vJ (q0), s_, vJ (q1), s_, vI (p2), vI (p3), vI (p4), vI (1), u_, u_, u_, u_, u_, u_, u_, u_, u_, u_, u_, u_, u_] [(.int (p2 &&& (2147483647 : Int32)))] _
      refine zbipush X0 hx hby (36) at_14 rfl ?_
      show SS p e below m s₁ 16 #[vJ (q0), s_, vJ (q1), s_, vI (p2), vI (p3), vI (p4), vI (1), u_, u_, u_, u_, u_, u_, u_, u_, u_, u_, u_, u_, u_] [(.int 36), (.int (p2 &&& (2147483647 : Int32)))] _
      refine iremM X0 hx rfl (hb hby at_16) rfl (by decide) ?_
      rw [em150]
      show SS p e below m s₁ 17 #[vJ (q0), s_, vJ (q1), s_, vI (p2), vI (p3), vI (p4), vI (1), u_, u_, u_, u_, u_, u_, u_, u_, u_, u_, u_, u_, u_] [(.int (Int32.ofNat pp))] _
      refine zistore (l' := #[vJ (q0), s_, vJ (q1), s_, vI (p2), vI (p3), vI (p4), vI (1), vI ((Int32.ofNat pp)), u_, u_, u_, u_, u_, u_, u_, u_, u_, u_, u_, u_]) X0 hx hby at_17 rfl ?_
      refine ziload X0 hx hby at_19 rfl ?_
      show SS p e below m s₁ 21 #[vJ (q0), s_, vJ (q1), s_, vI (p2), vI (p3), vI (p4), vI (1), vI ((Int32.ofNat pp)), u_, u_, u_, u_, u_, u_, u_, u_, u_, u_, u_, u_] [(.int p3)] _
      refine X0.ldcInt hx hown (mvT hZ (hw _ (gm 1 rfl))) (g := (mkF m 21 #[vJ (q0), s_, vJ (q1), s_, vI (p2), vI (p3), vI (p4), vI (1), vI ((Int32.ofNat pp)), u_, u_, u_, u_, u_, u_, u_, u_, u_, u_, u_, u_] [(.int p3)])) rfl (hb hby at_21) _ ?_
      show SS p e below m s₁ 23 #[vJ (q0), s_, vJ (q1), s_, vI (p2), vI (p3), vI (p4), vI (1), vI ((Int32.ofNat pp)), u_, u_, u_, u_, u_, u_, u_, u_, u_, u_, u_, u_] [(.int 65535), (.int p3)] _
      refine XS.iand X0.here hx rfl (hb hby at_23) rfl ?_
      show SS p e below m s₁ 24 #[vJ (q0), s_, vJ (q1), s_, vI (p2), vI (p3), vI (p4), vI (1), vI ((Int32.ofNat pp)), u_, u_, u_, u_, u_, u_, u_, u_, u_, u_, u_, u_] [(.int (p3 &&& (65535 : Int32)))] _
      refine XS.i2c X0.here hx rfl (hb hby at_24) rfl ?_
      rw [ecv]
      show SS p e below m s₁ 25 #[vJ (q0), s_, vJ (q1), s_, vI (p2), vI (p3), vI (p4), vI (1), vI ((Int32.ofNat pp)), u_, u_, u_, u_, u_, u_, u_, u_, u_, u_, u_, u_] [(.int cv)] _
      refine zistore (l' := #[vJ (q0), s_, vJ (q1), s_, vI (p2), vI (p3), vI (p4), vI (1), vI ((Int32.ofNat pp)), vI (cv), u_, u_, u_, u_, u_, u_, u_, u_, u_, u_, u_]) X0 hx hby at_25 rfl ?_
      refine ziload X0 hx hby at_27 rfl ?_
      refine ziconst X0 hx hby (2) at_29 rfl ?_
      refine zicmpYes X0 hx hby 30 38 rfl at_30 (feq ((by decide) : ¬ ((1 : Int32) = (2 : Int32)))).2 (by decide) (by decide) ?_
      refine ziload X0 hx hby at_38 rfl ?_
      refine ziconst X0 hx hby (3) at_40 rfl ?_
      refine zicmpYes X0 hx hby 41 49 rfl at_41 (feq ((by decide) : ¬ ((1 : Int32) = (3 : Int32)))).2 (by decide) (by decide) ?_
      refine zbipush X0 hx hby (36) at_49 rfl ?_
      refine zistore (l' := #[vJ (q0), s_, vJ (q1), s_, vI (p2), vI (p3), vI (p4), vI (1), vI ((Int32.ofNat pp)), vI (cv), vI (36), u_, u_, u_, u_, u_, u_, u_, u_, u_, u_]) X0 hx hby at_51 rfl ?_
      refine zlloadN X0 hx hby at_53 rfl ?_
      refine zlloadN X0 hx hby at_54 rfl ?_
      refine ziload X0 hx hby at_55 rfl ?_
      show SS p e below m s₁ 57 #[vJ (q0), s_, vJ (q1), s_, vI (p2), vI (p3), vI (p4), vI (1), vI ((Int32.ofNat pp)), vI (cv), vI (36), u_, u_, u_, u_, u_, u_, u_, u_, u_, u_] [(.int 36), (.long q1), (.long q0)] _
      refine st169 _ ?_
      refine zastore (l' := #[vJ (q0), s_, vJ (q1), s_, vI (p2), vI (p3), vI (p4), vI (1), vI ((Int32.ofNat pp)), vI (cv), vI (36), vR (r_o_169), u_, u_, u_, u_, u_, u_, u_, u_, u_]) X169 hx hby at_60 rfl rfl ?_
      refine ziload X169 hx hby at_62 rfl ?_
      refine ziconst X169 hx hby (1) at_64 rfl ?_
      refine zicmpNo X169 hx hby at_65 (teq ((by decide) : (1 : Int32) = (1 : Int32))).2 ?_
      refine zaload X169 hx hby at_68 rfl rfl ?_
      refine ziload X169 hx hby at_70 rfl ?_
      refine ziload X169 hx hby at_72 rfl ?_
      refine st185 _ ?_
      refine ziload X185 hx hby at_75 rfl ?_
      refine ziconst X185 hx hby (3) at_77 rfl ?_
      refine zicmpYes X185 hx hby 78 88 rfl at_78 (feq ((by decide) : ¬ ((1 : Int32) = (3 : Int32)))).2 (by decide) (by decide) ?_
      exact kt
    rcases (own_seven (Int32.ofNat pp) cv) with hs196 | hs196 | hs196 | hs196 | hs196 | hs196 | hs196
    · obtain ⟨x196_0, x196_1, x196_2⟩ := hs196
      obtain ⟨T198, h198, X198, e198, E198, A198, D198, -, st198⟩ := newO X185 hx hZ hown (hw _ (gm 26 rfl)) (hw _ (gm 27 rfl)) (hw _ (gm 28 rfl)) e185 (g := (mkF m 88 #[vJ (q0), s_, vJ (q1), s_, vI (p2), vI (p3), vI (p4), vI (1), vI ((Int32.ofNat pp)), vI (cv), vI (36), vR (r_o_169), u_, u_, u_, u_, u_, u_, u_, u_, u_] [])) rfl (hb hby at_88) (by decide) (by decide)
      obtain ⟨b198, g198⟩ : ∃ z, z = h185.size := ⟨_, rfl⟩
      rw [← g198] at A198 D198 st198
      have Ge202 : n0 ≤ b198 := Nat.le_trans Zs188 (Nat.le_of_eq g198.symm)
      have Zs205 : n0 ≤ h198.size := (Nat.le_trans Zs188 E198.1)
      have F198_coder : Fld Z h198 b198 "java/lang/String" "coder" "B" (.int 0) := D198 (Or.inr (hw _ (gm 52 rfl))) (ty := .byte) (by decide)
      have F198_value : Fld Z h198 b198 "java/lang/String" "value" "[B" .null := D198 (Or.inr (hw _ (gm 54 rfl))) (ty := (.array .byte)) (by decide)
      have Fq210 : Arv Z h198 r_o_169 k_r_169 .char (36 : Int32) (own_cl 36 (own_st (own_dr q0 q1) pp cv)) (.int 0) := (Vc191.ext E198)
      have Fq211 : Old Z n0 h198 := (((hO.keep K169 all0).wr W185 Ge172).ext E198)
      obtain ⟨_, _, ⟨T209, L209, k209, n209⟩, -, X209, ⟨Lc209, hQ209, l209, y209, z209⟩, st209⟩ := X198.specialBack hx (y := y_18) rfl hown (mvT hZ (hw _ (gm 29 rfl))) (mvT hZ (hw _ (gm 30 rfl))) (mvT hZ (hw _ (gm 31 rfl))) (by decide) (backOf (W := 1) (own_initCL l Z a0 hw [] b198 .null (.int 0) r_o_169 k_r_169 (own_st (own_dr q0 q1) pp cv) (36 : Int32) 36 cs h198 n0 Zs205 A198 F198_value F198_coder Ge202 Fq210 (fun j _ => own_st255 (own_dr255 q0 q1) x196_2 j) (by first | assumption | decide : (36 : Int32) = Int32.ofNat 36) (by first | assumption | decide : 36 ≤ 37) (by first | assumption | decide : ¬ (36 : Int32) = (0 : Int32)) Fq211 hS hcs) hZ (hw _ (gm 31 rfl)) (hw _ (gm 28 rfl)) (by decide) (by decide)) (g := (mkF m 94 #[vJ (q0), s_, vJ (q1), s_, vI (p2), vI (p3), vI (p4), vI (1), vI ((Int32.ofNat pp)), vI (cv), vI (36), vR (r_o_169), u_, u_, u_, u_, u_, u_, u_, u_, u_] [(.ref r_o_169), (.ref b198), (.ref b198)])) rfl (by rw [hml]; rfl) (Steps.refl _) (a := b198) (argsL := [(.ref r_o_169)]) (rest := [(.ref b198)]) (lenOf own_pd27 rfl) rfl (by show 2 * 0 + _ ≤ _; exact Nat.le_of_eq rfl) (hb hby at_94) (fun _ _ => ⟨rfl, e198, (by decide : 2 + 1 ≤ _), (by decide : 41 + 37 ≤ _)⟩)
      dsimp only [Pt.U, Pt.locs, Pt.cells, Pt.slots] at X209 l209 y209 z209 st209 hQ209
      rw [l209, y209, z209] at X209
      obtain ⟨r_o_209, k_r_209, rfl, Nq209, sz209_r_o, K209, Pf209_0, Pf209_1, Pf209_2⟩ := hQ209
      have N212 := Fr.app N189 Nq209
      have Zs220 : n0 ≤ T209.heap.size := Nat.le_trans Zs205 K209.1
      have Fq223 : Exa Z T209.heap b198 "java/lang/String" := (A198.keep K209)
      have Fq224 : Old Z n0 T209.heap := (Fq211.keep K209 (allS Ge202 all0))
      obtain ⟨_, _, ⟨T222, L222, k222, n222⟩, -, X222, ⟨Lc222, hQ222, l222, y222, z222⟩, st222⟩ := Jvm.LawKit.callS X209 hx (y := y_39) hown (mvT hZ (hw _ (gm 55 rfl))) (mvT hZ (hw _ (gm 56 rfl))) (mvT hZ (hw _ (gm 57 rfl))) (mvT hZ (hw _ (gm 58 rfl))) (by decide) (backOf (W := 0) (own_prSL l Z a0 hw [] b198 r_o_209 k_r_209 (own_st (own_dr q0 q1) pp cv) cs e_o u_f q0 q1 T209.heap n0 Zs220 Fq223 Pf209_0 Pf209_1 Pf209_2 Fq224 hS hcs hSe (fun j _ => own_st255 (own_dr255 q0 q1) x196_2 j) (own_stN (own_drN q0 q1) hcv) hSf hf (own_L1 q0 q1 pp cv hpp x196_0 x196_1)) hZ (hw _ (gm 58 rfl)) (hw _ (gm 57 rfl)) (by decide) (by decide)) (g := (mkF m 97 #[vJ (q0), s_, vJ (q1), s_, vI (p2), vI (p3), vI (p4), vI (1), vI ((Int32.ofNat pp)), vI (cv), vI (36), vR (r_o_169), u_, u_, u_, u_, u_, u_, u_, u_, u_] [(.ref b198)])) rfl (by rw [hml]; rfl) (argsL := [(.ref b198)]) (rest := []) (lenOf own_pd28 rfl) rfl (by show 2 * 0 + _ ≤ _; exact Nat.le_of_eq rfl) (hb hby at_97) (fun _ _ => ⟨rfl, rfl, (by decide : 3 + 2 ≤ _), (by decide : 78 + 3 ≤ _)⟩)
      dsimp only [Pt.U, Pt.locs, Pt.cells, Pt.slots] at X222 l222 y222 z222 st222 hQ222
      rw [l222, y222, z222] at X222
      obtain ⟨r_o_222, w_o_222, rfl, Nq222, sz222_r_o, sz222_w_o, K222, Pf222_0, Pf222_1, Pf222_2, Pf222_3, Pf222_4⟩ := hQ222
      have N225 := Fr.app N212 Nq222
      have Zs241 : n0 ≤ T222.heap.size := Nat.le_trans Zs220 K222.1
      obtain ⟨_, _, ⟨T260, L260, k260, n260⟩, -, X260, ⟨Lc260, hQ260, l260, y260, z260⟩, st260⟩ := Jvm.LawKit.callS X222 hx (y := y_0) hown (mvT hZ (hw _ (gm 13 rfl))) (mvT hZ (hw _ (gm 14 rfl))) (mvT hZ (hw _ (gm 4 rfl))) (mvT hZ (hw _ (gm 15 rfl))) (by decide) (backOf (W := 0) (own_isd l Z a0 hw [] (Int32.ofNat pp) T222.heap n0 Zs241 ) hZ (hw _ (gm 15 rfl)) (hw _ (gm 4 rfl)) (by decide) (by decide)) (g := (mkF m 145 #[vJ (q0), s_, vJ (q1), s_, vI (p2), vI (p3), vI (p4), vI (1), vI ((Int32.ofNat pp)), vI (cv), vI (36), vR (r_o_169), vR (r_o_222), vI (1), vJ (q0), s_, vJ (q1), s_, u_, u_, u_] [(.int (Int32.ofNat pp))])) rfl (by rw [hml]; rfl) (argsL := [(.int (Int32.ofNat pp))]) (rest := []) (lenOf own_pd1 rfl) rfl (by show 2 * 0 + _ ≤ _; exact Nat.le_of_eq rfl) (hb hby at_145) (fun _ _ => ⟨rfl, rfl, (by decide : 5 + 0 ≤ _), (by decide : 81 + 0 ≤ _)⟩)
      dsimp only [Pt.U, Pt.locs, Pt.cells, Pt.slots] at X260 l260 y260 z260 st260 hQ260
      rw [l260, y260, z260] at X260
      obtain ⟨rfl, Nq260, eh260⟩ := hQ260
      have N261 := Fr.app N225 Nq260
      obtain ⟨cq274, kq274, q274a, q274b, q274c⟩ := isOf hZ eh260 Pf222_0
      obtain ⟨_, _, ⟨T274, L274, k274, n274⟩, -, X274, ⟨Lc274, hQ274, l274, y274, z274⟩, st274⟩ := X260.virtualBack hx (y := y_34) (z := y_34) hown (mvT hZ (hw _ (gm 126 rfl))) (mvT hZ (hw _ (gm 127 rfl))) (notFace_of_selects (args := #[]) (mvT hZ (hw _ (gm 129 rfl)))) (mvT hZ (hw _ (gm 129 rfl))) (mvT hZ (hw _ (gm 128 rfl))) (by decide) (backOf (W := 0) (own_ipS l Z a0 hw [] r_o_222 w_o_222 T222.heap n0 Zs241 Pf222_0 Pf222_1) hZ (hw _ (gm 130 rfl)) (hw _ (gm 111 rfl)) (by decide) (by decide)) q274a q274c (g := (mkF m 293 #[vJ (q0), s_, vJ (q1), s_, vI (p2), vI (p3), vI (p4), vI (1), vI ((Int32.ofNat pp)), vI (cv), vI (36), vR (r_o_169), vR (r_o_222), vI (1), vJ (q0), s_, vJ (q1), s_, u_, u_, u_] [(.ref r_o_222)])) rfl (by rw [hml]; rfl) (Steps.refl _) (argsL := []) (rest := []) (lenOf own_pd17 rfl) rfl (by show 2 * 0 + _ ≤ _; exact Nat.le_of_eq rfl) (hb hby at_293) (fun _ _ => ⟨rfl, eh260, (by decide : 5 + 0 ≤ _), (by decide : 81 + 0 ≤ _)⟩)
      dsimp only [Pt.U, Pt.locs, Pt.cells, Pt.slots] at X274 l274 y274 z274 st274 hQ274
      rw [l274, y274, z274] at X274
      obtain ⟨rfl, Nq274, eh274⟩ := hQ274
      have N275 := Fr.app N261 Nq274
      obtain ⟨cq279, kq279, q279a, q279b, q279c⟩ := isOf hZ eh274 Pf222_0
      obtain ⟨_, _, ⟨T279, L279, k279, n279⟩, -, X279, ⟨Lc279, hQ279, l279, y279, z279⟩, st279⟩ := X274.virtualBack hx (y := y_35) (z := y_35) hown (mvT hZ (hw _ (gm 131 rfl))) (mvT hZ (hw _ (gm 132 rfl))) (notFace_of_selects (args := #[]) (mvT hZ (hw _ (gm 134 rfl)))) (mvT hZ (hw _ (gm 134 rfl))) (mvT hZ (hw _ (gm 133 rfl))) (by decide) (backOf (W := 0) (own_get l Z a0 hw [] r_o_222 w_o_222 T222.heap n0 Zs241 Pf222_0 Pf222_1) hZ (hw _ (gm 135 rfl)) (hw _ (gm 111 rfl)) (by decide) (by decide)) q279a q279c (g := (mkF m 301 #[vJ (q0), s_, vJ (q1), s_, vI (p2), vI (p3), vI (p4), vI (1), vI ((Int32.ofNat pp)), vI (cv), vI (36), vR (r_o_169), vR (r_o_222), vI (1), vJ (q0), s_, vJ (q1), s_, u_, u_, u_] [(.ref r_o_222)])) rfl (by rw [hml]; rfl) (Steps.refl _) (argsL := []) (rest := []) (lenOf own_pd29 rfl) rfl (by show 2 * 0 + _ ≤ _; exact Nat.le_of_eq rfl) (hb hby at_301) (fun _ _ => ⟨rfl, eh274, (by decide : 5 + 0 ≤ _), (by decide : 81 + 0 ≤ _)⟩)
      dsimp only [Pt.U, Pt.locs, Pt.cells, Pt.slots] at X279 l279 y279 z279 st279 hQ279
      rw [l279, y279, z279] at X279
      obtain ⟨rfl, Nq279, eh279⟩ := hQ279
      have N280 := Fr.app N275 Nq279
      obtain ⟨T282, X282, e282, st282⟩ := castY X279 hx hZ hown (hw _ (gm 136 rfl)) eh279 (Ins.self Pf222_2) (g := (mkF m 304 #[vJ (q0), s_, vJ (q1), s_, vI (p2), vI (p3), vI (p4), vI (1), vI ((Int32.ofNat pp)), vI (cv), vI (36), vR (r_o_169), vR (r_o_222), vI (1), vJ (q0), s_, vJ (q1), s_, u_, u_, u_] [(.ref w_o_222)])) rfl rfl (hb hby at_304)
      obtain ⟨cq284, kq284, q284a, q284b, q284c⟩ := isOf hZ e282 Pf222_2
      obtain ⟨_, _, ⟨T284, L284, k284, n284⟩, -, X284, ⟨Lc284, hQ284, l284, y284, z284⟩, st284⟩ := X282.virtualBack hx (y := y_36) (z := y_36) hown (mvT hZ (hw _ (gm 138 rfl))) (mvT hZ (hw _ (gm 139 rfl))) (notFace_of_selects (args := #[]) (mvT hZ (hw _ (gm 141 rfl)))) (mvT hZ (hw _ (gm 141 rfl))) (mvT hZ (hw _ (gm 140 rfl))) (by decide) (backOf (W := 0) (own_g_high l Z a0 hw [] w_o_222 q0 T222.heap n0 Zs241 Pf222_2 Pf222_3) hZ (hw _ (gm 142 rfl)) (hw _ (gm 57 rfl)) (by decide) (by decide)) q284a q284c (g := (mkF m 307 #[vJ (q0), s_, vJ (q1), s_, vI (p2), vI (p3), vI (p4), vI (1), vI ((Int32.ofNat pp)), vI (cv), vI (36), vR (r_o_169), vR (r_o_222), vI (1), vJ (q0), s_, vJ (q1), s_, u_, u_, u_] [(.ref w_o_222)])) rfl (by rw [hml]; rfl) (Steps.refl _) (argsL := []) (rest := []) (lenOf own_pd30 rfl) rfl (by show 2 * 0 + _ ≤ _; exact Nat.le_of_eq rfl) (hb hby at_307) (fun _ _ => ⟨rfl, e282, (by decide : 5 + 0 ≤ _), (by decide : 81 + 0 ≤ _)⟩)
      dsimp only [Pt.U, Pt.locs, Pt.cells, Pt.slots] at X284 l284 y284 z284 st284 hQ284
      rw [l284, y284, z284] at X284
      obtain ⟨rfl, Nq284, eh284⟩ := hQ284
      have N285 := Fr.app N280 Nq284
      obtain ⟨cq291, kq291, q291a, q291b, q291c⟩ := isOf hZ eh284 Pf222_0
      obtain ⟨_, _, ⟨T291, L291, k291, n291⟩, -, X291, ⟨Lc291, hQ291, l291, y291, z291⟩, st291⟩ := X284.virtualBack hx (y := y_35) (z := y_35) hown (mvT hZ (hw _ (gm 131 rfl))) (mvT hZ (hw _ (gm 132 rfl))) (notFace_of_selects (args := #[]) (mvT hZ (hw _ (gm 134 rfl)))) (mvT hZ (hw _ (gm 134 rfl))) (mvT hZ (hw _ (gm 133 rfl))) (by decide) (backOf (W := 0) (own_get l Z a0 hw [] r_o_222 w_o_222 T222.heap n0 Zs241 Pf222_0 Pf222_1) hZ (hw _ (gm 135 rfl)) (hw _ (gm 111 rfl)) (by decide) (by decide)) q291a q291c (g := (mkF m 318 #[vJ (q0), s_, vJ (q1), s_, vI (p2), vI (p3), vI (p4), vI (1), vI ((Int32.ofNat pp)), vI (cv), vI (36), vR (r_o_169), vR (r_o_222), vI (1), vJ (q0), s_, vJ (q1), s_, u_, u_, u_] [(.ref r_o_222)])) rfl (by rw [hml]; rfl) (Steps.refl _) (argsL := []) (rest := []) (lenOf own_pd29 rfl) rfl (by show 2 * 0 + _ ≤ _; exact Nat.le_of_eq rfl) (hb hby at_318) (fun _ _ => ⟨rfl, eh284, (by decide : 5 + 0 ≤ _), (by decide : 81 + 0 ≤ _)⟩)
      dsimp only [Pt.U, Pt.locs, Pt.cells, Pt.slots] at X291 l291 y291 z291 st291 hQ291
      rw [l291, y291, z291] at X291
      obtain ⟨rfl, Nq291, eh291⟩ := hQ291
      have N292 := Fr.app N285 Nq291
      obtain ⟨T294, X294, e294, st294⟩ := castY X291 hx hZ hown (hw _ (gm 136 rfl)) eh291 (Ins.self Pf222_2) (g := (mkF m 321 #[vJ (q0), s_, vJ (q1), s_, vI (p2), vI (p3), vI (p4), vI (1), vI ((Int32.ofNat pp)), vI (cv), vI (36), vR (r_o_169), vR (r_o_222), vI (1), vJ (q0), s_, vJ (q1), s_, u_, u_, u_] [(.ref w_o_222)])) rfl rfl (hb hby at_321)
      obtain ⟨cq296, kq296, q296a, q296b, q296c⟩ := isOf hZ e294 Pf222_2
      obtain ⟨_, _, ⟨T296, L296, k296, n296⟩, -, X296, ⟨Lc296, hQ296, l296, y296, z296⟩, st296⟩ := X294.virtualBack hx (y := y_37) (z := y_37) hown (mvT hZ (hw _ (gm 143 rfl))) (mvT hZ (hw _ (gm 144 rfl))) (notFace_of_selects (args := #[]) (mvT hZ (hw _ (gm 146 rfl)))) (mvT hZ (hw _ (gm 146 rfl))) (mvT hZ (hw _ (gm 145 rfl))) (by decide) (backOf (W := 0) (own_g_low l Z a0 hw [] w_o_222 q1 T222.heap n0 Zs241 Pf222_2 Pf222_4) hZ (hw _ (gm 147 rfl)) (hw _ (gm 57 rfl)) (by decide) (by decide)) q296a q296c (g := (mkF m 324 #[vJ (q0), s_, vJ (q1), s_, vI (p2), vI (p3), vI (p4), vI (1), vI ((Int32.ofNat pp)), vI (cv), vI (36), vR (r_o_169), vR (r_o_222), vI (1), vJ (q0), s_, vJ (q1), s_, u_, u_, u_] [(.ref w_o_222)])) rfl (by rw [hml]; rfl) (Steps.refl _) (argsL := []) (rest := []) (lenOf own_pd30 rfl) rfl (by show 2 * 0 + _ ≤ _; exact Nat.le_of_eq rfl) (hb hby at_324) (fun _ _ => ⟨rfl, e294, (by decide : 5 + 0 ≤ _), (by decide : 81 + 0 ≤ _)⟩)
      dsimp only [Pt.U, Pt.locs, Pt.cells, Pt.slots] at X296 l296 y296 z296 st296 hQ296
      rw [l296, y296, z296] at X296
      obtain ⟨rfl, Nq296, eh296⟩ := hQ296
      have N297 := Fr.app N292 Nq296
      obtain ⟨fs, hr, hrun, hended, hW, hsame⟩ := X296.leave (v := some (.int 1)) (fun h => by rw [Bd.returns] at h; cases h) (hlocks := BodyLoose.notSynchronized Bd)
      refine ⟨_, _, pre195 _ ?_, hrun, hended, _, _, rfl, ?_, ⟨_, rfl⟩, hW, hsame.mono (by decide) (by decide)⟩
      · show SS p e below m T185 88 #[vJ (q0), s_, vJ (q1), s_, vI (p2), vI (p3), vI (p4), vI (1), vI ((Int32.ofNat pp)), vI (cv), vI (36), vR (r_o_169), u_, u_, u_, u_, u_, u_, u_, u_, u_] [] _
        show SS p e below m T185 88 #[vJ (q0), s_, vJ (q1), s_, vI (p2), vI (p3), vI (p4), vI (1), vI ((Int32.ofNat pp)), vI (cv), vI (36), vR (r_o_169), u_, u_, u_, u_, u_, u_, u_, u_, u_] [] _
        refine st198 _ ?_
        show SS p e below m T198 91 #[vJ (q0), s_, vJ (q1), s_, vI (p2), vI (p3), vI (p4), vI (1), vI ((Int32.ofNat pp)), vI (cv), vI (36), vR (r_o_169), u_, u_, u_, u_, u_, u_, u_, u_, u_] [(.ref b198)] _
        refine XS.dup X198.here hx rfl (hb hby at_91) rfl rfl ?_
        show SS p e below m T198 92 #[vJ (q0), s_, vJ (q1), s_, vI (p2), vI (p3), vI (p4), vI (1), vI ((Int32.ofNat pp)), vI (cv), vI (36), vR (r_o_169), u_, u_, u_, u_, u_, u_, u_, u_, u_] [(.ref b198), (.ref b198)] _
        refine zaload X198 hx hby at_92 rfl rfl ?_
        refine st209.trans ?_
        refine st222 _ ?_
        refine zastore (l' := #[vJ (q0), s_, vJ (q1), s_, vI (p2), vI (p3), vI (p4), vI (1), vI ((Int32.ofNat pp)), vI (cv), vI (36), vR (r_o_169), vR (r_o_222), u_, u_, u_, u_, u_, u_, u_, u_]) X222 hx hby at_100 rfl rfl ?_
        refine ziload X222 hx hby at_102 rfl ?_
        refine ziconst X222 hx hby (2) at_104 rfl ?_
        refine zicmpNo X222 hx hby at_105 (feq ((by decide) : ¬ ((1 : Int32) = (2 : Int32)))).1 ?_
        refine ziload X222 hx hby at_108 rfl ?_
        refine ziconst X222 hx hby (3) at_110 rfl ?_
        refine zicmpYes X222 hx hby 111 128 rfl at_111 (feq ((by decide) : ¬ ((1 : Int32) = (3 : Int32)))).2 (by decide) (by decide) ?_
        refine ziconst X222 hx hby (1) at_128 rfl ?_
        refine zistore (l' := #[vJ (q0), s_, vJ (q1), s_, vI (p2), vI (p3), vI (p4), vI (1), vI ((Int32.ofNat pp)), vI (cv), vI (36), vR (r_o_169), vR (r_o_222), vI (1), u_, u_, u_, u_, u_, u_, u_]) X222 hx hby at_129 rfl ?_
        show SS p e below m T222 131 #[vJ (q0), s_, vJ (q1), s_, vI (p2), vI (p3), vI (p4), vI (1), vI ((Int32.ofNat pp)), vI (cv), vI (36), vR (r_o_169), vR (r_o_222), vI (1), u_, u_, u_, u_, u_, u_, u_] [] _
        refine zlloadN X222 hx hby at_131 rfl ?_
        refine zlstore (l' := #[vJ (q0), s_, vJ (q1), s_, vI (p2), vI (p3), vI (p4), vI (1), vI ((Int32.ofNat pp)), vI (cv), vI (36), vR (r_o_169), vR (r_o_222), vI (1), vJ (q0), s_, u_, u_, u_, u_, u_]) X222 hx hby at_132 rfl ?_
        refine zlloadN X222 hx hby at_134 rfl ?_
        refine zlstore (l' := #[vJ (q0), s_, vJ (q1), s_, vI (p2), vI (p3), vI (p4), vI (1), vI ((Int32.ofNat pp)), vI (cv), vI (36), vR (r_o_169), vR (r_o_222), vI (1), vJ (q0), s_, vJ (q1), s_, u_, u_, u_]) X222 hx hby at_135 rfl ?_
        refine ziload X222 hx hby at_137 rfl ?_
        refine ziconst X222 hx hby (1) at_139 rfl ?_
        refine zicmpNo X222 hx hby at_140 (teq ((by decide) : (1 : Int32) = (1 : Int32))).2 ?_
        refine ziload X222 hx hby at_143 rfl ?_
        refine st260 _ ?_
        refine zifNo X260 hx hby at_148 ((if0 _ _).trans (feq (x196_0 : ¬ ((own_isd_f (Int32.ofNat pp)) = (0 : Int32)))).1) ?_
        refine ziload X260 hx hby at_151 rfl ?_
        refine zbipush X260 hx hby (45) at_153 rfl ?_
        show SS p e below m T260 155 #[vJ (q0), s_, vJ (q1), s_, vI (p2), vI (p3), vI (p4), vI (1), vI ((Int32.ofNat pp)), vI (cv), vI (36), vR (r_o_169), vR (r_o_222), vI (1), vJ (q0), s_, vJ (q1), s_, u_, u_, u_] [(.int 45), (.int cv)] _
        refine zicmpNo X260 hx hby at_155 (teq (x196_1 : cv = (45 : Int32))).2 ?_
        refine ziconst X260 hx hby (1) at_158 rfl ?_
        refine zgoto X260 hx hby 159 163 rfl at_159 (by decide) (by decide) ?_
        refine zistore (l' := #[vJ (q0), s_, vJ (q1), s_, vI (p2), vI (p3), vI (p4), vI (1), vI ((Int32.ofNat pp)), vI (cv), vI (36), vR (r_o_169), vR (r_o_222), vI (1), vJ (q0), s_, vJ (q1), s_, u_, u_, u_]) X260 hx hby at_163 rfl ?_
        refine zgoto X260 hx hby 165 272 rfl at_165 (by decide) (by decide) ?_
        refine ziload X260 hx hby at_272 rfl ?_
        refine zifYes X260 hx hby 274 291 rfl at_274 ((if0 _ _).trans (feq ((by decide) : ¬ ((1 : Int32) = (0 : Int32)))).2) (by decide) (by decide) ?_
        refine zaload X260 hx hby at_291 rfl rfl ?_
        refine st274.trans ?_
        refine zifNo X274 hx hby at_296 ((if0 _ _).trans (feq ((by decide) : ¬ ((1 : Int32) = (0 : Int32)))).1) ?_
        refine zaload X274 hx hby at_299 rfl rfl ?_
        refine st279.trans ?_
        show SS p e below m T279 304 #[vJ (q0), s_, vJ (q1), s_, vI (p2), vI (p3), vI (p4), vI (1), vI ((Int32.ofNat pp)), vI (cv), vI (36), vR (r_o_169), vR (r_o_222), vI (1), vJ (q0), s_, vJ (q1), s_, u_, u_, u_] [(.ref w_o_222)] _
        refine st282 _ ?_
        refine st284.trans ?_
        refine zlload X284 hx hby at_310 rfl ?_
        show SS p e below m T284 312 #[vJ (q0), s_, vJ (q1), s_, vI (p2), vI (p3), vI (p4), vI (1), vI ((Int32.ofNat pp)), vI (cv), vI (36), vR (r_o_169), vR (r_o_222), vI (1), vJ (q0), s_, vJ (q1), s_, u_, u_, u_] [(.long q0), (.long q0)] _
        refine XS.lcmp X284.here hx rfl (hb hby at_312) rfl ?_
        show SS p e below m T284 313 #[vJ (q0), s_, vJ (q1), s_, vI (p2), vI (p3), vI (p4), vI (1), vI ((Int32.ofNat pp)), vI (cv), vI (36), vR (r_o_169), vR (r_o_222), vI (1), vJ (q0), s_, vJ (q1), s_, u_, u_, u_] [(.int (lcmpW q0 q0))] _
        refine zifNo X284 hx hby at_313 ((if0 _ _).trans (teq (own_lcEq.mpr (rfl : q0 = q0))).2) ?_
        refine zaload X284 hx hby at_316 rfl rfl ?_
        refine st291.trans ?_
        refine st294 _ ?_
        refine st296.trans ?_
        refine zlload X296 hx hby at_327 rfl ?_
        show SS p e below m T296 329 #[vJ (q0), s_, vJ (q1), s_, vI (p2), vI (p3), vI (p4), vI (1), vI ((Int32.ofNat pp)), vI (cv), vI (36), vR (r_o_169), vR (r_o_222), vI (1), vJ (q0), s_, vJ (q1), s_, u_, u_, u_] [(.long q1), (.long q1)] _
        refine XS.lcmp X296.here hx rfl (hb hby at_329) rfl ?_
        show SS p e below m T296 330 #[vJ (q0), s_, vJ (q1), s_, vI (p2), vI (p3), vI (p4), vI (1), vI ((Int32.ofNat pp)), vI (cv), vI (36), vR (r_o_169), vR (r_o_222), vI (1), vJ (q0), s_, vJ (q1), s_, u_, u_, u_] [(.int (lcmpW q1 q1))] _
        refine zifNo X296 hx hby at_330 ((if0 _ _).trans (teq (own_lcEq.mpr (rfl : q1 = q1))).2) ?_
        refine ziconst X296 hx hby (1) at_333 rfl ?_
        refine zgoto X296 hx hby 334 338 rfl at_334 (by decide) (by decide) ?_
        exact retN X296 hx (t := .boolean) Bd.returns (by simp) (hb hby at_338) hr
      · show Qown_law Z q0 q1 p2 p3 p4 cs u_f e_o h0 n0 _ T296.heap _
        rw [eh296]
        exact ⟨rfl, N297⟩
    · obtain ⟨x303_0, x303_1, x303_2⟩ := hs196
      obtain ⟨T305, h305, X305, e305, E305, A305, D305, -, st305⟩ := newO X185 hx hZ hown (hw _ (gm 26 rfl)) (hw _ (gm 27 rfl)) (hw _ (gm 28 rfl)) e185 (g := (mkF m 88 #[vJ (q0), s_, vJ (q1), s_, vI (p2), vI (p3), vI (p4), vI (1), vI ((Int32.ofNat pp)), vI (cv), vI (36), vR (r_o_169), u_, u_, u_, u_, u_, u_, u_, u_, u_] [])) rfl (hb hby at_88) (by decide) (by decide)
      obtain ⟨b305, g305⟩ : ∃ z, z = h185.size := ⟨_, rfl⟩
      rw [← g305] at A305 D305 st305
      have Fq307 : Exa Z h185 e_o "java/util/Optional" := ((hEe.keep K169).wr W185)
      have Ne306 : e_o ≠ b305 := Nat.ne_of_lt (Nat.lt_of_lt_of_le Fq307.lt (Nat.le_of_eq g305.symm))
      have Ge309 : n0 ≤ b305 := Nat.le_trans Zs188 (Nat.le_of_eq g305.symm)
      have Zs312 : n0 ≤ h305.size := (Nat.le_trans Zs188 E305.1)
      have F305_coder : Fld Z h305 b305 "java/lang/String" "coder" "B" (.int 0) := D305 (Or.inr (hw _ (gm 52 rfl))) (ty := .byte) (by decide)
      have F305_value : Fld Z h305 b305 "java/lang/String" "value" "[B" .null := D305 (Or.inr (hw _ (gm 54 rfl))) (ty := (.array .byte)) (by decide)
      have Fq317 : Arv Z h305 r_o_169 k_r_169 .char (36 : Int32) (own_cl 36 (own_st (own_dr q0 q1) pp cv)) (.int 0) := (Vc191.ext E305)
      have Fq318 : Old Z n0 h305 := (((hO.keep K169 all0).wr W185 Ge172).ext E305)
      obtain ⟨_, _, ⟨T316, L316, k316, n316⟩, -, X316, ⟨Lc316, hQ316, l316, y316, z316⟩, st316⟩ := X305.specialBack hx (y := y_18) rfl hown (mvT hZ (hw _ (gm 29 rfl))) (mvT hZ (hw _ (gm 30 rfl))) (mvT hZ (hw _ (gm 31 rfl))) (by decide) (backOf (W := 1) (own_initCL l Z a0 hw [] b305 .null (.int 0) r_o_169 k_r_169 (own_st (own_dr q0 q1) pp cv) (36 : Int32) 36 cs h305 n0 Zs312 A305 F305_value F305_coder Ge309 Fq317 (fun j _ => own_st255 (own_dr255 q0 q1) x303_2 j) (by first | assumption | decide : (36 : Int32) = Int32.ofNat 36) (by first | assumption | decide : 36 ≤ 37) (by first | assumption | decide : ¬ (36 : Int32) = (0 : Int32)) Fq318 hS hcs) hZ (hw _ (gm 31 rfl)) (hw _ (gm 28 rfl)) (by decide) (by decide)) (g := (mkF m 94 #[vJ (q0), s_, vJ (q1), s_, vI (p2), vI (p3), vI (p4), vI (1), vI ((Int32.ofNat pp)), vI (cv), vI (36), vR (r_o_169), u_, u_, u_, u_, u_, u_, u_, u_, u_] [(.ref r_o_169), (.ref b305), (.ref b305)])) rfl (by rw [hml]; rfl) (Steps.refl _) (a := b305) (argsL := [(.ref r_o_169)]) (rest := [(.ref b305)]) (lenOf own_pd27 rfl) rfl (by show 2 * 0 + _ ≤ _; exact Nat.le_of_eq rfl) (hb hby at_94) (fun _ _ => ⟨rfl, e305, (by decide : 2 + 1 ≤ _), (by decide : 41 + 37 ≤ _)⟩)
      dsimp only [Pt.U, Pt.locs, Pt.cells, Pt.slots] at X316 l316 y316 z316 st316 hQ316
      rw [l316, y316, z316] at X316
      obtain ⟨r_o_316, k_r_316, rfl, Nq316, sz316_r_o, K316, Pf316_0, Pf316_1, Pf316_2⟩ := hQ316
      have N319 := Fr.app N189 Nq316
      have Fq321 : Exa Z h305 e_o "java/util/Optional" := (Fq307.ext E305)
      have Zs327 : n0 ≤ T316.heap.size := Nat.le_trans Zs312 K316.1
      have Fq330 : Exa Z T316.heap b305 "java/lang/String" := (A305.keep K316)
      have Fq331 : Old Z n0 T316.heap := (Fq318.keep K316 (allS Ge309 all0))
      obtain ⟨_, _, ⟨T329, L329, k329, n329⟩, -, X329, ⟨Lc329, hQ329, l329, y329, z329⟩, st329⟩ := Jvm.LawKit.callS X316 hx (y := y_39) hown (mvT hZ (hw _ (gm 55 rfl))) (mvT hZ (hw _ (gm 56 rfl))) (mvT hZ (hw _ (gm 57 rfl))) (mvT hZ (hw _ (gm 58 rfl))) (by decide) (backOf (W := 0) (own_prNL l Z a0 hw [] b305 r_o_316 k_r_316 (own_st (own_dr q0 q1) pp cv) cs e_o u_f T316.heap n0 Zs327 Fq330 Pf316_0 Pf316_1 Pf316_2 Fq331 hS hcs hSe (fun j _ => own_st255 (own_dr255 q0 q1) x303_2 j) (own_stN (own_drN q0 q1) hcv) hSf hf (own_LB q0 q1 pp cv hpp (Or.inr ⟨x303_0, x303_1⟩))) hZ (hw _ (gm 58 rfl)) (hw _ (gm 57 rfl)) (by decide) (by decide)) (g := (mkF m 97 #[vJ (q0), s_, vJ (q1), s_, vI (p2), vI (p3), vI (p4), vI (1), vI ((Int32.ofNat pp)), vI (cv), vI (36), vR (r_o_169), u_, u_, u_, u_, u_, u_, u_, u_, u_] [(.ref b305)])) rfl (by rw [hml]; rfl) (argsL := [(.ref b305)]) (rest := []) (lenOf own_pd28 rfl) rfl (by show 2 * 0 + _ ≤ _; exact Nat.le_of_eq rfl) (hb hby at_97) (fun _ _ => ⟨rfl, rfl, (by decide : 3 + 0 ≤ _), (by decide : 78 + 0 ≤ _)⟩)
      dsimp only [Pt.U, Pt.locs, Pt.cells, Pt.slots] at X329 l329 y329 z329 st329 hQ329
      rw [l329, y329, z329] at X329
      obtain ⟨rfl, Nq329, eh329⟩ := hQ329
      have N332 := Fr.app N319 Nq329
      obtain ⟨_, _, ⟨T351, L351, k351, n351⟩, -, X351, ⟨Lc351, hQ351, l351, y351, z351⟩, st351⟩ := Jvm.LawKit.callS X329 hx (y := y_0) hown (mvT hZ (hw _ (gm 13 rfl))) (mvT hZ (hw _ (gm 14 rfl))) (mvT hZ (hw _ (gm 4 rfl))) (mvT hZ (hw _ (gm 15 rfl))) (by decide) (backOf (W := 0) (own_isd l Z a0 hw [] (Int32.ofNat pp) T316.heap n0 Zs327 ) hZ (hw _ (gm 15 rfl)) (hw _ (gm 4 rfl)) (by decide) (by decide)) (g := (mkF m 145 #[vJ (q0), s_, vJ (q1), s_, vI (p2), vI (p3), vI (p4), vI (1), vI ((Int32.ofNat pp)), vI (cv), vI (36), vR (r_o_169), vR (e_o), vI (1), vJ (q0), s_, vJ (q1), s_, u_, u_, u_] [(.int (Int32.ofNat pp))])) rfl (by rw [hml]; rfl) (argsL := [(.int (Int32.ofNat pp))]) (rest := []) (lenOf own_pd1 rfl) rfl (by show 2 * 0 + _ ≤ _; exact Nat.le_of_eq rfl) (hb hby at_145) (fun _ _ => ⟨rfl, eh329, (by decide : 3 + 0 ≤ _), (by decide : 78 + 0 ≤ _)⟩)
      dsimp only [Pt.U, Pt.locs, Pt.cells, Pt.slots] at X351 l351 y351 z351 st351 hQ351
      rw [l351, y351, z351] at X351
      obtain ⟨rfl, Nq351, eh351⟩ := hQ351
      have N352 := Fr.app N332 Nq351
      have Fq365 : Exa Z T316.heap e_o "java/util/Optional" := (Fq321.keep K316)
      have Fq366 : Fld Z T316.heap e_o "java/util/Optional" "value" "Ljava/lang/Object;" .null := ((((hFe.keep K169 nin0).other W185 (Or.inl Ne171)).ext E305).keep K316 (ninS Ne306 nin0))
      obtain ⟨cq364, kq364, q364a, q364b, q364c⟩ := isOf hZ eh351 Fq365
      obtain ⟨_, _, ⟨T364, L364, k364, n364⟩, -, X364, ⟨Lc364, hQ364, l364, y364, z364⟩, st364⟩ := X351.virtualBack hx (y := y_34) (z := y_34) hown (mvT hZ (hw _ (gm 126 rfl))) (mvT hZ (hw _ (gm 127 rfl))) (notFace_of_selects (args := #[]) (mvT hZ (hw _ (gm 129 rfl)))) (mvT hZ (hw _ (gm 129 rfl))) (mvT hZ (hw _ (gm 128 rfl))) (by decide) (backOf (W := 0) (own_ipN l Z a0 hw [] e_o T316.heap n0 Zs327 Fq365 Fq366) hZ (hw _ (gm 130 rfl)) (hw _ (gm 111 rfl)) (by decide) (by decide)) q364a q364c (g := (mkF m 279 #[vJ (q0), s_, vJ (q1), s_, vI (p2), vI (p3), vI (p4), vI (1), vI ((Int32.ofNat pp)), vI (cv), vI (36), vR (r_o_169), vR (e_o), vI (0), vJ (q0), s_, vJ (q1), s_, u_, u_, u_] [(.ref e_o)])) rfl (by rw [hml]; rfl) (Steps.refl _) (argsL := []) (rest := []) (lenOf own_pd17 rfl) rfl (by show 2 * 0 + _ ≤ _; exact Nat.le_of_eq rfl) (hb hby at_279) (fun _ _ => ⟨rfl, eh351, (by decide : 3 + 0 ≤ _), (by decide : 78 + 0 ≤ _)⟩)
      dsimp only [Pt.U, Pt.locs, Pt.cells, Pt.slots] at X364 l364 y364 z364 st364 hQ364
      rw [l364, y364, z364] at X364
      obtain ⟨rfl, Nq364, eh364⟩ := hQ364
      have N367 := Fr.app N352 Nq364
      obtain ⟨fs, hr, hrun, hended, hW, hsame⟩ := X364.leave (v := some (.int 1)) (fun h => by rw [Bd.returns] at h; cases h) (hlocks := BodyLoose.notSynchronized Bd)
      refine ⟨_, _, pre195 _ ?_, hrun, hended, _, _, rfl, ?_, ⟨_, rfl⟩, hW, hsame.mono (by decide) (by decide)⟩
      · show SS p e below m T185 88 #[vJ (q0), s_, vJ (q1), s_, vI (p2), vI (p3), vI (p4), vI (1), vI ((Int32.ofNat pp)), vI (cv), vI (36), vR (r_o_169), u_, u_, u_, u_, u_, u_, u_, u_, u_] [] _
        show SS p e below m T185 88 #[vJ (q0), s_, vJ (q1), s_, vI (p2), vI (p3), vI (p4), vI (1), vI ((Int32.ofNat pp)), vI (cv), vI (36), vR (r_o_169), u_, u_, u_, u_, u_, u_, u_, u_, u_] [] _
        refine st305 _ ?_
        show SS p e below m T305 91 #[vJ (q0), s_, vJ (q1), s_, vI (p2), vI (p3), vI (p4), vI (1), vI ((Int32.ofNat pp)), vI (cv), vI (36), vR (r_o_169), u_, u_, u_, u_, u_, u_, u_, u_, u_] [(.ref b305)] _
        refine XS.dup X305.here hx rfl (hb hby at_91) rfl rfl ?_
        show SS p e below m T305 92 #[vJ (q0), s_, vJ (q1), s_, vI (p2), vI (p3), vI (p4), vI (1), vI ((Int32.ofNat pp)), vI (cv), vI (36), vR (r_o_169), u_, u_, u_, u_, u_, u_, u_, u_, u_] [(.ref b305), (.ref b305)] _
        refine zaload X305 hx hby at_92 rfl rfl ?_
        refine st316.trans ?_
        refine st329 _ ?_
        refine zastore (l' := #[vJ (q0), s_, vJ (q1), s_, vI (p2), vI (p3), vI (p4), vI (1), vI ((Int32.ofNat pp)), vI (cv), vI (36), vR (r_o_169), vR (e_o), u_, u_, u_, u_, u_, u_, u_, u_]) X329 hx hby at_100 rfl rfl ?_
        refine ziload X329 hx hby at_102 rfl ?_
        refine ziconst X329 hx hby (2) at_104 rfl ?_
        refine zicmpNo X329 hx hby at_105 (feq ((by decide) : ¬ ((1 : Int32) = (2 : Int32)))).1 ?_
        refine ziload X329 hx hby at_108 rfl ?_
        refine ziconst X329 hx hby (3) at_110 rfl ?_
        refine zicmpYes X329 hx hby 111 128 rfl at_111 (feq ((by decide) : ¬ ((1 : Int32) = (3 : Int32)))).2 (by decide) (by decide) ?_
        refine ziconst X329 hx hby (1) at_128 rfl ?_
        refine zistore (l' := #[vJ (q0), s_, vJ (q1), s_, vI (p2), vI (p3), vI (p4), vI (1), vI ((Int32.ofNat pp)), vI (cv), vI (36), vR (r_o_169), vR (e_o), vI (1), u_, u_, u_, u_, u_, u_, u_]) X329 hx hby at_129 rfl ?_
        show SS p e below m T329 131 #[vJ (q0), s_, vJ (q1), s_, vI (p2), vI (p3), vI (p4), vI (1), vI ((Int32.ofNat pp)), vI (cv), vI (36), vR (r_o_169), vR (e_o), vI (1), u_, u_, u_, u_, u_, u_, u_] [] _
        refine zlloadN X329 hx hby at_131 rfl ?_
        refine zlstore (l' := #[vJ (q0), s_, vJ (q1), s_, vI (p2), vI (p3), vI (p4), vI (1), vI ((Int32.ofNat pp)), vI (cv), vI (36), vR (r_o_169), vR (e_o), vI (1), vJ (q0), s_, u_, u_, u_, u_, u_]) X329 hx hby at_132 rfl ?_
        refine zlloadN X329 hx hby at_134 rfl ?_
        refine zlstore (l' := #[vJ (q0), s_, vJ (q1), s_, vI (p2), vI (p3), vI (p4), vI (1), vI ((Int32.ofNat pp)), vI (cv), vI (36), vR (r_o_169), vR (e_o), vI (1), vJ (q0), s_, vJ (q1), s_, u_, u_, u_]) X329 hx hby at_135 rfl ?_
        refine ziload X329 hx hby at_137 rfl ?_
        refine ziconst X329 hx hby (1) at_139 rfl ?_
        refine zicmpNo X329 hx hby at_140 (teq ((by decide) : (1 : Int32) = (1 : Int32))).2 ?_
        refine ziload X329 hx hby at_143 rfl ?_
        refine st351 _ ?_
        refine zifNo X351 hx hby at_148 ((if0 _ _).trans (feq (x303_0 : ¬ ((own_isd_f (Int32.ofNat pp)) = (0 : Int32)))).1) ?_
        refine ziload X351 hx hby at_151 rfl ?_
        refine zbipush X351 hx hby (45) at_153 rfl ?_
        show SS p e below m T351 155 #[vJ (q0), s_, vJ (q1), s_, vI (p2), vI (p3), vI (p4), vI (1), vI ((Int32.ofNat pp)), vI (cv), vI (36), vR (r_o_169), vR (e_o), vI (1), vJ (q0), s_, vJ (q1), s_, u_, u_, u_] [(.int 45), (.int cv)] _
        refine zicmpYes X351 hx hby 155 162 rfl at_155 (feq (x303_1 : ¬ (cv = (45 : Int32)))).2 (by decide) (by decide) ?_
        refine ziconst X351 hx hby (0) at_162 rfl ?_
        refine zistore (l' := #[vJ (q0), s_, vJ (q1), s_, vI (p2), vI (p3), vI (p4), vI (1), vI ((Int32.ofNat pp)), vI (cv), vI (36), vR (r_o_169), vR (e_o), vI (0), vJ (q0), s_, vJ (q1), s_, u_, u_, u_]) X351 hx hby at_163 rfl ?_
        refine zgoto X351 hx hby 165 272 rfl at_165 (by decide) (by decide) ?_
        refine ziload X351 hx hby at_272 rfl ?_
        refine zifNo X351 hx hby at_274 ((if0 _ _).trans (teq ((by decide) : (0 : Int32) = (0 : Int32))).2) ?_
        refine zaload X351 hx hby at_277 rfl rfl ?_
        refine st364.trans ?_
        refine zifNo X364 hx hby at_282 ((if0 _ _).trans (teq ((by decide) : (0 : Int32) = (0 : Int32))).2) ?_
        refine ziconst X364 hx hby (1) at_285 rfl ?_
        refine zgoto X364 hx hby 286 290 rfl at_286 (by decide) (by decide) ?_
        exact retN X364 hx (t := .boolean) Bd.returns (by simp) (hb hby at_290) hr
      · show Qown_law Z q0 q1 p2 p3 p4 cs u_f e_o h0 n0 _ T364.heap _
        rw [eh364]
        exact ⟨rfl, N367⟩
    · obtain ⟨x371_0, x371_1, x371_2⟩ := hs196
      obtain ⟨T373, h373, X373, e373, E373, A373, D373, -, st373⟩ := newO X185 hx hZ hown (hw _ (gm 26 rfl)) (hw _ (gm 27 rfl)) (hw _ (gm 28 rfl)) e185 (g := (mkF m 88 #[vJ (q0), s_, vJ (q1), s_, vI (p2), vI (p3), vI (p4), vI (1), vI ((Int32.ofNat pp)), vI (cv), vI (36), vR (r_o_169), u_, u_, u_, u_, u_, u_, u_, u_, u_] [])) rfl (hb hby at_88) (by decide) (by decide)
      obtain ⟨b373, g373⟩ : ∃ z, z = h185.size := ⟨_, rfl⟩
      rw [← g373] at A373 D373 st373
      have Fq375 : Exa Z h185 e_o "java/util/Optional" := ((hEe.keep K169).wr W185)
      have Ne374 : e_o ≠ b373 := Nat.ne_of_lt (Nat.lt_of_lt_of_le Fq375.lt (Nat.le_of_eq g373.symm))
      have Ge377 : n0 ≤ b373 := Nat.le_trans Zs188 (Nat.le_of_eq g373.symm)
      have Zs380 : n0 ≤ h373.size := (Nat.le_trans Zs188 E373.1)
      have F373_coder : Fld Z h373 b373 "java/lang/String" "coder" "B" (.int 0) := D373 (Or.inr (hw _ (gm 52 rfl))) (ty := .byte) (by decide)
      have F373_value : Fld Z h373 b373 "java/lang/String" "value" "[B" .null := D373 (Or.inr (hw _ (gm 54 rfl))) (ty := (.array .byte)) (by decide)
      have Fq385 : Arv Z h373 r_o_169 k_r_169 .char (36 : Int32) (own_cl 36 (own_st (own_dr q0 q1) pp cv)) (.int 0) := (Vc191.ext E373)
      have Fq386 : Old Z n0 h373 := (((hO.keep K169 all0).wr W185 Ge172).ext E373)
      obtain ⟨_, _, ⟨T384, L384, k384, n384⟩, -, X384, ⟨Lc384, hQ384, l384, y384, z384⟩, st384⟩ := X373.specialBack hx (y := y_18) rfl hown (mvT hZ (hw _ (gm 29 rfl))) (mvT hZ (hw _ (gm 30 rfl))) (mvT hZ (hw _ (gm 31 rfl))) (by decide) (backOf (W := 1) (own_initC36U l Z a0 hw [] b373 .null (.int 0) r_o_169 k_r_169 (own_st (own_dr q0 q1) pp cv) pp cs h373 n0 Zs380 A373 F373_value F373_coder Ge377 Fq385 hpp (by rw [own_st_at]; exact x371_2) (own_stlt (own_dr255 q0 q1)) (own_stN (own_drN q0 q1) hcv) hSa hSh hSl Fq386 hS hcs) hZ (hw _ (gm 31 rfl)) (hw _ (gm 28 rfl)) (by decide) (by decide)) (g := (mkF m 94 #[vJ (q0), s_, vJ (q1), s_, vI (p2), vI (p3), vI (p4), vI (1), vI ((Int32.ofNat pp)), vI (cv), vI (36), vR (r_o_169), u_, u_, u_, u_, u_, u_, u_, u_, u_] [(.ref r_o_169), (.ref b373), (.ref b373)])) rfl (by rw [hml]; rfl) (Steps.refl _) (a := b373) (argsL := [(.ref r_o_169)]) (rest := [(.ref b373)]) (lenOf own_pd27 rfl) rfl (by show 2 * 0 + _ ≤ _; exact Nat.le_of_eq rfl) (hb hby at_94) (fun _ _ => ⟨rfl, e373, (by decide : 2 + 2 ≤ _), (by decide : 41 + 108 ≤ _)⟩)
      dsimp only [Pt.U, Pt.locs, Pt.cells, Pt.slots] at X384 l384 y384 z384 st384 hQ384
      rw [l384, y384, z384] at X384
      obtain ⟨r_o_384, k_r_384, rfl, Nq384, sz384_r_o, K384, Pf384_0, Pf384_1, Pf384_2⟩ := hQ384
      have N387 := Fr.app N189 Nq384
      have Fq389 : Exa Z h373 e_o "java/util/Optional" := (Fq375.ext E373)
      have Zs395 : n0 ≤ T384.heap.size := Nat.le_trans Zs380 K384.1
      have Fq398 : Exa Z T384.heap b373 "java/lang/String" := (A373.keep K384)
      have Fq399 : Old Z n0 T384.heap := (Fq386.keep K384 (allS Ge377 all0))
      obtain ⟨_, _, ⟨T397, L397, k397, n397⟩, -, X397, ⟨Lc397, hQ397, l397, y397, z397⟩, st397⟩ := Jvm.LawKit.callS X384 hx (y := y_39) hown (mvT hZ (hw _ (gm 55 rfl))) (mvT hZ (hw _ (gm 56 rfl))) (mvT hZ (hw _ (gm 57 rfl))) (mvT hZ (hw _ (gm 58 rfl))) (by decide) (backOf (W := 0) (own_prNU l Z a0 hw [] b373 r_o_384 k_r_384 (own_st (own_dr q0 q1) pp cv) cs e_o u_f T384.heap n0 Zs395 Fq398 Pf384_0 Pf384_1 Pf384_2 Fq399 hS hcs hSe hSa hSh hSl (own_stN (own_drN q0 q1) hcv) hSf hf (own_LB q0 q1 pp cv hpp (Or.inr ⟨x371_0, x371_1⟩))) hZ (hw _ (gm 58 rfl)) (hw _ (gm 57 rfl)) (by decide) (by decide)) (g := (mkF m 97 #[vJ (q0), s_, vJ (q1), s_, vI (p2), vI (p3), vI (p4), vI (1), vI ((Int32.ofNat pp)), vI (cv), vI (36), vR (r_o_169), u_, u_, u_, u_, u_, u_, u_, u_, u_] [(.ref b373)])) rfl (by rw [hml]; rfl) (argsL := [(.ref b373)]) (rest := []) (lenOf own_pd28 rfl) rfl (by show 2 * 0 + _ ≤ _; exact Nat.le_of_eq rfl) (hb hby at_97) (fun _ _ => ⟨rfl, rfl, (by decide : 4 + 0 ≤ _), (by decide : 149 + 0 ≤ _)⟩)
      dsimp only [Pt.U, Pt.locs, Pt.cells, Pt.slots] at X397 l397 y397 z397 st397 hQ397
      rw [l397, y397, z397] at X397
      obtain ⟨rfl, Nq397, eh397⟩ := hQ397
      have N400 := Fr.app N387 Nq397
      obtain ⟨_, _, ⟨T419, L419, k419, n419⟩, -, X419, ⟨Lc419, hQ419, l419, y419, z419⟩, st419⟩ := Jvm.LawKit.callS X397 hx (y := y_0) hown (mvT hZ (hw _ (gm 13 rfl))) (mvT hZ (hw _ (gm 14 rfl))) (mvT hZ (hw _ (gm 4 rfl))) (mvT hZ (hw _ (gm 15 rfl))) (by decide) (backOf (W := 0) (own_isd l Z a0 hw [] (Int32.ofNat pp) T384.heap n0 Zs395 ) hZ (hw _ (gm 15 rfl)) (hw _ (gm 4 rfl)) (by decide) (by decide)) (g := (mkF m 145 #[vJ (q0), s_, vJ (q1), s_, vI (p2), vI (p3), vI (p4), vI (1), vI ((Int32.ofNat pp)), vI (cv), vI (36), vR (r_o_169), vR (e_o), vI (1), vJ (q0), s_, vJ (q1), s_, u_, u_, u_] [(.int (Int32.ofNat pp))])) rfl (by rw [hml]; rfl) (argsL := [(.int (Int32.ofNat pp))]) (rest := []) (lenOf own_pd1 rfl) rfl (by show 2 * 0 + _ ≤ _; exact Nat.le_of_eq rfl) (hb hby at_145) (fun _ _ => ⟨rfl, eh397, (by decide : 4 + 0 ≤ _), (by decide : 149 + 0 ≤ _)⟩)
      dsimp only [Pt.U, Pt.locs, Pt.cells, Pt.slots] at X419 l419 y419 z419 st419 hQ419
      rw [l419, y419, z419] at X419
      obtain ⟨rfl, Nq419, eh419⟩ := hQ419
      have N420 := Fr.app N400 Nq419
      have Fq433 : Exa Z T384.heap e_o "java/util/Optional" := (Fq389.keep K384)
      have Fq434 : Fld Z T384.heap e_o "java/util/Optional" "value" "Ljava/lang/Object;" .null := ((((hFe.keep K169 nin0).other W185 (Or.inl Ne171)).ext E373).keep K384 (ninS Ne374 nin0))
      obtain ⟨cq432, kq432, q432a, q432b, q432c⟩ := isOf hZ eh419 Fq433
      obtain ⟨_, _, ⟨T432, L432, k432, n432⟩, -, X432, ⟨Lc432, hQ432, l432, y432, z432⟩, st432⟩ := X419.virtualBack hx (y := y_34) (z := y_34) hown (mvT hZ (hw _ (gm 126 rfl))) (mvT hZ (hw _ (gm 127 rfl))) (notFace_of_selects (args := #[]) (mvT hZ (hw _ (gm 129 rfl)))) (mvT hZ (hw _ (gm 129 rfl))) (mvT hZ (hw _ (gm 128 rfl))) (by decide) (backOf (W := 0) (own_ipN l Z a0 hw [] e_o T384.heap n0 Zs395 Fq433 Fq434) hZ (hw _ (gm 130 rfl)) (hw _ (gm 111 rfl)) (by decide) (by decide)) q432a q432c (g := (mkF m 279 #[vJ (q0), s_, vJ (q1), s_, vI (p2), vI (p3), vI (p4), vI (1), vI ((Int32.ofNat pp)), vI (cv), vI (36), vR (r_o_169), vR (e_o), vI (0), vJ (q0), s_, vJ (q1), s_, u_, u_, u_] [(.ref e_o)])) rfl (by rw [hml]; rfl) (Steps.refl _) (argsL := []) (rest := []) (lenOf own_pd17 rfl) rfl (by show 2 * 0 + _ ≤ _; exact Nat.le_of_eq rfl) (hb hby at_279) (fun _ _ => ⟨rfl, eh419, (by decide : 4 + 0 ≤ _), (by decide : 149 + 0 ≤ _)⟩)
      dsimp only [Pt.U, Pt.locs, Pt.cells, Pt.slots] at X432 l432 y432 z432 st432 hQ432
      rw [l432, y432, z432] at X432
      obtain ⟨rfl, Nq432, eh432⟩ := hQ432
      have N435 := Fr.app N420 Nq432
      obtain ⟨fs, hr, hrun, hended, hW, hsame⟩ := X432.leave (v := some (.int 1)) (fun h => by rw [Bd.returns] at h; cases h) (hlocks := BodyLoose.notSynchronized Bd)
      refine ⟨_, _, pre195 _ ?_, hrun, hended, _, _, rfl, ?_, ⟨_, rfl⟩, hW, hsame.mono (by decide) (by decide)⟩
      · show SS p e below m T185 88 #[vJ (q0), s_, vJ (q1), s_, vI (p2), vI (p3), vI (p4), vI (1), vI ((Int32.ofNat pp)), vI (cv), vI (36), vR (r_o_169), u_, u_, u_, u_, u_, u_, u_, u_, u_] [] _
        show SS p e below m T185 88 #[vJ (q0), s_, vJ (q1), s_, vI (p2), vI (p3), vI (p4), vI (1), vI ((Int32.ofNat pp)), vI (cv), vI (36), vR (r_o_169), u_, u_, u_, u_, u_, u_, u_, u_, u_] [] _
        refine st373 _ ?_
        show SS p e below m T373 91 #[vJ (q0), s_, vJ (q1), s_, vI (p2), vI (p3), vI (p4), vI (1), vI ((Int32.ofNat pp)), vI (cv), vI (36), vR (r_o_169), u_, u_, u_, u_, u_, u_, u_, u_, u_] [(.ref b373)] _
        refine XS.dup X373.here hx rfl (hb hby at_91) rfl rfl ?_
        show SS p e below m T373 92 #[vJ (q0), s_, vJ (q1), s_, vI (p2), vI (p3), vI (p4), vI (1), vI ((Int32.ofNat pp)), vI (cv), vI (36), vR (r_o_169), u_, u_, u_, u_, u_, u_, u_, u_, u_] [(.ref b373), (.ref b373)] _
        refine zaload X373 hx hby at_92 rfl rfl ?_
        refine st384.trans ?_
        refine st397 _ ?_
        refine zastore (l' := #[vJ (q0), s_, vJ (q1), s_, vI (p2), vI (p3), vI (p4), vI (1), vI ((Int32.ofNat pp)), vI (cv), vI (36), vR (r_o_169), vR (e_o), u_, u_, u_, u_, u_, u_, u_, u_]) X397 hx hby at_100 rfl rfl ?_
        refine ziload X397 hx hby at_102 rfl ?_
        refine ziconst X397 hx hby (2) at_104 rfl ?_
        refine zicmpNo X397 hx hby at_105 (feq ((by decide) : ¬ ((1 : Int32) = (2 : Int32)))).1 ?_
        refine ziload X397 hx hby at_108 rfl ?_
        refine ziconst X397 hx hby (3) at_110 rfl ?_
        refine zicmpYes X397 hx hby 111 128 rfl at_111 (feq ((by decide) : ¬ ((1 : Int32) = (3 : Int32)))).2 (by decide) (by decide) ?_
        refine ziconst X397 hx hby (1) at_128 rfl ?_
        refine zistore (l' := #[vJ (q0), s_, vJ (q1), s_, vI (p2), vI (p3), vI (p4), vI (1), vI ((Int32.ofNat pp)), vI (cv), vI (36), vR (r_o_169), vR (e_o), vI (1), u_, u_, u_, u_, u_, u_, u_]) X397 hx hby at_129 rfl ?_
        show SS p e below m T397 131 #[vJ (q0), s_, vJ (q1), s_, vI (p2), vI (p3), vI (p4), vI (1), vI ((Int32.ofNat pp)), vI (cv), vI (36), vR (r_o_169), vR (e_o), vI (1), u_, u_, u_, u_, u_, u_, u_] [] _
        refine zlloadN X397 hx hby at_131 rfl ?_
        refine zlstore (l' := #[vJ (q0), s_, vJ (q1), s_, vI (p2), vI (p3), vI (p4), vI (1), vI ((Int32.ofNat pp)), vI (cv), vI (36), vR (r_o_169), vR (e_o), vI (1), vJ (q0), s_, u_, u_, u_, u_, u_]) X397 hx hby at_132 rfl ?_
        refine zlloadN X397 hx hby at_134 rfl ?_
        refine zlstore (l' := #[vJ (q0), s_, vJ (q1), s_, vI (p2), vI (p3), vI (p4), vI (1), vI ((Int32.ofNat pp)), vI (cv), vI (36), vR (r_o_169), vR (e_o), vI (1), vJ (q0), s_, vJ (q1), s_, u_, u_, u_]) X397 hx hby at_135 rfl ?_
        refine ziload X397 hx hby at_137 rfl ?_
        refine ziconst X397 hx hby (1) at_139 rfl ?_
        refine zicmpNo X397 hx hby at_140 (teq ((by decide) : (1 : Int32) = (1 : Int32))).2 ?_
        refine ziload X397 hx hby at_143 rfl ?_
        refine st419 _ ?_
        refine zifNo X419 hx hby at_148 ((if0 _ _).trans (feq (x371_0 : ¬ ((own_isd_f (Int32.ofNat pp)) = (0 : Int32)))).1) ?_
        refine ziload X419 hx hby at_151 rfl ?_
        refine zbipush X419 hx hby (45) at_153 rfl ?_
        show SS p e below m T419 155 #[vJ (q0), s_, vJ (q1), s_, vI (p2), vI (p3), vI (p4), vI (1), vI ((Int32.ofNat pp)), vI (cv), vI (36), vR (r_o_169), vR (e_o), vI (1), vJ (q0), s_, vJ (q1), s_, u_, u_, u_] [(.int 45), (.int cv)] _
        refine zicmpYes X419 hx hby 155 162 rfl at_155 (feq (x371_1 : ¬ (cv = (45 : Int32)))).2 (by decide) (by decide) ?_
        refine ziconst X419 hx hby (0) at_162 rfl ?_
        refine zistore (l' := #[vJ (q0), s_, vJ (q1), s_, vI (p2), vI (p3), vI (p4), vI (1), vI ((Int32.ofNat pp)), vI (cv), vI (36), vR (r_o_169), vR (e_o), vI (0), vJ (q0), s_, vJ (q1), s_, u_, u_, u_]) X419 hx hby at_163 rfl ?_
        refine zgoto X419 hx hby 165 272 rfl at_165 (by decide) (by decide) ?_
        refine ziload X419 hx hby at_272 rfl ?_
        refine zifNo X419 hx hby at_274 ((if0 _ _).trans (teq ((by decide) : (0 : Int32) = (0 : Int32))).2) ?_
        refine zaload X419 hx hby at_277 rfl rfl ?_
        refine st432.trans ?_
        refine zifNo X432 hx hby at_282 ((if0 _ _).trans (teq ((by decide) : (0 : Int32) = (0 : Int32))).2) ?_
        refine ziconst X432 hx hby (1) at_285 rfl ?_
        refine zgoto X432 hx hby 286 290 rfl at_286 (by decide) (by decide) ?_
        exact retN X432 hx (t := .boolean) Bd.returns (by simp) (hb hby at_290) hr
      · show Qown_law Z q0 q1 p2 p3 p4 cs u_f e_o h0 n0 _ T432.heap _
        rw [eh432]
        exact ⟨rfl, N435⟩
    · obtain ⟨x439_0, x439_1, x439_2⟩ := hs196
      obtain ⟨T441, h441, X441, e441, E441, A441, D441, -, st441⟩ := newO X185 hx hZ hown (hw _ (gm 26 rfl)) (hw _ (gm 27 rfl)) (hw _ (gm 28 rfl)) e185 (g := (mkF m 88 #[vJ (q0), s_, vJ (q1), s_, vI (p2), vI (p3), vI (p4), vI (1), vI ((Int32.ofNat pp)), vI (cv), vI (36), vR (r_o_169), u_, u_, u_, u_, u_, u_, u_, u_, u_] [])) rfl (hb hby at_88) (by decide) (by decide)
      obtain ⟨b441, g441⟩ : ∃ z, z = h185.size := ⟨_, rfl⟩
      rw [← g441] at A441 D441 st441
      have Fq443 : Exa Z h185 e_o "java/util/Optional" := ((hEe.keep K169).wr W185)
      have Ne442 : e_o ≠ b441 := Nat.ne_of_lt (Nat.lt_of_lt_of_le Fq443.lt (Nat.le_of_eq g441.symm))
      have Ge445 : n0 ≤ b441 := Nat.le_trans Zs188 (Nat.le_of_eq g441.symm)
      have Zs448 : n0 ≤ h441.size := (Nat.le_trans Zs188 E441.1)
      have F441_coder : Fld Z h441 b441 "java/lang/String" "coder" "B" (.int 0) := D441 (Or.inr (hw _ (gm 52 rfl))) (ty := .byte) (by decide)
      have F441_value : Fld Z h441 b441 "java/lang/String" "value" "[B" .null := D441 (Or.inr (hw _ (gm 54 rfl))) (ty := (.array .byte)) (by decide)
      have Fq453 : Arv Z h441 r_o_169 k_r_169 .char (36 : Int32) (own_cl 36 (own_st (own_dr q0 q1) pp cv)) (.int 0) := (Vc191.ext E441)
      have Fq454 : Old Z n0 h441 := (((hO.keep K169 all0).wr W185 Ge172).ext E441)
      obtain ⟨_, _, ⟨T452, L452, k452, n452⟩, -, X452, ⟨Lc452, hQ452, l452, y452, z452⟩, st452⟩ := X441.specialBack hx (y := y_18) rfl hown (mvT hZ (hw _ (gm 29 rfl))) (mvT hZ (hw _ (gm 30 rfl))) (mvT hZ (hw _ (gm 31 rfl))) (by decide) (backOf (W := 1) (own_initCL l Z a0 hw [] b441 .null (.int 0) r_o_169 k_r_169 (own_st (own_dr q0 q1) pp cv) (36 : Int32) 36 cs h441 n0 Zs448 A441 F441_value F441_coder Ge445 Fq453 (fun j _ => own_st255 (own_dr255 q0 q1) x439_2 j) (by first | assumption | decide : (36 : Int32) = Int32.ofNat 36) (by first | assumption | decide : 36 ≤ 37) (by first | assumption | decide : ¬ (36 : Int32) = (0 : Int32)) Fq454 hS hcs) hZ (hw _ (gm 31 rfl)) (hw _ (gm 28 rfl)) (by decide) (by decide)) (g := (mkF m 94 #[vJ (q0), s_, vJ (q1), s_, vI (p2), vI (p3), vI (p4), vI (1), vI ((Int32.ofNat pp)), vI (cv), vI (36), vR (r_o_169), u_, u_, u_, u_, u_, u_, u_, u_, u_] [(.ref r_o_169), (.ref b441), (.ref b441)])) rfl (by rw [hml]; rfl) (Steps.refl _) (a := b441) (argsL := [(.ref r_o_169)]) (rest := [(.ref b441)]) (lenOf own_pd27 rfl) rfl (by show 2 * 0 + _ ≤ _; exact Nat.le_of_eq rfl) (hb hby at_94) (fun _ _ => ⟨rfl, e441, (by decide : 2 + 1 ≤ _), (by decide : 41 + 37 ≤ _)⟩)
      dsimp only [Pt.U, Pt.locs, Pt.cells, Pt.slots] at X452 l452 y452 z452 st452 hQ452
      rw [l452, y452, z452] at X452
      obtain ⟨r_o_452, k_r_452, rfl, Nq452, sz452_r_o, K452, Pf452_0, Pf452_1, Pf452_2⟩ := hQ452
      have N455 := Fr.app N189 Nq452
      have Fq457 : Exa Z h441 e_o "java/util/Optional" := (Fq443.ext E441)
      have Zs463 : n0 ≤ T452.heap.size := Nat.le_trans Zs448 K452.1
      have Fq466 : Exa Z T452.heap b441 "java/lang/String" := (A441.keep K452)
      have Fq467 : Old Z n0 T452.heap := (Fq454.keep K452 (allS Ge445 all0))
      obtain ⟨_, _, ⟨T465, L465, k465, n465⟩, -, X465, ⟨Lc465, hQ465, l465, y465, z465⟩, st465⟩ := Jvm.LawKit.callS X452 hx (y := y_39) hown (mvT hZ (hw _ (gm 55 rfl))) (mvT hZ (hw _ (gm 56 rfl))) (mvT hZ (hw _ (gm 57 rfl))) (mvT hZ (hw _ (gm 58 rfl))) (by decide) (backOf (W := 0) (own_prNL l Z a0 hw [] b441 r_o_452 k_r_452 (own_st (own_dr q0 q1) pp cv) cs e_o u_f T452.heap n0 Zs463 Fq466 Pf452_0 Pf452_1 Pf452_2 Fq467 hS hcs hSe (fun j _ => own_st255 (own_dr255 q0 q1) x439_2 j) (own_stN (own_drN q0 q1) hcv) hSf hf (own_LB q0 q1 pp cv hpp (Or.inl ⟨x439_0, x439_1⟩))) hZ (hw _ (gm 58 rfl)) (hw _ (gm 57 rfl)) (by decide) (by decide)) (g := (mkF m 97 #[vJ (q0), s_, vJ (q1), s_, vI (p2), vI (p3), vI (p4), vI (1), vI ((Int32.ofNat pp)), vI (cv), vI (36), vR (r_o_169), u_, u_, u_, u_, u_, u_, u_, u_, u_] [(.ref b441)])) rfl (by rw [hml]; rfl) (argsL := [(.ref b441)]) (rest := []) (lenOf own_pd28 rfl) rfl (by show 2 * 0 + _ ≤ _; exact Nat.le_of_eq rfl) (hb hby at_97) (fun _ _ => ⟨rfl, rfl, (by decide : 3 + 0 ≤ _), (by decide : 78 + 0 ≤ _)⟩)
      dsimp only [Pt.U, Pt.locs, Pt.cells, Pt.slots] at X465 l465 y465 z465 st465 hQ465
      rw [l465, y465, z465] at X465
      obtain ⟨rfl, Nq465, eh465⟩ := hQ465
      have N468 := Fr.app N455 Nq465
      obtain ⟨_, _, ⟨T487, L487, k487, n487⟩, -, X487, ⟨Lc487, hQ487, l487, y487, z487⟩, st487⟩ := Jvm.LawKit.callS X465 hx (y := y_0) hown (mvT hZ (hw _ (gm 13 rfl))) (mvT hZ (hw _ (gm 14 rfl))) (mvT hZ (hw _ (gm 4 rfl))) (mvT hZ (hw _ (gm 15 rfl))) (by decide) (backOf (W := 0) (own_isd l Z a0 hw [] (Int32.ofNat pp) T452.heap n0 Zs463 ) hZ (hw _ (gm 15 rfl)) (hw _ (gm 4 rfl)) (by decide) (by decide)) (g := (mkF m 145 #[vJ (q0), s_, vJ (q1), s_, vI (p2), vI (p3), vI (p4), vI (1), vI ((Int32.ofNat pp)), vI (cv), vI (36), vR (r_o_169), vR (e_o), vI (1), vJ (q0), s_, vJ (q1), s_, u_, u_, u_] [(.int (Int32.ofNat pp))])) rfl (by rw [hml]; rfl) (argsL := [(.int (Int32.ofNat pp))]) (rest := []) (lenOf own_pd1 rfl) rfl (by show 2 * 0 + _ ≤ _; exact Nat.le_of_eq rfl) (hb hby at_145) (fun _ _ => ⟨rfl, eh465, (by decide : 3 + 0 ≤ _), (by decide : 78 + 0 ≤ _)⟩)
      dsimp only [Pt.U, Pt.locs, Pt.cells, Pt.slots] at X487 l487 y487 z487 st487 hQ487
      rw [l487, y487, z487] at X487
      obtain ⟨rfl, Nq487, eh487⟩ := hQ487
      have N488 := Fr.app N468 Nq487
      obtain ⟨_, _, ⟨T492, L492, k492, n492⟩, -, X492, ⟨Lc492, hQ492, l492, y492, z492⟩, st492⟩ := Jvm.LawKit.callS X487 hx (y := y_5) hown (mvT hZ (hw _ (gm 181 rfl))) (mvT hZ (hw _ (gm 182 rfl))) (mvT hZ (hw _ (gm 4 rfl))) (mvT hZ (hw _ (gm 183 rfl))) (by decide) (backOf (W := 0) (own_hxv l Z a0 hw [] cv T452.heap n0 Zs463 ) hZ (hw _ (gm 183 rfl)) (hw _ (gm 4 rfl)) (by decide) (by decide)) (g := (mkF m 170 #[vJ (q0), s_, vJ (q1), s_, vI (p2), vI (p3), vI (p4), vI (1), vI ((Int32.ofNat pp)), vI (cv), vI (36), vR (r_o_169), vR (e_o), vI (1), vJ (q0), s_, vJ (q1), s_, u_, u_, u_] [(.int cv)])) rfl (by rw [hml]; rfl) (argsL := [(.int cv)]) (rest := []) (lenOf own_pd23 rfl) rfl (by show 2 * 0 + _ ≤ _; exact Nat.le_of_eq rfl) (hb hby at_170) (fun _ _ => ⟨rfl, eh487, (by decide : 3 + 0 ≤ _), (by decide : 78 + 0 ≤ _)⟩)
      dsimp only [Pt.U, Pt.locs, Pt.cells, Pt.slots] at X492 l492 y492 z492 st492 hQ492
      rw [l492, y492, z492] at X492
      obtain ⟨rfl, Nq492, eh492⟩ := hQ492
      have N493 := Fr.app N488 Nq492
      have Fq506 : Exa Z T452.heap e_o "java/util/Optional" := (Fq457.keep K452)
      have Fq507 : Fld Z T452.heap e_o "java/util/Optional" "value" "Ljava/lang/Object;" .null := ((((hFe.keep K169 nin0).other W185 (Or.inl Ne171)).ext E441).keep K452 (ninS Ne442 nin0))
      obtain ⟨cq505, kq505, q505a, q505b, q505c⟩ := isOf hZ eh492 Fq506
      obtain ⟨_, _, ⟨T505, L505, k505, n505⟩, -, X505, ⟨Lc505, hQ505, l505, y505, z505⟩, st505⟩ := X492.virtualBack hx (y := y_34) (z := y_34) hown (mvT hZ (hw _ (gm 126 rfl))) (mvT hZ (hw _ (gm 127 rfl))) (notFace_of_selects (args := #[]) (mvT hZ (hw _ (gm 129 rfl)))) (mvT hZ (hw _ (gm 129 rfl))) (mvT hZ (hw _ (gm 128 rfl))) (by decide) (backOf (W := 0) (own_ipN l Z a0 hw [] e_o T452.heap n0 Zs463 Fq506 Fq507) hZ (hw _ (gm 130 rfl)) (hw _ (gm 111 rfl)) (by decide) (by decide)) q505a q505c (g := (mkF m 279 #[vJ (q0), s_, vJ (q1), s_, vI (p2), vI (p3), vI (p4), vI (1), vI ((Int32.ofNat pp)), vI (cv), vI (36), vR (r_o_169), vR (e_o), vI (0), vJ (q0), s_, vJ (q1), s_, vI ((own_hxv_f cv)), u_, u_] [(.ref e_o)])) rfl (by rw [hml]; rfl) (Steps.refl _) (argsL := []) (rest := []) (lenOf own_pd17 rfl) rfl (by show 2 * 0 + _ ≤ _; exact Nat.le_of_eq rfl) (hb hby at_279) (fun _ _ => ⟨rfl, eh492, (by decide : 3 + 0 ≤ _), (by decide : 78 + 0 ≤ _)⟩)
      dsimp only [Pt.U, Pt.locs, Pt.cells, Pt.slots] at X505 l505 y505 z505 st505 hQ505
      rw [l505, y505, z505] at X505
      obtain ⟨rfl, Nq505, eh505⟩ := hQ505
      have N508 := Fr.app N493 Nq505
      obtain ⟨fs, hr, hrun, hended, hW, hsame⟩ := X505.leave (v := some (.int 1)) (fun h => by rw [Bd.returns] at h; cases h) (hlocks := BodyLoose.notSynchronized Bd)
      refine ⟨_, _, pre195 _ ?_, hrun, hended, _, _, rfl, ?_, ⟨_, rfl⟩, hW, hsame.mono (by decide) (by decide)⟩
      · show SS p e below m T185 88 #[vJ (q0), s_, vJ (q1), s_, vI (p2), vI (p3), vI (p4), vI (1), vI ((Int32.ofNat pp)), vI (cv), vI (36), vR (r_o_169), u_, u_, u_, u_, u_, u_, u_, u_, u_] [] _
        show SS p e below m T185 88 #[vJ (q0), s_, vJ (q1), s_, vI (p2), vI (p3), vI (p4), vI (1), vI ((Int32.ofNat pp)), vI (cv), vI (36), vR (r_o_169), u_, u_, u_, u_, u_, u_, u_, u_, u_] [] _
        refine st441 _ ?_
        show SS p e below m T441 91 #[vJ (q0), s_, vJ (q1), s_, vI (p2), vI (p3), vI (p4), vI (1), vI ((Int32.ofNat pp)), vI (cv), vI (36), vR (r_o_169), u_, u_, u_, u_, u_, u_, u_, u_, u_] [(.ref b441)] _
        refine XS.dup X441.here hx rfl (hb hby at_91) rfl rfl ?_
        show SS p e below m T441 92 #[vJ (q0), s_, vJ (q1), s_, vI (p2), vI (p3), vI (p4), vI (1), vI ((Int32.ofNat pp)), vI (cv), vI (36), vR (r_o_169), u_, u_, u_, u_, u_, u_, u_, u_, u_] [(.ref b441), (.ref b441)] _
        refine zaload X441 hx hby at_92 rfl rfl ?_
        refine st452.trans ?_
        refine st465 _ ?_
        refine zastore (l' := #[vJ (q0), s_, vJ (q1), s_, vI (p2), vI (p3), vI (p4), vI (1), vI ((Int32.ofNat pp)), vI (cv), vI (36), vR (r_o_169), vR (e_o), u_, u_, u_, u_, u_, u_, u_, u_]) X465 hx hby at_100 rfl rfl ?_
        refine ziload X465 hx hby at_102 rfl ?_
        refine ziconst X465 hx hby (2) at_104 rfl ?_
        refine zicmpNo X465 hx hby at_105 (feq ((by decide) : ¬ ((1 : Int32) = (2 : Int32)))).1 ?_
        refine ziload X465 hx hby at_108 rfl ?_
        refine ziconst X465 hx hby (3) at_110 rfl ?_
        refine zicmpYes X465 hx hby 111 128 rfl at_111 (feq ((by decide) : ¬ ((1 : Int32) = (3 : Int32)))).2 (by decide) (by decide) ?_
        refine ziconst X465 hx hby (1) at_128 rfl ?_
        refine zistore (l' := #[vJ (q0), s_, vJ (q1), s_, vI (p2), vI (p3), vI (p4), vI (1), vI ((Int32.ofNat pp)), vI (cv), vI (36), vR (r_o_169), vR (e_o), vI (1), u_, u_, u_, u_, u_, u_, u_]) X465 hx hby at_129 rfl ?_
        show SS p e below m T465 131 #[vJ (q0), s_, vJ (q1), s_, vI (p2), vI (p3), vI (p4), vI (1), vI ((Int32.ofNat pp)), vI (cv), vI (36), vR (r_o_169), vR (e_o), vI (1), u_, u_, u_, u_, u_, u_, u_] [] _
        refine zlloadN X465 hx hby at_131 rfl ?_
        refine zlstore (l' := #[vJ (q0), s_, vJ (q1), s_, vI (p2), vI (p3), vI (p4), vI (1), vI ((Int32.ofNat pp)), vI (cv), vI (36), vR (r_o_169), vR (e_o), vI (1), vJ (q0), s_, u_, u_, u_, u_, u_]) X465 hx hby at_132 rfl ?_
        refine zlloadN X465 hx hby at_134 rfl ?_
        refine zlstore (l' := #[vJ (q0), s_, vJ (q1), s_, vI (p2), vI (p3), vI (p4), vI (1), vI ((Int32.ofNat pp)), vI (cv), vI (36), vR (r_o_169), vR (e_o), vI (1), vJ (q0), s_, vJ (q1), s_, u_, u_, u_]) X465 hx hby at_135 rfl ?_
        refine ziload X465 hx hby at_137 rfl ?_
        refine ziconst X465 hx hby (1) at_139 rfl ?_
        refine zicmpNo X465 hx hby at_140 (teq ((by decide) : (1 : Int32) = (1 : Int32))).2 ?_
        refine ziload X465 hx hby at_143 rfl ?_
        refine st487 _ ?_
        refine zifYes X487 hx hby 148 168 rfl at_148 ((if0 _ _).trans (teq (x439_0 : (own_isd_f (Int32.ofNat pp)) = (0 : Int32))).1) (by decide) (by decide) ?_
        refine ziload X487 hx hby at_168 rfl ?_
        refine st492 _ ?_
        show SS p e below m T492 173 #[vJ (q0), s_, vJ (q1), s_, vI (p2), vI (p3), vI (p4), vI (1), vI ((Int32.ofNat pp)), vI (cv), vI (36), vR (r_o_169), vR (e_o), vI (1), vJ (q0), s_, vJ (q1), s_, u_, u_, u_] [(.int (own_hxv_f cv))] _
        refine zistore (l' := #[vJ (q0), s_, vJ (q1), s_, vI (p2), vI (p3), vI (p4), vI (1), vI ((Int32.ofNat pp)), vI (cv), vI (36), vR (r_o_169), vR (e_o), vI (1), vJ (q0), s_, vJ (q1), s_, vI ((own_hxv_f cv)), u_, u_]) X492 hx hby at_173 rfl ?_
        refine ziload X492 hx hby at_175 rfl ?_
        refine zifYes X492 hx hby 177 184 rfl at_177 ((if0 _ _).trans (tlt (x439_1 : (own_hxv_f cv) < (0 : Int32))).1) (by decide) (by decide) ?_
        refine ziconst X492 hx hby (0) at_184 rfl ?_
        refine zistore (l' := #[vJ (q0), s_, vJ (q1), s_, vI (p2), vI (p3), vI (p4), vI (1), vI ((Int32.ofNat pp)), vI (cv), vI (36), vR (r_o_169), vR (e_o), vI (0), vJ (q0), s_, vJ (q1), s_, vI ((own_hxv_f cv)), u_, u_]) X492 hx hby at_185 rfl ?_
        refine ziload X492 hx hby at_187 rfl ?_
        refine zifYes X492 hx hby 189 272 rfl at_189 ((if0 _ _).trans (teq ((by decide) : (0 : Int32) = (0 : Int32))).1) (by decide) (by decide) ?_
        refine ziload X492 hx hby at_272 rfl ?_
        refine zifNo X492 hx hby at_274 ((if0 _ _).trans (teq ((by decide) : (0 : Int32) = (0 : Int32))).2) ?_
        refine zaload X492 hx hby at_277 rfl rfl ?_
        refine st505.trans ?_
        refine zifNo X505 hx hby at_282 ((if0 _ _).trans (teq ((by decide) : (0 : Int32) = (0 : Int32))).2) ?_
        show SS p e below m T505 285 #[vJ (q0), s_, vJ (q1), s_, vI (p2), vI (p3), vI (p4), vI (1), vI ((Int32.ofNat pp)), vI (cv), vI (36), vR (r_o_169), vR (e_o), vI (0), vJ (q0), s_, vJ (q1), s_, vI ((own_hxv_f cv)), u_, u_] [] _
        refine ziconst X505 hx hby (1) at_285 rfl ?_
        refine zgoto X505 hx hby 286 290 rfl at_286 (by decide) (by decide) ?_
        exact retN X505 hx (t := .boolean) Bd.returns (by simp) (hb hby at_290) hr
      · show Qown_law Z q0 q1 p2 p3 p4 cs u_f e_o h0 n0 _ T505.heap _
        rw [eh505]
        exact ⟨rfl, N508⟩
    · obtain ⟨x512_0, x512_1, x512_2⟩ := hs196
      obtain ⟨T514, h514, X514, e514, E514, A514, D514, -, st514⟩ := newO X185 hx hZ hown (hw _ (gm 26 rfl)) (hw _ (gm 27 rfl)) (hw _ (gm 28 rfl)) e185 (g := (mkF m 88 #[vJ (q0), s_, vJ (q1), s_, vI (p2), vI (p3), vI (p4), vI (1), vI ((Int32.ofNat pp)), vI (cv), vI (36), vR (r_o_169), u_, u_, u_, u_, u_, u_, u_, u_, u_] [])) rfl (hb hby at_88) (by decide) (by decide)
      obtain ⟨b514, g514⟩ : ∃ z, z = h185.size := ⟨_, rfl⟩
      rw [← g514] at A514 D514 st514
      have Fq516 : Exa Z h185 e_o "java/util/Optional" := ((hEe.keep K169).wr W185)
      have Ne515 : e_o ≠ b514 := Nat.ne_of_lt (Nat.lt_of_lt_of_le Fq516.lt (Nat.le_of_eq g514.symm))
      have Ge518 : n0 ≤ b514 := Nat.le_trans Zs188 (Nat.le_of_eq g514.symm)
      have Zs521 : n0 ≤ h514.size := (Nat.le_trans Zs188 E514.1)
      have F514_coder : Fld Z h514 b514 "java/lang/String" "coder" "B" (.int 0) := D514 (Or.inr (hw _ (gm 52 rfl))) (ty := .byte) (by decide)
      have F514_value : Fld Z h514 b514 "java/lang/String" "value" "[B" .null := D514 (Or.inr (hw _ (gm 54 rfl))) (ty := (.array .byte)) (by decide)
      have Fq526 : Arv Z h514 r_o_169 k_r_169 .char (36 : Int32) (own_cl 36 (own_st (own_dr q0 q1) pp cv)) (.int 0) := (Vc191.ext E514)
      have Fq527 : Old Z n0 h514 := (((hO.keep K169 all0).wr W185 Ge172).ext E514)
      obtain ⟨_, _, ⟨T525, L525, k525, n525⟩, -, X525, ⟨Lc525, hQ525, l525, y525, z525⟩, st525⟩ := X514.specialBack hx (y := y_18) rfl hown (mvT hZ (hw _ (gm 29 rfl))) (mvT hZ (hw _ (gm 30 rfl))) (mvT hZ (hw _ (gm 31 rfl))) (by decide) (backOf (W := 1) (own_initC36U l Z a0 hw [] b514 .null (.int 0) r_o_169 k_r_169 (own_st (own_dr q0 q1) pp cv) pp cs h514 n0 Zs521 A514 F514_value F514_coder Ge518 Fq526 hpp (by rw [own_st_at]; exact x512_2) (own_stlt (own_dr255 q0 q1)) (own_stN (own_drN q0 q1) hcv) hSa hSh hSl Fq527 hS hcs) hZ (hw _ (gm 31 rfl)) (hw _ (gm 28 rfl)) (by decide) (by decide)) (g := (mkF m 94 #[vJ (q0), s_, vJ (q1), s_, vI (p2), vI (p3), vI (p4), vI (1), vI ((Int32.ofNat pp)), vI (cv), vI (36), vR (r_o_169), u_, u_, u_, u_, u_, u_, u_, u_, u_] [(.ref r_o_169), (.ref b514), (.ref b514)])) rfl (by rw [hml]; rfl) (Steps.refl _) (a := b514) (argsL := [(.ref r_o_169)]) (rest := [(.ref b514)]) (lenOf own_pd27 rfl) rfl (by show 2 * 0 + _ ≤ _; exact Nat.le_of_eq rfl) (hb hby at_94) (fun _ _ => ⟨rfl, e514, (by decide : 2 + 2 ≤ _), (by decide : 41 + 108 ≤ _)⟩)
      dsimp only [Pt.U, Pt.locs, Pt.cells, Pt.slots] at X525 l525 y525 z525 st525 hQ525
      rw [l525, y525, z525] at X525
      obtain ⟨r_o_525, k_r_525, rfl, Nq525, sz525_r_o, K525, Pf525_0, Pf525_1, Pf525_2⟩ := hQ525
      have N528 := Fr.app N189 Nq525
      have Fq530 : Exa Z h514 e_o "java/util/Optional" := (Fq516.ext E514)
      have Zs536 : n0 ≤ T525.heap.size := Nat.le_trans Zs521 K525.1
      have Fq539 : Exa Z T525.heap b514 "java/lang/String" := (A514.keep K525)
      have Fq540 : Old Z n0 T525.heap := (Fq527.keep K525 (allS Ge518 all0))
      obtain ⟨_, _, ⟨T538, L538, k538, n538⟩, -, X538, ⟨Lc538, hQ538, l538, y538, z538⟩, st538⟩ := Jvm.LawKit.callS X525 hx (y := y_39) hown (mvT hZ (hw _ (gm 55 rfl))) (mvT hZ (hw _ (gm 56 rfl))) (mvT hZ (hw _ (gm 57 rfl))) (mvT hZ (hw _ (gm 58 rfl))) (by decide) (backOf (W := 0) (own_prNU l Z a0 hw [] b514 r_o_525 k_r_525 (own_st (own_dr q0 q1) pp cv) cs e_o u_f T525.heap n0 Zs536 Fq539 Pf525_0 Pf525_1 Pf525_2 Fq540 hS hcs hSe hSa hSh hSl (own_stN (own_drN q0 q1) hcv) hSf hf (own_LB q0 q1 pp cv hpp (Or.inl ⟨x512_0, x512_1⟩))) hZ (hw _ (gm 58 rfl)) (hw _ (gm 57 rfl)) (by decide) (by decide)) (g := (mkF m 97 #[vJ (q0), s_, vJ (q1), s_, vI (p2), vI (p3), vI (p4), vI (1), vI ((Int32.ofNat pp)), vI (cv), vI (36), vR (r_o_169), u_, u_, u_, u_, u_, u_, u_, u_, u_] [(.ref b514)])) rfl (by rw [hml]; rfl) (argsL := [(.ref b514)]) (rest := []) (lenOf own_pd28 rfl) rfl (by show 2 * 0 + _ ≤ _; exact Nat.le_of_eq rfl) (hb hby at_97) (fun _ _ => ⟨rfl, rfl, (by decide : 4 + 0 ≤ _), (by decide : 149 + 0 ≤ _)⟩)
      dsimp only [Pt.U, Pt.locs, Pt.cells, Pt.slots] at X538 l538 y538 z538 st538 hQ538
      rw [l538, y538, z538] at X538
      obtain ⟨rfl, Nq538, eh538⟩ := hQ538
      have N541 := Fr.app N528 Nq538
      obtain ⟨_, _, ⟨T560, L560, k560, n560⟩, -, X560, ⟨Lc560, hQ560, l560, y560, z560⟩, st560⟩ := Jvm.LawKit.callS X538 hx (y := y_0) hown (mvT hZ (hw _ (gm 13 rfl))) (mvT hZ (hw _ (gm 14 rfl))) (mvT hZ (hw _ (gm 4 rfl))) (mvT hZ (hw _ (gm 15 rfl))) (by decide) (backOf (W := 0) (own_isd l Z a0 hw [] (Int32.ofNat pp) T525.heap n0 Zs536 ) hZ (hw _ (gm 15 rfl)) (hw _ (gm 4 rfl)) (by decide) (by decide)) (g := (mkF m 145 #[vJ (q0), s_, vJ (q1), s_, vI (p2), vI (p3), vI (p4), vI (1), vI ((Int32.ofNat pp)), vI (cv), vI (36), vR (r_o_169), vR (e_o), vI (1), vJ (q0), s_, vJ (q1), s_, u_, u_, u_] [(.int (Int32.ofNat pp))])) rfl (by rw [hml]; rfl) (argsL := [(.int (Int32.ofNat pp))]) (rest := []) (lenOf own_pd1 rfl) rfl (by show 2 * 0 + _ ≤ _; exact Nat.le_of_eq rfl) (hb hby at_145) (fun _ _ => ⟨rfl, eh538, (by decide : 4 + 0 ≤ _), (by decide : 149 + 0 ≤ _)⟩)
      dsimp only [Pt.U, Pt.locs, Pt.cells, Pt.slots] at X560 l560 y560 z560 st560 hQ560
      rw [l560, y560, z560] at X560
      obtain ⟨rfl, Nq560, eh560⟩ := hQ560
      have N561 := Fr.app N541 Nq560
      obtain ⟨_, _, ⟨T565, L565, k565, n565⟩, -, X565, ⟨Lc565, hQ565, l565, y565, z565⟩, st565⟩ := Jvm.LawKit.callS X560 hx (y := y_5) hown (mvT hZ (hw _ (gm 181 rfl))) (mvT hZ (hw _ (gm 182 rfl))) (mvT hZ (hw _ (gm 4 rfl))) (mvT hZ (hw _ (gm 183 rfl))) (by decide) (backOf (W := 0) (own_hxv l Z a0 hw [] cv T525.heap n0 Zs536 ) hZ (hw _ (gm 183 rfl)) (hw _ (gm 4 rfl)) (by decide) (by decide)) (g := (mkF m 170 #[vJ (q0), s_, vJ (q1), s_, vI (p2), vI (p3), vI (p4), vI (1), vI ((Int32.ofNat pp)), vI (cv), vI (36), vR (r_o_169), vR (e_o), vI (1), vJ (q0), s_, vJ (q1), s_, u_, u_, u_] [(.int cv)])) rfl (by rw [hml]; rfl) (argsL := [(.int cv)]) (rest := []) (lenOf own_pd23 rfl) rfl (by show 2 * 0 + _ ≤ _; exact Nat.le_of_eq rfl) (hb hby at_170) (fun _ _ => ⟨rfl, eh560, (by decide : 4 + 0 ≤ _), (by decide : 149 + 0 ≤ _)⟩)
      dsimp only [Pt.U, Pt.locs, Pt.cells, Pt.slots] at X565 l565 y565 z565 st565 hQ565
      rw [l565, y565, z565] at X565
      obtain ⟨rfl, Nq565, eh565⟩ := hQ565
      have N566 := Fr.app N561 Nq565
      have Fq579 : Exa Z T525.heap e_o "java/util/Optional" := (Fq530.keep K525)
      have Fq580 : Fld Z T525.heap e_o "java/util/Optional" "value" "Ljava/lang/Object;" .null := ((((hFe.keep K169 nin0).other W185 (Or.inl Ne171)).ext E514).keep K525 (ninS Ne515 nin0))
      obtain ⟨cq578, kq578, q578a, q578b, q578c⟩ := isOf hZ eh565 Fq579
      obtain ⟨_, _, ⟨T578, L578, k578, n578⟩, -, X578, ⟨Lc578, hQ578, l578, y578, z578⟩, st578⟩ := X565.virtualBack hx (y := y_34) (z := y_34) hown (mvT hZ (hw _ (gm 126 rfl))) (mvT hZ (hw _ (gm 127 rfl))) (notFace_of_selects (args := #[]) (mvT hZ (hw _ (gm 129 rfl)))) (mvT hZ (hw _ (gm 129 rfl))) (mvT hZ (hw _ (gm 128 rfl))) (by decide) (backOf (W := 0) (own_ipN l Z a0 hw [] e_o T525.heap n0 Zs536 Fq579 Fq580) hZ (hw _ (gm 130 rfl)) (hw _ (gm 111 rfl)) (by decide) (by decide)) q578a q578c (g := (mkF m 279 #[vJ (q0), s_, vJ (q1), s_, vI (p2), vI (p3), vI (p4), vI (1), vI ((Int32.ofNat pp)), vI (cv), vI (36), vR (r_o_169), vR (e_o), vI (0), vJ (q0), s_, vJ (q1), s_, vI ((own_hxv_f cv)), u_, u_] [(.ref e_o)])) rfl (by rw [hml]; rfl) (Steps.refl _) (argsL := []) (rest := []) (lenOf own_pd17 rfl) rfl (by show 2 * 0 + _ ≤ _; exact Nat.le_of_eq rfl) (hb hby at_279) (fun _ _ => ⟨rfl, eh565, (by decide : 4 + 0 ≤ _), (by decide : 149 + 0 ≤ _)⟩)
      dsimp only [Pt.U, Pt.locs, Pt.cells, Pt.slots] at X578 l578 y578 z578 st578 hQ578
      rw [l578, y578, z578] at X578
      obtain ⟨rfl, Nq578, eh578⟩ := hQ578
      have N581 := Fr.app N566 Nq578
      obtain ⟨fs, hr, hrun, hended, hW, hsame⟩ := X578.leave (v := some (.int 1)) (fun h => by rw [Bd.returns] at h; cases h) (hlocks := BodyLoose.notSynchronized Bd)
      refine ⟨_, _, pre195 _ ?_, hrun, hended, _, _, rfl, ?_, ⟨_, rfl⟩, hW, hsame.mono (by decide) (by decide)⟩
      · show SS p e below m T185 88 #[vJ (q0), s_, vJ (q1), s_, vI (p2), vI (p3), vI (p4), vI (1), vI ((Int32.ofNat pp)), vI (cv), vI (36), vR (r_o_169), u_, u_, u_, u_, u_, u_, u_, u_, u_] [] _
        show SS p e below m T185 88 #[vJ (q0), s_, vJ (q1), s_, vI (p2), vI (p3), vI (p4), vI (1), vI ((Int32.ofNat pp)), vI (cv), vI (36), vR (r_o_169), u_, u_, u_, u_, u_, u_, u_, u_, u_] [] _
        refine st514 _ ?_
        show SS p e below m T514 91 #[vJ (q0), s_, vJ (q1), s_, vI (p2), vI (p3), vI (p4), vI (1), vI ((Int32.ofNat pp)), vI (cv), vI (36), vR (r_o_169), u_, u_, u_, u_, u_, u_, u_, u_, u_] [(.ref b514)] _
        refine XS.dup X514.here hx rfl (hb hby at_91) rfl rfl ?_
        show SS p e below m T514 92 #[vJ (q0), s_, vJ (q1), s_, vI (p2), vI (p3), vI (p4), vI (1), vI ((Int32.ofNat pp)), vI (cv), vI (36), vR (r_o_169), u_, u_, u_, u_, u_, u_, u_, u_, u_] [(.ref b514), (.ref b514)] _
        refine zaload X514 hx hby at_92 rfl rfl ?_
        refine st525.trans ?_
        refine st538 _ ?_
        refine zastore (l' := #[vJ (q0), s_, vJ (q1), s_, vI (p2), vI (p3), vI (p4), vI (1), vI ((Int32.ofNat pp)), vI (cv), vI (36), vR (r_o_169), vR (e_o), u_, u_, u_, u_, u_, u_, u_, u_]) X538 hx hby at_100 rfl rfl ?_
        refine ziload X538 hx hby at_102 rfl ?_
        refine ziconst X538 hx hby (2) at_104 rfl ?_
        refine zicmpNo X538 hx hby at_105 (feq ((by decide) : ¬ ((1 : Int32) = (2 : Int32)))).1 ?_
        refine ziload X538 hx hby at_108 rfl ?_
        refine ziconst X538 hx hby (3) at_110 rfl ?_
        refine zicmpYes X538 hx hby 111 128 rfl at_111 (feq ((by decide) : ¬ ((1 : Int32) = (3 : Int32)))).2 (by decide) (by decide) ?_
        refine ziconst X538 hx hby (1) at_128 rfl ?_
        refine zistore (l' := #[vJ (q0), s_, vJ (q1), s_, vI (p2), vI (p3), vI (p4), vI (1), vI ((Int32.ofNat pp)), vI (cv), vI (36), vR (r_o_169), vR (e_o), vI (1), u_, u_, u_, u_, u_, u_, u_]) X538 hx hby at_129 rfl ?_
        show SS p e below m T538 131 #[vJ (q0), s_, vJ (q1), s_, vI (p2), vI (p3), vI (p4), vI (1), vI ((Int32.ofNat pp)), vI (cv), vI (36), vR (r_o_169), vR (e_o), vI (1), u_, u_, u_, u_, u_, u_, u_] [] _
        refine zlloadN X538 hx hby at_131 rfl ?_
        refine zlstore (l' := #[vJ (q0), s_, vJ (q1), s_, vI (p2), vI (p3), vI (p4), vI (1), vI ((Int32.ofNat pp)), vI (cv), vI (36), vR (r_o_169), vR (e_o), vI (1), vJ (q0), s_, u_, u_, u_, u_, u_]) X538 hx hby at_132 rfl ?_
        refine zlloadN X538 hx hby at_134 rfl ?_
        refine zlstore (l' := #[vJ (q0), s_, vJ (q1), s_, vI (p2), vI (p3), vI (p4), vI (1), vI ((Int32.ofNat pp)), vI (cv), vI (36), vR (r_o_169), vR (e_o), vI (1), vJ (q0), s_, vJ (q1), s_, u_, u_, u_]) X538 hx hby at_135 rfl ?_
        refine ziload X538 hx hby at_137 rfl ?_
        refine ziconst X538 hx hby (1) at_139 rfl ?_
        refine zicmpNo X538 hx hby at_140 (teq ((by decide) : (1 : Int32) = (1 : Int32))).2 ?_
        refine ziload X538 hx hby at_143 rfl ?_
        refine st560 _ ?_
        refine zifYes X560 hx hby 148 168 rfl at_148 ((if0 _ _).trans (teq (x512_0 : (own_isd_f (Int32.ofNat pp)) = (0 : Int32))).1) (by decide) (by decide) ?_
        refine ziload X560 hx hby at_168 rfl ?_
        refine st565 _ ?_
        show SS p e below m T565 173 #[vJ (q0), s_, vJ (q1), s_, vI (p2), vI (p3), vI (p4), vI (1), vI ((Int32.ofNat pp)), vI (cv), vI (36), vR (r_o_169), vR (e_o), vI (1), vJ (q0), s_, vJ (q1), s_, u_, u_, u_] [(.int (own_hxv_f cv))] _
        refine zistore (l' := #[vJ (q0), s_, vJ (q1), s_, vI (p2), vI (p3), vI (p4), vI (1), vI ((Int32.ofNat pp)), vI (cv), vI (36), vR (r_o_169), vR (e_o), vI (1), vJ (q0), s_, vJ (q1), s_, vI ((own_hxv_f cv)), u_, u_]) X565 hx hby at_173 rfl ?_
        refine ziload X565 hx hby at_175 rfl ?_
        refine zifYes X565 hx hby 177 184 rfl at_177 ((if0 _ _).trans (tlt (x512_1 : (own_hxv_f cv) < (0 : Int32))).1) (by decide) (by decide) ?_
        refine ziconst X565 hx hby (0) at_184 rfl ?_
        refine zistore (l' := #[vJ (q0), s_, vJ (q1), s_, vI (p2), vI (p3), vI (p4), vI (1), vI ((Int32.ofNat pp)), vI (cv), vI (36), vR (r_o_169), vR (e_o), vI (0), vJ (q0), s_, vJ (q1), s_, vI ((own_hxv_f cv)), u_, u_]) X565 hx hby at_185 rfl ?_
        refine ziload X565 hx hby at_187 rfl ?_
        refine zifYes X565 hx hby 189 272 rfl at_189 ((if0 _ _).trans (teq ((by decide) : (0 : Int32) = (0 : Int32))).1) (by decide) (by decide) ?_
        refine ziload X565 hx hby at_272 rfl ?_
        refine zifNo X565 hx hby at_274 ((if0 _ _).trans (teq ((by decide) : (0 : Int32) = (0 : Int32))).2) ?_
        refine zaload X565 hx hby at_277 rfl rfl ?_
        refine st578.trans ?_
        refine zifNo X578 hx hby at_282 ((if0 _ _).trans (teq ((by decide) : (0 : Int32) = (0 : Int32))).2) ?_
        show SS p e below m T578 285 #[vJ (q0), s_, vJ (q1), s_, vI (p2), vI (p3), vI (p4), vI (1), vI ((Int32.ofNat pp)), vI (cv), vI (36), vR (r_o_169), vR (e_o), vI (0), vJ (q0), s_, vJ (q1), s_, vI ((own_hxv_f cv)), u_, u_] [] _
        refine ziconst X578 hx hby (1) at_285 rfl ?_
        refine zgoto X578 hx hby 286 290 rfl at_286 (by decide) (by decide) ?_
        exact retN X578 hx (t := .boolean) Bd.returns (by simp) (hb hby at_290) hr
      · show Qown_law Z q0 q1 p2 p3 p4 cs u_f e_o h0 n0 _ T578.heap _
        rw [eh578]
        exact ⟨rfl, N581⟩
    · obtain ⟨x585_0, x585_1, x585_2, x585_3⟩ := hs196
      obtain ⟨T587, h587, X587, e587, E587, A587, D587, -, st587⟩ := newO X185 hx hZ hown (hw _ (gm 26 rfl)) (hw _ (gm 27 rfl)) (hw _ (gm 28 rfl)) e185 (g := (mkF m 88 #[vJ (q0), s_, vJ (q1), s_, vI (p2), vI (p3), vI (p4), vI (1), vI ((Int32.ofNat pp)), vI (cv), vI (36), vR (r_o_169), u_, u_, u_, u_, u_, u_, u_, u_, u_] [])) rfl (hb hby at_88) (by decide) (by decide)
      obtain ⟨b587, g587⟩ : ∃ z, z = h185.size := ⟨_, rfl⟩
      rw [← g587] at A587 D587 st587
      have Ge591 : n0 ≤ b587 := Nat.le_trans Zs188 (Nat.le_of_eq g587.symm)
      have Zs594 : n0 ≤ h587.size := (Nat.le_trans Zs188 E587.1)
      have F587_coder : Fld Z h587 b587 "java/lang/String" "coder" "B" (.int 0) := D587 (Or.inr (hw _ (gm 52 rfl))) (ty := .byte) (by decide)
      have F587_value : Fld Z h587 b587 "java/lang/String" "value" "[B" .null := D587 (Or.inr (hw _ (gm 54 rfl))) (ty := (.array .byte)) (by decide)
      have Fq599 : Arv Z h587 r_o_169 k_r_169 .char (36 : Int32) (own_cl 36 (own_st (own_dr q0 q1) pp cv)) (.int 0) := (Vc191.ext E587)
      have Fq600 : Old Z n0 h587 := (((hO.keep K169 all0).wr W185 Ge172).ext E587)
      obtain ⟨_, _, ⟨T598, L598, k598, n598⟩, -, X598, ⟨Lc598, hQ598, l598, y598, z598⟩, st598⟩ := X587.specialBack hx (y := y_18) rfl hown (mvT hZ (hw _ (gm 29 rfl))) (mvT hZ (hw _ (gm 30 rfl))) (mvT hZ (hw _ (gm 31 rfl))) (by decide) (backOf (W := 1) (own_initCL l Z a0 hw [] b587 .null (.int 0) r_o_169 k_r_169 (own_st (own_dr q0 q1) pp cv) (36 : Int32) 36 cs h587 n0 Zs594 A587 F587_value F587_coder Ge591 Fq599 (fun j _ => own_st255 (own_dr255 q0 q1) x585_3 j) (by first | assumption | decide : (36 : Int32) = Int32.ofNat 36) (by first | assumption | decide : 36 ≤ 37) (by first | assumption | decide : ¬ (36 : Int32) = (0 : Int32)) Fq600 hS hcs) hZ (hw _ (gm 31 rfl)) (hw _ (gm 28 rfl)) (by decide) (by decide)) (g := (mkF m 94 #[vJ (q0), s_, vJ (q1), s_, vI (p2), vI (p3), vI (p4), vI (1), vI ((Int32.ofNat pp)), vI (cv), vI (36), vR (r_o_169), u_, u_, u_, u_, u_, u_, u_, u_, u_] [(.ref r_o_169), (.ref b587), (.ref b587)])) rfl (by rw [hml]; rfl) (Steps.refl _) (a := b587) (argsL := [(.ref r_o_169)]) (rest := [(.ref b587)]) (lenOf own_pd27 rfl) rfl (by show 2 * 0 + _ ≤ _; exact Nat.le_of_eq rfl) (hb hby at_94) (fun _ _ => ⟨rfl, e587, (by decide : 2 + 1 ≤ _), (by decide : 41 + 37 ≤ _)⟩)
      dsimp only [Pt.U, Pt.locs, Pt.cells, Pt.slots] at X598 l598 y598 z598 st598 hQ598
      rw [l598, y598, z598] at X598
      obtain ⟨r_o_598, k_r_598, rfl, Nq598, sz598_r_o, K598, Pf598_0, Pf598_1, Pf598_2⟩ := hQ598
      have N601 := Fr.app N189 Nq598
      have Zs609 : n0 ≤ T598.heap.size := Nat.le_trans Zs594 K598.1
      have Fq612 : Exa Z T598.heap b587 "java/lang/String" := (A587.keep K598)
      have Fq613 : Old Z n0 T598.heap := (Fq600.keep K598 (allS Ge591 all0))
      obtain ⟨_, _, ⟨T611, L611, k611, n611⟩, -, X611, ⟨Lc611, hQ611, l611, y611, z611⟩, st611⟩ := Jvm.LawKit.callS X598 hx (y := y_39) hown (mvT hZ (hw _ (gm 55 rfl))) (mvT hZ (hw _ (gm 56 rfl))) (mvT hZ (hw _ (gm 57 rfl))) (mvT hZ (hw _ (gm 58 rfl))) (by decide) (backOf (W := 0) (own_prSL l Z a0 hw [] b587 r_o_598 k_r_598 (own_st (own_dr q0 q1) pp cv) cs e_o u_f (own_put q0 (own_hxv_f cv) (((60 : Int32) - ((4 : Int32) * (own_dix_f (Int32.ofNat pp)))) &&& 0x3f).toInt64) q1 T598.heap n0 Zs609 Fq612 Pf598_0 Pf598_1 Pf598_2 Fq613 hS hcs hSe (fun j _ => own_st255 (own_dr255 q0 q1) x585_3 j) (own_stN (own_drN q0 q1) hcv) hSf hf (own_L6 q0 q1 pp cv hpp x585_0 x585_1 x585_2)) hZ (hw _ (gm 58 rfl)) (hw _ (gm 57 rfl)) (by decide) (by decide)) (g := (mkF m 97 #[vJ (q0), s_, vJ (q1), s_, vI (p2), vI (p3), vI (p4), vI (1), vI ((Int32.ofNat pp)), vI (cv), vI (36), vR (r_o_169), u_, u_, u_, u_, u_, u_, u_, u_, u_] [(.ref b587)])) rfl (by rw [hml]; rfl) (argsL := [(.ref b587)]) (rest := []) (lenOf own_pd28 rfl) rfl (by show 2 * 0 + _ ≤ _; exact Nat.le_of_eq rfl) (hb hby at_97) (fun _ _ => ⟨rfl, rfl, (by decide : 3 + 2 ≤ _), (by decide : 78 + 3 ≤ _)⟩)
      dsimp only [Pt.U, Pt.locs, Pt.cells, Pt.slots] at X611 l611 y611 z611 st611 hQ611
      rw [l611, y611, z611] at X611
      obtain ⟨r_o_611, w_o_611, rfl, Nq611, sz611_r_o, sz611_w_o, K611, Pf611_0, Pf611_1, Pf611_2, Pf611_3, Pf611_4⟩ := hQ611
      have N614 := Fr.app N601 Nq611
      have Zs630 : n0 ≤ T611.heap.size := Nat.le_trans Zs609 K611.1
      obtain ⟨_, _, ⟨T649, L649, k649, n649⟩, -, X649, ⟨Lc649, hQ649, l649, y649, z649⟩, st649⟩ := Jvm.LawKit.callS X611 hx (y := y_0) hown (mvT hZ (hw _ (gm 13 rfl))) (mvT hZ (hw _ (gm 14 rfl))) (mvT hZ (hw _ (gm 4 rfl))) (mvT hZ (hw _ (gm 15 rfl))) (by decide) (backOf (W := 0) (own_isd l Z a0 hw [] (Int32.ofNat pp) T611.heap n0 Zs630 ) hZ (hw _ (gm 15 rfl)) (hw _ (gm 4 rfl)) (by decide) (by decide)) (g := (mkF m 145 #[vJ (q0), s_, vJ (q1), s_, vI (p2), vI (p3), vI (p4), vI (1), vI ((Int32.ofNat pp)), vI (cv), vI (36), vR (r_o_169), vR (r_o_611), vI (1), vJ (q0), s_, vJ (q1), s_, u_, u_, u_] [(.int (Int32.ofNat pp))])) rfl (by rw [hml]; rfl) (argsL := [(.int (Int32.ofNat pp))]) (rest := []) (lenOf own_pd1 rfl) rfl (by show 2 * 0 + _ ≤ _; exact Nat.le_of_eq rfl) (hb hby at_145) (fun _ _ => ⟨rfl, rfl, (by decide : 5 + 0 ≤ _), (by decide : 81 + 0 ≤ _)⟩)
      dsimp only [Pt.U, Pt.locs, Pt.cells, Pt.slots] at X649 l649 y649 z649 st649 hQ649
      rw [l649, y649, z649] at X649
      obtain ⟨rfl, Nq649, eh649⟩ := hQ649
      have N650 := Fr.app N614 Nq649
      obtain ⟨_, _, ⟨T654, L654, k654, n654⟩, -, X654, ⟨Lc654, hQ654, l654, y654, z654⟩, st654⟩ := Jvm.LawKit.callS X649 hx (y := y_5) hown (mvT hZ (hw _ (gm 181 rfl))) (mvT hZ (hw _ (gm 182 rfl))) (mvT hZ (hw _ (gm 4 rfl))) (mvT hZ (hw _ (gm 183 rfl))) (by decide) (backOf (W := 0) (own_hxv l Z a0 hw [] cv T611.heap n0 Zs630 ) hZ (hw _ (gm 183 rfl)) (hw _ (gm 4 rfl)) (by decide) (by decide)) (g := (mkF m 170 #[vJ (q0), s_, vJ (q1), s_, vI (p2), vI (p3), vI (p4), vI (1), vI ((Int32.ofNat pp)), vI (cv), vI (36), vR (r_o_169), vR (r_o_611), vI (1), vJ (q0), s_, vJ (q1), s_, u_, u_, u_] [(.int cv)])) rfl (by rw [hml]; rfl) (argsL := [(.int cv)]) (rest := []) (lenOf own_pd23 rfl) rfl (by show 2 * 0 + _ ≤ _; exact Nat.le_of_eq rfl) (hb hby at_170) (fun _ _ => ⟨rfl, eh649, (by decide : 5 + 0 ≤ _), (by decide : 81 + 0 ≤ _)⟩)
      dsimp only [Pt.U, Pt.locs, Pt.cells, Pt.slots] at X654 l654 y654 z654 st654 hQ654
      rw [l654, y654, z654] at X654
      obtain ⟨rfl, Nq654, eh654⟩ := hQ654
      have N655 := Fr.app N650 Nq654
      obtain ⟨_, _, ⟨T666, L666, k666, n666⟩, -, X666, ⟨Lc666, hQ666, l666, y666, z666⟩, st666⟩ := Jvm.LawKit.callS X654 hx (y := y_1) hown (mvT hZ (hw _ (gm 16 rfl))) (mvT hZ (hw _ (gm 17 rfl))) (mvT hZ (hw _ (gm 4 rfl))) (mvT hZ (hw _ (gm 18 rfl))) (by decide) (backOf (W := 0) (own_dix l Z a0 hw [] (Int32.ofNat pp) T611.heap n0 Zs630 ) hZ (hw _ (gm 18 rfl)) (hw _ (gm 4 rfl)) (by decide) (by decide)) (g := (mkF m 194 #[vJ (q0), s_, vJ (q1), s_, vI (p2), vI (p3), vI (p4), vI (1), vI ((Int32.ofNat pp)), vI (cv), vI (36), vR (r_o_169), vR (r_o_611), vI (1), vJ (q0), s_, vJ (q1), s_, vI ((own_hxv_f cv)), u_, u_] [(.int (Int32.ofNat pp))])) rfl (by rw [hml]; rfl) (argsL := [(.int (Int32.ofNat pp))]) (rest := []) (lenOf own_pd2 rfl) rfl (by show 2 * 0 + _ ≤ _; exact Nat.le_of_eq rfl) (hb hby at_194) (fun _ _ => ⟨rfl, eh654, (by decide : 5 + 0 ≤ _), (by decide : 81 + 0 ≤ _)⟩)
      dsimp only [Pt.U, Pt.locs, Pt.cells, Pt.slots] at X666 l666 y666 z666 st666 hQ666
      rw [l666, y666, z666] at X666
      obtain ⟨rfl, Nq666, eh666⟩ := hQ666
      have N667 := Fr.app N655 Nq666
      obtain ⟨cq696, kq696, q696a, q696b, q696c⟩ := isOf hZ eh666 Pf611_0
      obtain ⟨_, _, ⟨T696, L696, k696, n696⟩, -, X696, ⟨Lc696, hQ696, l696, y696, z696⟩, st696⟩ := X666.virtualBack hx (y := y_34) (z := y_34) hown (mvT hZ (hw _ (gm 126 rfl))) (mvT hZ (hw _ (gm 127 rfl))) (notFace_of_selects (args := #[]) (mvT hZ (hw _ (gm 129 rfl)))) (mvT hZ (hw _ (gm 129 rfl))) (mvT hZ (hw _ (gm 128 rfl))) (by decide) (backOf (W := 0) (own_ipS l Z a0 hw [] r_o_611 w_o_611 T611.heap n0 Zs630 Pf611_0 Pf611_1) hZ (hw _ (gm 130 rfl)) (hw _ (gm 111 rfl)) (by decide) (by decide)) q696a q696c (g := (mkF m 293 #[vJ (q0), s_, vJ (q1), s_, vI (p2), vI (p3), vI (p4), vI (1), vI ((Int32.ofNat pp)), vI (cv), vI (36), vR (r_o_169), vR (r_o_611), vI (1), vJ (((q0 &&& (((15 : Int64) <<< (((60 : Int32) - ((4 : Int32) * (own_dix_f (Int32.ofNat pp)))) &&& 0x3f).toInt64) ^^^ (-1 : Int64))) ||| (((own_hxv_f cv).toInt64) <<< (((60 : Int32) - ((4 : Int32) * (own_dix_f (Int32.ofNat pp)))) &&& 0x3f).toInt64))), s_, vJ (q1), s_, vI ((own_hxv_f cv)), vI ((own_dix_f (Int32.ofNat pp))), vI (((60 : Int32) - ((4 : Int32) * (own_dix_f (Int32.ofNat pp)))))] [(.ref r_o_611)])) rfl (by rw [hml]; rfl) (Steps.refl _) (argsL := []) (rest := []) (lenOf own_pd17 rfl) rfl (by show 2 * 0 + _ ≤ _; exact Nat.le_of_eq rfl) (hb hby at_293) (fun _ _ => ⟨rfl, eh666, (by decide : 5 + 0 ≤ _), (by decide : 81 + 0 ≤ _)⟩)
      dsimp only [Pt.U, Pt.locs, Pt.cells, Pt.slots] at X696 l696 y696 z696 st696 hQ696
      rw [l696, y696, z696] at X696
      obtain ⟨rfl, Nq696, eh696⟩ := hQ696
      have N697 := Fr.app N667 Nq696
      obtain ⟨cq701, kq701, q701a, q701b, q701c⟩ := isOf hZ eh696 Pf611_0
      obtain ⟨_, _, ⟨T701, L701, k701, n701⟩, -, X701, ⟨Lc701, hQ701, l701, y701, z701⟩, st701⟩ := X696.virtualBack hx (y := y_35) (z := y_35) hown (mvT hZ (hw _ (gm 131 rfl))) (mvT hZ (hw _ (gm 132 rfl))) (notFace_of_selects (args := #[]) (mvT hZ (hw _ (gm 134 rfl)))) (mvT hZ (hw _ (gm 134 rfl))) (mvT hZ (hw _ (gm 133 rfl))) (by decide) (backOf (W := 0) (own_get l Z a0 hw [] r_o_611 w_o_611 T611.heap n0 Zs630 Pf611_0 Pf611_1) hZ (hw _ (gm 135 rfl)) (hw _ (gm 111 rfl)) (by decide) (by decide)) q701a q701c (g := (mkF m 301 #[vJ (q0), s_, vJ (q1), s_, vI (p2), vI (p3), vI (p4), vI (1), vI ((Int32.ofNat pp)), vI (cv), vI (36), vR (r_o_169), vR (r_o_611), vI (1), vJ (((q0 &&& (((15 : Int64) <<< (((60 : Int32) - ((4 : Int32) * (own_dix_f (Int32.ofNat pp)))) &&& 0x3f).toInt64) ^^^ (-1 : Int64))) ||| (((own_hxv_f cv).toInt64) <<< (((60 : Int32) - ((4 : Int32) * (own_dix_f (Int32.ofNat pp)))) &&& 0x3f).toInt64))), s_, vJ (q1), s_, vI ((own_hxv_f cv)), vI ((own_dix_f (Int32.ofNat pp))), vI (((60 : Int32) - ((4 : Int32) * (own_dix_f (Int32.ofNat pp)))))] [(.ref r_o_611)])) rfl (by rw [hml]; rfl) (Steps.refl _) (argsL := []) (rest := []) (lenOf own_pd29 rfl) rfl (by show 2 * 0 + _ ≤ _; exact Nat.le_of_eq rfl) (hb hby at_301) (fun _ _ => ⟨rfl, eh696, (by decide : 5 + 0 ≤ _), (by decide : 81 + 0 ≤ _)⟩)
      dsimp only [Pt.U, Pt.locs, Pt.cells, Pt.slots] at X701 l701 y701 z701 st701 hQ701
      rw [l701, y701, z701] at X701
      obtain ⟨rfl, Nq701, eh701⟩ := hQ701
      have N702 := Fr.app N697 Nq701
      obtain ⟨T704, X704, e704, st704⟩ := castY X701 hx hZ hown (hw _ (gm 136 rfl)) eh701 (Ins.self Pf611_2) (g := (mkF m 304 #[vJ (q0), s_, vJ (q1), s_, vI (p2), vI (p3), vI (p4), vI (1), vI ((Int32.ofNat pp)), vI (cv), vI (36), vR (r_o_169), vR (r_o_611), vI (1), vJ (((q0 &&& (((15 : Int64) <<< (((60 : Int32) - ((4 : Int32) * (own_dix_f (Int32.ofNat pp)))) &&& 0x3f).toInt64) ^^^ (-1 : Int64))) ||| (((own_hxv_f cv).toInt64) <<< (((60 : Int32) - ((4 : Int32) * (own_dix_f (Int32.ofNat pp)))) &&& 0x3f).toInt64))), s_, vJ (q1), s_, vI ((own_hxv_f cv)), vI ((own_dix_f (Int32.ofNat pp))), vI (((60 : Int32) - ((4 : Int32) * (own_dix_f (Int32.ofNat pp)))))] [(.ref w_o_611)])) rfl rfl (hb hby at_304)
      obtain ⟨cq706, kq706, q706a, q706b, q706c⟩ := isOf hZ e704 Pf611_2
      obtain ⟨_, _, ⟨T706, L706, k706, n706⟩, -, X706, ⟨Lc706, hQ706, l706, y706, z706⟩, st706⟩ := X704.virtualBack hx (y := y_36) (z := y_36) hown (mvT hZ (hw _ (gm 138 rfl))) (mvT hZ (hw _ (gm 139 rfl))) (notFace_of_selects (args := #[]) (mvT hZ (hw _ (gm 141 rfl)))) (mvT hZ (hw _ (gm 141 rfl))) (mvT hZ (hw _ (gm 140 rfl))) (by decide) (backOf (W := 0) (own_g_high l Z a0 hw [] w_o_611 (own_put q0 (own_hxv_f cv) (((60 : Int32) - ((4 : Int32) * (own_dix_f (Int32.ofNat pp)))) &&& 0x3f).toInt64) T611.heap n0 Zs630 Pf611_2 Pf611_3) hZ (hw _ (gm 142 rfl)) (hw _ (gm 57 rfl)) (by decide) (by decide)) q706a q706c (g := (mkF m 307 #[vJ (q0), s_, vJ (q1), s_, vI (p2), vI (p3), vI (p4), vI (1), vI ((Int32.ofNat pp)), vI (cv), vI (36), vR (r_o_169), vR (r_o_611), vI (1), vJ (((q0 &&& (((15 : Int64) <<< (((60 : Int32) - ((4 : Int32) * (own_dix_f (Int32.ofNat pp)))) &&& 0x3f).toInt64) ^^^ (-1 : Int64))) ||| (((own_hxv_f cv).toInt64) <<< (((60 : Int32) - ((4 : Int32) * (own_dix_f (Int32.ofNat pp)))) &&& 0x3f).toInt64))), s_, vJ (q1), s_, vI ((own_hxv_f cv)), vI ((own_dix_f (Int32.ofNat pp))), vI (((60 : Int32) - ((4 : Int32) * (own_dix_f (Int32.ofNat pp)))))] [(.ref w_o_611)])) rfl (by rw [hml]; rfl) (Steps.refl _) (argsL := []) (rest := []) (lenOf own_pd30 rfl) rfl (by show 2 * 0 + _ ≤ _; exact Nat.le_of_eq rfl) (hb hby at_307) (fun _ _ => ⟨rfl, e704, (by decide : 5 + 0 ≤ _), (by decide : 81 + 0 ≤ _)⟩)
      dsimp only [Pt.U, Pt.locs, Pt.cells, Pt.slots] at X706 l706 y706 z706 st706 hQ706
      rw [l706, y706, z706] at X706
      obtain ⟨rfl, Nq706, eh706⟩ := hQ706
      have N707 := Fr.app N702 Nq706
      obtain ⟨cq713, kq713, q713a, q713b, q713c⟩ := isOf hZ eh706 Pf611_0
      obtain ⟨_, _, ⟨T713, L713, k713, n713⟩, -, X713, ⟨Lc713, hQ713, l713, y713, z713⟩, st713⟩ := X706.virtualBack hx (y := y_35) (z := y_35) hown (mvT hZ (hw _ (gm 131 rfl))) (mvT hZ (hw _ (gm 132 rfl))) (notFace_of_selects (args := #[]) (mvT hZ (hw _ (gm 134 rfl)))) (mvT hZ (hw _ (gm 134 rfl))) (mvT hZ (hw _ (gm 133 rfl))) (by decide) (backOf (W := 0) (own_get l Z a0 hw [] r_o_611 w_o_611 T611.heap n0 Zs630 Pf611_0 Pf611_1) hZ (hw _ (gm 135 rfl)) (hw _ (gm 111 rfl)) (by decide) (by decide)) q713a q713c (g := (mkF m 318 #[vJ (q0), s_, vJ (q1), s_, vI (p2), vI (p3), vI (p4), vI (1), vI ((Int32.ofNat pp)), vI (cv), vI (36), vR (r_o_169), vR (r_o_611), vI (1), vJ (((q0 &&& (((15 : Int64) <<< (((60 : Int32) - ((4 : Int32) * (own_dix_f (Int32.ofNat pp)))) &&& 0x3f).toInt64) ^^^ (-1 : Int64))) ||| (((own_hxv_f cv).toInt64) <<< (((60 : Int32) - ((4 : Int32) * (own_dix_f (Int32.ofNat pp)))) &&& 0x3f).toInt64))), s_, vJ (q1), s_, vI ((own_hxv_f cv)), vI ((own_dix_f (Int32.ofNat pp))), vI (((60 : Int32) - ((4 : Int32) * (own_dix_f (Int32.ofNat pp)))))] [(.ref r_o_611)])) rfl (by rw [hml]; rfl) (Steps.refl _) (argsL := []) (rest := []) (lenOf own_pd29 rfl) rfl (by show 2 * 0 + _ ≤ _; exact Nat.le_of_eq rfl) (hb hby at_318) (fun _ _ => ⟨rfl, eh706, (by decide : 5 + 0 ≤ _), (by decide : 81 + 0 ≤ _)⟩)
      dsimp only [Pt.U, Pt.locs, Pt.cells, Pt.slots] at X713 l713 y713 z713 st713 hQ713
      rw [l713, y713, z713] at X713
      obtain ⟨rfl, Nq713, eh713⟩ := hQ713
      have N714 := Fr.app N707 Nq713
      obtain ⟨T716, X716, e716, st716⟩ := castY X713 hx hZ hown (hw _ (gm 136 rfl)) eh713 (Ins.self Pf611_2) (g := (mkF m 321 #[vJ (q0), s_, vJ (q1), s_, vI (p2), vI (p3), vI (p4), vI (1), vI ((Int32.ofNat pp)), vI (cv), vI (36), vR (r_o_169), vR (r_o_611), vI (1), vJ (((q0 &&& (((15 : Int64) <<< (((60 : Int32) - ((4 : Int32) * (own_dix_f (Int32.ofNat pp)))) &&& 0x3f).toInt64) ^^^ (-1 : Int64))) ||| (((own_hxv_f cv).toInt64) <<< (((60 : Int32) - ((4 : Int32) * (own_dix_f (Int32.ofNat pp)))) &&& 0x3f).toInt64))), s_, vJ (q1), s_, vI ((own_hxv_f cv)), vI ((own_dix_f (Int32.ofNat pp))), vI (((60 : Int32) - ((4 : Int32) * (own_dix_f (Int32.ofNat pp)))))] [(.ref w_o_611)])) rfl rfl (hb hby at_321)
      obtain ⟨cq718, kq718, q718a, q718b, q718c⟩ := isOf hZ e716 Pf611_2
      obtain ⟨_, _, ⟨T718, L718, k718, n718⟩, -, X718, ⟨Lc718, hQ718, l718, y718, z718⟩, st718⟩ := X716.virtualBack hx (y := y_37) (z := y_37) hown (mvT hZ (hw _ (gm 143 rfl))) (mvT hZ (hw _ (gm 144 rfl))) (notFace_of_selects (args := #[]) (mvT hZ (hw _ (gm 146 rfl)))) (mvT hZ (hw _ (gm 146 rfl))) (mvT hZ (hw _ (gm 145 rfl))) (by decide) (backOf (W := 0) (own_g_low l Z a0 hw [] w_o_611 q1 T611.heap n0 Zs630 Pf611_2 Pf611_4) hZ (hw _ (gm 147 rfl)) (hw _ (gm 57 rfl)) (by decide) (by decide)) q718a q718c (g := (mkF m 324 #[vJ (q0), s_, vJ (q1), s_, vI (p2), vI (p3), vI (p4), vI (1), vI ((Int32.ofNat pp)), vI (cv), vI (36), vR (r_o_169), vR (r_o_611), vI (1), vJ (((q0 &&& (((15 : Int64) <<< (((60 : Int32) - ((4 : Int32) * (own_dix_f (Int32.ofNat pp)))) &&& 0x3f).toInt64) ^^^ (-1 : Int64))) ||| (((own_hxv_f cv).toInt64) <<< (((60 : Int32) - ((4 : Int32) * (own_dix_f (Int32.ofNat pp)))) &&& 0x3f).toInt64))), s_, vJ (q1), s_, vI ((own_hxv_f cv)), vI ((own_dix_f (Int32.ofNat pp))), vI (((60 : Int32) - ((4 : Int32) * (own_dix_f (Int32.ofNat pp)))))] [(.ref w_o_611)])) rfl (by rw [hml]; rfl) (Steps.refl _) (argsL := []) (rest := []) (lenOf own_pd30 rfl) rfl (by show 2 * 0 + _ ≤ _; exact Nat.le_of_eq rfl) (hb hby at_324) (fun _ _ => ⟨rfl, e716, (by decide : 5 + 0 ≤ _), (by decide : 81 + 0 ≤ _)⟩)
      dsimp only [Pt.U, Pt.locs, Pt.cells, Pt.slots] at X718 l718 y718 z718 st718 hQ718
      rw [l718, y718, z718] at X718
      obtain ⟨rfl, Nq718, eh718⟩ := hQ718
      have N719 := Fr.app N714 Nq718
      obtain ⟨fs, hr, hrun, hended, hW, hsame⟩ := X718.leave (v := some (.int 1)) (fun h => by rw [Bd.returns] at h; cases h) (hlocks := BodyLoose.notSynchronized Bd)
      refine ⟨_, _, pre195 _ ?_, hrun, hended, _, _, rfl, ?_, ⟨_, rfl⟩, hW, hsame.mono (by decide) (by decide)⟩
      · show SS p e below m T185 88 #[vJ (q0), s_, vJ (q1), s_, vI (p2), vI (p3), vI (p4), vI (1), vI ((Int32.ofNat pp)), vI (cv), vI (36), vR (r_o_169), u_, u_, u_, u_, u_, u_, u_, u_, u_] [] _
        show SS p e below m T185 88 #[vJ (q0), s_, vJ (q1), s_, vI (p2), vI (p3), vI (p4), vI (1), vI ((Int32.ofNat pp)), vI (cv), vI (36), vR (r_o_169), u_, u_, u_, u_, u_, u_, u_, u_, u_] [] _
        refine st587 _ ?_
        show SS p e below m T587 91 #[vJ (q0), s_, vJ (q1), s_, vI (p2), vI (p3), vI (p4), vI (1), vI ((Int32.ofNat pp)), vI (cv), vI (36), vR (r_o_169), u_, u_, u_, u_, u_, u_, u_, u_, u_] [(.ref b587)] _
        refine XS.dup X587.here hx rfl (hb hby at_91) rfl rfl ?_
        show SS p e below m T587 92 #[vJ (q0), s_, vJ (q1), s_, vI (p2), vI (p3), vI (p4), vI (1), vI ((Int32.ofNat pp)), vI (cv), vI (36), vR (r_o_169), u_, u_, u_, u_, u_, u_, u_, u_, u_] [(.ref b587), (.ref b587)] _
        refine zaload X587 hx hby at_92 rfl rfl ?_
        refine st598.trans ?_
        refine st611 _ ?_
        refine zastore (l' := #[vJ (q0), s_, vJ (q1), s_, vI (p2), vI (p3), vI (p4), vI (1), vI ((Int32.ofNat pp)), vI (cv), vI (36), vR (r_o_169), vR (r_o_611), u_, u_, u_, u_, u_, u_, u_, u_]) X611 hx hby at_100 rfl rfl ?_
        refine ziload X611 hx hby at_102 rfl ?_
        refine ziconst X611 hx hby (2) at_104 rfl ?_
        refine zicmpNo X611 hx hby at_105 (feq ((by decide) : ¬ ((1 : Int32) = (2 : Int32)))).1 ?_
        refine ziload X611 hx hby at_108 rfl ?_
        refine ziconst X611 hx hby (3) at_110 rfl ?_
        refine zicmpYes X611 hx hby 111 128 rfl at_111 (feq ((by decide) : ¬ ((1 : Int32) = (3 : Int32)))).2 (by decide) (by decide) ?_
        refine ziconst X611 hx hby (1) at_128 rfl ?_
        refine zistore (l' := #[vJ (q0), s_, vJ (q1), s_, vI (p2), vI (p3), vI (p4), vI (1), vI ((Int32.ofNat pp)), vI (cv), vI (36), vR (r_o_169), vR (r_o_611), vI (1), u_, u_, u_, u_, u_, u_, u_]) X611 hx hby at_129 rfl ?_
        show SS p e below m T611 131 #[vJ (q0), s_, vJ (q1), s_, vI (p2), vI (p3), vI (p4), vI (1), vI ((Int32.ofNat pp)), vI (cv), vI (36), vR (r_o_169), vR (r_o_611), vI (1), u_, u_, u_, u_, u_, u_, u_] [] _
        refine zlloadN X611 hx hby at_131 rfl ?_
        refine zlstore (l' := #[vJ (q0), s_, vJ (q1), s_, vI (p2), vI (p3), vI (p4), vI (1), vI ((Int32.ofNat pp)), vI (cv), vI (36), vR (r_o_169), vR (r_o_611), vI (1), vJ (q0), s_, u_, u_, u_, u_, u_]) X611 hx hby at_132 rfl ?_
        refine zlloadN X611 hx hby at_134 rfl ?_
        refine zlstore (l' := #[vJ (q0), s_, vJ (q1), s_, vI (p2), vI (p3), vI (p4), vI (1), vI ((Int32.ofNat pp)), vI (cv), vI (36), vR (r_o_169), vR (r_o_611), vI (1), vJ (q0), s_, vJ (q1), s_, u_, u_, u_]) X611 hx hby at_135 rfl ?_
        refine ziload X611 hx hby at_137 rfl ?_
        refine ziconst X611 hx hby (1) at_139 rfl ?_
        refine zicmpNo X611 hx hby at_140 (teq ((by decide) : (1 : Int32) = (1 : Int32))).2 ?_
        refine ziload X611 hx hby at_143 rfl ?_
        refine st649 _ ?_
        refine zifYes X649 hx hby 148 168 rfl at_148 ((if0 _ _).trans (teq (x585_0 : (own_isd_f (Int32.ofNat pp)) = (0 : Int32))).1) (by decide) (by decide) ?_
        refine ziload X649 hx hby at_168 rfl ?_
        refine st654 _ ?_
        show SS p e below m T654 173 #[vJ (q0), s_, vJ (q1), s_, vI (p2), vI (p3), vI (p4), vI (1), vI ((Int32.ofNat pp)), vI (cv), vI (36), vR (r_o_169), vR (r_o_611), vI (1), vJ (q0), s_, vJ (q1), s_, u_, u_, u_] [(.int (own_hxv_f cv))] _
        refine zistore (l' := #[vJ (q0), s_, vJ (q1), s_, vI (p2), vI (p3), vI (p4), vI (1), vI ((Int32.ofNat pp)), vI (cv), vI (36), vR (r_o_169), vR (r_o_611), vI (1), vJ (q0), s_, vJ (q1), s_, vI ((own_hxv_f cv)), u_, u_]) X654 hx hby at_173 rfl ?_
        refine ziload X654 hx hby at_175 rfl ?_
        refine zifNo X654 hx hby at_177 ((if0 _ _).trans (flt (x585_1 : ¬ ((own_hxv_f cv) < (0 : Int32)))).1) ?_
        refine ziconst X654 hx hby (1) at_180 rfl ?_
        refine zgoto X654 hx hby 181 185 rfl at_181 (by decide) (by decide) ?_
        refine zistore (l' := #[vJ (q0), s_, vJ (q1), s_, vI (p2), vI (p3), vI (p4), vI (1), vI ((Int32.ofNat pp)), vI (cv), vI (36), vR (r_o_169), vR (r_o_611), vI (1), vJ (q0), s_, vJ (q1), s_, vI ((own_hxv_f cv)), u_, u_]) X654 hx hby at_185 rfl ?_
        refine ziload X654 hx hby at_187 rfl ?_
        refine zifNo X654 hx hby at_189 ((if0 _ _).trans (feq ((by decide) : ¬ ((1 : Int32) = (0 : Int32)))).1) ?_
        refine ziload X654 hx hby at_192 rfl ?_
        refine st666 _ ?_
        refine zistore (l' := #[vJ (q0), s_, vJ (q1), s_, vI (p2), vI (p3), vI (p4), vI (1), vI ((Int32.ofNat pp)), vI (cv), vI (36), vR (r_o_169), vR (r_o_611), vI (1), vJ (q0), s_, vJ (q1), s_, vI ((own_hxv_f cv)), vI ((own_dix_f (Int32.ofNat pp))), u_]) X666 hx hby at_197 rfl ?_
        refine ziload X666 hx hby at_199 rfl ?_
        show SS p e below m T666 201 #[vJ (q0), s_, vJ (q1), s_, vI (p2), vI (p3), vI (p4), vI (1), vI ((Int32.ofNat pp)), vI (cv), vI (36), vR (r_o_169), vR (r_o_611), vI (1), vJ (q0), s_, vJ (q1), s_, vI ((own_hxv_f cv)), vI ((own_dix_f (Int32.ofNat pp))), u_] [(.int (own_dix_f (Int32.ofNat pp)))] _
        refine zbipush X666 hx hby (16) at_201 rfl ?_
        refine zicmpNo X666 hx hby at_203 (tlt (x585_2 : (own_dix_f (Int32.ofNat pp)) < (16 : Int32))).2.1 ?_
        refine zbipush X666 hx hby (60) at_206 rfl ?_
        refine ziconst X666 hx hby (4) at_208 rfl ?_
        refine ziload X666 hx hby at_209 rfl ?_
        show SS p e below m T666 211 #[vJ (q0), s_, vJ (q1), s_, vI (p2), vI (p3), vI (p4), vI (1), vI ((Int32.ofNat pp)), vI (cv), vI (36), vR (r_o_169), vR (r_o_611), vI (1), vJ (q0), s_, vJ (q1), s_, vI ((own_hxv_f cv)), vI ((own_dix_f (Int32.ofNat pp))), u_] [(.int (own_dix_f (Int32.ofNat pp))), (.int 4), (.int 60)] _
        refine XS.imul X666.here hx rfl (hb hby at_211) rfl ?_
        show SS p e below m T666 212 #[vJ (q0), s_, vJ (q1), s_, vI (p2), vI (p3), vI (p4), vI (1), vI ((Int32.ofNat pp)), vI (cv), vI (36), vR (r_o_169), vR (r_o_611), vI (1), vJ (q0), s_, vJ (q1), s_, vI ((own_hxv_f cv)), vI ((own_dix_f (Int32.ofNat pp))), u_] [(.int ((4 : Int32) * (own_dix_f (Int32.ofNat pp)))), (.int 60)] _
        refine XS.isub X666.here hx rfl (hb hby at_212) rfl ?_
        show SS p e below m T666 213 #[vJ (q0), s_, vJ (q1), s_, vI (p2), vI (p3), vI (p4), vI (1), vI ((Int32.ofNat pp)), vI (cv), vI (36), vR (r_o_169), vR (r_o_611), vI (1), vJ (q0), s_, vJ (q1), s_, vI ((own_hxv_f cv)), vI ((own_dix_f (Int32.ofNat pp))), u_] [(.int ((60 : Int32) - ((4 : Int32) * (own_dix_f (Int32.ofNat pp)))))] _
        refine zistore (l' := #[vJ (q0), s_, vJ (q1), s_, vI (p2), vI (p3), vI (p4), vI (1), vI ((Int32.ofNat pp)), vI (cv), vI (36), vR (r_o_169), vR (r_o_611), vI (1), vJ (q0), s_, vJ (q1), s_, vI ((own_hxv_f cv)), vI ((own_dix_f (Int32.ofNat pp))), vI (((60 : Int32) - ((4 : Int32) * (own_dix_f (Int32.ofNat pp)))))]) X666 hx hby at_213 rfl ?_
        refine zlloadN X666 hx hby at_215 rfl ?_
        show SS p e below m T666 216 #[vJ (q0), s_, vJ (q1), s_, vI (p2), vI (p3), vI (p4), vI (1), vI ((Int32.ofNat pp)), vI (cv), vI (36), vR (r_o_169), vR (r_o_611), vI (1), vJ (q0), s_, vJ (q1), s_, vI ((own_hxv_f cv)), vI ((own_dix_f (Int32.ofNat pp))), vI (((60 : Int32) - ((4 : Int32) * (own_dix_f (Int32.ofNat pp)))))] [(.long q0)] _
        refine X666.ldc2Long hx hown (mvT hZ (hw _ (gm 22 rfl))) (g := (mkF m 216 #[vJ (q0), s_, vJ (q1), s_, vI (p2), vI (p3), vI (p4), vI (1), vI ((Int32.ofNat pp)), vI (cv), vI (36), vR (r_o_169), vR (r_o_611), vI (1), vJ (q0), s_, vJ (q1), s_, vI ((own_hxv_f cv)), vI ((own_dix_f (Int32.ofNat pp))), vI (((60 : Int32) - ((4 : Int32) * (own_dix_f (Int32.ofNat pp)))))] [(.long q0)])) rfl (hb hby at_216) _ ?_
        show SS p e below m T666 219 #[vJ (q0), s_, vJ (q1), s_, vI (p2), vI (p3), vI (p4), vI (1), vI ((Int32.ofNat pp)), vI (cv), vI (36), vR (r_o_169), vR (r_o_611), vI (1), vJ (q0), s_, vJ (q1), s_, vI ((own_hxv_f cv)), vI ((own_dix_f (Int32.ofNat pp))), vI (((60 : Int32) - ((4 : Int32) * (own_dix_f (Int32.ofNat pp)))))] [(.long 15), (.long q0)] _
        refine ziload X666 hx hby at_219 rfl ?_
        show SS p e below m T666 221 #[vJ (q0), s_, vJ (q1), s_, vI (p2), vI (p3), vI (p4), vI (1), vI ((Int32.ofNat pp)), vI (cv), vI (36), vR (r_o_169), vR (r_o_611), vI (1), vJ (q0), s_, vJ (q1), s_, vI ((own_hxv_f cv)), vI ((own_dix_f (Int32.ofNat pp))), vI (((60 : Int32) - ((4 : Int32) * (own_dix_f (Int32.ofNat pp)))))] [(.int ((60 : Int32) - ((4 : Int32) * (own_dix_f (Int32.ofNat pp))))), (.long 15), (.long q0)] _
        refine XS.lshl X666.here hx rfl (hb hby at_221) rfl ?_
        show SS p e below m T666 222 #[vJ (q0), s_, vJ (q1), s_, vI (p2), vI (p3), vI (p4), vI (1), vI ((Int32.ofNat pp)), vI (cv), vI (36), vR (r_o_169), vR (r_o_611), vI (1), vJ (q0), s_, vJ (q1), s_, vI ((own_hxv_f cv)), vI ((own_dix_f (Int32.ofNat pp))), vI (((60 : Int32) - ((4 : Int32) * (own_dix_f (Int32.ofNat pp)))))] [(.long ((15 : Int64) <<< (((60 : Int32) - ((4 : Int32) * (own_dix_f (Int32.ofNat pp)))) &&& 0x3f).toInt64)), (.long q0)] _
        refine X666.ldc2Long hx hown (mvT hZ (hw _ (gm 184 rfl))) (g := (mkF m 222 #[vJ (q0), s_, vJ (q1), s_, vI (p2), vI (p3), vI (p4), vI (1), vI ((Int32.ofNat pp)), vI (cv), vI (36), vR (r_o_169), vR (r_o_611), vI (1), vJ (q0), s_, vJ (q1), s_, vI ((own_hxv_f cv)), vI ((own_dix_f (Int32.ofNat pp))), vI (((60 : Int32) - ((4 : Int32) * (own_dix_f (Int32.ofNat pp)))))] [(.long ((15 : Int64) <<< (((60 : Int32) - ((4 : Int32) * (own_dix_f (Int32.ofNat pp)))) &&& 0x3f).toInt64)), (.long q0)])) rfl (hb hby at_222) _ ?_
        show SS p e below m T666 225 #[vJ (q0), s_, vJ (q1), s_, vI (p2), vI (p3), vI (p4), vI (1), vI ((Int32.ofNat pp)), vI (cv), vI (36), vR (r_o_169), vR (r_o_611), vI (1), vJ (q0), s_, vJ (q1), s_, vI ((own_hxv_f cv)), vI ((own_dix_f (Int32.ofNat pp))), vI (((60 : Int32) - ((4 : Int32) * (own_dix_f (Int32.ofNat pp)))))] [(.long (-1 : Int64)), (.long ((15 : Int64) <<< (((60 : Int32) - ((4 : Int32) * (own_dix_f (Int32.ofNat pp)))) &&& 0x3f).toInt64)), (.long q0)] _
        refine XS.lxor X666.here hx rfl (hb hby at_225) rfl ?_
        show SS p e below m T666 226 #[vJ (q0), s_, vJ (q1), s_, vI (p2), vI (p3), vI (p4), vI (1), vI ((Int32.ofNat pp)), vI (cv), vI (36), vR (r_o_169), vR (r_o_611), vI (1), vJ (q0), s_, vJ (q1), s_, vI ((own_hxv_f cv)), vI ((own_dix_f (Int32.ofNat pp))), vI (((60 : Int32) - ((4 : Int32) * (own_dix_f (Int32.ofNat pp)))))] [(.long (((15 : Int64) <<< (((60 : Int32) - ((4 : Int32) * (own_dix_f (Int32.ofNat pp)))) &&& 0x3f).toInt64) ^^^ (-1 : Int64))), (.long q0)] _
        refine XS.land X666.here hx rfl (hb hby at_226) rfl ?_
        show SS p e below m T666 227 #[vJ (q0), s_, vJ (q1), s_, vI (p2), vI (p3), vI (p4), vI (1), vI ((Int32.ofNat pp)), vI (cv), vI (36), vR (r_o_169), vR (r_o_611), vI (1), vJ (q0), s_, vJ (q1), s_, vI ((own_hxv_f cv)), vI ((own_dix_f (Int32.ofNat pp))), vI (((60 : Int32) - ((4 : Int32) * (own_dix_f (Int32.ofNat pp)))))] [(.long (q0 &&& (((15 : Int64) <<< (((60 : Int32) - ((4 : Int32) * (own_dix_f (Int32.ofNat pp)))) &&& 0x3f).toInt64) ^^^ (-1 : Int64))))] _
        refine ziload X666 hx hby at_227 rfl ?_
        show SS p e below m T666 229 #[vJ (q0), s_, vJ (q1), s_, vI (p2), vI (p3), vI (p4), vI (1), vI ((Int32.ofNat pp)), vI (cv), vI (36), vR (r_o_169), vR (r_o_611), vI (1), vJ (q0), s_, vJ (q1), s_, vI ((own_hxv_f cv)), vI ((own_dix_f (Int32.ofNat pp))), vI (((60 : Int32) - ((4 : Int32) * (own_dix_f (Int32.ofNat pp)))))] [(.int (own_hxv_f cv)), (.long (q0 &&& (((15 : Int64) <<< (((60 : Int32) - ((4 : Int32) * (own_dix_f (Int32.ofNat pp)))) &&& 0x3f).toInt64) ^^^ (-1 : Int64))))] _
        refine XS.i2l X666.here hx rfl (hb hby at_229) rfl ?_
        show SS p e below m T666 230 #[vJ (q0), s_, vJ (q1), s_, vI (p2), vI (p3), vI (p4), vI (1), vI ((Int32.ofNat pp)), vI (cv), vI (36), vR (r_o_169), vR (r_o_611), vI (1), vJ (q0), s_, vJ (q1), s_, vI ((own_hxv_f cv)), vI ((own_dix_f (Int32.ofNat pp))), vI (((60 : Int32) - ((4 : Int32) * (own_dix_f (Int32.ofNat pp)))))] [(.long ((own_hxv_f cv).toInt64)), (.long (q0 &&& (((15 : Int64) <<< (((60 : Int32) - ((4 : Int32) * (own_dix_f (Int32.ofNat pp)))) &&& 0x3f).toInt64) ^^^ (-1 : Int64))))] _
        refine ziload X666 hx hby at_230 rfl ?_
        show SS p e below m T666 232 #[vJ (q0), s_, vJ (q1), s_, vI (p2), vI (p3), vI (p4), vI (1), vI ((Int32.ofNat pp)), vI (cv), vI (36), vR (r_o_169), vR (r_o_611), vI (1), vJ (q0), s_, vJ (q1), s_, vI ((own_hxv_f cv)), vI ((own_dix_f (Int32.ofNat pp))), vI (((60 : Int32) - ((4 : Int32) * (own_dix_f (Int32.ofNat pp)))))] [(.int ((60 : Int32) - ((4 : Int32) * (own_dix_f (Int32.ofNat pp))))), (.long ((own_hxv_f cv).toInt64)), (.long (q0 &&& (((15 : Int64) <<< (((60 : Int32) - ((4 : Int32) * (own_dix_f (Int32.ofNat pp)))) &&& 0x3f).toInt64) ^^^ (-1 : Int64))))] _
        refine XS.lshl X666.here hx rfl (hb hby at_232) rfl ?_
        show SS p e below m T666 233 #[vJ (q0), s_, vJ (q1), s_, vI (p2), vI (p3), vI (p4), vI (1), vI ((Int32.ofNat pp)), vI (cv), vI (36), vR (r_o_169), vR (r_o_611), vI (1), vJ (q0), s_, vJ (q1), s_, vI ((own_hxv_f cv)), vI ((own_dix_f (Int32.ofNat pp))), vI (((60 : Int32) - ((4 : Int32) * (own_dix_f (Int32.ofNat pp)))))] [(.long (((own_hxv_f cv).toInt64) <<< (((60 : Int32) - ((4 : Int32) * (own_dix_f (Int32.ofNat pp)))) &&& 0x3f).toInt64)), (.long (q0 &&& (((15 : Int64) <<< (((60 : Int32) - ((4 : Int32) * (own_dix_f (Int32.ofNat pp)))) &&& 0x3f).toInt64) ^^^ (-1 : Int64))))] _
        refine XS.lor X666.here hx rfl (hb hby at_233) rfl ?_
        show SS p e below m T666 234 #[vJ (q0), s_, vJ (q1), s_, vI (p2), vI (p3), vI (p4), vI (1), vI ((Int32.ofNat pp)), vI (cv), vI (36), vR (r_o_169), vR (r_o_611), vI (1), vJ (q0), s_, vJ (q1), s_, vI ((own_hxv_f cv)), vI ((own_dix_f (Int32.ofNat pp))), vI (((60 : Int32) - ((4 : Int32) * (own_dix_f (Int32.ofNat pp)))))] [(.long ((q0 &&& (((15 : Int64) <<< (((60 : Int32) - ((4 : Int32) * (own_dix_f (Int32.ofNat pp)))) &&& 0x3f).toInt64) ^^^ (-1 : Int64))) ||| (((own_hxv_f cv).toInt64) <<< (((60 : Int32) - ((4 : Int32) * (own_dix_f (Int32.ofNat pp)))) &&& 0x3f).toInt64)))] _
        refine zlstore (l' := #[vJ (q0), s_, vJ (q1), s_, vI (p2), vI (p3), vI (p4), vI (1), vI ((Int32.ofNat pp)), vI (cv), vI (36), vR (r_o_169), vR (r_o_611), vI (1), vJ (((q0 &&& (((15 : Int64) <<< (((60 : Int32) - ((4 : Int32) * (own_dix_f (Int32.ofNat pp)))) &&& 0x3f).toInt64) ^^^ (-1 : Int64))) ||| (((own_hxv_f cv).toInt64) <<< (((60 : Int32) - ((4 : Int32) * (own_dix_f (Int32.ofNat pp)))) &&& 0x3f).toInt64))), s_, vJ (q1), s_, vI ((own_hxv_f cv)), vI ((own_dix_f (Int32.ofNat pp))), vI (((60 : Int32) - ((4 : Int32) * (own_dix_f (Int32.ofNat pp)))))]) X666 hx hby at_234 rfl ?_
        refine zgoto X666 hx hby 236 272 rfl at_236 (by decide) (by decide) ?_
        refine ziload X666 hx hby at_272 rfl ?_
        refine zifYes X666 hx hby 274 291 rfl at_274 ((if0 _ _).trans (feq ((by decide) : ¬ ((1 : Int32) = (0 : Int32)))).2) (by decide) (by decide) ?_
        refine zaload X666 hx hby at_291 rfl rfl ?_
        refine st696.trans ?_
        refine zifNo X696 hx hby at_296 ((if0 _ _).trans (feq ((by decide) : ¬ ((1 : Int32) = (0 : Int32)))).1) ?_
        refine zaload X696 hx hby at_299 rfl rfl ?_
        refine st701.trans ?_
        refine st704 _ ?_
        refine st706.trans ?_
        refine zlload X706 hx hby at_310 rfl ?_
        show SS p e below m T706 312 #[vJ (q0), s_, vJ (q1), s_, vI (p2), vI (p3), vI (p4), vI (1), vI ((Int32.ofNat pp)), vI (cv), vI (36), vR (r_o_169), vR (r_o_611), vI (1), vJ (((q0 &&& (((15 : Int64) <<< (((60 : Int32) - ((4 : Int32) * (own_dix_f (Int32.ofNat pp)))) &&& 0x3f).toInt64) ^^^ (-1 : Int64))) ||| (((own_hxv_f cv).toInt64) <<< (((60 : Int32) - ((4 : Int32) * (own_dix_f (Int32.ofNat pp)))) &&& 0x3f).toInt64))), s_, vJ (q1), s_, vI ((own_hxv_f cv)), vI ((own_dix_f (Int32.ofNat pp))), vI (((60 : Int32) - ((4 : Int32) * (own_dix_f (Int32.ofNat pp)))))] [(.long ((q0 &&& (((15 : Int64) <<< (((60 : Int32) - ((4 : Int32) * (own_dix_f (Int32.ofNat pp)))) &&& 0x3f).toInt64) ^^^ (-1 : Int64))) ||| (((own_hxv_f cv).toInt64) <<< (((60 : Int32) - ((4 : Int32) * (own_dix_f (Int32.ofNat pp)))) &&& 0x3f).toInt64))), (.long (own_put q0 (own_hxv_f cv) (((60 : Int32) - ((4 : Int32) * (own_dix_f (Int32.ofNat pp)))) &&& 0x3f).toInt64))] _
        refine XS.lcmp X706.here hx rfl (hb hby at_312) rfl ?_
        show SS p e below m T706 313 #[vJ (q0), s_, vJ (q1), s_, vI (p2), vI (p3), vI (p4), vI (1), vI ((Int32.ofNat pp)), vI (cv), vI (36), vR (r_o_169), vR (r_o_611), vI (1), vJ (((q0 &&& (((15 : Int64) <<< (((60 : Int32) - ((4 : Int32) * (own_dix_f (Int32.ofNat pp)))) &&& 0x3f).toInt64) ^^^ (-1 : Int64))) ||| (((own_hxv_f cv).toInt64) <<< (((60 : Int32) - ((4 : Int32) * (own_dix_f (Int32.ofNat pp)))) &&& 0x3f).toInt64))), s_, vJ (q1), s_, vI ((own_hxv_f cv)), vI ((own_dix_f (Int32.ofNat pp))), vI (((60 : Int32) - ((4 : Int32) * (own_dix_f (Int32.ofNat pp)))))] [(.int (lcmpW (own_put q0 (own_hxv_f cv) (((60 : Int32) - ((4 : Int32) * (own_dix_f (Int32.ofNat pp)))) &&& 0x3f).toInt64) ((q0 &&& (((15 : Int64) <<< (((60 : Int32) - ((4 : Int32) * (own_dix_f (Int32.ofNat pp)))) &&& 0x3f).toInt64) ^^^ (-1 : Int64))) ||| (((own_hxv_f cv).toInt64) <<< (((60 : Int32) - ((4 : Int32) * (own_dix_f (Int32.ofNat pp)))) &&& 0x3f).toInt64))))] _
        refine zifNo X706 hx hby at_313 ((if0 _ _).trans (teq (own_lcEq.mpr (rfl : (own_put q0 (own_hxv_f cv) (((60 : Int32) - ((4 : Int32) * (own_dix_f (Int32.ofNat pp)))) &&& 0x3f).toInt64) = ((q0 &&& (((15 : Int64) <<< (((60 : Int32) - ((4 : Int32) * (own_dix_f (Int32.ofNat pp)))) &&& 0x3f).toInt64) ^^^ (-1 : Int64))) ||| (((own_hxv_f cv).toInt64) <<< (((60 : Int32) - ((4 : Int32) * (own_dix_f (Int32.ofNat pp)))) &&& 0x3f).toInt64))))).2) ?_
        refine zaload X706 hx hby at_316 rfl rfl ?_
        refine st713.trans ?_
        refine st716 _ ?_
        refine st718.trans ?_
        refine zlload X718 hx hby at_327 rfl ?_
        show SS p e below m T718 329 #[vJ (q0), s_, vJ (q1), s_, vI (p2), vI (p3), vI (p4), vI (1), vI ((Int32.ofNat pp)), vI (cv), vI (36), vR (r_o_169), vR (r_o_611), vI (1), vJ (((q0 &&& (((15 : Int64) <<< (((60 : Int32) - ((4 : Int32) * (own_dix_f (Int32.ofNat pp)))) &&& 0x3f).toInt64) ^^^ (-1 : Int64))) ||| (((own_hxv_f cv).toInt64) <<< (((60 : Int32) - ((4 : Int32) * (own_dix_f (Int32.ofNat pp)))) &&& 0x3f).toInt64))), s_, vJ (q1), s_, vI ((own_hxv_f cv)), vI ((own_dix_f (Int32.ofNat pp))), vI (((60 : Int32) - ((4 : Int32) * (own_dix_f (Int32.ofNat pp)))))] [(.long q1), (.long q1)] _
        refine XS.lcmp X718.here hx rfl (hb hby at_329) rfl ?_
        show SS p e below m T718 330 #[vJ (q0), s_, vJ (q1), s_, vI (p2), vI (p3), vI (p4), vI (1), vI ((Int32.ofNat pp)), vI (cv), vI (36), vR (r_o_169), vR (r_o_611), vI (1), vJ (((q0 &&& (((15 : Int64) <<< (((60 : Int32) - ((4 : Int32) * (own_dix_f (Int32.ofNat pp)))) &&& 0x3f).toInt64) ^^^ (-1 : Int64))) ||| (((own_hxv_f cv).toInt64) <<< (((60 : Int32) - ((4 : Int32) * (own_dix_f (Int32.ofNat pp)))) &&& 0x3f).toInt64))), s_, vJ (q1), s_, vI ((own_hxv_f cv)), vI ((own_dix_f (Int32.ofNat pp))), vI (((60 : Int32) - ((4 : Int32) * (own_dix_f (Int32.ofNat pp)))))] [(.int (lcmpW q1 q1))] _
        refine zifNo X718 hx hby at_330 ((if0 _ _).trans (teq (own_lcEq.mpr (rfl : q1 = q1))).2) ?_
        refine ziconst X718 hx hby (1) at_333 rfl ?_
        refine zgoto X718 hx hby 334 338 rfl at_334 (by decide) (by decide) ?_
        exact retN X718 hx (t := .boolean) Bd.returns (by simp) (hb hby at_338) hr
      · show Qown_law Z q0 q1 p2 p3 p4 cs u_f e_o h0 n0 _ T718.heap _
        rw [eh718]
        exact ⟨rfl, N719⟩
    · obtain ⟨x725_0, x725_1, x725_2, x725_3⟩ := hs196
      obtain ⟨T727, h727, X727, e727, E727, A727, D727, -, st727⟩ := newO X185 hx hZ hown (hw _ (gm 26 rfl)) (hw _ (gm 27 rfl)) (hw _ (gm 28 rfl)) e185 (g := (mkF m 88 #[vJ (q0), s_, vJ (q1), s_, vI (p2), vI (p3), vI (p4), vI (1), vI ((Int32.ofNat pp)), vI (cv), vI (36), vR (r_o_169), u_, u_, u_, u_, u_, u_, u_, u_, u_] [])) rfl (hb hby at_88) (by decide) (by decide)
      obtain ⟨b727, g727⟩ : ∃ z, z = h185.size := ⟨_, rfl⟩
      rw [← g727] at A727 D727 st727
      have Ge731 : n0 ≤ b727 := Nat.le_trans Zs188 (Nat.le_of_eq g727.symm)
      have Zs734 : n0 ≤ h727.size := (Nat.le_trans Zs188 E727.1)
      have F727_coder : Fld Z h727 b727 "java/lang/String" "coder" "B" (.int 0) := D727 (Or.inr (hw _ (gm 52 rfl))) (ty := .byte) (by decide)
      have F727_value : Fld Z h727 b727 "java/lang/String" "value" "[B" .null := D727 (Or.inr (hw _ (gm 54 rfl))) (ty := (.array .byte)) (by decide)
      have Fq739 : Arv Z h727 r_o_169 k_r_169 .char (36 : Int32) (own_cl 36 (own_st (own_dr q0 q1) pp cv)) (.int 0) := (Vc191.ext E727)
      have Fq740 : Old Z n0 h727 := (((hO.keep K169 all0).wr W185 Ge172).ext E727)
      obtain ⟨_, _, ⟨T738, L738, k738, n738⟩, -, X738, ⟨Lc738, hQ738, l738, y738, z738⟩, st738⟩ := X727.specialBack hx (y := y_18) rfl hown (mvT hZ (hw _ (gm 29 rfl))) (mvT hZ (hw _ (gm 30 rfl))) (mvT hZ (hw _ (gm 31 rfl))) (by decide) (backOf (W := 1) (own_initCL l Z a0 hw [] b727 .null (.int 0) r_o_169 k_r_169 (own_st (own_dr q0 q1) pp cv) (36 : Int32) 36 cs h727 n0 Zs734 A727 F727_value F727_coder Ge731 Fq739 (fun j _ => own_st255 (own_dr255 q0 q1) x725_3 j) (by first | assumption | decide : (36 : Int32) = Int32.ofNat 36) (by first | assumption | decide : 36 ≤ 37) (by first | assumption | decide : ¬ (36 : Int32) = (0 : Int32)) Fq740 hS hcs) hZ (hw _ (gm 31 rfl)) (hw _ (gm 28 rfl)) (by decide) (by decide)) (g := (mkF m 94 #[vJ (q0), s_, vJ (q1), s_, vI (p2), vI (p3), vI (p4), vI (1), vI ((Int32.ofNat pp)), vI (cv), vI (36), vR (r_o_169), u_, u_, u_, u_, u_, u_, u_, u_, u_] [(.ref r_o_169), (.ref b727), (.ref b727)])) rfl (by rw [hml]; rfl) (Steps.refl _) (a := b727) (argsL := [(.ref r_o_169)]) (rest := [(.ref b727)]) (lenOf own_pd27 rfl) rfl (by show 2 * 0 + _ ≤ _; exact Nat.le_of_eq rfl) (hb hby at_94) (fun _ _ => ⟨rfl, e727, (by decide : 2 + 1 ≤ _), (by decide : 41 + 37 ≤ _)⟩)
      dsimp only [Pt.U, Pt.locs, Pt.cells, Pt.slots] at X738 l738 y738 z738 st738 hQ738
      rw [l738, y738, z738] at X738
      obtain ⟨r_o_738, k_r_738, rfl, Nq738, sz738_r_o, K738, Pf738_0, Pf738_1, Pf738_2⟩ := hQ738
      have N741 := Fr.app N189 Nq738
      have Zs749 : n0 ≤ T738.heap.size := Nat.le_trans Zs734 K738.1
      have Fq752 : Exa Z T738.heap b727 "java/lang/String" := (A727.keep K738)
      have Fq753 : Old Z n0 T738.heap := (Fq740.keep K738 (allS Ge731 all0))
      obtain ⟨_, _, ⟨T751, L751, k751, n751⟩, -, X751, ⟨Lc751, hQ751, l751, y751, z751⟩, st751⟩ := Jvm.LawKit.callS X738 hx (y := y_39) hown (mvT hZ (hw _ (gm 55 rfl))) (mvT hZ (hw _ (gm 56 rfl))) (mvT hZ (hw _ (gm 57 rfl))) (mvT hZ (hw _ (gm 58 rfl))) (by decide) (backOf (W := 0) (own_prSL l Z a0 hw [] b727 r_o_738 k_r_738 (own_st (own_dr q0 q1) pp cv) cs e_o u_f q0 (own_put q1 (own_hxv_f cv) (((60 : Int32) - ((4 : Int32) * ((own_dix_f (Int32.ofNat pp)) - (16 : Int32)))) &&& 0x3f).toInt64) T738.heap n0 Zs749 Fq752 Pf738_0 Pf738_1 Pf738_2 Fq753 hS hcs hSe (fun j _ => own_st255 (own_dr255 q0 q1) x725_3 j) (own_stN (own_drN q0 q1) hcv) hSf hf (own_L7 q0 q1 pp cv hpp x725_0 x725_1 x725_2)) hZ (hw _ (gm 58 rfl)) (hw _ (gm 57 rfl)) (by decide) (by decide)) (g := (mkF m 97 #[vJ (q0), s_, vJ (q1), s_, vI (p2), vI (p3), vI (p4), vI (1), vI ((Int32.ofNat pp)), vI (cv), vI (36), vR (r_o_169), u_, u_, u_, u_, u_, u_, u_, u_, u_] [(.ref b727)])) rfl (by rw [hml]; rfl) (argsL := [(.ref b727)]) (rest := []) (lenOf own_pd28 rfl) rfl (by show 2 * 0 + _ ≤ _; exact Nat.le_of_eq rfl) (hb hby at_97) (fun _ _ => ⟨rfl, rfl, (by decide : 3 + 2 ≤ _), (by decide : 78 + 3 ≤ _)⟩)
      dsimp only [Pt.U, Pt.locs, Pt.cells, Pt.slots] at X751 l751 y751 z751 st751 hQ751
      rw [l751, y751, z751] at X751
      obtain ⟨r_o_751, w_o_751, rfl, Nq751, sz751_r_o, sz751_w_o, K751, Pf751_0, Pf751_1, Pf751_2, Pf751_3, Pf751_4⟩ := hQ751
      have N754 := Fr.app N741 Nq751
      have Zs770 : n0 ≤ T751.heap.size := Nat.le_trans Zs749 K751.1
      obtain ⟨_, _, ⟨T789, L789, k789, n789⟩, -, X789, ⟨Lc789, hQ789, l789, y789, z789⟩, st789⟩ := Jvm.LawKit.callS X751 hx (y := y_0) hown (mvT hZ (hw _ (gm 13 rfl))) (mvT hZ (hw _ (gm 14 rfl))) (mvT hZ (hw _ (gm 4 rfl))) (mvT hZ (hw _ (gm 15 rfl))) (by decide) (backOf (W := 0) (own_isd l Z a0 hw [] (Int32.ofNat pp) T751.heap n0 Zs770 ) hZ (hw _ (gm 15 rfl)) (hw _ (gm 4 rfl)) (by decide) (by decide)) (g := (mkF m 145 #[vJ (q0), s_, vJ (q1), s_, vI (p2), vI (p3), vI (p4), vI (1), vI ((Int32.ofNat pp)), vI (cv), vI (36), vR (r_o_169), vR (r_o_751), vI (1), vJ (q0), s_, vJ (q1), s_, u_, u_, u_] [(.int (Int32.ofNat pp))])) rfl (by rw [hml]; rfl) (argsL := [(.int (Int32.ofNat pp))]) (rest := []) (lenOf own_pd1 rfl) rfl (by show 2 * 0 + _ ≤ _; exact Nat.le_of_eq rfl) (hb hby at_145) (fun _ _ => ⟨rfl, rfl, (by decide : 5 + 0 ≤ _), (by decide : 81 + 0 ≤ _)⟩)
      dsimp only [Pt.U, Pt.locs, Pt.cells, Pt.slots] at X789 l789 y789 z789 st789 hQ789
      rw [l789, y789, z789] at X789
      obtain ⟨rfl, Nq789, eh789⟩ := hQ789
      have N790 := Fr.app N754 Nq789
      obtain ⟨_, _, ⟨T794, L794, k794, n794⟩, -, X794, ⟨Lc794, hQ794, l794, y794, z794⟩, st794⟩ := Jvm.LawKit.callS X789 hx (y := y_5) hown (mvT hZ (hw _ (gm 181 rfl))) (mvT hZ (hw _ (gm 182 rfl))) (mvT hZ (hw _ (gm 4 rfl))) (mvT hZ (hw _ (gm 183 rfl))) (by decide) (backOf (W := 0) (own_hxv l Z a0 hw [] cv T751.heap n0 Zs770 ) hZ (hw _ (gm 183 rfl)) (hw _ (gm 4 rfl)) (by decide) (by decide)) (g := (mkF m 170 #[vJ (q0), s_, vJ (q1), s_, vI (p2), vI (p3), vI (p4), vI (1), vI ((Int32.ofNat pp)), vI (cv), vI (36), vR (r_o_169), vR (r_o_751), vI (1), vJ (q0), s_, vJ (q1), s_, u_, u_, u_] [(.int cv)])) rfl (by rw [hml]; rfl) (argsL := [(.int cv)]) (rest := []) (lenOf own_pd23 rfl) rfl (by show 2 * 0 + _ ≤ _; exact Nat.le_of_eq rfl) (hb hby at_170) (fun _ _ => ⟨rfl, eh789, (by decide : 5 + 0 ≤ _), (by decide : 81 + 0 ≤ _)⟩)
      dsimp only [Pt.U, Pt.locs, Pt.cells, Pt.slots] at X794 l794 y794 z794 st794 hQ794
      rw [l794, y794, z794] at X794
      obtain ⟨rfl, Nq794, eh794⟩ := hQ794
      have N795 := Fr.app N790 Nq794
      obtain ⟨_, _, ⟨T806, L806, k806, n806⟩, -, X806, ⟨Lc806, hQ806, l806, y806, z806⟩, st806⟩ := Jvm.LawKit.callS X794 hx (y := y_1) hown (mvT hZ (hw _ (gm 16 rfl))) (mvT hZ (hw _ (gm 17 rfl))) (mvT hZ (hw _ (gm 4 rfl))) (mvT hZ (hw _ (gm 18 rfl))) (by decide) (backOf (W := 0) (own_dix l Z a0 hw [] (Int32.ofNat pp) T751.heap n0 Zs770 ) hZ (hw _ (gm 18 rfl)) (hw _ (gm 4 rfl)) (by decide) (by decide)) (g := (mkF m 194 #[vJ (q0), s_, vJ (q1), s_, vI (p2), vI (p3), vI (p4), vI (1), vI ((Int32.ofNat pp)), vI (cv), vI (36), vR (r_o_169), vR (r_o_751), vI (1), vJ (q0), s_, vJ (q1), s_, vI ((own_hxv_f cv)), u_, u_] [(.int (Int32.ofNat pp))])) rfl (by rw [hml]; rfl) (argsL := [(.int (Int32.ofNat pp))]) (rest := []) (lenOf own_pd2 rfl) rfl (by show 2 * 0 + _ ≤ _; exact Nat.le_of_eq rfl) (hb hby at_194) (fun _ _ => ⟨rfl, eh794, (by decide : 5 + 0 ≤ _), (by decide : 81 + 0 ≤ _)⟩)
      dsimp only [Pt.U, Pt.locs, Pt.cells, Pt.slots] at X806 l806 y806 z806 st806 hQ806
      rw [l806, y806, z806] at X806
      obtain ⟨rfl, Nq806, eh806⟩ := hQ806
      have N807 := Fr.app N795 Nq806
      obtain ⟨cq837, kq837, q837a, q837b, q837c⟩ := isOf hZ eh806 Pf751_0
      obtain ⟨_, _, ⟨T837, L837, k837, n837⟩, -, X837, ⟨Lc837, hQ837, l837, y837, z837⟩, st837⟩ := X806.virtualBack hx (y := y_34) (z := y_34) hown (mvT hZ (hw _ (gm 126 rfl))) (mvT hZ (hw _ (gm 127 rfl))) (notFace_of_selects (args := #[]) (mvT hZ (hw _ (gm 129 rfl)))) (mvT hZ (hw _ (gm 129 rfl))) (mvT hZ (hw _ (gm 128 rfl))) (by decide) (backOf (W := 0) (own_ipS l Z a0 hw [] r_o_751 w_o_751 T751.heap n0 Zs770 Pf751_0 Pf751_1) hZ (hw _ (gm 130 rfl)) (hw _ (gm 111 rfl)) (by decide) (by decide)) q837a q837c (g := (mkF m 293 #[vJ (q0), s_, vJ (q1), s_, vI (p2), vI (p3), vI (p4), vI (1), vI ((Int32.ofNat pp)), vI (cv), vI (36), vR (r_o_169), vR (r_o_751), vI (1), vJ (q0), s_, vJ (((q1 &&& (((15 : Int64) <<< (((60 : Int32) - ((4 : Int32) * ((own_dix_f (Int32.ofNat pp)) - (16 : Int32)))) &&& 0x3f).toInt64) ^^^ (-1 : Int64))) ||| (((own_hxv_f cv).toInt64) <<< (((60 : Int32) - ((4 : Int32) * ((own_dix_f (Int32.ofNat pp)) - (16 : Int32)))) &&& 0x3f).toInt64))), s_, vI ((own_hxv_f cv)), vI ((own_dix_f (Int32.ofNat pp))), vI (((60 : Int32) - ((4 : Int32) * ((own_dix_f (Int32.ofNat pp)) - (16 : Int32)))))] [(.ref r_o_751)])) rfl (by rw [hml]; rfl) (Steps.refl _) (argsL := []) (rest := []) (lenOf own_pd17 rfl) rfl (by show 2 * 0 + _ ≤ _; exact Nat.le_of_eq rfl) (hb hby at_293) (fun _ _ => ⟨rfl, eh806, (by decide : 5 + 0 ≤ _), (by decide : 81 + 0 ≤ _)⟩)
      dsimp only [Pt.U, Pt.locs, Pt.cells, Pt.slots] at X837 l837 y837 z837 st837 hQ837
      rw [l837, y837, z837] at X837
      obtain ⟨rfl, Nq837, eh837⟩ := hQ837
      have N838 := Fr.app N807 Nq837
      obtain ⟨cq842, kq842, q842a, q842b, q842c⟩ := isOf hZ eh837 Pf751_0
      obtain ⟨_, _, ⟨T842, L842, k842, n842⟩, -, X842, ⟨Lc842, hQ842, l842, y842, z842⟩, st842⟩ := X837.virtualBack hx (y := y_35) (z := y_35) hown (mvT hZ (hw _ (gm 131 rfl))) (mvT hZ (hw _ (gm 132 rfl))) (notFace_of_selects (args := #[]) (mvT hZ (hw _ (gm 134 rfl)))) (mvT hZ (hw _ (gm 134 rfl))) (mvT hZ (hw _ (gm 133 rfl))) (by decide) (backOf (W := 0) (own_get l Z a0 hw [] r_o_751 w_o_751 T751.heap n0 Zs770 Pf751_0 Pf751_1) hZ (hw _ (gm 135 rfl)) (hw _ (gm 111 rfl)) (by decide) (by decide)) q842a q842c (g := (mkF m 301 #[vJ (q0), s_, vJ (q1), s_, vI (p2), vI (p3), vI (p4), vI (1), vI ((Int32.ofNat pp)), vI (cv), vI (36), vR (r_o_169), vR (r_o_751), vI (1), vJ (q0), s_, vJ (((q1 &&& (((15 : Int64) <<< (((60 : Int32) - ((4 : Int32) * ((own_dix_f (Int32.ofNat pp)) - (16 : Int32)))) &&& 0x3f).toInt64) ^^^ (-1 : Int64))) ||| (((own_hxv_f cv).toInt64) <<< (((60 : Int32) - ((4 : Int32) * ((own_dix_f (Int32.ofNat pp)) - (16 : Int32)))) &&& 0x3f).toInt64))), s_, vI ((own_hxv_f cv)), vI ((own_dix_f (Int32.ofNat pp))), vI (((60 : Int32) - ((4 : Int32) * ((own_dix_f (Int32.ofNat pp)) - (16 : Int32)))))] [(.ref r_o_751)])) rfl (by rw [hml]; rfl) (Steps.refl _) (argsL := []) (rest := []) (lenOf own_pd29 rfl) rfl (by show 2 * 0 + _ ≤ _; exact Nat.le_of_eq rfl) (hb hby at_301) (fun _ _ => ⟨rfl, eh837, (by decide : 5 + 0 ≤ _), (by decide : 81 + 0 ≤ _)⟩)
      dsimp only [Pt.U, Pt.locs, Pt.cells, Pt.slots] at X842 l842 y842 z842 st842 hQ842
      rw [l842, y842, z842] at X842
      obtain ⟨rfl, Nq842, eh842⟩ := hQ842
      have N843 := Fr.app N838 Nq842
      obtain ⟨T845, X845, e845, st845⟩ := castY X842 hx hZ hown (hw _ (gm 136 rfl)) eh842 (Ins.self Pf751_2) (g := (mkF m 304 #[vJ (q0), s_, vJ (q1), s_, vI (p2), vI (p3), vI (p4), vI (1), vI ((Int32.ofNat pp)), vI (cv), vI (36), vR (r_o_169), vR (r_o_751), vI (1), vJ (q0), s_, vJ (((q1 &&& (((15 : Int64) <<< (((60 : Int32) - ((4 : Int32) * ((own_dix_f (Int32.ofNat pp)) - (16 : Int32)))) &&& 0x3f).toInt64) ^^^ (-1 : Int64))) ||| (((own_hxv_f cv).toInt64) <<< (((60 : Int32) - ((4 : Int32) * ((own_dix_f (Int32.ofNat pp)) - (16 : Int32)))) &&& 0x3f).toInt64))), s_, vI ((own_hxv_f cv)), vI ((own_dix_f (Int32.ofNat pp))), vI (((60 : Int32) - ((4 : Int32) * ((own_dix_f (Int32.ofNat pp)) - (16 : Int32)))))] [(.ref w_o_751)])) rfl rfl (hb hby at_304)
      obtain ⟨cq847, kq847, q847a, q847b, q847c⟩ := isOf hZ e845 Pf751_2
      obtain ⟨_, _, ⟨T847, L847, k847, n847⟩, -, X847, ⟨Lc847, hQ847, l847, y847, z847⟩, st847⟩ := X845.virtualBack hx (y := y_36) (z := y_36) hown (mvT hZ (hw _ (gm 138 rfl))) (mvT hZ (hw _ (gm 139 rfl))) (notFace_of_selects (args := #[]) (mvT hZ (hw _ (gm 141 rfl)))) (mvT hZ (hw _ (gm 141 rfl))) (mvT hZ (hw _ (gm 140 rfl))) (by decide) (backOf (W := 0) (own_g_high l Z a0 hw [] w_o_751 q0 T751.heap n0 Zs770 Pf751_2 Pf751_3) hZ (hw _ (gm 142 rfl)) (hw _ (gm 57 rfl)) (by decide) (by decide)) q847a q847c (g := (mkF m 307 #[vJ (q0), s_, vJ (q1), s_, vI (p2), vI (p3), vI (p4), vI (1), vI ((Int32.ofNat pp)), vI (cv), vI (36), vR (r_o_169), vR (r_o_751), vI (1), vJ (q0), s_, vJ (((q1 &&& (((15 : Int64) <<< (((60 : Int32) - ((4 : Int32) * ((own_dix_f (Int32.ofNat pp)) - (16 : Int32)))) &&& 0x3f).toInt64) ^^^ (-1 : Int64))) ||| (((own_hxv_f cv).toInt64) <<< (((60 : Int32) - ((4 : Int32) * ((own_dix_f (Int32.ofNat pp)) - (16 : Int32)))) &&& 0x3f).toInt64))), s_, vI ((own_hxv_f cv)), vI ((own_dix_f (Int32.ofNat pp))), vI (((60 : Int32) - ((4 : Int32) * ((own_dix_f (Int32.ofNat pp)) - (16 : Int32)))))] [(.ref w_o_751)])) rfl (by rw [hml]; rfl) (Steps.refl _) (argsL := []) (rest := []) (lenOf own_pd30 rfl) rfl (by show 2 * 0 + _ ≤ _; exact Nat.le_of_eq rfl) (hb hby at_307) (fun _ _ => ⟨rfl, e845, (by decide : 5 + 0 ≤ _), (by decide : 81 + 0 ≤ _)⟩)
      dsimp only [Pt.U, Pt.locs, Pt.cells, Pt.slots] at X847 l847 y847 z847 st847 hQ847
      rw [l847, y847, z847] at X847
      obtain ⟨rfl, Nq847, eh847⟩ := hQ847
      have N848 := Fr.app N843 Nq847
      obtain ⟨cq854, kq854, q854a, q854b, q854c⟩ := isOf hZ eh847 Pf751_0
      obtain ⟨_, _, ⟨T854, L854, k854, n854⟩, -, X854, ⟨Lc854, hQ854, l854, y854, z854⟩, st854⟩ := X847.virtualBack hx (y := y_35) (z := y_35) hown (mvT hZ (hw _ (gm 131 rfl))) (mvT hZ (hw _ (gm 132 rfl))) (notFace_of_selects (args := #[]) (mvT hZ (hw _ (gm 134 rfl)))) (mvT hZ (hw _ (gm 134 rfl))) (mvT hZ (hw _ (gm 133 rfl))) (by decide) (backOf (W := 0) (own_get l Z a0 hw [] r_o_751 w_o_751 T751.heap n0 Zs770 Pf751_0 Pf751_1) hZ (hw _ (gm 135 rfl)) (hw _ (gm 111 rfl)) (by decide) (by decide)) q854a q854c (g := (mkF m 318 #[vJ (q0), s_, vJ (q1), s_, vI (p2), vI (p3), vI (p4), vI (1), vI ((Int32.ofNat pp)), vI (cv), vI (36), vR (r_o_169), vR (r_o_751), vI (1), vJ (q0), s_, vJ (((q1 &&& (((15 : Int64) <<< (((60 : Int32) - ((4 : Int32) * ((own_dix_f (Int32.ofNat pp)) - (16 : Int32)))) &&& 0x3f).toInt64) ^^^ (-1 : Int64))) ||| (((own_hxv_f cv).toInt64) <<< (((60 : Int32) - ((4 : Int32) * ((own_dix_f (Int32.ofNat pp)) - (16 : Int32)))) &&& 0x3f).toInt64))), s_, vI ((own_hxv_f cv)), vI ((own_dix_f (Int32.ofNat pp))), vI (((60 : Int32) - ((4 : Int32) * ((own_dix_f (Int32.ofNat pp)) - (16 : Int32)))))] [(.ref r_o_751)])) rfl (by rw [hml]; rfl) (Steps.refl _) (argsL := []) (rest := []) (lenOf own_pd29 rfl) rfl (by show 2 * 0 + _ ≤ _; exact Nat.le_of_eq rfl) (hb hby at_318) (fun _ _ => ⟨rfl, eh847, (by decide : 5 + 0 ≤ _), (by decide : 81 + 0 ≤ _)⟩)
      dsimp only [Pt.U, Pt.locs, Pt.cells, Pt.slots] at X854 l854 y854 z854 st854 hQ854
      rw [l854, y854, z854] at X854
      obtain ⟨rfl, Nq854, eh854⟩ := hQ854
      have N855 := Fr.app N848 Nq854
      obtain ⟨T857, X857, e857, st857⟩ := castY X854 hx hZ hown (hw _ (gm 136 rfl)) eh854 (Ins.self Pf751_2) (g := (mkF m 321 #[vJ (q0), s_, vJ (q1), s_, vI (p2), vI (p3), vI (p4), vI (1), vI ((Int32.ofNat pp)), vI (cv), vI (36), vR (r_o_169), vR (r_o_751), vI (1), vJ (q0), s_, vJ (((q1 &&& (((15 : Int64) <<< (((60 : Int32) - ((4 : Int32) * ((own_dix_f (Int32.ofNat pp)) - (16 : Int32)))) &&& 0x3f).toInt64) ^^^ (-1 : Int64))) ||| (((own_hxv_f cv).toInt64) <<< (((60 : Int32) - ((4 : Int32) * ((own_dix_f (Int32.ofNat pp)) - (16 : Int32)))) &&& 0x3f).toInt64))), s_, vI ((own_hxv_f cv)), vI ((own_dix_f (Int32.ofNat pp))), vI (((60 : Int32) - ((4 : Int32) * ((own_dix_f (Int32.ofNat pp)) - (16 : Int32)))))] [(.ref w_o_751)])) rfl rfl (hb hby at_321)
      obtain ⟨cq859, kq859, q859a, q859b, q859c⟩ := isOf hZ e857 Pf751_2
      obtain ⟨_, _, ⟨T859, L859, k859, n859⟩, -, X859, ⟨Lc859, hQ859, l859, y859, z859⟩, st859⟩ := X857.virtualBack hx (y := y_37) (z := y_37) hown (mvT hZ (hw _ (gm 143 rfl))) (mvT hZ (hw _ (gm 144 rfl))) (notFace_of_selects (args := #[]) (mvT hZ (hw _ (gm 146 rfl)))) (mvT hZ (hw _ (gm 146 rfl))) (mvT hZ (hw _ (gm 145 rfl))) (by decide) (backOf (W := 0) (own_g_low l Z a0 hw [] w_o_751 (own_put q1 (own_hxv_f cv) (((60 : Int32) - ((4 : Int32) * ((own_dix_f (Int32.ofNat pp)) - (16 : Int32)))) &&& 0x3f).toInt64) T751.heap n0 Zs770 Pf751_2 Pf751_4) hZ (hw _ (gm 147 rfl)) (hw _ (gm 57 rfl)) (by decide) (by decide)) q859a q859c (g := (mkF m 324 #[vJ (q0), s_, vJ (q1), s_, vI (p2), vI (p3), vI (p4), vI (1), vI ((Int32.ofNat pp)), vI (cv), vI (36), vR (r_o_169), vR (r_o_751), vI (1), vJ (q0), s_, vJ (((q1 &&& (((15 : Int64) <<< (((60 : Int32) - ((4 : Int32) * ((own_dix_f (Int32.ofNat pp)) - (16 : Int32)))) &&& 0x3f).toInt64) ^^^ (-1 : Int64))) ||| (((own_hxv_f cv).toInt64) <<< (((60 : Int32) - ((4 : Int32) * ((own_dix_f (Int32.ofNat pp)) - (16 : Int32)))) &&& 0x3f).toInt64))), s_, vI ((own_hxv_f cv)), vI ((own_dix_f (Int32.ofNat pp))), vI (((60 : Int32) - ((4 : Int32) * ((own_dix_f (Int32.ofNat pp)) - (16 : Int32)))))] [(.ref w_o_751)])) rfl (by rw [hml]; rfl) (Steps.refl _) (argsL := []) (rest := []) (lenOf own_pd30 rfl) rfl (by show 2 * 0 + _ ≤ _; exact Nat.le_of_eq rfl) (hb hby at_324) (fun _ _ => ⟨rfl, e857, (by decide : 5 + 0 ≤ _), (by decide : 81 + 0 ≤ _)⟩)
      dsimp only [Pt.U, Pt.locs, Pt.cells, Pt.slots] at X859 l859 y859 z859 st859 hQ859
      rw [l859, y859, z859] at X859
      obtain ⟨rfl, Nq859, eh859⟩ := hQ859
      have N860 := Fr.app N855 Nq859
      obtain ⟨fs, hr, hrun, hended, hW, hsame⟩ := X859.leave (v := some (.int 1)) (fun h => by rw [Bd.returns] at h; cases h) (hlocks := BodyLoose.notSynchronized Bd)
      refine ⟨_, _, pre195 _ ?_, hrun, hended, _, _, rfl, ?_, ⟨_, rfl⟩, hW, hsame.mono (by decide) (by decide)⟩
      · show SS p e below m T185 88 #[vJ (q0), s_, vJ (q1), s_, vI (p2), vI (p3), vI (p4), vI (1), vI ((Int32.ofNat pp)), vI (cv), vI (36), vR (r_o_169), u_, u_, u_, u_, u_, u_, u_, u_, u_] [] _
        show SS p e below m T185 88 #[vJ (q0), s_, vJ (q1), s_, vI (p2), vI (p3), vI (p4), vI (1), vI ((Int32.ofNat pp)), vI (cv), vI (36), vR (r_o_169), u_, u_, u_, u_, u_, u_, u_, u_, u_] [] _
        refine st727 _ ?_
        show SS p e below m T727 91 #[vJ (q0), s_, vJ (q1), s_, vI (p2), vI (p3), vI (p4), vI (1), vI ((Int32.ofNat pp)), vI (cv), vI (36), vR (r_o_169), u_, u_, u_, u_, u_, u_, u_, u_, u_] [(.ref b727)] _
        refine XS.dup X727.here hx rfl (hb hby at_91) rfl rfl ?_
        show SS p e below m T727 92 #[vJ (q0), s_, vJ (q1), s_, vI (p2), vI (p3), vI (p4), vI (1), vI ((Int32.ofNat pp)), vI (cv), vI (36), vR (r_o_169), u_, u_, u_, u_, u_, u_, u_, u_, u_] [(.ref b727), (.ref b727)] _
        refine zaload X727 hx hby at_92 rfl rfl ?_
        refine st738.trans ?_
        refine st751 _ ?_
        refine zastore (l' := #[vJ (q0), s_, vJ (q1), s_, vI (p2), vI (p3), vI (p4), vI (1), vI ((Int32.ofNat pp)), vI (cv), vI (36), vR (r_o_169), vR (r_o_751), u_, u_, u_, u_, u_, u_, u_, u_]) X751 hx hby at_100 rfl rfl ?_
        refine ziload X751 hx hby at_102 rfl ?_
        refine ziconst X751 hx hby (2) at_104 rfl ?_
        refine zicmpNo X751 hx hby at_105 (feq ((by decide) : ¬ ((1 : Int32) = (2 : Int32)))).1 ?_
        refine ziload X751 hx hby at_108 rfl ?_
        refine ziconst X751 hx hby (3) at_110 rfl ?_
        refine zicmpYes X751 hx hby 111 128 rfl at_111 (feq ((by decide) : ¬ ((1 : Int32) = (3 : Int32)))).2 (by decide) (by decide) ?_
        refine ziconst X751 hx hby (1) at_128 rfl ?_
        refine zistore (l' := #[vJ (q0), s_, vJ (q1), s_, vI (p2), vI (p3), vI (p4), vI (1), vI ((Int32.ofNat pp)), vI (cv), vI (36), vR (r_o_169), vR (r_o_751), vI (1), u_, u_, u_, u_, u_, u_, u_]) X751 hx hby at_129 rfl ?_
        show SS p e below m T751 131 #[vJ (q0), s_, vJ (q1), s_, vI (p2), vI (p3), vI (p4), vI (1), vI ((Int32.ofNat pp)), vI (cv), vI (36), vR (r_o_169), vR (r_o_751), vI (1), u_, u_, u_, u_, u_, u_, u_] [] _
        refine zlloadN X751 hx hby at_131 rfl ?_
        refine zlstore (l' := #[vJ (q0), s_, vJ (q1), s_, vI (p2), vI (p3), vI (p4), vI (1), vI ((Int32.ofNat pp)), vI (cv), vI (36), vR (r_o_169), vR (r_o_751), vI (1), vJ (q0), s_, u_, u_, u_, u_, u_]) X751 hx hby at_132 rfl ?_
        refine zlloadN X751 hx hby at_134 rfl ?_
        refine zlstore (l' := #[vJ (q0), s_, vJ (q1), s_, vI (p2), vI (p3), vI (p4), vI (1), vI ((Int32.ofNat pp)), vI (cv), vI (36), vR (r_o_169), vR (r_o_751), vI (1), vJ (q0), s_, vJ (q1), s_, u_, u_, u_]) X751 hx hby at_135 rfl ?_
        refine ziload X751 hx hby at_137 rfl ?_
        refine ziconst X751 hx hby (1) at_139 rfl ?_
        refine zicmpNo X751 hx hby at_140 (teq ((by decide) : (1 : Int32) = (1 : Int32))).2 ?_
        refine ziload X751 hx hby at_143 rfl ?_
        refine st789 _ ?_
        refine zifYes X789 hx hby 148 168 rfl at_148 ((if0 _ _).trans (teq (x725_0 : (own_isd_f (Int32.ofNat pp)) = (0 : Int32))).1) (by decide) (by decide) ?_
        refine ziload X789 hx hby at_168 rfl ?_
        refine st794 _ ?_
        show SS p e below m T794 173 #[vJ (q0), s_, vJ (q1), s_, vI (p2), vI (p3), vI (p4), vI (1), vI ((Int32.ofNat pp)), vI (cv), vI (36), vR (r_o_169), vR (r_o_751), vI (1), vJ (q0), s_, vJ (q1), s_, u_, u_, u_] [(.int (own_hxv_f cv))] _
        refine zistore (l' := #[vJ (q0), s_, vJ (q1), s_, vI (p2), vI (p3), vI (p4), vI (1), vI ((Int32.ofNat pp)), vI (cv), vI (36), vR (r_o_169), vR (r_o_751), vI (1), vJ (q0), s_, vJ (q1), s_, vI ((own_hxv_f cv)), u_, u_]) X794 hx hby at_173 rfl ?_
        refine ziload X794 hx hby at_175 rfl ?_
        refine zifNo X794 hx hby at_177 ((if0 _ _).trans (flt (x725_1 : ¬ ((own_hxv_f cv) < (0 : Int32)))).1) ?_
        refine ziconst X794 hx hby (1) at_180 rfl ?_
        refine zgoto X794 hx hby 181 185 rfl at_181 (by decide) (by decide) ?_
        refine zistore (l' := #[vJ (q0), s_, vJ (q1), s_, vI (p2), vI (p3), vI (p4), vI (1), vI ((Int32.ofNat pp)), vI (cv), vI (36), vR (r_o_169), vR (r_o_751), vI (1), vJ (q0), s_, vJ (q1), s_, vI ((own_hxv_f cv)), u_, u_]) X794 hx hby at_185 rfl ?_
        refine ziload X794 hx hby at_187 rfl ?_
        refine zifNo X794 hx hby at_189 ((if0 _ _).trans (feq ((by decide) : ¬ ((1 : Int32) = (0 : Int32)))).1) ?_
        refine ziload X794 hx hby at_192 rfl ?_
        refine st806 _ ?_
        refine zistore (l' := #[vJ (q0), s_, vJ (q1), s_, vI (p2), vI (p3), vI (p4), vI (1), vI ((Int32.ofNat pp)), vI (cv), vI (36), vR (r_o_169), vR (r_o_751), vI (1), vJ (q0), s_, vJ (q1), s_, vI ((own_hxv_f cv)), vI ((own_dix_f (Int32.ofNat pp))), u_]) X806 hx hby at_197 rfl ?_
        refine ziload X806 hx hby at_199 rfl ?_
        show SS p e below m T806 201 #[vJ (q0), s_, vJ (q1), s_, vI (p2), vI (p3), vI (p4), vI (1), vI ((Int32.ofNat pp)), vI (cv), vI (36), vR (r_o_169), vR (r_o_751), vI (1), vJ (q0), s_, vJ (q1), s_, vI ((own_hxv_f cv)), vI ((own_dix_f (Int32.ofNat pp))), u_] [(.int (own_dix_f (Int32.ofNat pp)))] _
        refine zbipush X806 hx hby (16) at_201 rfl ?_
        refine zicmpYes X806 hx hby 203 239 rfl at_203 (flt (x725_2 : ¬ ((own_dix_f (Int32.ofNat pp)) < (16 : Int32)))).2.1 (by decide) (by decide) ?_
        refine zbipush X806 hx hby (60) at_239 rfl ?_
        refine ziconst X806 hx hby (4) at_241 rfl ?_
        refine ziload X806 hx hby at_242 rfl ?_
        refine zbipush X806 hx hby (16) at_244 rfl ?_
        show SS p e below m T806 246 #[vJ (q0), s_, vJ (q1), s_, vI (p2), vI (p3), vI (p4), vI (1), vI ((Int32.ofNat pp)), vI (cv), vI (36), vR (r_o_169), vR (r_o_751), vI (1), vJ (q0), s_, vJ (q1), s_, vI ((own_hxv_f cv)), vI ((own_dix_f (Int32.ofNat pp))), u_] [(.int 16), (.int (own_dix_f (Int32.ofNat pp))), (.int 4), (.int 60)] _
        refine XS.isub X806.here hx rfl (hb hby at_246) rfl ?_
        show SS p e below m T806 247 #[vJ (q0), s_, vJ (q1), s_, vI (p2), vI (p3), vI (p4), vI (1), vI ((Int32.ofNat pp)), vI (cv), vI (36), vR (r_o_169), vR (r_o_751), vI (1), vJ (q0), s_, vJ (q1), s_, vI ((own_hxv_f cv)), vI ((own_dix_f (Int32.ofNat pp))), u_] [(.int ((own_dix_f (Int32.ofNat pp)) - (16 : Int32))), (.int 4), (.int 60)] _
        refine XS.imul X806.here hx rfl (hb hby at_247) rfl ?_
        show SS p e below m T806 248 #[vJ (q0), s_, vJ (q1), s_, vI (p2), vI (p3), vI (p4), vI (1), vI ((Int32.ofNat pp)), vI (cv), vI (36), vR (r_o_169), vR (r_o_751), vI (1), vJ (q0), s_, vJ (q1), s_, vI ((own_hxv_f cv)), vI ((own_dix_f (Int32.ofNat pp))), u_] [(.int ((4 : Int32) * ((own_dix_f (Int32.ofNat pp)) - (16 : Int32)))), (.int 60)] _
        refine XS.isub X806.here hx rfl (hb hby at_248) rfl ?_
        show SS p e below m T806 249 #[vJ (q0), s_, vJ (q1), s_, vI (p2), vI (p3), vI (p4), vI (1), vI ((Int32.ofNat pp)), vI (cv), vI (36), vR (r_o_169), vR (r_o_751), vI (1), vJ (q0), s_, vJ (q1), s_, vI ((own_hxv_f cv)), vI ((own_dix_f (Int32.ofNat pp))), u_] [(.int ((60 : Int32) - ((4 : Int32) * ((own_dix_f (Int32.ofNat pp)) - (16 : Int32)))))] _
        refine zistore (l' := #[vJ (q0), s_, vJ (q1), s_, vI (p2), vI (p3), vI (p4), vI (1), vI ((Int32.ofNat pp)), vI (cv), vI (36), vR (r_o_169), vR (r_o_751), vI (1), vJ (q0), s_, vJ (q1), s_, vI ((own_hxv_f cv)), vI ((own_dix_f (Int32.ofNat pp))), vI (((60 : Int32) - ((4 : Int32) * ((own_dix_f (Int32.ofNat pp)) - (16 : Int32)))))]) X806 hx hby at_249 rfl ?_
        refine zlloadN X806 hx hby at_251 rfl ?_
        show SS p e below m T806 252 #[vJ (q0), s_, vJ (q1), s_, vI (p2), vI (p3), vI (p4), vI (1), vI ((Int32.ofNat pp)), vI (cv), vI (36), vR (r_o_169), vR (r_o_751), vI (1), vJ (q0), s_, vJ (q1), s_, vI ((own_hxv_f cv)), vI ((own_dix_f (Int32.ofNat pp))), vI (((60 : Int32) - ((4 : Int32) * ((own_dix_f (Int32.ofNat pp)) - (16 : Int32)))))] [(.long q1)] _
        refine X806.ldc2Long hx hown (mvT hZ (hw _ (gm 22 rfl))) (g := (mkF m 252 #[vJ (q0), s_, vJ (q1), s_, vI (p2), vI (p3), vI (p4), vI (1), vI ((Int32.ofNat pp)), vI (cv), vI (36), vR (r_o_169), vR (r_o_751), vI (1), vJ (q0), s_, vJ (q1), s_, vI ((own_hxv_f cv)), vI ((own_dix_f (Int32.ofNat pp))), vI (((60 : Int32) - ((4 : Int32) * ((own_dix_f (Int32.ofNat pp)) - (16 : Int32)))))] [(.long q1)])) rfl (hb hby at_252) _ ?_
        show SS p e below m T806 255 #[vJ (q0), s_, vJ (q1), s_, vI (p2), vI (p3), vI (p4), vI (1), vI ((Int32.ofNat pp)), vI (cv), vI (36), vR (r_o_169), vR (r_o_751), vI (1), vJ (q0), s_, vJ (q1), s_, vI ((own_hxv_f cv)), vI ((own_dix_f (Int32.ofNat pp))), vI (((60 : Int32) - ((4 : Int32) * ((own_dix_f (Int32.ofNat pp)) - (16 : Int32)))))] [(.long 15), (.long q1)] _
        refine ziload X806 hx hby at_255 rfl ?_
        show SS p e below m T806 257 #[vJ (q0), s_, vJ (q1), s_, vI (p2), vI (p3), vI (p4), vI (1), vI ((Int32.ofNat pp)), vI (cv), vI (36), vR (r_o_169), vR (r_o_751), vI (1), vJ (q0), s_, vJ (q1), s_, vI ((own_hxv_f cv)), vI ((own_dix_f (Int32.ofNat pp))), vI (((60 : Int32) - ((4 : Int32) * ((own_dix_f (Int32.ofNat pp)) - (16 : Int32)))))] [(.int ((60 : Int32) - ((4 : Int32) * ((own_dix_f (Int32.ofNat pp)) - (16 : Int32))))), (.long 15), (.long q1)] _
        refine XS.lshl X806.here hx rfl (hb hby at_257) rfl ?_
        show SS p e below m T806 258 #[vJ (q0), s_, vJ (q1), s_, vI (p2), vI (p3), vI (p4), vI (1), vI ((Int32.ofNat pp)), vI (cv), vI (36), vR (r_o_169), vR (r_o_751), vI (1), vJ (q0), s_, vJ (q1), s_, vI ((own_hxv_f cv)), vI ((own_dix_f (Int32.ofNat pp))), vI (((60 : Int32) - ((4 : Int32) * ((own_dix_f (Int32.ofNat pp)) - (16 : Int32)))))] [(.long ((15 : Int64) <<< (((60 : Int32) - ((4 : Int32) * ((own_dix_f (Int32.ofNat pp)) - (16 : Int32)))) &&& 0x3f).toInt64)), (.long q1)] _
        refine X806.ldc2Long hx hown (mvT hZ (hw _ (gm 184 rfl))) (g := (mkF m 258 #[vJ (q0), s_, vJ (q1), s_, vI (p2), vI (p3), vI (p4), vI (1), vI ((Int32.ofNat pp)), vI (cv), vI (36), vR (r_o_169), vR (r_o_751), vI (1), vJ (q0), s_, vJ (q1), s_, vI ((own_hxv_f cv)), vI ((own_dix_f (Int32.ofNat pp))), vI (((60 : Int32) - ((4 : Int32) * ((own_dix_f (Int32.ofNat pp)) - (16 : Int32)))))] [(.long ((15 : Int64) <<< (((60 : Int32) - ((4 : Int32) * ((own_dix_f (Int32.ofNat pp)) - (16 : Int32)))) &&& 0x3f).toInt64)), (.long q1)])) rfl (hb hby at_258) _ ?_
        show SS p e below m T806 261 #[vJ (q0), s_, vJ (q1), s_, vI (p2), vI (p3), vI (p4), vI (1), vI ((Int32.ofNat pp)), vI (cv), vI (36), vR (r_o_169), vR (r_o_751), vI (1), vJ (q0), s_, vJ (q1), s_, vI ((own_hxv_f cv)), vI ((own_dix_f (Int32.ofNat pp))), vI (((60 : Int32) - ((4 : Int32) * ((own_dix_f (Int32.ofNat pp)) - (16 : Int32)))))] [(.long (-1 : Int64)), (.long ((15 : Int64) <<< (((60 : Int32) - ((4 : Int32) * ((own_dix_f (Int32.ofNat pp)) - (16 : Int32)))) &&& 0x3f).toInt64)), (.long q1)] _
        refine XS.lxor X806.here hx rfl (hb hby at_261) rfl ?_
        show SS p e below m T806 262 #[vJ (q0), s_, vJ (q1), s_, vI (p2), vI (p3), vI (p4), vI (1), vI ((Int32.ofNat pp)), vI (cv), vI (36), vR (r_o_169), vR (r_o_751), vI (1), vJ (q0), s_, vJ (q1), s_, vI ((own_hxv_f cv)), vI ((own_dix_f (Int32.ofNat pp))), vI (((60 : Int32) - ((4 : Int32) * ((own_dix_f (Int32.ofNat pp)) - (16 : Int32)))))] [(.long (((15 : Int64) <<< (((60 : Int32) - ((4 : Int32) * ((own_dix_f (Int32.ofNat pp)) - (16 : Int32)))) &&& 0x3f).toInt64) ^^^ (-1 : Int64))), (.long q1)] _
        refine XS.land X806.here hx rfl (hb hby at_262) rfl ?_
        show SS p e below m T806 263 #[vJ (q0), s_, vJ (q1), s_, vI (p2), vI (p3), vI (p4), vI (1), vI ((Int32.ofNat pp)), vI (cv), vI (36), vR (r_o_169), vR (r_o_751), vI (1), vJ (q0), s_, vJ (q1), s_, vI ((own_hxv_f cv)), vI ((own_dix_f (Int32.ofNat pp))), vI (((60 : Int32) - ((4 : Int32) * ((own_dix_f (Int32.ofNat pp)) - (16 : Int32)))))] [(.long (q1 &&& (((15 : Int64) <<< (((60 : Int32) - ((4 : Int32) * ((own_dix_f (Int32.ofNat pp)) - (16 : Int32)))) &&& 0x3f).toInt64) ^^^ (-1 : Int64))))] _
        refine ziload X806 hx hby at_263 rfl ?_
        show SS p e below m T806 265 #[vJ (q0), s_, vJ (q1), s_, vI (p2), vI (p3), vI (p4), vI (1), vI ((Int32.ofNat pp)), vI (cv), vI (36), vR (r_o_169), vR (r_o_751), vI (1), vJ (q0), s_, vJ (q1), s_, vI ((own_hxv_f cv)), vI ((own_dix_f (Int32.ofNat pp))), vI (((60 : Int32) - ((4 : Int32) * ((own_dix_f (Int32.ofNat pp)) - (16 : Int32)))))] [(.int (own_hxv_f cv)), (.long (q1 &&& (((15 : Int64) <<< (((60 : Int32) - ((4 : Int32) * ((own_dix_f (Int32.ofNat pp)) - (16 : Int32)))) &&& 0x3f).toInt64) ^^^ (-1 : Int64))))] _
        refine XS.i2l X806.here hx rfl (hb hby at_265) rfl ?_
        show SS p e below m T806 266 #[vJ (q0), s_, vJ (q1), s_, vI (p2), vI (p3), vI (p4), vI (1), vI ((Int32.ofNat pp)), vI (cv), vI (36), vR (r_o_169), vR (r_o_751), vI (1), vJ (q0), s_, vJ (q1), s_, vI ((own_hxv_f cv)), vI ((own_dix_f (Int32.ofNat pp))), vI (((60 : Int32) - ((4 : Int32) * ((own_dix_f (Int32.ofNat pp)) - (16 : Int32)))))] [(.long ((own_hxv_f cv).toInt64)), (.long (q1 &&& (((15 : Int64) <<< (((60 : Int32) - ((4 : Int32) * ((own_dix_f (Int32.ofNat pp)) - (16 : Int32)))) &&& 0x3f).toInt64) ^^^ (-1 : Int64))))] _
        refine ziload X806 hx hby at_266 rfl ?_
        show SS p e below m T806 268 #[vJ (q0), s_, vJ (q1), s_, vI (p2), vI (p3), vI (p4), vI (1), vI ((Int32.ofNat pp)), vI (cv), vI (36), vR (r_o_169), vR (r_o_751), vI (1), vJ (q0), s_, vJ (q1), s_, vI ((own_hxv_f cv)), vI ((own_dix_f (Int32.ofNat pp))), vI (((60 : Int32) - ((4 : Int32) * ((own_dix_f (Int32.ofNat pp)) - (16 : Int32)))))] [(.int ((60 : Int32) - ((4 : Int32) * ((own_dix_f (Int32.ofNat pp)) - (16 : Int32))))), (.long ((own_hxv_f cv).toInt64)), (.long (q1 &&& (((15 : Int64) <<< (((60 : Int32) - ((4 : Int32) * ((own_dix_f (Int32.ofNat pp)) - (16 : Int32)))) &&& 0x3f).toInt64) ^^^ (-1 : Int64))))] _
        refine XS.lshl X806.here hx rfl (hb hby at_268) rfl ?_
        show SS p e below m T806 269 #[vJ (q0), s_, vJ (q1), s_, vI (p2), vI (p3), vI (p4), vI (1), vI ((Int32.ofNat pp)), vI (cv), vI (36), vR (r_o_169), vR (r_o_751), vI (1), vJ (q0), s_, vJ (q1), s_, vI ((own_hxv_f cv)), vI ((own_dix_f (Int32.ofNat pp))), vI (((60 : Int32) - ((4 : Int32) * ((own_dix_f (Int32.ofNat pp)) - (16 : Int32)))))] [(.long (((own_hxv_f cv).toInt64) <<< (((60 : Int32) - ((4 : Int32) * ((own_dix_f (Int32.ofNat pp)) - (16 : Int32)))) &&& 0x3f).toInt64)), (.long (q1 &&& (((15 : Int64) <<< (((60 : Int32) - ((4 : Int32) * ((own_dix_f (Int32.ofNat pp)) - (16 : Int32)))) &&& 0x3f).toInt64) ^^^ (-1 : Int64))))] _
        refine XS.lor X806.here hx rfl (hb hby at_269) rfl ?_
        show SS p e below m T806 270 #[vJ (q0), s_, vJ (q1), s_, vI (p2), vI (p3), vI (p4), vI (1), vI ((Int32.ofNat pp)), vI (cv), vI (36), vR (r_o_169), vR (r_o_751), vI (1), vJ (q0), s_, vJ (q1), s_, vI ((own_hxv_f cv)), vI ((own_dix_f (Int32.ofNat pp))), vI (((60 : Int32) - ((4 : Int32) * ((own_dix_f (Int32.ofNat pp)) - (16 : Int32)))))] [(.long ((q1 &&& (((15 : Int64) <<< (((60 : Int32) - ((4 : Int32) * ((own_dix_f (Int32.ofNat pp)) - (16 : Int32)))) &&& 0x3f).toInt64) ^^^ (-1 : Int64))) ||| (((own_hxv_f cv).toInt64) <<< (((60 : Int32) - ((4 : Int32) * ((own_dix_f (Int32.ofNat pp)) - (16 : Int32)))) &&& 0x3f).toInt64)))] _
        refine zlstore (l' := #[vJ (q0), s_, vJ (q1), s_, vI (p2), vI (p3), vI (p4), vI (1), vI ((Int32.ofNat pp)), vI (cv), vI (36), vR (r_o_169), vR (r_o_751), vI (1), vJ (q0), s_, vJ (((q1 &&& (((15 : Int64) <<< (((60 : Int32) - ((4 : Int32) * ((own_dix_f (Int32.ofNat pp)) - (16 : Int32)))) &&& 0x3f).toInt64) ^^^ (-1 : Int64))) ||| (((own_hxv_f cv).toInt64) <<< (((60 : Int32) - ((4 : Int32) * ((own_dix_f (Int32.ofNat pp)) - (16 : Int32)))) &&& 0x3f).toInt64))), s_, vI ((own_hxv_f cv)), vI ((own_dix_f (Int32.ofNat pp))), vI (((60 : Int32) - ((4 : Int32) * ((own_dix_f (Int32.ofNat pp)) - (16 : Int32)))))]) X806 hx hby at_270 rfl ?_
        refine ziload X806 hx hby at_272 rfl ?_
        refine zifYes X806 hx hby 274 291 rfl at_274 ((if0 _ _).trans (feq ((by decide) : ¬ ((1 : Int32) = (0 : Int32)))).2) (by decide) (by decide) ?_
        refine zaload X806 hx hby at_291 rfl rfl ?_
        refine st837.trans ?_
        refine zifNo X837 hx hby at_296 ((if0 _ _).trans (feq ((by decide) : ¬ ((1 : Int32) = (0 : Int32)))).1) ?_
        refine zaload X837 hx hby at_299 rfl rfl ?_
        refine st842.trans ?_
        refine st845 _ ?_
        refine st847.trans ?_
        refine zlload X847 hx hby at_310 rfl ?_
        show SS p e below m T847 312 #[vJ (q0), s_, vJ (q1), s_, vI (p2), vI (p3), vI (p4), vI (1), vI ((Int32.ofNat pp)), vI (cv), vI (36), vR (r_o_169), vR (r_o_751), vI (1), vJ (q0), s_, vJ (((q1 &&& (((15 : Int64) <<< (((60 : Int32) - ((4 : Int32) * ((own_dix_f (Int32.ofNat pp)) - (16 : Int32)))) &&& 0x3f).toInt64) ^^^ (-1 : Int64))) ||| (((own_hxv_f cv).toInt64) <<< (((60 : Int32) - ((4 : Int32) * ((own_dix_f (Int32.ofNat pp)) - (16 : Int32)))) &&& 0x3f).toInt64))), s_, vI ((own_hxv_f cv)), vI ((own_dix_f (Int32.ofNat pp))), vI (((60 : Int32) - ((4 : Int32) * ((own_dix_f (Int32.ofNat pp)) - (16 : Int32)))))] [(.long q0), (.long q0)] _
        refine XS.lcmp X847.here hx rfl (hb hby at_312) rfl ?_
        show SS p e below m T847 313 #[vJ (q0), s_, vJ (q1), s_, vI (p2), vI (p3), vI (p4), vI (1), vI ((Int32.ofNat pp)), vI (cv), vI (36), vR (r_o_169), vR (r_o_751), vI (1), vJ (q0), s_, vJ (((q1 &&& (((15 : Int64) <<< (((60 : Int32) - ((4 : Int32) * ((own_dix_f (Int32.ofNat pp)) - (16 : Int32)))) &&& 0x3f).toInt64) ^^^ (-1 : Int64))) ||| (((own_hxv_f cv).toInt64) <<< (((60 : Int32) - ((4 : Int32) * ((own_dix_f (Int32.ofNat pp)) - (16 : Int32)))) &&& 0x3f).toInt64))), s_, vI ((own_hxv_f cv)), vI ((own_dix_f (Int32.ofNat pp))), vI (((60 : Int32) - ((4 : Int32) * ((own_dix_f (Int32.ofNat pp)) - (16 : Int32)))))] [(.int (lcmpW q0 q0))] _
        refine zifNo X847 hx hby at_313 ((if0 _ _).trans (teq (own_lcEq.mpr (rfl : q0 = q0))).2) ?_
        refine zaload X847 hx hby at_316 rfl rfl ?_
        refine st854.trans ?_
        refine st857 _ ?_
        refine st859.trans ?_
        refine zlload X859 hx hby at_327 rfl ?_
        show SS p e below m T859 329 #[vJ (q0), s_, vJ (q1), s_, vI (p2), vI (p3), vI (p4), vI (1), vI ((Int32.ofNat pp)), vI (cv), vI (36), vR (r_o_169), vR (r_o_751), vI (1), vJ (q0), s_, vJ (((q1 &&& (((15 : Int64) <<< (((60 : Int32) - ((4 : Int32) * ((own_dix_f (Int32.ofNat pp)) - (16 : Int32)))) &&& 0x3f).toInt64) ^^^ (-1 : Int64))) ||| (((own_hxv_f cv).toInt64) <<< (((60 : Int32) - ((4 : Int32) * ((own_dix_f (Int32.ofNat pp)) - (16 : Int32)))) &&& 0x3f).toInt64))), s_, vI ((own_hxv_f cv)), vI ((own_dix_f (Int32.ofNat pp))), vI (((60 : Int32) - ((4 : Int32) * ((own_dix_f (Int32.ofNat pp)) - (16 : Int32)))))] [(.long ((q1 &&& (((15 : Int64) <<< (((60 : Int32) - ((4 : Int32) * ((own_dix_f (Int32.ofNat pp)) - (16 : Int32)))) &&& 0x3f).toInt64) ^^^ (-1 : Int64))) ||| (((own_hxv_f cv).toInt64) <<< (((60 : Int32) - ((4 : Int32) * ((own_dix_f (Int32.ofNat pp)) - (16 : Int32)))) &&& 0x3f).toInt64))), (.long (own_put q1 (own_hxv_f cv) (((60 : Int32) - ((4 : Int32) * ((own_dix_f (Int32.ofNat pp)) - (16 : Int32)))) &&& 0x3f).toInt64))] _
        refine XS.lcmp X859.here hx rfl (hb hby at_329) rfl ?_
        show SS p e below m T859 330 #[vJ (q0), s_, vJ (q1), s_, vI (p2), vI (p3), vI (p4), vI (1), vI ((Int32.ofNat pp)), vI (cv), vI (36), vR (r_o_169), vR (r_o_751), vI (1), vJ (q0), s_, vJ (((q1 &&& (((15 : Int64) <<< (((60 : Int32) - ((4 : Int32) * ((own_dix_f (Int32.ofNat pp)) - (16 : Int32)))) &&& 0x3f).toInt64) ^^^ (-1 : Int64))) ||| (((own_hxv_f cv).toInt64) <<< (((60 : Int32) - ((4 : Int32) * ((own_dix_f (Int32.ofNat pp)) - (16 : Int32)))) &&& 0x3f).toInt64))), s_, vI ((own_hxv_f cv)), vI ((own_dix_f (Int32.ofNat pp))), vI (((60 : Int32) - ((4 : Int32) * ((own_dix_f (Int32.ofNat pp)) - (16 : Int32)))))] [(.int (lcmpW (own_put q1 (own_hxv_f cv) (((60 : Int32) - ((4 : Int32) * ((own_dix_f (Int32.ofNat pp)) - (16 : Int32)))) &&& 0x3f).toInt64) ((q1 &&& (((15 : Int64) <<< (((60 : Int32) - ((4 : Int32) * ((own_dix_f (Int32.ofNat pp)) - (16 : Int32)))) &&& 0x3f).toInt64) ^^^ (-1 : Int64))) ||| (((own_hxv_f cv).toInt64) <<< (((60 : Int32) - ((4 : Int32) * ((own_dix_f (Int32.ofNat pp)) - (16 : Int32)))) &&& 0x3f).toInt64))))] _
        refine zifNo X859 hx hby at_330 ((if0 _ _).trans (teq (own_lcEq.mpr (rfl : (own_put q1 (own_hxv_f cv) (((60 : Int32) - ((4 : Int32) * ((own_dix_f (Int32.ofNat pp)) - (16 : Int32)))) &&& 0x3f).toInt64) = ((q1 &&& (((15 : Int64) <<< (((60 : Int32) - ((4 : Int32) * ((own_dix_f (Int32.ofNat pp)) - (16 : Int32)))) &&& 0x3f).toInt64) ^^^ (-1 : Int64))) ||| (((own_hxv_f cv).toInt64) <<< (((60 : Int32) - ((4 : Int32) * ((own_dix_f (Int32.ofNat pp)) - (16 : Int32)))) &&& 0x3f).toInt64))))).2) ?_
        refine ziconst X859 hx hby (1) at_333 rfl ?_
        refine zgoto X859 hx hby 334 338 rfl at_334 (by decide) (by decide) ?_
        exact retN X859 hx (t := .boolean) Bd.returns (by simp) (hb hby at_338) hr
      · show Qown_law Z q0 q1 p2 p3 p4 cs u_f e_o h0 n0 _ T859.heap _
        rw [eh859]
        exact ⟨rfl, N860⟩
  · subst hs9
    obtain ⟨pp, hpp, em873'⟩ := own_modN p2 36 (by decide) (by decide)
    have em873 : ((p2 &&& (2147483647 : Int32)) % (36 : Int32)) = Int32.ofNat pp := em873'
    obtain ⟨cv, ecv⟩ : ∃ cv : Int32, ((p3 &&& (65535 : Int32)).toUInt32.toUInt16.toUInt32.toInt32) = cv := ⟨_, rfl⟩
    have hcv : nar .char cv = cv := by rw [← ecv]; exact own_nn _
    obtain ⟨_, _, ⟨T890, L890, k890, n890⟩, -, X890, ⟨Lc890, hQ890, l890, y890, z890⟩, st890⟩ := Jvm.LawKit.callS X0 hx (y := y_8) hown (mvT hZ (hw _ (gm 2 rfl))) (mvT hZ (hw _ (gm 3 rfl))) (mvT hZ (hw _ (gm 4 rfl))) (mvT hZ (hw _ (gm 5 rfl))) (by decide) (backOf (W := 0) (own_draw l Z a0 hw [] q0 q1 (35 : Int32) 35 h0 n0 Z0 (by first | assumption | decide : (35 : Int32) = Int32.ofNat 35) (by first | assumption | decide : 35 ≤ 37)) hZ (hw _ (gm 5 rfl)) (hw _ (gm 4 rfl)) (by decide) (by decide)) (g := (mkF m 57 #[vJ (q0), s_, vJ (q1), s_, vI (p2), vI (p3), vI (p4), vI (2), vI ((Int32.ofNat pp)), vI (cv), vI (35), u_, u_, u_, u_, u_, u_, u_, u_, u_, u_] [(.int 35), (.long q1), (.long q0)])) rfl (by rw [hml]; rfl) (argsL := [(.long q0), (.long q1), (.int 35)]) (rest := []) (lenOf own_pd26 rfl) rfl (by show 2 * 0 + _ ≤ _; exact Nat.le_of_eq rfl) (hb hby at_57) (fun _ _ => ⟨rfl, e0, (by decide : 0 + 1 ≤ _), (by decide : 0 + 37 ≤ _)⟩)
    dsimp only [Pt.U, Pt.locs, Pt.cells, Pt.slots] at X890 l890 y890 z890 st890 hQ890
    rw [l890, y890, z890] at X890
    obtain ⟨r_o_890, k_r_890, rfl, Nq890, sz890_r_o, K890, Pf890_0⟩ := hQ890
    have N891 := Fr.app N0 Nq890
    have Zs896 : n0 ≤ T890.heap.size := Nat.le_trans Z0 K890.1
    obtain ⟨T905, h905, X905, e905, E905, A905, D905, -, st905⟩ := newO X890 hx hZ hown (hw _ (gm 26 rfl)) (hw _ (gm 27 rfl)) (hw _ (gm 28 rfl)) rfl (g := (mkF m 88 #[vJ (q0), s_, vJ (q1), s_, vI (p2), vI (p3), vI (p4), vI (2), vI ((Int32.ofNat pp)), vI (cv), vI (35), vR (r_o_890), u_, u_, u_, u_, u_, u_, u_, u_, u_] [])) rfl (hb hby at_88) (by decide) (by decide)
    obtain ⟨b905, g905⟩ : ∃ z, z = T890.heap.size := ⟨_, rfl⟩
    rw [← g905] at A905 D905 st905
    have Fq907 : Exa Z T890.heap e_o "java/util/Optional" := (hEe.keep K890)
    have Ne906 : e_o ≠ b905 := Nat.ne_of_lt (Nat.lt_of_lt_of_le Fq907.lt (Nat.le_of_eq g905.symm))
    have Ge909 : n0 ≤ b905 := Nat.le_trans Zs896 (Nat.le_of_eq g905.symm)
    have Zs912 : n0 ≤ h905.size := (Nat.le_trans Zs896 E905.1)
    have F905_coder : Fld Z h905 b905 "java/lang/String" "coder" "B" (.int 0) := D905 (Or.inr (hw _ (gm 52 rfl))) (ty := .byte) (by decide)
    have F905_value : Fld Z h905 b905 "java/lang/String" "value" "[B" .null := D905 (Or.inr (hw _ (gm 54 rfl))) (ty := (.array .byte)) (by decide)
    have Fq917 : Arv Z h905 r_o_890 k_r_890 .char (35 : Int32) (own_cl 35 (own_dr q0 q1)) (.int 0) := (Pf890_0.ext E905)
    have Fq918 : Old Z n0 h905 := ((hO.keep K890 all0).ext E905)
    obtain ⟨_, _, ⟨T916, L916, k916, n916⟩, -, X916, ⟨Lc916, hQ916, l916, y916, z916⟩, st916⟩ := X905.specialBack hx (y := y_18) rfl hown (mvT hZ (hw _ (gm 29 rfl))) (mvT hZ (hw _ (gm 30 rfl))) (mvT hZ (hw _ (gm 31 rfl))) (by decide) (backOf (W := 1) (own_initCL l Z a0 hw [] b905 .null (.int 0) r_o_890 k_r_890 (own_dr q0 q1) (35 : Int32) 35 cs h905 n0 Zs912 A905 F905_value F905_coder Ge909 Fq917 (fun j _ => own_dr255 q0 q1 j) (by first | assumption | decide : (35 : Int32) = Int32.ofNat 35) (by first | assumption | decide : 35 ≤ 37) (by first | assumption | decide : ¬ (35 : Int32) = (0 : Int32)) Fq918 hS hcs) hZ (hw _ (gm 31 rfl)) (hw _ (gm 28 rfl)) (by decide) (by decide)) (g := (mkF m 94 #[vJ (q0), s_, vJ (q1), s_, vI (p2), vI (p3), vI (p4), vI (2), vI ((Int32.ofNat pp)), vI (cv), vI (35), vR (r_o_890), u_, u_, u_, u_, u_, u_, u_, u_, u_] [(.ref r_o_890), (.ref b905), (.ref b905)])) rfl (by rw [hml]; rfl) (Steps.refl _) (a := b905) (argsL := [(.ref r_o_890)]) (rest := [(.ref b905)]) (lenOf own_pd27 rfl) rfl (by show 2 * 0 + _ ≤ _; exact Nat.le_of_eq rfl) (hb hby at_94) (fun _ _ => ⟨rfl, e905, (by decide : 2 + 1 ≤ _), (by decide : 41 + 37 ≤ _)⟩)
    dsimp only [Pt.U, Pt.locs, Pt.cells, Pt.slots] at X916 l916 y916 z916 st916 hQ916
    rw [l916, y916, z916] at X916
    obtain ⟨r_o_916, k_r_916, rfl, Nq916, sz916_r_o, K916, Pf916_0, Pf916_1, Pf916_2⟩ := hQ916
    have N919 := Fr.app N891 Nq916
    have Fq921 : Exa Z h905 e_o "java/util/Optional" := (Fq907.ext E905)
    have Zs927 : n0 ≤ T916.heap.size := Nat.le_trans Zs912 K916.1
    have Fq930 : Exa Z T916.heap b905 "java/lang/String" := (A905.keep K916)
    have Fq931 : Old Z n0 T916.heap := (Fq918.keep K916 (allS Ge909 all0))
    obtain ⟨_, _, ⟨T929, L929, k929, n929⟩, -, X929, ⟨Lc929, hQ929, l929, y929, z929⟩, st929⟩ := Jvm.LawKit.callS X916 hx (y := y_39) hown (mvT hZ (hw _ (gm 55 rfl))) (mvT hZ (hw _ (gm 56 rfl))) (mvT hZ (hw _ (gm 57 rfl))) (mvT hZ (hw _ (gm 58 rfl))) (by decide) (backOf (W := 0) (own_prZ35L l Z a0 hw [] b905 r_o_916 k_r_916 (own_dr q0 q1) cs e_o T916.heap n0 Zs927 Fq930 Pf916_0 Pf916_1 Pf916_2 Fq931 hS hcs hSe) hZ (hw _ (gm 58 rfl)) (hw _ (gm 57 rfl)) (by decide) (by decide)) (g := (mkF m 97 #[vJ (q0), s_, vJ (q1), s_, vI (p2), vI (p3), vI (p4), vI (2), vI ((Int32.ofNat pp)), vI (cv), vI (35), vR (r_o_890), u_, u_, u_, u_, u_, u_, u_, u_, u_] [(.ref b905)])) rfl (by rw [hml]; rfl) (argsL := [(.ref b905)]) (rest := []) (lenOf own_pd28 rfl) rfl (by show 2 * 0 + _ ≤ _; exact Nat.le_of_eq rfl) (hb hby at_97) (fun _ _ => ⟨rfl, rfl, (by decide : 3 + 0 ≤ _), (by decide : 78 + 0 ≤ _)⟩)
    dsimp only [Pt.U, Pt.locs, Pt.cells, Pt.slots] at X929 l929 y929 z929 st929 hQ929
    rw [l929, y929, z929] at X929
    obtain ⟨rfl, Nq929, eh929⟩ := hQ929
    have N932 := Fr.app N919 Nq929
    have Fq940 : Exa Z T916.heap e_o "java/util/Optional" := (Fq921.keep K916)
    have Fq941 : Fld Z T916.heap e_o "java/util/Optional" "value" "Ljava/lang/Object;" .null := (((hFe.keep K890 nin0).ext E905).keep K916 (ninS Ne906 nin0))
    obtain ⟨cq939, kq939, q939a, q939b, q939c⟩ := isOf hZ eh929 Fq940
    obtain ⟨_, _, ⟨T939, L939, k939, n939⟩, -, X939, ⟨Lc939, hQ939, l939, y939, z939⟩, st939⟩ := X929.virtualBack hx (y := y_34) (z := y_34) hown (mvT hZ (hw _ (gm 126 rfl))) (mvT hZ (hw _ (gm 127 rfl))) (notFace_of_selects (args := #[]) (mvT hZ (hw _ (gm 129 rfl)))) (mvT hZ (hw _ (gm 129 rfl))) (mvT hZ (hw _ (gm 128 rfl))) (by decide) (backOf (W := 0) (own_ipN l Z a0 hw [] e_o T916.heap n0 Zs927 Fq940 Fq941) hZ (hw _ (gm 130 rfl)) (hw _ (gm 111 rfl)) (by decide) (by decide)) q939a q939c (g := (mkF m 116 #[vJ (q0), s_, vJ (q1), s_, vI (p2), vI (p3), vI (p4), vI (2), vI ((Int32.ofNat pp)), vI (cv), vI (35), vR (r_o_890), vR (e_o), u_, u_, u_, u_, u_, u_, u_, u_] [(.ref e_o)])) rfl (by rw [hml]; rfl) (Steps.refl _) (argsL := []) (rest := []) (lenOf own_pd17 rfl) rfl (by show 2 * 0 + _ ≤ _; exact Nat.le_of_eq rfl) (hb hby at_116) (fun _ _ => ⟨rfl, eh929, (by decide : 3 + 0 ≤ _), (by decide : 78 + 0 ≤ _)⟩)
    dsimp only [Pt.U, Pt.locs, Pt.cells, Pt.slots] at X939 l939 y939 z939 st939 hQ939
    rw [l939, y939, z939] at X939
    obtain ⟨rfl, Nq939, eh939⟩ := hQ939
    have N942 := Fr.app N932 Nq939
    obtain ⟨fs, hr, hrun, hended, hW, hsame⟩ := X939.leave (v := some (.int 1)) (fun h => by rw [Bd.returns] at h; cases h) (hlocks := BodyLoose.notSynchronized Bd)
    refine ⟨_, _, pre8 _ ?_, hrun, hended, _, _, rfl, ?_, ⟨_, rfl⟩, hW, hsame.mono (by decide) (by decide)⟩
    · show SS p e below m s₁ 7 #[vJ (q0), s_, vJ (q1), s_, vI (p2), vI (p3), vI (p4), u_, u_, u_, u_, u_, u_, u_, u_, u_, u_, u_, u_, u_, u_] [(.int 2)] _
      show SS p e below m s₁ 7 #[vJ (q0), s_, vJ (q1), s_, vI (p2), vI (p3), vI (p4), u_, u_, u_, u_, u_, u_, u_, u_, u_, u_, u_, u_, u_, u_] [(.int 2)] _
      refine zistore (l' := #[vJ (q0), s_, vJ (q1), s_, vI (p2), vI (p3), vI (p4), vI (2), u_, u_, u_, u_, u_, u_, u_, u_, u_, u_, u_, u_, u_]) X0 hx hby at_7 rfl ?_
      refine ziload X0 hx hby at_9 rfl ?_
      show SS p e below m s₁ 11 #[vJ (q0), s_, vJ (q1), s_, vI (p2), vI (p3), vI (p4), vI (2), u_, u_, u_, u_, u_, u_, u_, u_, u_, u_, u_, u_, u_] [(.int p2)] _
      refine X0.ldcInt hx hown (mvT hZ (hw _ (gm 0 rfl))) (g := (mkF m 11 #[vJ (q0), s_, vJ (q1), s_, vI (p2), vI (p3), vI (p4), vI (2), u_, u_, u_, u_, u_, u_, u_, u_, u_, u_, u_, u_, u_] [(.int p2)])) rfl (hb hby at_11) _ ?_
      show SS p e below m s₁ 13 #[vJ (q0), s_, vJ (q1), s_, vI (p2), vI (p3), vI (p4), vI (2), u_, u_, u_, u_, u_, u_, u_, u_, u_, u_, u_, u_, u_] [(.int 2147483647), (.int p2)] _
      refine XS.iand X0.here hx rfl (hb hby at_13) rfl ?_
      show SS p e below m s₁ 14 #[vJ (q0), s_, vJ (q1), s_, vI (p2), vI (p3), vI (p4), vI (2), u_, u_, u_, u_, u_, u_, u_, u_, u_, u_, u_, u_, u_] [(.int (p2 &&& (2147483647 : Int32)))] _
      refine zbipush X0 hx hby (36) at_14 rfl ?_
      show SS p e below m s₁ 16 #[vJ (q0), s_, vJ (q1), s_, vI (p2), vI (p3), vI (p4), vI (2), u_, u_, u_, u_, u_, u_, u_, u_, u_, u_, u_, u_, u_] [(.int 36), (.int (p2 &&& (2147483647 : Int32)))] _
      refine iremM X0 hx rfl (hb hby at_16) rfl (by decide) ?_
      rw [em873]
      show SS p e below m s₁ 17 #[vJ (q0), s_, vJ (q1), s_, vI (p2), vI (p3), vI (p4), vI (2), u_, u_, u_, u_, u_, u_, u_, u_, u_, u_, u_, u_, u_] [(.int (Int32.ofNat pp))] _
      refine zistore (l' := #[vJ (q0), s_, vJ (q1), s_, vI (p2), vI (p3), vI (p4), vI (2), vI ((Int32.ofNat pp)), u_, u_, u_, u_, u_, u_, u_, u_, u_, u_, u_, u_]) X0 hx hby at_17 rfl ?_
      refine ziload X0 hx hby at_19 rfl ?_
      show SS p e below m s₁ 21 #[vJ (q0), s_, vJ (q1), s_, vI (p2), vI (p3), vI (p4), vI (2), vI ((Int32.ofNat pp)), u_, u_, u_, u_, u_, u_, u_, u_, u_, u_, u_, u_] [(.int p3)] _
      refine X0.ldcInt hx hown (mvT hZ (hw _ (gm 1 rfl))) (g := (mkF m 21 #[vJ (q0), s_, vJ (q1), s_, vI (p2), vI (p3), vI (p4), vI (2), vI ((Int32.ofNat pp)), u_, u_, u_, u_, u_, u_, u_, u_, u_, u_, u_, u_] [(.int p3)])) rfl (hb hby at_21) _ ?_
      show SS p e below m s₁ 23 #[vJ (q0), s_, vJ (q1), s_, vI (p2), vI (p3), vI (p4), vI (2), vI ((Int32.ofNat pp)), u_, u_, u_, u_, u_, u_, u_, u_, u_, u_, u_, u_] [(.int 65535), (.int p3)] _
      refine XS.iand X0.here hx rfl (hb hby at_23) rfl ?_
      show SS p e below m s₁ 24 #[vJ (q0), s_, vJ (q1), s_, vI (p2), vI (p3), vI (p4), vI (2), vI ((Int32.ofNat pp)), u_, u_, u_, u_, u_, u_, u_, u_, u_, u_, u_, u_] [(.int (p3 &&& (65535 : Int32)))] _
      refine XS.i2c X0.here hx rfl (hb hby at_24) rfl ?_
      rw [ecv]
      show SS p e below m s₁ 25 #[vJ (q0), s_, vJ (q1), s_, vI (p2), vI (p3), vI (p4), vI (2), vI ((Int32.ofNat pp)), u_, u_, u_, u_, u_, u_, u_, u_, u_, u_, u_, u_] [(.int cv)] _
      refine zistore (l' := #[vJ (q0), s_, vJ (q1), s_, vI (p2), vI (p3), vI (p4), vI (2), vI ((Int32.ofNat pp)), vI (cv), u_, u_, u_, u_, u_, u_, u_, u_, u_, u_, u_]) X0 hx hby at_25 rfl ?_
      refine ziload X0 hx hby at_27 rfl ?_
      refine ziconst X0 hx hby (2) at_29 rfl ?_
      refine zicmpNo X0 hx hby at_30 (teq ((by decide) : (2 : Int32) = (2 : Int32))).2 ?_
      refine zbipush X0 hx hby (35) at_33 rfl ?_
      refine zgoto X0 hx hby 35 51 rfl at_35 (by decide) (by decide) ?_
      refine zistore (l' := #[vJ (q0), s_, vJ (q1), s_, vI (p2), vI (p3), vI (p4), vI (2), vI ((Int32.ofNat pp)), vI (cv), vI (35), u_, u_, u_, u_, u_, u_, u_, u_, u_, u_]) X0 hx hby at_51 rfl ?_
      refine zlloadN X0 hx hby at_53 rfl ?_
      refine zlloadN X0 hx hby at_54 rfl ?_
      refine ziload X0 hx hby at_55 rfl ?_
      refine st890 _ ?_
      refine zastore (l' := #[vJ (q0), s_, vJ (q1), s_, vI (p2), vI (p3), vI (p4), vI (2), vI ((Int32.ofNat pp)), vI (cv), vI (35), vR (r_o_890), u_, u_, u_, u_, u_, u_, u_, u_, u_]) X890 hx hby at_60 rfl rfl ?_
      show SS p e below m T890 62 #[vJ (q0), s_, vJ (q1), s_, vI (p2), vI (p3), vI (p4), vI (2), vI ((Int32.ofNat pp)), vI (cv), vI (35), vR (r_o_890), u_, u_, u_, u_, u_, u_, u_, u_, u_] [] _
      refine ziload X890 hx hby at_62 rfl ?_
      refine ziconst X890 hx hby (1) at_64 rfl ?_
      refine zicmpYes X890 hx hby 65 75 rfl at_65 (feq ((by decide) : ¬ ((2 : Int32) = (1 : Int32)))).2 (by decide) (by decide) ?_
      refine ziload X890 hx hby at_75 rfl ?_
      refine ziconst X890 hx hby (3) at_77 rfl ?_
      refine zicmpYes X890 hx hby 78 88 rfl at_78 (feq ((by decide) : ¬ ((2 : Int32) = (3 : Int32)))).2 (by decide) (by decide) ?_
      refine st905 _ ?_
      show SS p e below m T905 91 #[vJ (q0), s_, vJ (q1), s_, vI (p2), vI (p3), vI (p4), vI (2), vI ((Int32.ofNat pp)), vI (cv), vI (35), vR (r_o_890), u_, u_, u_, u_, u_, u_, u_, u_, u_] [(.ref b905)] _
      refine XS.dup X905.here hx rfl (hb hby at_91) rfl rfl ?_
      show SS p e below m T905 92 #[vJ (q0), s_, vJ (q1), s_, vI (p2), vI (p3), vI (p4), vI (2), vI ((Int32.ofNat pp)), vI (cv), vI (35), vR (r_o_890), u_, u_, u_, u_, u_, u_, u_, u_, u_] [(.ref b905), (.ref b905)] _
      refine zaload X905 hx hby at_92 rfl rfl ?_
      refine st916.trans ?_
      refine st929 _ ?_
      refine zastore (l' := #[vJ (q0), s_, vJ (q1), s_, vI (p2), vI (p3), vI (p4), vI (2), vI ((Int32.ofNat pp)), vI (cv), vI (35), vR (r_o_890), vR (e_o), u_, u_, u_, u_, u_, u_, u_, u_]) X929 hx hby at_100 rfl rfl ?_
      refine ziload X929 hx hby at_102 rfl ?_
      refine ziconst X929 hx hby (2) at_104 rfl ?_
      refine zicmpYes X929 hx hby 105 114 rfl at_105 (teq ((by decide) : (2 : Int32) = (2 : Int32))).1 (by decide) (by decide) ?_
      refine zaload X929 hx hby at_114 rfl rfl ?_
      refine st939.trans ?_
      refine zifNo X939 hx hby at_119 ((if0 _ _).trans (teq ((by decide) : (0 : Int32) = (0 : Int32))).2) ?_
      refine ziconst X939 hx hby (1) at_122 rfl ?_
      refine zgoto X939 hx hby 123 127 rfl at_123 (by decide) (by decide) ?_
      show SS p e below m T939 127 #[vJ (q0), s_, vJ (q1), s_, vI (p2), vI (p3), vI (p4), vI (2), vI ((Int32.ofNat pp)), vI (cv), vI (35), vR (r_o_890), vR (e_o), u_, u_, u_, u_, u_, u_, u_, u_] [(.int 1)] _
      exact retN X939 hx (t := .boolean) Bd.returns (by simp) (hb hby at_127) hr
    · show Qown_law Z q0 q1 p2 p3 p4 cs u_f e_o h0 n0 _ T939.heap _
      rw [eh939]
      exact ⟨rfl, N942⟩
  · subst hs9
    obtain ⟨pp, hpp, em953'⟩ := own_modN p2 36 (by decide) (by decide)
    have em953 : ((p2 &&& (2147483647 : Int32)) % (36 : Int32)) = Int32.ofNat pp := em953'
    obtain ⟨cv, ecv⟩ : ∃ cv : Int32, ((p3 &&& (65535 : Int32)).toUInt32.toUInt16.toUInt32.toInt32) = cv := ⟨_, rfl⟩
    have hcv : nar .char cv = cv := by rw [← ecv]; exact own_nn _
    obtain ⟨_, _, ⟨T973, L973, k973, n973⟩, -, X973, ⟨Lc973, hQ973, l973, y973, z973⟩, st973⟩ := Jvm.LawKit.callS X0 hx (y := y_8) hown (mvT hZ (hw _ (gm 2 rfl))) (mvT hZ (hw _ (gm 3 rfl))) (mvT hZ (hw _ (gm 4 rfl))) (mvT hZ (hw _ (gm 5 rfl))) (by decide) (backOf (W := 0) (own_draw l Z a0 hw [] q0 q1 (37 : Int32) 37 h0 n0 Z0 (by first | assumption | decide : (37 : Int32) = Int32.ofNat 37) (by first | assumption | decide : 37 ≤ 37)) hZ (hw _ (gm 5 rfl)) (hw _ (gm 4 rfl)) (by decide) (by decide)) (g := (mkF m 57 #[vJ (q0), s_, vJ (q1), s_, vI (p2), vI (p3), vI (p4), vI (3), vI ((Int32.ofNat pp)), vI (cv), vI (37), u_, u_, u_, u_, u_, u_, u_, u_, u_, u_] [(.int 37), (.long q1), (.long q0)])) rfl (by rw [hml]; rfl) (argsL := [(.long q0), (.long q1), (.int 37)]) (rest := []) (lenOf own_pd26 rfl) rfl (by show 2 * 0 + _ ≤ _; exact Nat.le_of_eq rfl) (hb hby at_57) (fun _ _ => ⟨rfl, e0, (by decide : 0 + 1 ≤ _), (by decide : 0 + 37 ≤ _)⟩)
    dsimp only [Pt.U, Pt.locs, Pt.cells, Pt.slots] at X973 l973 y973 z973 st973 hQ973
    rw [l973, y973, z973] at X973
    obtain ⟨r_o_973, k_r_973, rfl, Nq973, sz973_r_o, K973, Pf973_0⟩ := hQ973
    have N974 := Fr.app N0 Nq973
    have Ne975 : e_o ≠ r_o_973 := Nat.ne_of_lt (Nat.lt_of_lt_of_le hEe.lt sz973_r_o)
    have Ge976 : n0 ≤ r_o_973 := Nat.le_trans Z0 sz973_r_o
    have Zs979 : n0 ≤ T973.heap.size := Nat.le_trans Z0 K973.1
    obtain ⟨cl991, Ar991, q991, S991, M991, H991, G991⟩ := id Pf973_0
    have hin991 : ¬ ((36 : Int32) < 0 ∨ cl991.slots.size ≤ ((36 : Int32)).toNatClampNeg) := inb_of S991 ⟨by decide, by decide⟩
    obtain ⟨T992, h992, X992, e992, W992, st992⟩ := stC X973 hx hZ rfl Ar991 (j := (36 : Int32)) hin991 (g := (mkF m 87 #[vJ (q0), s_, vJ (q1), s_, vI (p2), vI (p3), vI (p4), vI (3), vI ((Int32.ofNat pp)), vI (cv), vI (37), vR (r_o_973), u_, u_, u_, u_, u_, u_, u_, u_, u_] [(.int cv), (.int 36), (.ref r_o_973)])) rfl rfl (hb hby at_87)
    have Zs995 : n0 ≤ h992.size := Nat.le_trans Zs979 (Keep.of_wr W992).1
    have N996 := Fr.snoc X992 N974 Ge976
    have Vm993 : Arv Z h992 r_o_973 k_r_973 .char (37 : Int32) ((own_cl 37 (own_dr q0 q1)).set 36 (.int (nar .char cv))) (.int 0) := Arv.set Ar991 q991 S991 M991 H991 G991 (fits_nar_char _) W992 36 (by decide) (by rw [own_cl_len]; decide)
    have pre998 : ∀ t, Steps p.tables e below (T992.setTop (mkF m 88 #[vJ (q0), s_, vJ (q1), s_, vI (p2), vI (p3), vI (p4), vI (3), vI ((Int32.ofNat pp)), vI (cv), vI (37), vR (r_o_973), u_, u_, u_, u_, u_, u_, u_, u_, u_] [])) t → Steps p.tables e below (s₁.setTop (entryFrame m #[(.long q0), (.long q1), (.int p2), (.int p3), (.int p4)] maxLocals)) t := by
      intro t kt
      refine pre8 _ ?_
      show SS p e below m s₁ 7 #[vJ (q0), s_, vJ (q1), s_, vI (p2), vI (p3), vI (p4), u_, u_, u_, u_, u_, u_, u_, u_, u_, u_, u_, u_, u_, u_] [(.int 3)] _
      show SS p e below m s₁ 7 #[vJ (q0), s_, vJ (q1), s_, vI (p2), vI (p3), vI (p4), u_, u_, u_, u_, u_, u_, u_, u_, u_, u_, u_, u_, u_, u_] [(.int 3)] _
      refine zistore (l' := #[vJ (q0), s_, vJ (q1), s_, vI (p2), vI (p3), vI (p4), vI (3), u_, u_, u_, u_, u_, u_, u_, u_, u_, u_, u_, u_, u_]) X0 hx hby at_7 rfl ?_
      refine ziload X0 hx hby at_9 rfl ?_
      show SS p e below m s₁ 11 #[vJ (q0), s_, vJ (q1), s_, vI (p2), vI (p3), vI (p4), vI (3), u_, u_, u_, u_, u_, u_, u_, u_, u_, u_, u_, u_, u_] [(.int p2)] _
      refine X0.ldcInt hx hown (mvT hZ (hw _ (gm 0 rfl))) (g := (mkF m 11 #[vJ (q0), s_, vJ (q1), s_, vI (p2), vI (p3), vI (p4), vI (3), u_, u_, u_, u_, u_, u_, u_, u_, u_, u_, u_, u_, u_] [(.int p2)])) rfl (hb hby at_11) _ ?_
      show SS p e below m s₁ 13 #[vJ (q0), s_, vJ (q1), s_, vI (p2), vI (p3), vI (p4), vI (3), u_, u_, u_, u_, u_, u_, u_, u_, u_, u_, u_, u_, u_] [(.int 2147483647), (.int p2)] _
      refine XS.iand X0.here hx rfl (hb hby at_13) rfl ?_
      show SS p e below m s₁ 14 #[vJ (q0), s_, vJ (q1), s_, vI (p2), vI (p3), vI (p4), vI (3), u_, u_, u_, u_, u_, u_, u_, u_, u_, u_, u_, u_, u_] [(.int (p2 &&& (2147483647 : Int32)))] _
      refine zbipush X0 hx hby (36) at_14 rfl ?_
      show SS p e below m s₁ 16 #[vJ (q0), s_, vJ (q1), s_, vI (p2), vI (p3), vI (p4), vI (3), u_, u_, u_, u_, u_, u_, u_, u_, u_, u_, u_, u_, u_] [(.int 36), (.int (p2 &&& (2147483647 : Int32)))] _
      refine iremM X0 hx rfl (hb hby at_16) rfl (by decide) ?_
      rw [em953]
      show SS p e below m s₁ 17 #[vJ (q0), s_, vJ (q1), s_, vI (p2), vI (p3), vI (p4), vI (3), u_, u_, u_, u_, u_, u_, u_, u_, u_, u_, u_, u_, u_] [(.int (Int32.ofNat pp))] _
      refine zistore (l' := #[vJ (q0), s_, vJ (q1), s_, vI (p2), vI (p3), vI (p4), vI (3), vI ((Int32.ofNat pp)), u_, u_, u_, u_, u_, u_, u_, u_, u_, u_, u_, u_]) X0 hx hby at_17 rfl ?_
      refine ziload X0 hx hby at_19 rfl ?_
      show SS p e below m s₁ 21 #[vJ (q0), s_, vJ (q1), s_, vI (p2), vI (p3), vI (p4), vI (3), vI ((Int32.ofNat pp)), u_, u_, u_, u_, u_, u_, u_, u_, u_, u_, u_, u_] [(.int p3)] _
      refine X0.ldcInt hx hown (mvT hZ (hw _ (gm 1 rfl))) (g := (mkF m 21 #[vJ (q0), s_, vJ (q1), s_, vI (p2), vI (p3), vI (p4), vI (3), vI ((Int32.ofNat pp)), u_, u_, u_, u_, u_, u_, u_, u_, u_, u_, u_, u_] [(.int p3)])) rfl (hb hby at_21) _ ?_
      show SS p e below m s₁ 23 #[vJ (q0), s_, vJ (q1), s_, vI (p2), vI (p3), vI (p4), vI (3), vI ((Int32.ofNat pp)), u_, u_, u_, u_, u_, u_, u_, u_, u_, u_, u_, u_] [(.int 65535), (.int p3)] _
      refine XS.iand X0.here hx rfl (hb hby at_23) rfl ?_
      show SS p e below m s₁ 24 #[vJ (q0), s_, vJ (q1), s_, vI (p2), vI (p3), vI (p4), vI (3), vI ((Int32.ofNat pp)), u_, u_, u_, u_, u_, u_, u_, u_, u_, u_, u_, u_] [(.int (p3 &&& (65535 : Int32)))] _
      refine XS.i2c X0.here hx rfl (hb hby at_24) rfl ?_
      rw [ecv]
      show SS p e below m s₁ 25 #[vJ (q0), s_, vJ (q1), s_, vI (p2), vI (p3), vI (p4), vI (3), vI ((Int32.ofNat pp)), u_, u_, u_, u_, u_, u_, u_, u_, u_, u_, u_, u_] [(.int cv)] _
      refine zistore (l' := #[vJ (q0), s_, vJ (q1), s_, vI (p2), vI (p3), vI (p4), vI (3), vI ((Int32.ofNat pp)), vI (cv), u_, u_, u_, u_, u_, u_, u_, u_, u_, u_, u_]) X0 hx hby at_25 rfl ?_
      refine ziload X0 hx hby at_27 rfl ?_
      refine ziconst X0 hx hby (2) at_29 rfl ?_
      refine zicmpYes X0 hx hby 30 38 rfl at_30 (feq ((by decide) : ¬ ((3 : Int32) = (2 : Int32)))).2 (by decide) (by decide) ?_
      refine ziload X0 hx hby at_38 rfl ?_
      refine ziconst X0 hx hby (3) at_40 rfl ?_
      refine zicmpNo X0 hx hby at_41 (teq ((by decide) : (3 : Int32) = (3 : Int32))).2 ?_
      refine zbipush X0 hx hby (37) at_44 rfl ?_
      refine zgoto X0 hx hby 46 51 rfl at_46 (by decide) (by decide) ?_
      refine zistore (l' := #[vJ (q0), s_, vJ (q1), s_, vI (p2), vI (p3), vI (p4), vI (3), vI ((Int32.ofNat pp)), vI (cv), vI (37), u_, u_, u_, u_, u_, u_, u_, u_, u_, u_]) X0 hx hby at_51 rfl ?_
      refine zlloadN X0 hx hby at_53 rfl ?_
      refine zlloadN X0 hx hby at_54 rfl ?_
      show SS p e below m s₁ 55 #[vJ (q0), s_, vJ (q1), s_, vI (p2), vI (p3), vI (p4), vI (3), vI ((Int32.ofNat pp)), vI (cv), vI (37), u_, u_, u_, u_, u_, u_, u_, u_, u_, u_] [(.long q1), (.long q0)] _
      refine ziload X0 hx hby at_55 rfl ?_
      refine st973 _ ?_
      refine zastore (l' := #[vJ (q0), s_, vJ (q1), s_, vI (p2), vI (p3), vI (p4), vI (3), vI ((Int32.ofNat pp)), vI (cv), vI (37), vR (r_o_973), u_, u_, u_, u_, u_, u_, u_, u_, u_]) X973 hx hby at_60 rfl rfl ?_
      refine ziload X973 hx hby at_62 rfl ?_
      refine ziconst X973 hx hby (1) at_64 rfl ?_
      refine zicmpYes X973 hx hby 65 75 rfl at_65 (feq ((by decide) : ¬ ((3 : Int32) = (1 : Int32)))).2 (by decide) (by decide) ?_
      refine ziload X973 hx hby at_75 rfl ?_
      refine ziconst X973 hx hby (3) at_77 rfl ?_
      refine zicmpNo X973 hx hby at_78 (teq ((by decide) : (3 : Int32) = (3 : Int32))).2 ?_
      refine zaload X973 hx hby at_81 rfl rfl ?_
      refine zbipush X973 hx hby (36) at_83 rfl ?_
      refine ziload X973 hx hby at_85 rfl ?_
      show SS p e below m T973 87 #[vJ (q0), s_, vJ (q1), s_, vI (p2), vI (p3), vI (p4), vI (3), vI ((Int32.ofNat pp)), vI (cv), vI (37), vR (r_o_973), u_, u_, u_, u_, u_, u_, u_, u_, u_] [(.int cv), (.int 36), (.ref r_o_973)] _
      refine st992 _ ?_
      exact kt
    rcases (Decidable.em ((255 : Int32) < cv)) with hs999 | hs999
    · have Vc1001 : Arv Z h992 r_o_973 k_r_973 .char (37 : Int32) (own_cl 37 (own_st (own_dr q0 q1) 36 cv)) (.int 0) := by rw [← own_cl_set]; have q := Vm993; rw [hcv] at q; exact q
      obtain ⟨T1002, h1002, X1002, e1002, E1002, A1002, D1002, -, st1002⟩ := newO X992 hx hZ hown (hw _ (gm 26 rfl)) (hw _ (gm 27 rfl)) (hw _ (gm 28 rfl)) e992 (g := (mkF m 88 #[vJ (q0), s_, vJ (q1), s_, vI (p2), vI (p3), vI (p4), vI (3), vI ((Int32.ofNat pp)), vI (cv), vI (37), vR (r_o_973), u_, u_, u_, u_, u_, u_, u_, u_, u_] [])) rfl (hb hby at_88) (by decide) (by decide)
      obtain ⟨b1002, g1002⟩ : ∃ z, z = h992.size := ⟨_, rfl⟩
      rw [← g1002] at A1002 D1002 st1002
      have Fq1004 : Exa Z h992 e_o "java/util/Optional" := ((hEe.keep K973).wr W992)
      have Ne1003 : e_o ≠ b1002 := Nat.ne_of_lt (Nat.lt_of_lt_of_le Fq1004.lt (Nat.le_of_eq g1002.symm))
      have Ge1006 : n0 ≤ b1002 := Nat.le_trans Zs995 (Nat.le_of_eq g1002.symm)
      have Zs1009 : n0 ≤ h1002.size := (Nat.le_trans Zs995 E1002.1)
      have F1002_coder : Fld Z h1002 b1002 "java/lang/String" "coder" "B" (.int 0) := D1002 (Or.inr (hw _ (gm 52 rfl))) (ty := .byte) (by decide)
      have F1002_value : Fld Z h1002 b1002 "java/lang/String" "value" "[B" .null := D1002 (Or.inr (hw _ (gm 54 rfl))) (ty := (.array .byte)) (by decide)
      have Fq1014 : Arv Z h1002 r_o_973 k_r_973 .char (37 : Int32) (own_cl 37 (own_st (own_dr q0 q1) 36 cv)) (.int 0) := (Vc1001.ext E1002)
      have Fq1015 : Old Z n0 h1002 := (((hO.keep K973 all0).wr W992 Ge976).ext E1002)
      obtain ⟨_, _, ⟨T1013, L1013, k1013, n1013⟩, -, X1013, ⟨Lc1013, hQ1013, l1013, y1013, z1013⟩, st1013⟩ := X1002.specialBack hx (y := y_18) rfl hown (mvT hZ (hw _ (gm 29 rfl))) (mvT hZ (hw _ (gm 30 rfl))) (mvT hZ (hw _ (gm 31 rfl))) (by decide) (backOf (W := 1) (own_initC37U l Z a0 hw [] b1002 .null (.int 0) r_o_973 k_r_973 (own_st (own_dr q0 q1) 36 cv) 36 cs h1002 n0 Zs1009 A1002 F1002_value F1002_coder Ge1006 Fq1014 (by decide) (by rw [own_st_at]; exact hs999) (own_stlt (own_dr255 q0 q1)) (own_stN (own_drN q0 q1) hcv) hSa hSh hSl Fq1015 hS hcs) hZ (hw _ (gm 31 rfl)) (hw _ (gm 28 rfl)) (by decide) (by decide)) (g := (mkF m 94 #[vJ (q0), s_, vJ (q1), s_, vI (p2), vI (p3), vI (p4), vI (3), vI ((Int32.ofNat pp)), vI (cv), vI (37), vR (r_o_973), u_, u_, u_, u_, u_, u_, u_, u_, u_] [(.ref r_o_973), (.ref b1002), (.ref b1002)])) rfl (by rw [hml]; rfl) (Steps.refl _) (a := b1002) (argsL := [(.ref r_o_973)]) (rest := [(.ref b1002)]) (lenOf own_pd27 rfl) rfl (by show 2 * 0 + _ ≤ _; exact Nat.le_of_eq rfl) (hb hby at_94) (fun _ _ => ⟨rfl, e1002, (by decide : 2 + 2 ≤ _), (by decide : 41 + 111 ≤ _)⟩)
      dsimp only [Pt.U, Pt.locs, Pt.cells, Pt.slots] at X1013 l1013 y1013 z1013 st1013 hQ1013
      rw [l1013, y1013, z1013] at X1013
      obtain ⟨r_o_1013, k_r_1013, rfl, Nq1013, sz1013_r_o, K1013, Pf1013_0, Pf1013_1, Pf1013_2⟩ := hQ1013
      have N1016 := Fr.app N996 Nq1013
      have Fq1018 : Exa Z h1002 e_o "java/util/Optional" := (Fq1004.ext E1002)
      have Zs1024 : n0 ≤ T1013.heap.size := Nat.le_trans Zs1009 K1013.1
      have Fq1027 : Exa Z T1013.heap b1002 "java/lang/String" := (A1002.keep K1013)
      have Fq1028 : Old Z n0 T1013.heap := (Fq1015.keep K1013 (allS Ge1006 all0))
      obtain ⟨_, _, ⟨T1026, L1026, k1026, n1026⟩, -, X1026, ⟨Lc1026, hQ1026, l1026, y1026, z1026⟩, st1026⟩ := Jvm.LawKit.callS X1013 hx (y := y_39) hown (mvT hZ (hw _ (gm 55 rfl))) (mvT hZ (hw _ (gm 56 rfl))) (mvT hZ (hw _ (gm 57 rfl))) (mvT hZ (hw _ (gm 58 rfl))) (by decide) (backOf (W := 0) (own_prZ37U l Z a0 hw [] b1002 r_o_1013 k_r_1013 (own_st (own_dr q0 q1) 36 cv) cs e_o T1013.heap n0 Zs1024 Fq1027 Pf1013_0 Pf1013_1 Pf1013_2 Fq1028 hS hcs hSe) hZ (hw _ (gm 58 rfl)) (hw _ (gm 57 rfl)) (by decide) (by decide)) (g := (mkF m 97 #[vJ (q0), s_, vJ (q1), s_, vI (p2), vI (p3), vI (p4), vI (3), vI ((Int32.ofNat pp)), vI (cv), vI (37), vR (r_o_973), u_, u_, u_, u_, u_, u_, u_, u_, u_] [(.ref b1002)])) rfl (by rw [hml]; rfl) (argsL := [(.ref b1002)]) (rest := []) (lenOf own_pd28 rfl) rfl (by show 2 * 0 + _ ≤ _; exact Nat.le_of_eq rfl) (hb hby at_97) (fun _ _ => ⟨rfl, rfl, (by decide : 4 + 0 ≤ _), (by decide : 152 + 0 ≤ _)⟩)
      dsimp only [Pt.U, Pt.locs, Pt.cells, Pt.slots] at X1026 l1026 y1026 z1026 st1026 hQ1026
      rw [l1026, y1026, z1026] at X1026
      obtain ⟨rfl, Nq1026, eh1026⟩ := hQ1026
      have N1029 := Fr.app N1016 Nq1026
      have Fq1040 : Exa Z T1013.heap e_o "java/util/Optional" := (Fq1018.keep K1013)
      have Fq1041 : Fld Z T1013.heap e_o "java/util/Optional" "value" "Ljava/lang/Object;" .null := ((((hFe.keep K973 nin0).other W992 (Or.inl Ne975)).ext E1002).keep K1013 (ninS Ne1003 nin0))
      obtain ⟨cq1039, kq1039, q1039a, q1039b, q1039c⟩ := isOf hZ eh1026 Fq1040
      obtain ⟨_, _, ⟨T1039, L1039, k1039, n1039⟩, -, X1039, ⟨Lc1039, hQ1039, l1039, y1039, z1039⟩, st1039⟩ := X1026.virtualBack hx (y := y_34) (z := y_34) hown (mvT hZ (hw _ (gm 126 rfl))) (mvT hZ (hw _ (gm 127 rfl))) (notFace_of_selects (args := #[]) (mvT hZ (hw _ (gm 129 rfl)))) (mvT hZ (hw _ (gm 129 rfl))) (mvT hZ (hw _ (gm 128 rfl))) (by decide) (backOf (W := 0) (own_ipN l Z a0 hw [] e_o T1013.heap n0 Zs1024 Fq1040 Fq1041) hZ (hw _ (gm 130 rfl)) (hw _ (gm 111 rfl)) (by decide) (by decide)) q1039a q1039c (g := (mkF m 116 #[vJ (q0), s_, vJ (q1), s_, vI (p2), vI (p3), vI (p4), vI (3), vI ((Int32.ofNat pp)), vI (cv), vI (37), vR (r_o_973), vR (e_o), u_, u_, u_, u_, u_, u_, u_, u_] [(.ref e_o)])) rfl (by rw [hml]; rfl) (Steps.refl _) (argsL := []) (rest := []) (lenOf own_pd17 rfl) rfl (by show 2 * 0 + _ ≤ _; exact Nat.le_of_eq rfl) (hb hby at_116) (fun _ _ => ⟨rfl, eh1026, (by decide : 4 + 0 ≤ _), (by decide : 152 + 0 ≤ _)⟩)
      dsimp only [Pt.U, Pt.locs, Pt.cells, Pt.slots] at X1039 l1039 y1039 z1039 st1039 hQ1039
      rw [l1039, y1039, z1039] at X1039
      obtain ⟨rfl, Nq1039, eh1039⟩ := hQ1039
      have N1042 := Fr.app N1029 Nq1039
      obtain ⟨fs, hr, hrun, hended, hW, hsame⟩ := X1039.leave (v := some (.int 1)) (fun h => by rw [Bd.returns] at h; cases h) (hlocks := BodyLoose.notSynchronized Bd)
      refine ⟨_, _, pre998 _ ?_, hrun, hended, _, _, rfl, ?_, ⟨_, rfl⟩, hW, hsame.mono (by decide) (by decide)⟩
      · show SS p e below m T992 88 #[vJ (q0), s_, vJ (q1), s_, vI (p2), vI (p3), vI (p4), vI (3), vI ((Int32.ofNat pp)), vI (cv), vI (37), vR (r_o_973), u_, u_, u_, u_, u_, u_, u_, u_, u_] [] _
        show SS p e below m T992 88 #[vJ (q0), s_, vJ (q1), s_, vI (p2), vI (p3), vI (p4), vI (3), vI ((Int32.ofNat pp)), vI (cv), vI (37), vR (r_o_973), u_, u_, u_, u_, u_, u_, u_, u_, u_] [] _
        refine st1002 _ ?_
        show SS p e below m T1002 91 #[vJ (q0), s_, vJ (q1), s_, vI (p2), vI (p3), vI (p4), vI (3), vI ((Int32.ofNat pp)), vI (cv), vI (37), vR (r_o_973), u_, u_, u_, u_, u_, u_, u_, u_, u_] [(.ref b1002)] _
        refine XS.dup X1002.here hx rfl (hb hby at_91) rfl rfl ?_
        show SS p e below m T1002 92 #[vJ (q0), s_, vJ (q1), s_, vI (p2), vI (p3), vI (p4), vI (3), vI ((Int32.ofNat pp)), vI (cv), vI (37), vR (r_o_973), u_, u_, u_, u_, u_, u_, u_, u_, u_] [(.ref b1002), (.ref b1002)] _
        refine zaload X1002 hx hby at_92 rfl rfl ?_
        refine st1013.trans ?_
        refine st1026 _ ?_
        refine zastore (l' := #[vJ (q0), s_, vJ (q1), s_, vI (p2), vI (p3), vI (p4), vI (3), vI ((Int32.ofNat pp)), vI (cv), vI (37), vR (r_o_973), vR (e_o), u_, u_, u_, u_, u_, u_, u_, u_]) X1026 hx hby at_100 rfl rfl ?_
        refine ziload X1026 hx hby at_102 rfl ?_
        refine ziconst X1026 hx hby (2) at_104 rfl ?_
        refine zicmpNo X1026 hx hby at_105 (feq ((by decide) : ¬ ((3 : Int32) = (2 : Int32)))).1 ?_
        refine ziload X1026 hx hby at_108 rfl ?_
        refine ziconst X1026 hx hby (3) at_110 rfl ?_
        refine zicmpNo X1026 hx hby at_111 (teq ((by decide) : (3 : Int32) = (3 : Int32))).2 ?_
        refine zaload X1026 hx hby at_114 rfl rfl ?_
        refine st1039.trans ?_
        show SS p e below m T1039 119 #[vJ (q0), s_, vJ (q1), s_, vI (p2), vI (p3), vI (p4), vI (3), vI ((Int32.ofNat pp)), vI (cv), vI (37), vR (r_o_973), vR (e_o), u_, u_, u_, u_, u_, u_, u_, u_] [(.int 0)] _
        refine zifNo X1039 hx hby at_119 ((if0 _ _).trans (teq ((by decide) : (0 : Int32) = (0 : Int32))).2) ?_
        refine ziconst X1039 hx hby (1) at_122 rfl ?_
        refine zgoto X1039 hx hby 123 127 rfl at_123 (by decide) (by decide) ?_
        exact retN X1039 hx (t := .boolean) Bd.returns (by simp) (hb hby at_127) hr
      · show Qown_law Z q0 q1 p2 p3 p4 cs u_f e_o h0 n0 _ T1039.heap _
        rw [eh1039]
        exact ⟨rfl, N1042⟩
    · have Vc1048 : Arv Z h992 r_o_973 k_r_973 .char (37 : Int32) (own_cl 37 (own_st (own_dr q0 q1) 36 cv)) (.int 0) := by rw [← own_cl_set]; have q := Vm993; rw [hcv] at q; exact q
      obtain ⟨T1049, h1049, X1049, e1049, E1049, A1049, D1049, -, st1049⟩ := newO X992 hx hZ hown (hw _ (gm 26 rfl)) (hw _ (gm 27 rfl)) (hw _ (gm 28 rfl)) e992 (g := (mkF m 88 #[vJ (q0), s_, vJ (q1), s_, vI (p2), vI (p3), vI (p4), vI (3), vI ((Int32.ofNat pp)), vI (cv), vI (37), vR (r_o_973), u_, u_, u_, u_, u_, u_, u_, u_, u_] [])) rfl (hb hby at_88) (by decide) (by decide)
      obtain ⟨b1049, g1049⟩ : ∃ z, z = h992.size := ⟨_, rfl⟩
      rw [← g1049] at A1049 D1049 st1049
      have Fq1051 : Exa Z h992 e_o "java/util/Optional" := ((hEe.keep K973).wr W992)
      have Ne1050 : e_o ≠ b1049 := Nat.ne_of_lt (Nat.lt_of_lt_of_le Fq1051.lt (Nat.le_of_eq g1049.symm))
      have Ge1053 : n0 ≤ b1049 := Nat.le_trans Zs995 (Nat.le_of_eq g1049.symm)
      have Zs1056 : n0 ≤ h1049.size := (Nat.le_trans Zs995 E1049.1)
      have F1049_coder : Fld Z h1049 b1049 "java/lang/String" "coder" "B" (.int 0) := D1049 (Or.inr (hw _ (gm 52 rfl))) (ty := .byte) (by decide)
      have F1049_value : Fld Z h1049 b1049 "java/lang/String" "value" "[B" .null := D1049 (Or.inr (hw _ (gm 54 rfl))) (ty := (.array .byte)) (by decide)
      have Fq1061 : Arv Z h1049 r_o_973 k_r_973 .char (37 : Int32) (own_cl 37 (own_st (own_dr q0 q1) 36 cv)) (.int 0) := (Vc1048.ext E1049)
      have Fq1062 : Old Z n0 h1049 := (((hO.keep K973 all0).wr W992 Ge976).ext E1049)
      obtain ⟨_, _, ⟨T1060, L1060, k1060, n1060⟩, -, X1060, ⟨Lc1060, hQ1060, l1060, y1060, z1060⟩, st1060⟩ := X1049.specialBack hx (y := y_18) rfl hown (mvT hZ (hw _ (gm 29 rfl))) (mvT hZ (hw _ (gm 30 rfl))) (mvT hZ (hw _ (gm 31 rfl))) (by decide) (backOf (W := 1) (own_initCL l Z a0 hw [] b1049 .null (.int 0) r_o_973 k_r_973 (own_st (own_dr q0 q1) 36 cv) (37 : Int32) 37 cs h1049 n0 Zs1056 A1049 F1049_value F1049_coder Ge1053 Fq1061 (fun j _ => own_st255 (own_dr255 q0 q1) hs999 j) (by first | assumption | decide : (37 : Int32) = Int32.ofNat 37) (by first | assumption | decide : 37 ≤ 37) (by first | assumption | decide : ¬ (37 : Int32) = (0 : Int32)) Fq1062 hS hcs) hZ (hw _ (gm 31 rfl)) (hw _ (gm 28 rfl)) (by decide) (by decide)) (g := (mkF m 94 #[vJ (q0), s_, vJ (q1), s_, vI (p2), vI (p3), vI (p4), vI (3), vI ((Int32.ofNat pp)), vI (cv), vI (37), vR (r_o_973), u_, u_, u_, u_, u_, u_, u_, u_, u_] [(.ref r_o_973), (.ref b1049), (.ref b1049)])) rfl (by rw [hml]; rfl) (Steps.refl _) (a := b1049) (argsL := [(.ref r_o_973)]) (rest := [(.ref b1049)]) (lenOf own_pd27 rfl) rfl (by show 2 * 0 + _ ≤ _; exact Nat.le_of_eq rfl) (hb hby at_94) (fun _ _ => ⟨rfl, e1049, (by decide : 2 + 1 ≤ _), (by decide : 41 + 37 ≤ _)⟩)
      dsimp only [Pt.U, Pt.locs, Pt.cells, Pt.slots] at X1060 l1060 y1060 z1060 st1060 hQ1060
      rw [l1060, y1060, z1060] at X1060
      obtain ⟨r_o_1060, k_r_1060, rfl, Nq1060, sz1060_r_o, K1060, Pf1060_0, Pf1060_1, Pf1060_2⟩ := hQ1060
      have N1063 := Fr.app N996 Nq1060
      have Fq1065 : Exa Z h1049 e_o "java/util/Optional" := (Fq1051.ext E1049)
      have Zs1071 : n0 ≤ T1060.heap.size := Nat.le_trans Zs1056 K1060.1
      have Fq1074 : Exa Z T1060.heap b1049 "java/lang/String" := (A1049.keep K1060)
      have Fq1075 : Old Z n0 T1060.heap := (Fq1062.keep K1060 (allS Ge1053 all0))
      obtain ⟨_, _, ⟨T1073, L1073, k1073, n1073⟩, -, X1073, ⟨Lc1073, hQ1073, l1073, y1073, z1073⟩, st1073⟩ := Jvm.LawKit.callS X1060 hx (y := y_39) hown (mvT hZ (hw _ (gm 55 rfl))) (mvT hZ (hw _ (gm 56 rfl))) (mvT hZ (hw _ (gm 57 rfl))) (mvT hZ (hw _ (gm 58 rfl))) (by decide) (backOf (W := 0) (own_prZ37L l Z a0 hw [] b1049 r_o_1060 k_r_1060 (own_st (own_dr q0 q1) 36 cv) cs e_o T1060.heap n0 Zs1071 Fq1074 Pf1060_0 Pf1060_1 Pf1060_2 Fq1075 hS hcs hSe) hZ (hw _ (gm 58 rfl)) (hw _ (gm 57 rfl)) (by decide) (by decide)) (g := (mkF m 97 #[vJ (q0), s_, vJ (q1), s_, vI (p2), vI (p3), vI (p4), vI (3), vI ((Int32.ofNat pp)), vI (cv), vI (37), vR (r_o_973), u_, u_, u_, u_, u_, u_, u_, u_, u_] [(.ref b1049)])) rfl (by rw [hml]; rfl) (argsL := [(.ref b1049)]) (rest := []) (lenOf own_pd28 rfl) rfl (by show 2 * 0 + _ ≤ _; exact Nat.le_of_eq rfl) (hb hby at_97) (fun _ _ => ⟨rfl, rfl, (by decide : 3 + 0 ≤ _), (by decide : 78 + 0 ≤ _)⟩)
      dsimp only [Pt.U, Pt.locs, Pt.cells, Pt.slots] at X1073 l1073 y1073 z1073 st1073 hQ1073
      rw [l1073, y1073, z1073] at X1073
      obtain ⟨rfl, Nq1073, eh1073⟩ := hQ1073
      have N1076 := Fr.app N1063 Nq1073
      have Fq1087 : Exa Z T1060.heap e_o "java/util/Optional" := (Fq1065.keep K1060)
      have Fq1088 : Fld Z T1060.heap e_o "java/util/Optional" "value" "Ljava/lang/Object;" .null := ((((hFe.keep K973 nin0).other W992 (Or.inl Ne975)).ext E1049).keep K1060 (ninS Ne1050 nin0))
      obtain ⟨cq1086, kq1086, q1086a, q1086b, q1086c⟩ := isOf hZ eh1073 Fq1087
      obtain ⟨_, _, ⟨T1086, L1086, k1086, n1086⟩, -, X1086, ⟨Lc1086, hQ1086, l1086, y1086, z1086⟩, st1086⟩ := X1073.virtualBack hx (y := y_34) (z := y_34) hown (mvT hZ (hw _ (gm 126 rfl))) (mvT hZ (hw _ (gm 127 rfl))) (notFace_of_selects (args := #[]) (mvT hZ (hw _ (gm 129 rfl)))) (mvT hZ (hw _ (gm 129 rfl))) (mvT hZ (hw _ (gm 128 rfl))) (by decide) (backOf (W := 0) (own_ipN l Z a0 hw [] e_o T1060.heap n0 Zs1071 Fq1087 Fq1088) hZ (hw _ (gm 130 rfl)) (hw _ (gm 111 rfl)) (by decide) (by decide)) q1086a q1086c (g := (mkF m 116 #[vJ (q0), s_, vJ (q1), s_, vI (p2), vI (p3), vI (p4), vI (3), vI ((Int32.ofNat pp)), vI (cv), vI (37), vR (r_o_973), vR (e_o), u_, u_, u_, u_, u_, u_, u_, u_] [(.ref e_o)])) rfl (by rw [hml]; rfl) (Steps.refl _) (argsL := []) (rest := []) (lenOf own_pd17 rfl) rfl (by show 2 * 0 + _ ≤ _; exact Nat.le_of_eq rfl) (hb hby at_116) (fun _ _ => ⟨rfl, eh1073, (by decide : 3 + 0 ≤ _), (by decide : 78 + 0 ≤ _)⟩)
      dsimp only [Pt.U, Pt.locs, Pt.cells, Pt.slots] at X1086 l1086 y1086 z1086 st1086 hQ1086
      rw [l1086, y1086, z1086] at X1086
      obtain ⟨rfl, Nq1086, eh1086⟩ := hQ1086
      have N1089 := Fr.app N1076 Nq1086
      obtain ⟨fs, hr, hrun, hended, hW, hsame⟩ := X1086.leave (v := some (.int 1)) (fun h => by rw [Bd.returns] at h; cases h) (hlocks := BodyLoose.notSynchronized Bd)
      refine ⟨_, _, pre998 _ ?_, hrun, hended, _, _, rfl, ?_, ⟨_, rfl⟩, hW, hsame.mono (by decide) (by decide)⟩
      · show SS p e below m T992 88 #[vJ (q0), s_, vJ (q1), s_, vI (p2), vI (p3), vI (p4), vI (3), vI ((Int32.ofNat pp)), vI (cv), vI (37), vR (r_o_973), u_, u_, u_, u_, u_, u_, u_, u_, u_] [] _
        show SS p e below m T992 88 #[vJ (q0), s_, vJ (q1), s_, vI (p2), vI (p3), vI (p4), vI (3), vI ((Int32.ofNat pp)), vI (cv), vI (37), vR (r_o_973), u_, u_, u_, u_, u_, u_, u_, u_, u_] [] _
        refine st1049 _ ?_
        show SS p e below m T1049 91 #[vJ (q0), s_, vJ (q1), s_, vI (p2), vI (p3), vI (p4), vI (3), vI ((Int32.ofNat pp)), vI (cv), vI (37), vR (r_o_973), u_, u_, u_, u_, u_, u_, u_, u_, u_] [(.ref b1049)] _
        refine XS.dup X1049.here hx rfl (hb hby at_91) rfl rfl ?_
        show SS p e below m T1049 92 #[vJ (q0), s_, vJ (q1), s_, vI (p2), vI (p3), vI (p4), vI (3), vI ((Int32.ofNat pp)), vI (cv), vI (37), vR (r_o_973), u_, u_, u_, u_, u_, u_, u_, u_, u_] [(.ref b1049), (.ref b1049)] _
        refine zaload X1049 hx hby at_92 rfl rfl ?_
        refine st1060.trans ?_
        refine st1073 _ ?_
        refine zastore (l' := #[vJ (q0), s_, vJ (q1), s_, vI (p2), vI (p3), vI (p4), vI (3), vI ((Int32.ofNat pp)), vI (cv), vI (37), vR (r_o_973), vR (e_o), u_, u_, u_, u_, u_, u_, u_, u_]) X1073 hx hby at_100 rfl rfl ?_
        refine ziload X1073 hx hby at_102 rfl ?_
        refine ziconst X1073 hx hby (2) at_104 rfl ?_
        refine zicmpNo X1073 hx hby at_105 (feq ((by decide) : ¬ ((3 : Int32) = (2 : Int32)))).1 ?_
        refine ziload X1073 hx hby at_108 rfl ?_
        refine ziconst X1073 hx hby (3) at_110 rfl ?_
        refine zicmpNo X1073 hx hby at_111 (teq ((by decide) : (3 : Int32) = (3 : Int32))).2 ?_
        refine zaload X1073 hx hby at_114 rfl rfl ?_
        refine st1086.trans ?_
        show SS p e below m T1086 119 #[vJ (q0), s_, vJ (q1), s_, vI (p2), vI (p3), vI (p4), vI (3), vI ((Int32.ofNat pp)), vI (cv), vI (37), vR (r_o_973), vR (e_o), u_, u_, u_, u_, u_, u_, u_, u_] [(.int 0)] _
        refine zifNo X1086 hx hby at_119 ((if0 _ _).trans (teq ((by decide) : (0 : Int32) = (0 : Int32))).2) ?_
        refine ziconst X1086 hx hby (1) at_122 rfl ?_
        refine zgoto X1086 hx hby 123 127 rfl at_123 (by decide) (by decide) ?_
        exact retN X1086 hx (t := .boolean) Bd.returns (by simp) (hb hby at_127) hr
      · show Qown_law Z q0 q1 p2 p3 p4 cs u_f e_o h0 n0 _ T1086.heap _
        rw [eh1086]
        exact ⟨rfl, N1089⟩
set_option maxRecDepth 65536 in
set_option maxHeartbeats 40000000 in
theorem comes_1 {Post : Tables → Env → Array Value → State → Outcome → State → Prop} (hpost : ∀ tb e args s v u, (limb_1_1.after args s (.returned v) u = true ∧ limb_1_2.after args s (.returned v) u = true ∧ True) → FrameEnd s (.returned v) u (Jvm.fieldLocs frame_1_writes args s ++ Jvm.arrayLocs frame_1_arrays args s ++ Jvm.staticLocs frame_1_statics s) 24 384 → Post tb e args s (.returned v) u) :
    ArmFor flags0 classFile x code maxLocals ret World_1 tables_1 room_1 Calls_1 rest_1 Pre_1 Post := by
  intro l hfl _ _ p e ha hc hk s m args below hf hA hF happ hP
  obtain ⟨hcalls, hrest, hpre⟩ := hP
  obtain ⟨-, -, -, hnamed, -, -, -, hat⟩ := (Spec.applies_iff hf).mp happ
  obtain ⟨hg, hn⟩ := and_e (Cond.before_iff.mp (show (Jvm.Cond.and given_1 narrow_1).before args s = true from hpre))
  obtain ⟨gg1, gg2⟩ := and_e hg
  obtain ⟨gg3, gg4⟩ := and_e gg2
  obtain ⟨gg5, gg6⟩ := and_e gg4
  obtain ⟨gg7, gg8⟩ := and_e gg6
  obtain ⟨gg9, gg10⟩ := and_e gg8
  obtain ⟨w0, w1, w2, w3, w4, rfl⟩ : ∃ w0 w1 w2 w3 w4 : Value, args = #[w0, w1, w2, w3, w4] := by
    have hs : args.size = 5 := by simpa [Cond.value, given_1] using gg1
    obtain ⟨L⟩ := args
    match L, hs with
    | [w0, w1, w2, w3, w4], _ => exact ⟨w0, w1, w2, w3, w4, rfl⟩
  have hw := fun d (hd : d ∈ tables_1) => atoms_spec (ws := Jvm.Cond.code x code maxLocals ret :: tables_1) hat d (List.mem_cons_of_mem _ hd)
  have hfit : Fit s := fun {y c} hc i hi => by
    obtain ⟨ha, rfl⟩ := Array.getElem?_eq_some_iff.mp hc
    have q := List.all_eq_true.mp ((Array.all_eq_true_iff_forall_mem.mp hF) _ (Array.getElem_mem ha)) i (List.mem_range.mpr hi)
    simpa [Array.getElem?_eq_getElem hi] using q
  obtain ⟨hsets, hown0⟩ := atoms_of _ (rest_1_c_eq ▸ (show rest_1_c.before _ s = true from hrest))
  obtain ⟨i0, ei0⟩ := isL_v gg3
  obtain rfl : w0 = (.long i0) := Option.some.inj ei0
  obtain ⟨i1, ei1⟩ := isL_v gg5
  obtain rfl : w1 = (.long i1) := Option.some.inj ei1
  obtain ⟨i2, ei2⟩ := is_v gg7
  obtain rfl : w2 = (.int i2) := Option.some.inj ei2
  obtain ⟨i3, ei3⟩ := is_v gg9
  obtain rfl : w3 = (.int i3) := Option.some.inj ei3
  obtain ⟨i4, ei4⟩ := is_v gg10
  obtain rfl : w4 = (.int i4) := Option.some.inj ei4
  obtain ⟨w, hSt, hw0⟩ := own_compact (hsets _ (gm 1 rfl)) (hsets _ (gm 2 rfl)) (hsets _ (gm 0 rfl))
  obtain ⟨uf, euf, huf⟩ := isR_v (Cond.before_iff.mp (hsets _ (gm 8 rfl)))
  have hSuf := Sta.start euf (Or.inl (hsets _ (gm 7 rfl)))
  have xeo := Cond.before_iff.mp (hsets _ (gm 11 rfl))
  obtain ⟨eo, eeo⟩ := exa_v xeo
  have hSeo := Sta.start eeo (Or.inl (hsets _ (gm 10 rfl)))
  have hEeo := Exa.start eeo xeo
  have hFeo := Fld.start ((fld_at eeo).symm.trans (null_v (Cond.before_iff.mp (hsets _ (gm 12 rfl)))))
  obtain ⟨n, o, h1, h2, h3, _, L, rfl, ⟨rfl, N⟩, hq⟩ := own_law l s _ hw tables_1 i0 i1 i2 i3 i4 w uf eo s.heap s.heap.size (Nat.le_refl _) (own_staI (hsets _ (gm 16 rfl)) (hsets _ (gm 15 rfl))) (own_staI (hsets _ (gm 19 rfl)) (hsets _ (gm 18 rfl))) (own_staI (hsets _ (gm 22 rfl)) (hsets _ (gm 21 rfl))) (Old.start s) hSt hw0 hSuf huf hSeo hEeo hFeo p e ha hc hk s m _ below hf ((Spec.applies_iff_loose hf).mp happ).1 ⟨rfl, State.Warmed39.refl s, rfl⟩ trivial
  refine ⟨n, _, h1, h2, h3, hpost _ _ _ _ _ _ ⟨Cond.after_iff.mpr rfl, Cond.after_iff.mpr (eq_i res_at (Term.int_eval (1)) rfl), trivial⟩ ⟨hq.1, hq.2.1, (hq.2.2.sift fun y hy => Or.inr (N y hy)).mono (by decide) (by decide)⟩⟩
theorem main_1_1 : Claimed_1_1 := comes_1 fun _ _ _ _ _ _ h hF => ⟨h.1, hF⟩
theorem main_1_2 : Claimed_1_2 := comes_1 fun _ _ _ _ _ _ h hF => ⟨h.2.1, hF⟩
end Jvm.Pilot.@@N@@
namespace Jvm.Pilot.@@N@@
open Jvm Jvm.ClassFile Sem Op Lib Jvm.Free Jvm.Stand Jvm.Pilot.@@N@@.Jvm.D
/-! MADE BY PROGRAM (witnessworld.py) out of the Statement's table words and the real class files: 23 classes; the members and pool entries that the words name. The judged class is class 1, her method 1. -/
namespace start1
open Jvm.ClassFile
def u (s : String) : CpInfo := .utf8 (stringToUtf16 s)
/-- a pool by its gaps: so many unusable entries, then the entry; so many at the end -/
def gap : Nat → List CpInfo → List CpInfo
  | 0, r => r
  | n + 1, r => .unusable :: gap n r
def poolList (es : List (Nat × CpInfo)) (last : Nat) : List CpInfo := es.foldr (fun e r => gap e.1 (e.2 :: r)) (gap last [])
def pool (es : List (Nat × CpInfo)) (last : Nat) : Array CpInfo := ⟨poolList es last⟩
def fileOf (pool : Array CpInfo) (this : Nat) (attrs : Array Attribute := #[]) (ms : Array MethodInfo := #[]) (fl : Nat := 33) (sup : Nat := 0) (ifs : Array Nat := #[]) (fds : Array FieldInfo := #[]) : ClassFile where
  minorVersion := 0
  majorVersion := 65
  constantPool := pool
  accessFlags := fl
  thisClass := this
  superClass := sup
  interfaces := ifs
  fields := fds
  methods := ms
  attributes := attrs
def plain (name : String) (sup : Option ClassId) : Class where
  name := name
  kind := .ordinary
  loader := none
  accessFlags := 33
  super := sup
  interfaces := #[]
  cf := none
  fields := #[]
  methods := #[]
  instanceTypes := #[]
  staticTypes := #[]
  resolved := #[]
  callSites := []
  init := .initialized
  statics := none
  mirror := none

def pool0 : Array CpInfo := pool [(5, u "<init>"), (0, u "()V"), (1, .class_ 10), (1, u "java/lang/Object")] 113

def k0c0 : Code := { maxStack := 0, maxLocals := 1, code := object_method_1_code, exceptionTable := #[], attributes := #[] }
def k0m0 : Method := { name := "<init>", desc := "()V", sig := { parameters := [], returnType := none }, accessFlags := 1, code := some k0c0 }
/-- java/lang/Object -/
def k0 : Class := { plain "java/lang/Object" none with
  accessFlags := 33
  interfaces := #[]
  cf := some (fileOf pool0 8 #[] #[{ accessFlags := 1, nameIndex := 5, descriptorIndex := 6, attributes := #[] }] 33 0 #[] #[])
  fields := #[]
  methods := #[k0m0]
  instanceTypes := #[]
  staticTypes := #[]
  resolved := Array.replicate 124 none
  statics := none }

def pool1 : Array CpInfo := pool [(2, .class_ 4), (1, u "java/lang/Object"), (0, u "<init>"), (0, u "()V"), (0, .integer 2147483647), (0, .integer 65535), (0, .methodref 10 11), (0, .class_ 12), (0, .nameAndType 13 14), (0, u "com/example/rosterhall/rosterhall/ResourceIdParsePinLaw"), (0, u "draw"), (0, u "(JJI)[C"), (0, .class_ 16), (0, u "java/lang/String"), (0, .methodref 15 18), (0, .nameAndType 5 19), (0, u "([C)V"), (0, .methodref 21 22), (0, .class_ 23), (0, .nameAndType 24 25), (0, u "com/example/rosterhall/rosterhall/ResourceId"), (0, u "parse"), (0, u "(Ljava/lang/String;)Ljava/util/Optional;"), (0, .methodref 27 28), (0, .class_ 29), (0, .nameAndType 30 31), (0, u "java/util/Optional"), (0, u "isPresent"), (0, u "()Z"), (0, .methodref 10 33), (0, .nameAndType 34 35), (0, u "isDash"), (0, u "(I)Z"), (0, .methodref 10 37), (0, .nameAndType 38 39), (0, u "hexValue"), (0, u "(C)I"), (0, .methodref 10 41), (0, .nameAndType 42 43), (0, u "digitIndex"), (0, u "(I)I"), (0, .long 15), (1, .long 18446744073709551615), (1, .methodref 27 49), (0, .nameAndType 50 51), (0, u "get"), (0, u "()Ljava/lang/Object;"), (0, .methodref 21 53), (0, .nameAndType 54 55), (0, u "high"), (0, u "()J"), (0, .methodref 21 57), (0, .nameAndType 58 55), (0, u "low"), (0, .methodref 10 60), (0, .nameAndType 61 62), (0, u "hexChar"), (0, u "(I)C"), (0, .methodref 10 64), (0, .nameAndType 65 66), (0, u "digitChar"), (0, u "(JJI)C"), (0, .methodref 10 68), (0, .nameAndType 69 66), (0, u "posChar"), (0, .methodref 10 71), (0, .nameAndType 72 73), (0, u "put"), (0, u "([CIJJ)V"), (2, u "law"), (0, u "(JJIII)Z")] 5

def k1m0 : Method := { name := "<init>", desc := "()V", sig := { parameters := [], returnType := none }, accessFlags := 2, code := none }
def k1c1 : Code := { maxStack := 6, maxLocals := 21, code := code, exceptionTable := #[], attributes := #[] }
def k1m1 : Method := { name := "law", desc := "(JJIII)Z", sig := { parameters := [.long, .long, .int, .int, .int], returnType := some .boolean }, accessFlags := 9, code := some k1c1 }
def k1c2 : Code := { maxStack := 2, maxLocals := 1, code := method_3_code, exceptionTable := #[], attributes := #[] }
def k1m2 : Method := { name := "isDash", desc := "(I)Z", sig := { parameters := [.int], returnType := some .boolean }, accessFlags := 10, code := some k1c2 }
def k1c3 : Code := { maxStack := 2, maxLocals := 1, code := method_4_code, exceptionTable := #[], attributes := #[] }
def k1m3 : Method := { name := "digitIndex", desc := "(I)I", sig := { parameters := [.int], returnType := some .int }, accessFlags := 10, code := some k1c3 }
def k1c4 : Code := { maxStack := 2, maxLocals := 1, code := method_5_code, exceptionTable := #[], attributes := #[] }
def k1m4 : Method := { name := "hexValue", desc := "(C)I", sig := { parameters := [.char], returnType := some .int }, accessFlags := 10, code := some k1c4 }
def k1c5 : Code := { maxStack := 3, maxLocals := 1, code := method_6_code, exceptionTable := #[], attributes := #[] }
def k1m5 : Method := { name := "hexChar", desc := "(I)C", sig := { parameters := [.int], returnType := some .char }, accessFlags := 10, code := some k1c5 }
def k1c6 : Code := { maxStack := 6, maxLocals := 7, code := method_7_code, exceptionTable := #[], attributes := #[] }
def k1m6 : Method := { name := "digitChar", desc := "(JJI)C", sig := { parameters := [.long, .long, .int], returnType := some .char }, accessFlags := 10, code := some k1c6 }
def k1c7 : Code := { maxStack := 5, maxLocals := 5, code := method_8_code, exceptionTable := #[], attributes := #[] }
def k1m7 : Method := { name := "posChar", desc := "(JJI)C", sig := { parameters := [.long, .long, .int], returnType := some .char }, accessFlags := 10, code := some k1c7 }
def k1c8 : Code := { maxStack := 7, maxLocals := 6, code := method_9_code, exceptionTable := #[], attributes := #[] }
def k1m8 : Method := { name := "put", desc := "([CIJJ)V", sig := { parameters := [(.array .char), .int, .long, .long], returnType := none }, accessFlags := 10, code := some k1c8 }
def k1c9 : Code := { maxStack := 6, maxLocals := 6, code := method_10_code, exceptionTable := #[], attributes := #[] }
def k1m9 : Method := { name := "draw", desc := "(JJI)[C", sig := { parameters := [.long, .long, .int], returnType := some (.array .char) }, accessFlags := 10, code := some k1c9 }
/-- com/example/rosterhall/rosterhall/ResourceIdParsePinLaw -/
def k1 : Class := { plain "com/example/rosterhall/rosterhall/ResourceIdParsePinLaw" (some 0) with
  accessFlags := 49
  interfaces := #[]
  cf := some (fileOf pool1 10 #[] #[{ accessFlags := 2, nameIndex := 5, descriptorIndex := 6, attributes := #[] }, { accessFlags := 9, nameIndex := 76, descriptorIndex := 77, attributes := #[] }, { accessFlags := 10, nameIndex := 34, descriptorIndex := 35, attributes := #[] }, { accessFlags := 10, nameIndex := 42, descriptorIndex := 43, attributes := #[] }, { accessFlags := 10, nameIndex := 38, descriptorIndex := 39, attributes := #[] }, { accessFlags := 10, nameIndex := 61, descriptorIndex := 62, attributes := #[] }, { accessFlags := 10, nameIndex := 65, descriptorIndex := 66, attributes := #[] }, { accessFlags := 10, nameIndex := 69, descriptorIndex := 66, attributes := #[] }, { accessFlags := 10, nameIndex := 72, descriptorIndex := 73, attributes := #[] }, { accessFlags := 10, nameIndex := 13, descriptorIndex := 14, attributes := #[] }] 49 2 #[] #[])
  fields := #[]
  methods := #[k1m0, k1m1, k1m2, k1m3, k1m4, k1m5, k1m6, k1m7, k1m8, k1m9]
  instanceTypes := #[]
  staticTypes := #[]
  resolved := Array.replicate 83 none
  statics := none }

def pool2 : Array CpInfo := pool [(1, .class_ 2), (0, u "java/io/Serializable"), (0, .class_ 4), (0, u "java/lang/Object")] 2

/-- java/io/Serializable -/
def k2 : Class := { plain "java/io/Serializable" (some 0) with
  accessFlags := 1537
  interfaces := #[]
  cf := some (fileOf pool2 1 #[] #[] 1537 3 #[] #[])
  fields := #[]
  methods := #[]
  instanceTypes := #[]
  staticTypes := #[]
  resolved := Array.replicate 7 none
  statics := none }

def pool3 : Array CpInfo := pool [(1, .class_ 2), (0, u "java/lang/Comparable"), (0, .class_ 4), (0, u "java/lang/Object")] 7

/-- java/lang/Comparable -/
def k3 : Class := { plain "java/lang/Comparable" (some 0) with
  accessFlags := 1537
  interfaces := #[]
  cf := some (fileOf pool3 1 #[] #[] 1537 3 #[] #[])
  fields := #[]
  methods := #[]
  instanceTypes := #[]
  staticTypes := #[]
  resolved := Array.replicate 12 none
  statics := none }

def pool4 : Array CpInfo := pool [(2, .class_ 4), (1, u "java/lang/CharSequence"), (42, .class_ 48), (0, u "java/lang/CharSequence$1CodePointIterator"), (10, .class_ 60), (0, u "java/lang/CharSequence$1CharIterator"), (5, .class_ 67), (0, u "java/lang/Object")] 63

/-- java/lang/CharSequence -/
def k4 : Class := { plain "java/lang/CharSequence" (some 0) with
  accessFlags := 1537
  interfaces := #[]
  cf := some (fileOf pool4 2 #[.nestMembers #[47, 59]] #[] 1537 66 #[] #[])
  fields := #[]
  methods := #[]
  instanceTypes := #[]
  staticTypes := #[]
  resolved := Array.replicate 131 none
  statics := none }

def pool5 : Array CpInfo := pool [(1, .class_ 2), (0, u "java/lang/constant/Constable"), (0, .class_ 4), (0, u "java/lang/Object")] 6

/-- java/lang/constant/Constable -/
def k5 : Class := { plain "java/lang/constant/Constable" (some 0) with
  accessFlags := 1537
  interfaces := #[]
  cf := some (fileOf pool5 1 #[] #[] 1537 3 #[] #[])
  fields := #[]
  methods := #[]
  instanceTypes := #[]
  staticTypes := #[]
  resolved := Array.replicate 11 none
  statics := none }

def pool6 : Array CpInfo := pool [(1, .class_ 2), (0, u "java/lang/constant/ConstantDesc"), (0, .class_ 4), (0, u "java/lang/Object")] 32

/-- java/lang/constant/ConstantDesc -/
def k6 : Class := { plain "java/lang/constant/ConstantDesc" (some 0) with
  accessFlags := 1537
  interfaces := #[]
  cf := some (fileOf pool6 1 #[] #[] 1537 3 #[] #[])
  fields := #[]
  methods := #[]
  instanceTypes := #[]
  staticTypes := #[]
  resolved := Array.replicate 37 none
  statics := none }

def pool7 : Array CpInfo := pool [(1, .methodref 2 3), (0, .class_ 4), (0, .nameAndType 5 6), (0, u "java/lang/Object"), (0, u "<init>"), (0, u "()V"), (2, .fieldref 10 11), (0, .class_ 12), (0, .nameAndType 13 14), (0, u "java/lang/String"), (0, u "value"), (0, u "[B"), (0, .fieldref 10 16), (0, .nameAndType 17 18), (0, u "coder"), (0, u "B"), (2, u "hash"), (0, u "I"), (2, u "hashIsZero"), (0, u "Z"), (0, .methodref 10 28), (0, .nameAndType 5 29), (0, u "([CIILjava/lang/Void;)V"), (8, .fieldref 10 39), (0, .nameAndType 40 26), (0, u "COMPACT_STRINGS"), (1, .class_ 44), (1, u "java/lang/StringUTF16"), (0, u "compress"), (1, .methodref 42 48), (0, .nameAndType 49 50), (0, u "coderFromArrayLen"), (0, u "([BI)B"), (56, .class_ 109), (1, u "java/lang/StringLatin1"), (32, u "()Z"), (34, .methodref 42 178), (0, .nameAndType 45 179), (0, u "([CII)[B"), (154, u "()I"), (0, .methodref 10 336), (0, .nameAndType 17 337), (0, u "()B"), (25, u "([BI)C"), (27, u "(II)V"), (35, u "(I)C"), (64, .methodref 10 493), (0, .nameAndType 494 142), (0, u "isLatin1"), (0, .methodref 107 496), (0, .nameAndType 497 363), (0, u "charAt"), (0, .methodref 42 496), (2, u "checkIndex"), (5, u "length"), (67, .class_ 576), (0, u "java/lang/CharSequence"), (22, u "CASE_INSENSITIVE_ORDER"), (0, u "Ljava/util/Comparator;"), (409, u "([C)V"), (42, .fieldref 1054 1055), (0, .class_ 1056), (0, .nameAndType 1057 1058), (0, u "jdk/internal/util/Preconditions"), (0, u "SIOOBE_FORMATTER"), (0, u "Ljava/util/function/BiFunction;"), (0, .methodref 1054 1060), (0, .nameAndType 501 1061), (0, u "(IILjava/util/function/BiFunction;)I"), (39, u "serialPersistentFields"), (0, u "[Ljava/io/ObjectStreamField;"), (0, .class_ 1104), (0, u "java/lang/String$CaseInsensitiveComparator"), (1, .class_ 1107), (0, u "java/io/Serializable"), (0, .class_ 1109), (0, u "java/lang/Comparable"), (0, .class_ 1111), (0, u "java/lang/constant/Constable"), (0, .class_ 1113), (0, u "java/lang/constant/ConstantDesc"), (2, u "serialVersionUID"), (0, u "J"), (3, u "REPL"), (0, u "C"), (2, u "LATIN1"), (1, u "UTF16")] 323

def k7m0 : Method := { name := "<init>", desc := "()V", sig := { parameters := [], returnType := none }, accessFlags := 1, code := none }
def k7c1 : Code := { maxStack := 5, maxLocals := 2, code := jdk_42_method_3_code, exceptionTable := #[], attributes := #[] }
def k7m1 : Method := { name := "<init>", desc := "([C)V", sig := { parameters := [(.array .char)], returnType := none }, accessFlags := 1, code := some k7c1 }
def k7c2 : Code := { maxStack := 2, maxLocals := 1, code := jdk_42_method_54_code, exceptionTable := #[], attributes := #[] }
def k7m2 : Method := { name := "length", desc := "()I", sig := { parameters := [], returnType := some .int }, accessFlags := 1, code := some k7c2 }
def k7c3 : Code := { maxStack := 2, maxLocals := 2, code := jdk_42_method_56_code, exceptionTable := #[], attributes := #[] }
def k7m3 : Method := { name := "charAt", desc := "(I)C", sig := { parameters := [.int], returnType := some .char }, accessFlags := 1, code := some k7c3 }
def k7c4 : Code := { maxStack := 4, maxLocals := 6, code := jdk_42_method_149_code, exceptionTable := #[], attributes := #[] }
def k7m4 : Method := { name := "<init>", desc := "([CIILjava/lang/Void;)V", sig := { parameters := [(.array .char), .int, .int, (.object "java/lang/Void")], returnType := none }, accessFlags := 2, code := some k7c4 }
def k7c5 : Code := { maxStack := 1, maxLocals := 1, code := jdk_42_method_152_code, exceptionTable := #[], attributes := #[] }
def k7m5 : Method := { name := "coder", desc := "()B", sig := { parameters := [], returnType := some .byte }, accessFlags := 0, code := some k7c5 }
def k7c6 : Code := { maxStack := 1, maxLocals := 1, code := jdk_42_method_154_code, exceptionTable := #[], attributes := #[] }
def k7m6 : Method := { name := "isLatin1", desc := "()Z", sig := { parameters := [], returnType := some .boolean }, accessFlags := 0, code := some k7c6 }
def k7c7 : Code := { maxStack := 3, maxLocals := 2, code := jdk_42_method_155_code, exceptionTable := #[], attributes := #[] }
def k7m7 : Method := { name := "checkIndex", desc := "(II)V", sig := { parameters := [.int, .int], returnType := none }, accessFlags := 8, code := some k7c7 }
/-- java/lang/String -/
def k7 : Class := { plain "java/lang/String" (some 0) with
  accessFlags := 49
  interfaces := #[2, 3, 4, 5, 6]
  cf := some (fileOf pool7 10 #[.nestMembers #[1103]] #[{ accessFlags := 1, nameIndex := 5, descriptorIndex := 6, attributes := #[] }, { accessFlags := 1, nameIndex := 5, descriptorIndex := 1010, attributes := #[] }, { accessFlags := 1, nameIndex := 507, descriptorIndex := 334, attributes := #[] }, { accessFlags := 1, nameIndex := 497, descriptorIndex := 427, attributes := #[] }, { accessFlags := 2, nameIndex := 5, descriptorIndex := 29, attributes := #[] }, { accessFlags := 0, nameIndex := 17, descriptorIndex := 337, attributes := #[] }, { accessFlags := 0, nameIndex := 494, descriptorIndex := 142, attributes := #[] }, { accessFlags := 8, nameIndex := 501, descriptorIndex := 391, attributes := #[] }] 49 2 #[1106, 1108, 575, 1110, 1112] #[{ accessFlags := 18, nameIndex := 13, descriptorIndex := 14, attributes := #[] }, { accessFlags := 18, nameIndex := 17, descriptorIndex := 18, attributes := #[] }, { accessFlags := 2, nameIndex := 21, descriptorIndex := 22, attributes := #[] }, { accessFlags := 2, nameIndex := 25, descriptorIndex := 26, attributes := #[] }, { accessFlags := 26, nameIndex := 1116, descriptorIndex := 1117, attributes := #[] }, { accessFlags := 24, nameIndex := 40, descriptorIndex := 26, attributes := #[] }, { accessFlags := 26, nameIndex := 1101, descriptorIndex := 1102, attributes := #[] }, { accessFlags := 26, nameIndex := 1121, descriptorIndex := 1122, attributes := #[] }, { accessFlags := 25, nameIndex := 599, descriptorIndex := 600, attributes := #[] }, { accessFlags := 24, nameIndex := 1125, descriptorIndex := 18, attributes := #[] }, { accessFlags := 24, nameIndex := 1127, descriptorIndex := 18, attributes := #[] }])
  fields := #[{ name := "value", type := (.array .byte), accessFlags := 18, slot := 0, constantValue := 0 }, { name := "coder", type := .byte, accessFlags := 18, slot := 1, constantValue := 0 }, { name := "hash", type := .int, accessFlags := 2, slot := 2, constantValue := 0 }, { name := "hashIsZero", type := .boolean, accessFlags := 2, slot := 3, constantValue := 0 }, { name := "serialVersionUID", type := .long, accessFlags := 26, slot := 0, constantValue := 0 }, { name := "COMPACT_STRINGS", type := .boolean, accessFlags := 24, slot := 1, constantValue := 0 }, { name := "serialPersistentFields", type := (.array (.object "java/io/ObjectStreamField")), accessFlags := 26, slot := 2, constantValue := 0 }, { name := "REPL", type := .char, accessFlags := 26, slot := 3, constantValue := 0 }, { name := "CASE_INSENSITIVE_ORDER", type := (.object "java/util/Comparator"), accessFlags := 25, slot := 4, constantValue := 0 }, { name := "LATIN1", type := .byte, accessFlags := 24, slot := 5, constantValue := 0 }, { name := "UTF16", type := .byte, accessFlags := 24, slot := 6, constantValue := 0 }]
  methods := #[k7m0, k7m1, k7m2, k7m3, k7m4, k7m5, k7m6, k7m7]
  instanceTypes := #[(.array .byte), .byte, .int, .boolean]
  staticTypes := #[.long, .boolean, (.array (.object "java/io/ObjectStreamField")), .char, (.object "java/util/Comparator"), .byte, .byte]
  resolved := Array.replicate 1451 none
  statics := some 0 }

def pool8 : Array CpInfo := pool [(3, .class_ 4), (0, u "java/lang/String"), (1, .class_ 8), (1, u "java/lang/Object"), (0, u "<init>"), (0, u "()V"), (0, .methodref 12 13), (0, .class_ 14), (0, .nameAndType 15 16), (0, u "java/lang/StringUTF16"), (0, u "newBytesLength"), (0, u "(I)I"), (3, .integer 1073741823), (23, .fieldref 12 45), (0, .nameAndType 46 47), (0, u "$assertionsDisabled"), (0, u "Z"), (0, .methodref 12 49), (0, .nameAndType 50 51), (0, u "length"), (0, u "([B)I"), (7, .fieldref 12 60), (0, .nameAndType 61 62), (0, u "HI_BYTE_SHIFT"), (0, u "I"), (0, .fieldref 12 64), (0, .nameAndType 65 62), (0, u "LO_BYTE_SHIFT"), (1, .methodref 12 68), (0, .nameAndType 69 70), (0, u "checkIndex"), (0, u "(I[B)V"), (0, .methodref 12 72), (0, .nameAndType 73 74), (0, u "getChar"), (0, u "([BI)C"), (32, .methodref 12 108), (0, .nameAndType 109 110), (0, u "newBytesFor"), (0, u "(I)[B"), (0, .methodref 12 112), (0, .nameAndType 113 114), (0, u "putChar"), (0, u "([BII)V"), (0, .methodref 12 116), (0, .nameAndType 117 118), (0, u "compress"), (0, u "([CI[BII)I"), (0, .methodref 12 120), (0, .nameAndType 121 122), (0, u "toBytes"), (0, u "([CII)[B"), (138, u "coderFromArrayLen"), (0, u "([BI)B"), (106, .class_ 371), (1, u "java/lang/StringUTF16$LinesSpliterator"), (20, u "charAt"), (21, .methodref 3 415), (0, .nameAndType 69 416), (0, u "(II)V"), (13, u "MAX_LENGTH"), (196, .class_ 628), (0, u "java/lang/StringUTF16$CodePointsSpliterator"), (0, .class_ 630), (0, u "java/lang/StringUTF16$CharsSpliterator")] 4

def k8m0 : Method := { name := "<init>", desc := "()V", sig := { parameters := [], returnType := none }, accessFlags := 0, code := none }
def k8c1 : Code := { maxStack := 1, maxLocals := 1, code := jdk_52_method_2_code, exceptionTable := #[], attributes := #[] }
def k8m1 : Method := { name := "newBytesFor", desc := "(I)[B", sig := { parameters := [.int], returnType := some (.array .byte) }, accessFlags := 9, code := some k8c1 }
def k8c2 : Code := { maxStack := 4, maxLocals := 1, code := jdk_52_method_3_code, exceptionTable := #[], attributes := #[] }
def k8m2 : Method := { name := "newBytesLength", desc := "(I)I", sig := { parameters := [.int], returnType := some .int }, accessFlags := 9, code := some k8c2 }
def k8c3 : Code := { maxStack := 4, maxLocals := 3, code := jdk_52_method_4_code, exceptionTable := #[], attributes := #[] }
def k8m3 : Method := { name := "putChar", desc := "([BII)V", sig := { parameters := [(.array .byte), .int, .int], returnType := none }, accessFlags := 8, code := some k8c3 }
def k8c4 : Code := { maxStack := 3, maxLocals := 2, code := jdk_52_method_5_code, exceptionTable := #[], attributes := #[] }
def k8m4 : Method := { name := "getChar", desc := "([BI)C", sig := { parameters := [(.array .byte), .int], returnType := some .char }, accessFlags := 8, code := some k8c4 }
def k8c5 : Code := { maxStack := 2, maxLocals := 1, code := jdk_52_method_6_code, exceptionTable := #[], attributes := #[] }
def k8m5 : Method := { name := "length", desc := "([B)I", sig := { parameters := [(.array .byte)], returnType := some .int }, accessFlags := 9, code := some k8c5 }
def k8c6 : Code := { maxStack := 4, maxLocals := 5, code := jdk_52_method_14_code, exceptionTable := #[], attributes := #[] }
def k8m6 : Method := { name := "toBytes", desc := "([CII)[B", sig := { parameters := [(.array .char), .int, .int], returnType := some (.array .byte) }, accessFlags := 9, code := some k8c6 }
def k8c7 : Code := { maxStack := 2, maxLocals := 2, code := jdk_52_method_15_code, exceptionTable := #[], attributes := #[] }
def k8m7 : Method := { name := "coderFromArrayLen", desc := "([BI)B", sig := { parameters := [(.array .byte), .int], returnType := some .byte }, accessFlags := 8, code := some k8c7 }
def k8c8 : Code := { maxStack := 5, maxLocals := 6, code := jdk_52_method_16_code, exceptionTable := #[], attributes := #[] }
def k8m8 : Method := { name := "compress", desc := "([CII)[B", sig := { parameters := [(.array .char), .int, .int], returnType := some (.array .byte) }, accessFlags := 9, code := some k8c8 }
def k8c9 : Code := { maxStack := 3, maxLocals := 7, code := jdk_52_method_21_code, exceptionTable := #[], attributes := #[] }
def k8m9 : Method := { name := "compress", desc := "([CI[BII)I", sig := { parameters := [(.array .char), .int, (.array .byte), .int, .int], returnType := some .int }, accessFlags := 9, code := some k8c9 }
def k8c10 : Code := { maxStack := 2, maxLocals := 2, code := jdk_52_method_83_code, exceptionTable := #[], attributes := #[] }
def k8m10 : Method := { name := "charAt", desc := "([BI)C", sig := { parameters := [(.array .byte), .int], returnType := some .char }, accessFlags := 9, code := some k8c10 }
def k8c11 : Code := { maxStack := 2, maxLocals := 2, code := jdk_52_method_91_code, exceptionTable := #[], attributes := #[] }
def k8m11 : Method := { name := "checkIndex", desc := "(I[B)V", sig := { parameters := [.int, (.array .byte)], returnType := none }, accessFlags := 9, code := some k8c11 }
/-- java/lang/StringUTF16 -/
def k8 : Class := { plain "java/lang/StringUTF16" (some 0) with
  accessFlags := 48
  interfaces := #[]
  cf := some (fileOf pool8 12 #[.nestMembers #[627, 629, 369]] #[{ accessFlags := 0, nameIndex := 9, descriptorIndex := 10, attributes := #[] }, { accessFlags := 9, nameIndex := 109, descriptorIndex := 110, attributes := #[] }, { accessFlags := 9, nameIndex := 15, descriptorIndex := 16, attributes := #[] }, { accessFlags := 8, nameIndex := 113, descriptorIndex := 114, attributes := #[] }, { accessFlags := 8, nameIndex := 73, descriptorIndex := 74, attributes := #[] }, { accessFlags := 9, nameIndex := 50, descriptorIndex := 51, attributes := #[] }, { accessFlags := 9, nameIndex := 121, descriptorIndex := 122, attributes := #[] }, { accessFlags := 8, nameIndex := 261, descriptorIndex := 262, attributes := #[] }, { accessFlags := 9, nameIndex := 117, descriptorIndex := 122, attributes := #[] }, { accessFlags := 9, nameIndex := 117, descriptorIndex := 118, attributes := #[] }, { accessFlags := 9, nameIndex := 392, descriptorIndex := 74, attributes := #[] }, { accessFlags := 9, nameIndex := 69, descriptorIndex := 70, attributes := #[] }] 48 6 #[] #[{ accessFlags := 26, nameIndex := 61, descriptorIndex := 62, attributes := #[] }, { accessFlags := 26, nameIndex := 65, descriptorIndex := 62, attributes := #[] }, { accessFlags := 24, nameIndex := 430, descriptorIndex := 62, attributes := #[] }, { accessFlags := 4120, nameIndex := 46, descriptorIndex := 47, attributes := #[] }])
  fields := #[{ name := "HI_BYTE_SHIFT", type := .int, accessFlags := 26, slot := 0, constantValue := 0 }, { name := "LO_BYTE_SHIFT", type := .int, accessFlags := 26, slot := 1, constantValue := 0 }, { name := "MAX_LENGTH", type := .int, accessFlags := 24, slot := 2, constantValue := 0 }, { name := "$assertionsDisabled", type := .boolean, accessFlags := 4120, slot := 3, constantValue := 0 }]
  methods := #[k8m0, k8m1, k8m2, k8m3, k8m4, k8m5, k8m6, k8m7, k8m8, k8m9, k8m10, k8m11]
  instanceTypes := #[]
  staticTypes := #[.int, .int, .int, .boolean]
  resolved := Array.replicate 635 none
  statics := some 1 }

def pool9 : Array CpInfo := pool [(1, .methodref 2 3), (0, .class_ 4), (0, .nameAndType 5 6), (0, u "java/lang/Object"), (0, u "<init>"), (0, u "()V"), (0, .class_ 8), (0, u "java/lang/Record")] 13

def k9c0 : Code := { maxStack := 1, maxLocals := 1, code := jdk_30_method_1_code, exceptionTable := #[], attributes := #[] }
def k9m0 : Method := { name := "<init>", desc := "()V", sig := { parameters := [], returnType := none }, accessFlags := 4, code := some k9c0 }
/-- java/lang/Record -/
def k9 : Class := { plain "java/lang/Record" (some 0) with
  accessFlags := 1057
  interfaces := #[]
  cf := some (fileOf pool9 7 #[] #[{ accessFlags := 4, nameIndex := 5, descriptorIndex := 6, attributes := #[] }] 1057 2 #[] #[])
  fields := #[]
  methods := #[k9m0]
  instanceTypes := #[]
  staticTypes := #[]
  resolved := Array.replicate 22 none
  statics := none }

def pool10 : Array CpInfo := pool [(1, .methodref 2 3), (0, .class_ 4), (0, .nameAndType 5 6), (0, u "java/lang/Record"), (0, u "<init>"), (0, u "()V"), (0, .fieldref 8 9), (0, .class_ 10), (0, .nameAndType 11 12), (0, u "com/example/rosterhall/rosterhall/ResourceId"), (0, u "high"), (0, u "J"), (0, .fieldref 8 14), (0, .nameAndType 15 12), (0, u "low"), (9, u "()J"), (3, .methodref 8 30), (0, .nameAndType 5 31), (0, u "(JJ)V"), (0, .methodref 33 34), (0, .class_ 35), (0, .nameAndType 36 37), (0, u "java/lang/String"), (0, u "length"), (0, u "()I"), (0, .methodref 39 40), (0, .class_ 41), (0, .nameAndType 42 43), (0, u "java/util/Optional"), (0, u "empty"), (0, u "()Ljava/util/Optional;"), (0, .methodref 33 45), (0, .nameAndType 46 47), (0, u "charAt"), (0, u "(I)C"), (0, .methodref 8 49), (0, .nameAndType 50 51), (0, u "hexDigit"), (0, u "(C)I"), (0, .methodref 39 53), (0, .nameAndType 54 55), (0, u "of"), (0, u "(Ljava/lang/Object;)Ljava/util/Optional;"), (2, u "parse"), (0, u "(Ljava/lang/String;)Ljava/util/Optional;"), (41, u "FIRST"), (0, u "Lcom/example/rosterhall/rosterhall/ResourceId;"), (4, u "LAST"), (0, .class_ 109), (0, u "java/lang/Comparable"), (0, u "LENGTH"), (0, u "I")] 60

def k10c0 : Code := { maxStack := 3, maxLocals := 5, code := prog_20_method_1_code, exceptionTable := #[], attributes := #[] }
def k10m0 : Method := { name := "<init>", desc := "(JJ)V", sig := { parameters := [.long, .long], returnType := none }, accessFlags := 0, code := some k10c0 }
def k10c1 : Code := { maxStack := 6, maxLocals := 9, code := prog_20_method_3_code, exceptionTable := #[], attributes := #[] }
def k10m1 : Method := { name := "parse", desc := "(Ljava/lang/String;)Ljava/util/Optional;", sig := { parameters := [(.object "java/lang/String")], returnType := some (.object "java/util/Optional") }, accessFlags := 8, code := some k10c1 }
def k10c2 : Code := { maxStack := 2, maxLocals := 1, code := prog_20_method_6_code, exceptionTable := #[], attributes := #[] }
def k10m2 : Method := { name := "hexDigit", desc := "(C)I", sig := { parameters := [.char], returnType := some .int }, accessFlags := 10, code := some k10c2 }
def k10c3 : Code := { maxStack := 2, maxLocals := 1, code := prog_20_method_10_code, exceptionTable := #[], attributes := #[] }
def k10m3 : Method := { name := "high", desc := "()J", sig := { parameters := [], returnType := some .long }, accessFlags := 1, code := some k10c3 }
def k10c4 : Code := { maxStack := 2, maxLocals := 1, code := prog_20_method_11_code, exceptionTable := #[], attributes := #[] }
def k10m4 : Method := { name := "low", desc := "()J", sig := { parameters := [], returnType := some .long }, accessFlags := 1, code := some k10c4 }
/-- com/example/rosterhall/rosterhall/ResourceId -/
def k10 : Class := { plain "com/example/rosterhall/rosterhall/ResourceId" (some 9) with
  accessFlags := 48
  interfaces := #[3]
  cf := some (fileOf pool10 8 #[] #[{ accessFlags := 0, nameIndex := 5, descriptorIndex := 31, attributes := #[] }, { accessFlags := 8, nameIndex := 58, descriptorIndex := 59, attributes := #[] }, { accessFlags := 10, nameIndex := 50, descriptorIndex := 51, attributes := #[] }, { accessFlags := 1, nameIndex := 11, descriptorIndex := 25, attributes := #[] }, { accessFlags := 1, nameIndex := 15, descriptorIndex := 25, attributes := #[] }] 48 2 #[108] #[{ accessFlags := 18, nameIndex := 11, descriptorIndex := 12, attributes := #[] }, { accessFlags := 18, nameIndex := 15, descriptorIndex := 12, attributes := #[] }, { accessFlags := 24, nameIndex := 101, descriptorIndex := 102, attributes := #[] }, { accessFlags := 24, nameIndex := 107, descriptorIndex := 102, attributes := #[] }, { accessFlags := 26, nameIndex := 110, descriptorIndex := 111, attributes := #[] }])
  fields := #[{ name := "high", type := .long, accessFlags := 18, slot := 0, constantValue := 0 }, { name := "low", type := .long, accessFlags := 18, slot := 1, constantValue := 0 }, { name := "FIRST", type := (.object "com/example/rosterhall/rosterhall/ResourceId"), accessFlags := 24, slot := 0, constantValue := 0 }, { name := "LAST", type := (.object "com/example/rosterhall/rosterhall/ResourceId"), accessFlags := 24, slot := 1, constantValue := 0 }, { name := "LENGTH", type := .int, accessFlags := 26, slot := 2, constantValue := 0 }]
  methods := #[k10m0, k10m1, k10m2, k10m3, k10m4]
  instanceTypes := #[.long, .long]
  staticTypes := #[(.object "com/example/rosterhall/rosterhall/ResourceId"), (.object "com/example/rosterhall/rosterhall/ResourceId"), .int]
  resolved := Array.replicate 172 none
  statics := none }

def pool11 : Array CpInfo := pool [(1, .class_ 2), (0, u "java/lang/String"), (1, .class_ 6), (1, u "java/lang/Object"), (0, u "<init>"), (0, u "()V"), (0, .methodref 1 10), (0, .nameAndType 11 12), (0, u "checkIndex"), (0, u "(II)V"), (1, .class_ 16), (1, u "java/lang/StringLatin1"), (36, u "([BI)C"), (67, u "$assertionsDisabled"), (0, u "Z"), (98, .class_ 223), (1, u "java/lang/StringLatin1$LinesSpliterator"), (28, u "charAt"), (137, .class_ 391), (0, u "java/lang/StringLatin1$CharsSpliterator")] 3

def k11m0 : Method := { name := "<init>", desc := "()V", sig := { parameters := [], returnType := none }, accessFlags := 0, code := none }
def k11c1 : Code := { maxStack := 2, maxLocals := 2, code := jdk_43_method_2_code, exceptionTable := #[], attributes := #[] }
def k11m1 : Method := { name := "charAt", desc := "([BI)C", sig := { parameters := [(.array .byte), .int], returnType := some .char }, accessFlags := 9, code := some k11c1 }
/-- java/lang/StringLatin1 -/
def k11 : Class := { plain "java/lang/StringLatin1" (some 0) with
  accessFlags := 48
  interfaces := #[]
  cf := some (fileOf pool11 14 #[.nestMembers #[390, 221]] #[{ accessFlags := 0, nameIndex := 7, descriptorIndex := 8, attributes := #[] }, { accessFlags := 9, nameIndex := 252, descriptorIndex := 53, attributes := #[] }] 48 4 #[] #[{ accessFlags := 4120, nameIndex := 121, descriptorIndex := 122, attributes := #[] }])
  fields := #[{ name := "$assertionsDisabled", type := .boolean, accessFlags := 4120, slot := 0, constantValue := 0 }]
  methods := #[k11m0, k11m1]
  instanceTypes := #[]
  staticTypes := #[.boolean]
  resolved := Array.replicate 395 none
  statics := none }

def pool12 : Array CpInfo := pool [(2, .class_ 4), (1, u "java/lang/Object"), (0, u "<init>"), (0, u "()V"), (17, .class_ 26), (1, u "jdk/internal/util/Preconditions"), (6, u "checkIndex"), (21, .class_ 56), (0, u "jdk/internal/util/Preconditions$4"), (57, .class_ 115), (0, u "jdk/internal/util/Preconditions$1"), (7, u "SIOOBE_FORMATTER"), (0, u "Ljava/util/function/BiFunction;"), (0, .class_ 126), (0, u "jdk/internal/util/Preconditions$2"), (3, u "AIOOBE_FORMATTER"), (0, .class_ 132), (0, u "jdk/internal/util/Preconditions$3"), (3, u "IOOBE_FORMATTER"), (41, u "(IILjava/util/function/BiFunction;)I")] 15

def k12m0 : Method := { name := "<init>", desc := "()V", sig := { parameters := [], returnType := none }, accessFlags := 1, code := none }
def k12c1 : Code := { maxStack := 3, maxLocals := 3, code := jdk_41_method_11_code, exceptionTable := #[], attributes := #[] }
def k12m1 : Method := { name := "checkIndex", desc := "(IILjava/util/function/BiFunction;)I", sig := { parameters := [.int, .int, (.object "java/util/function/BiFunction")], returnType := some .int }, accessFlags := 9, code := some k12c1 }
/-- jdk/internal/util/Preconditions -/
def k12 : Class := { plain "jdk/internal/util/Preconditions" (some 0) with
  accessFlags := 33
  interfaces := #[]
  cf := some (fileOf pool12 24 #[.nestMembers #[55, 131, 125, 114]] #[{ accessFlags := 1, nameIndex := 5, descriptorIndex := 6, attributes := #[] }, { accessFlags := 9, nameIndex := 33, descriptorIndex := 178, attributes := #[] }] 33 2 #[] #[{ accessFlags := 25, nameIndex := 123, descriptorIndex := 124, attributes := #[] }, { accessFlags := 25, nameIndex := 130, descriptorIndex := 124, attributes := #[] }, { accessFlags := 25, nameIndex := 136, descriptorIndex := 124, attributes := #[] }])
  fields := #[{ name := "SIOOBE_FORMATTER", type := (.object "java/util/function/BiFunction"), accessFlags := 25, slot := 0, constantValue := 0 }, { name := "AIOOBE_FORMATTER", type := (.object "java/util/function/BiFunction"), accessFlags := 25, slot := 1, constantValue := 0 }, { name := "IOOBE_FORMATTER", type := (.object "java/util/function/BiFunction"), accessFlags := 25, slot := 2, constantValue := 0 }]
  methods := #[k12m0, k12m1]
  instanceTypes := #[]
  staticTypes := #[(.object "java/util/function/BiFunction"), (.object "java/util/function/BiFunction"), (.object "java/util/function/BiFunction")]
  resolved := Array.replicate 194 none
  statics := some 2 }

def pool13 : Array CpInfo := pool [(1, .fieldref 2 3), (0, .class_ 4), (0, .nameAndType 5 6), (0, u "java/util/Optional"), (0, u "EMPTY"), (0, u "Ljava/util/Optional;"), (0, .methodref 8 9), (0, .class_ 10), (0, .nameAndType 11 12), (0, u "java/lang/Object"), (0, u "<init>"), (0, u "()V"), (0, .fieldref 2 14), (0, .nameAndType 15 16), (0, u "value"), (0, u "Ljava/lang/Object;"), (0, .methodref 18 19), (0, .class_ 20), (0, .nameAndType 21 22), (0, u "java/util/Objects"), (0, u "requireNonNull"), (0, u "(Ljava/lang/Object;)Ljava/lang/Object;"), (0, .methodref 2 24), (0, .nameAndType 11 25), (0, u "(Ljava/lang/Object;)V"), (20, u "()Z"), (8, u "empty"), (0, u "()Ljava/util/Optional;"), (8, u "(Ljava/lang/Object;)Ljava/util/Optional;"), (2, u "isPresent"), (4, u "get"), (0, u "()Ljava/lang/Object;"), (7, u "of")] 104

def k13c0 : Code := { maxStack := 1, maxLocals := 1, code := jdk_32_method_1_code, exceptionTable := #[], attributes := #[] }
def k13m0 : Method := { name := "empty", desc := "()Ljava/util/Optional;", sig := { parameters := [], returnType := some (.object "java/util/Optional") }, accessFlags := 9, code := some k13c0 }
def k13c1 : Code := { maxStack := 2, maxLocals := 2, code := jdk_32_method_2_code, exceptionTable := #[], attributes := #[] }
def k13m1 : Method := { name := "<init>", desc := "(Ljava/lang/Object;)V", sig := { parameters := [(.object "java/lang/Object")], returnType := none }, accessFlags := 2, code := some k13c1 }
def k13c2 : Code := { maxStack := 3, maxLocals := 1, code := jdk_32_method_3_code, exceptionTable := #[], attributes := #[] }
def k13m2 : Method := { name := "of", desc := "(Ljava/lang/Object;)Ljava/util/Optional;", sig := { parameters := [(.object "java/lang/Object")], returnType := some (.object "java/util/Optional") }, accessFlags := 9, code := some k13c2 }
def k13c3 : Code := { maxStack := 3, maxLocals := 1, code := jdk_32_method_5_code, exceptionTable := #[], attributes := #[] }
def k13m3 : Method := { name := "get", desc := "()Ljava/lang/Object;", sig := { parameters := [], returnType := some (.object "java/lang/Object") }, accessFlags := 1, code := some k13c3 }
def k13c4 : Code := { maxStack := 1, maxLocals := 1, code := jdk_32_method_6_code, exceptionTable := #[], attributes := #[] }
def k13m4 : Method := { name := "isPresent", desc := "()Z", sig := { parameters := [], returnType := some .boolean }, accessFlags := 1, code := some k13c4 }
/-- java/util/Optional -/
def k13 : Class := { plain "java/util/Optional" (some 0) with
  accessFlags := 49
  interfaces := #[]
  cf := some (fileOf pool13 2 #[] #[{ accessFlags := 9, nameIndex := 55, descriptorIndex := 56, attributes := #[] }, { accessFlags := 2, nameIndex := 11, descriptorIndex := 25, attributes := #[] }, { accessFlags := 9, nameIndex := 82, descriptorIndex := 65, attributes := #[] }, { accessFlags := 1, nameIndex := 73, descriptorIndex := 74, attributes := #[] }, { accessFlags := 1, nameIndex := 68, descriptorIndex := 46, attributes := #[] }] 49 8 #[] #[{ accessFlags := 26, nameIndex := 5, descriptorIndex := 6, attributes := #[] }, { accessFlags := 18, nameIndex := 15, descriptorIndex := 16, attributes := #[] }])
  fields := #[{ name := "EMPTY", type := (.object "java/util/Optional"), accessFlags := 26, slot := 0, constantValue := 0 }, { name := "value", type := (.object "java/lang/Object"), accessFlags := 18, slot := 0, constantValue := 0 }]
  methods := #[k13m0, k13m1, k13m2, k13m3, k13m4]
  instanceTypes := #[(.object "java/lang/Object")]
  staticTypes := #[(.object "java/util/Optional")]
  resolved := Array.replicate 187 none
  statics := some 3 }

def pool14 : Array CpInfo := pool [(2, .class_ 4), (1, u "java/lang/Object"), (0, u "<init>"), (0, u "()V"), (35, .class_ 44), (1, u "java/util/Objects"), (0, u "requireNonNull"), (0, u "(Ljava/lang/Object;)Ljava/lang/Object;")] 137

def k14m0 : Method := { name := "<init>", desc := "()V", sig := { parameters := [], returnType := none }, accessFlags := 2, code := none }
def k14c1 : Code := { maxStack := 2, maxLocals := 1, code := jdk_31_method_10_code, exceptionTable := #[], attributes := #[] }
def k14m1 : Method := { name := "requireNonNull", desc := "(Ljava/lang/Object;)Ljava/lang/Object;", sig := { parameters := [(.object "java/lang/Object")], returnType := some (.object "java/lang/Object") }, accessFlags := 9, code := some k14c1 }
/-- java/util/Objects -/
def k14 : Class := { plain "java/util/Objects" (some 0) with
  accessFlags := 49
  interfaces := #[]
  cf := some (fileOf pool14 42 #[] #[{ accessFlags := 2, nameIndex := 5, descriptorIndex := 6, attributes := #[] }, { accessFlags := 9, nameIndex := 45, descriptorIndex := 46, attributes := #[] }] 49 2 #[] #[])
  fields := #[]
  methods := #[k14m0, k14m1]
  instanceTypes := #[]
  staticTypes := #[]
  resolved := Array.replicate 184 none
  statics := none }

def pool15 : Array CpInfo := pool [(9, u "<init>"), (6, .class_ 18), (1, u "java/lang/Object"), (0, u "()V"), (1, .class_ 23), (1, u "jdk/internal/util/ArraysSupport"), (0, u "LOG2_ARRAY_LONG_INDEX_SCALE"), (0, u "I"), (2, u "U"), (0, u "Ljdk/internal/misc/Unsafe;"), (8, u "BIG_ENDIAN"), (0, u "Z"), (8, u "LOG2_BYTE_BIT_SIZE"), (4, u "LOG2_ARRAY_INT_INDEX_SCALE"), (54, u "JLA"), (0, u "Ljdk/internal/access/JavaLangAccess;"), (11, u "LOG2_ARRAY_BOOLEAN_INDEX_SCALE"), (9, u "LOG2_ARRAY_BYTE_INDEX_SCALE"), (5, u "LOG2_ARRAY_CHAR_INDEX_SCALE"), (5, u "LOG2_ARRAY_SHORT_INDEX_SCALE"), (18, u "LOG2_ARRAY_FLOAT_INDEX_SCALE"), (24, u "LOG2_ARRAY_DOUBLE_INDEX_SCALE"), (89, u "T_BOOLEAN"), (2, u "T_CHAR"), (1, u "T_FLOAT"), (1, u "T_DOUBLE"), (1, u "T_BYTE"), (1, u "T_SHORT"), (1, u "T_INT"), (1, u "T_LONG"), (1, u "SOFT_MAX_ARRAY_LENGTH")] 83

def k15m0 : Method := { name := "<init>", desc := "()V", sig := { parameters := [], returnType := none }, accessFlags := 2, code := none }
/-- jdk/internal/util/ArraysSupport -/
def k15 : Class := { plain "jdk/internal/util/ArraysSupport" (some 0) with
  accessFlags := 33
  interfaces := #[]
  cf := some (fileOf pool15 21 #[] #[{ accessFlags := 2, nameIndex := 9, descriptorIndex := 19, attributes := #[] }] 33 16 #[] #[{ accessFlags := 24, nameIndex := 28, descriptorIndex := 29, attributes := #[] }, { accessFlags := 26, nameIndex := 38, descriptorIndex := 39, attributes := #[] }, { accessFlags := 25, nameIndex := 121, descriptorIndex := 25, attributes := #[] }, { accessFlags := 25, nameIndex := 131, descriptorIndex := 25, attributes := #[] }, { accessFlags := 25, nameIndex := 137, descriptorIndex := 25, attributes := #[] }, { accessFlags := 25, nameIndex := 143, descriptorIndex := 25, attributes := #[] }, { accessFlags := 25, nameIndex := 53, descriptorIndex := 25, attributes := #[] }, { accessFlags := 25, nameIndex := 24, descriptorIndex := 25, attributes := #[] }, { accessFlags := 25, nameIndex := 162, descriptorIndex := 25, attributes := #[] }, { accessFlags := 25, nameIndex := 187, descriptorIndex := 25, attributes := #[] }, { accessFlags := 26, nameIndex := 48, descriptorIndex := 25, attributes := #[] }, { accessFlags := 25, nameIndex := 277, descriptorIndex := 25, attributes := #[] }, { accessFlags := 25, nameIndex := 280, descriptorIndex := 25, attributes := #[] }, { accessFlags := 25, nameIndex := 282, descriptorIndex := 25, attributes := #[] }, { accessFlags := 25, nameIndex := 284, descriptorIndex := 25, attributes := #[] }, { accessFlags := 25, nameIndex := 286, descriptorIndex := 25, attributes := #[] }, { accessFlags := 25, nameIndex := 288, descriptorIndex := 25, attributes := #[] }, { accessFlags := 25, nameIndex := 290, descriptorIndex := 25, attributes := #[] }, { accessFlags := 25, nameIndex := 292, descriptorIndex := 25, attributes := #[] }, { accessFlags := 26, nameIndex := 108, descriptorIndex := 109, attributes := #[] }, { accessFlags := 25, nameIndex := 294, descriptorIndex := 25, attributes := #[] }])
  fields := #[{ name := "U", type := (.object "jdk/internal/misc/Unsafe"), accessFlags := 24, slot := 0, constantValue := 0 }, { name := "BIG_ENDIAN", type := .boolean, accessFlags := 26, slot := 1, constantValue := 0 }, { name := "LOG2_ARRAY_BOOLEAN_INDEX_SCALE", type := .int, accessFlags := 25, slot := 2, constantValue := 0 }, { name := "LOG2_ARRAY_BYTE_INDEX_SCALE", type := .int, accessFlags := 25, slot := 3, constantValue := 0 }, { name := "LOG2_ARRAY_CHAR_INDEX_SCALE", type := .int, accessFlags := 25, slot := 4, constantValue := 0 }, { name := "LOG2_ARRAY_SHORT_INDEX_SCALE", type := .int, accessFlags := 25, slot := 5, constantValue := 0 }, { name := "LOG2_ARRAY_INT_INDEX_SCALE", type := .int, accessFlags := 25, slot := 6, constantValue := 0 }, { name := "LOG2_ARRAY_LONG_INDEX_SCALE", type := .int, accessFlags := 25, slot := 7, constantValue := 0 }, { name := "LOG2_ARRAY_FLOAT_INDEX_SCALE", type := .int, accessFlags := 25, slot := 8, constantValue := 0 }, { name := "LOG2_ARRAY_DOUBLE_INDEX_SCALE", type := .int, accessFlags := 25, slot := 9, constantValue := 0 }, { name := "LOG2_BYTE_BIT_SIZE", type := .int, accessFlags := 26, slot := 10, constantValue := 0 }, { name := "T_BOOLEAN", type := .int, accessFlags := 25, slot := 11, constantValue := 0 }, { name := "T_CHAR", type := .int, accessFlags := 25, slot := 12, constantValue := 0 }, { name := "T_FLOAT", type := .int, accessFlags := 25, slot := 13, constantValue := 0 }, { name := "T_DOUBLE", type := .int, accessFlags := 25, slot := 14, constantValue := 0 }, { name := "T_BYTE", type := .int, accessFlags := 25, slot := 15, constantValue := 0 }, { name := "T_SHORT", type := .int, accessFlags := 25, slot := 16, constantValue := 0 }, { name := "T_INT", type := .int, accessFlags := 25, slot := 17, constantValue := 0 }, { name := "T_LONG", type := .int, accessFlags := 25, slot := 18, constantValue := 0 }, { name := "JLA", type := (.object "jdk/internal/access/JavaLangAccess"), accessFlags := 26, slot := 19, constantValue := 0 }, { name := "SOFT_MAX_ARRAY_LENGTH", type := .int, accessFlags := 25, slot := 20, constantValue := 0 }]
  methods := #[k15m0]
  instanceTypes := #[]
  staticTypes := #[(.object "jdk/internal/misc/Unsafe"), .boolean, .int, .int, .int, .int, .int, .int, .int, .int, .int, .int, .int, .int, .int, .int, .int, .int, .int, (.object "jdk/internal/access/JavaLangAccess"), .int]
  resolved := Array.replicate 378 none
  statics := none }

def pool16 : Array CpInfo := pool [(1, u "java/lang/Cloneable"), (0, .class_ 1), (0, u "java/lang/Object"), (0, .class_ 3)] 3

/-- java/lang/Cloneable -/
def k16 : Class := { plain "java/lang/Cloneable" (some 0) with
  accessFlags := 1537
  interfaces := #[]
  cf := some (fileOf pool16 2 #[] #[] 1537 4 #[] #[])
  fields := #[]
  methods := #[]
  instanceTypes := #[]
  staticTypes := #[]
  resolved := Array.replicate 8 none
  statics := none }

/-- the primitive byte -/
def k17 : Class := { plain "byte" none with kind := .primitive 'B', accessFlags := 0x411 }
/-- [B -/
def k18 : Class := { plain "[B" (some 0) with kind := .array 17 .byte, interfaces := #[16, 2], accessFlags := 1041 }

/-- the primitive char -/
def k19 : Class := { plain "char" none with kind := .primitive 'C', accessFlags := 0x411 }
/-- [C -/
def k20 : Class := { plain "[C" (some 0) with kind := .array 19 .char, interfaces := #[16, 2], accessFlags := 1041 }

/-- the primitive int -/
def k21 : Class := { plain "int" none with kind := .primitive 'I', accessFlags := 0x411 }
/-- [I -/
def k22 : Class := { plain "[I" (some 0) with kind := .array 21 .int, interfaces := #[16, 2], accessFlags := 1041 }

def heap : Heap := #[{ cls := 7, slots := #[.long 0, .int 1, .null, .int 0, .null, .int 0, .int 0], vm := .statics 7 },
  { cls := 8, slots := #[.int 0, .int 8, .int 0, .int 1], vm := .statics 8 },
  { cls := 12, slots := #[.null, .null, .null], vm := .statics 12 },
  { cls := 13, slots := #[.ref 4], vm := .statics 13 },
  { cls := 13, slots := #[.null], vm := .none }]
def classes : Array Class := #[k0, k1, k2, k3, k4, k5, k6, k7, k8, k9, k10, k11, k12, k13, k14, k15, k16, k17, k18, k19, k20, k21, k22]
def interned : List (Array UInt16 × Addr) := []
def slotsUsed : Nat := 16
def theMethod : MethodId := ⟨1, 1⟩
def args0 : Array Value := #[.long 5, .long 7, .int 5, .int 5, .int 5]
def aboutOver (below : List Frame) : State where
  vm := { classes := classes, interned := interned.toArray }
  heap := heap
  slotsUsed := slotsUsed
  threads := #[{ frames := .invoking theMethod args0 :: below }]
def below0 : List Frame := [.native { method := ⟨0, 0⟩, args := #[] }]
def about1 : State := aboutOver below0
def p0 : Program := .bare "" "" ""
def e0 : Env := launch0.env 0 0 0
theorem w_frames : about1.frames = Frame.invoking theMethod args0 :: below0 := rfl
set_option maxRecDepth 65536 in
theorem w_args : argsFit about1.vm theMethod args0 = true := by decide +kernel
set_option maxRecDepth 65536 in
theorem w_heap : heapFits about1 = true := by decide +kernel
set_option maxRecDepth 65536 in
theorem w_runnable : about1.curStatus? = some .runnable := by decide +kernel
set_option maxRecDepth 65536 in
theorem w_alone : about1.alone = true := by decide +kernel
set_option maxRecDepth 65536 in
theorem w_named : about1.methodNamed? x = some theMethod := by decide +kernel
set_option maxRecDepth 65536 in
theorem w_hears : about1.hears theMethod below0 = true := by decide +kernel
set_option maxRecDepth 65536 in
theorem w_ripe : about1.ripe theMethod args0 below0 = true := by decide +kernel
theorem w_running : about1.status = .running := rfl
set_option maxRecDepth 65536 in
theorem w_room : about1.hasRoom e0.platform room_1 = true :=
  launch0.hasRoom_least _ room_1 (by decide +kernel) (by decide +kernel) (by decide +kernel) (by decide +kernel) (by decide +kernel) (by decide +kernel)
theorem allAtoms_all (ts : List Jvm.Cond) (a : Array Jvm.Value) (st : Jvm.State) : (allAtoms ts).before a st = ts.all (fun c => c.before a st) := by
  induction ts with
  | nil => rfl
  | cons c t ih =>
    show (Jvm.Cond.and c (allAtoms t)).before a st = _
    rw [Jvm.Cond.before_and, ih, List.all_cons]
def words1 : List Jvm.Cond := Jvm.Cond.code x code maxLocals ret :: tables_1
/-- a 'code' word, met by the world's own term for the bytes: nothing is compared byte by byte -/
theorem code_word {y : MethodName} {bytes : ByteArray} {mx : Nat} {rt : Option FieldType} {a : Array Value} {s : State} {m : MethodId} {meth : Method} {c : Code} (h1 : s.methodNamed? y = some m) (h2 : s.vm.method? m = some meth) (h3 : meth.code = some c) (h4 : c.code = bytes)
    (h5 : (c.maxLocals == mx && c.exceptionTable.isEmpty && decide (c.maxStack ≤ mostOperands) && decide (meth.sig.returnType = rt) && !meth.locks && decide (parseMethodDescriptor y.desc = some meth.sig)) = true) : (Jvm.Cond.code y bytes mx rt).before a s = true := by
  simp only [Bool.and_eq_true, beq_iff_eq, Bool.not_eq_true', decide_eq_true_eq] at h5
  obtain ⟨⟨⟨⟨⟨g1, g2⟩, g3⟩, g4⟩, g5⟩, g6⟩ := h5
  simp [Cond.before, Cond.holds, Cond.value, h1, h2, h3, h4, g1, g2, g3, g4, g5, g6]
def isCode : Jvm.Cond → Bool
  | .code _ _ _ _ => true
  | _ => false
theorem all_split {L : List Jvm.Cond} {P : Jvm.Cond → Bool} (h1 : L.all (fun c => isCode c || P c) = true) (h2 : ∀ c ∈ L.filter isCode, P c = true) : L.all P = true := by
  refine List.all_eq_true.mpr fun c hc => ?_
  have h := List.all_eq_true.mp h1 c hc
  rcases Bool.eq_false_or_eq_true (isCode c) with hi | hi
  · exact h2 c (List.mem_filter.mpr ⟨hc, hi⟩)
  · simpa [hi] using h
set_option maxRecDepth 65536 in
theorem w_c0 : (Jvm.Cond.code x code maxLocals ret).before args0 about1 = true := code_word (m := ⟨1, 1⟩) (meth := k1m1) (c := k1c1) (by decide +kernel) rfl rfl rfl (by decide +kernel)
set_option maxRecDepth 65536 in
theorem w_c1 : (Jvm.Cond.code ({ cls := "com/example/rosterhall/rosterhall/ResourceIdParsePinLaw", name := "draw", desc := "(JJI)[C" } : Jvm.MethodName) method_10_code (6 : Nat) (Option.some (Jvm.ClassFile.FieldType.array Jvm.ClassFile.FieldType.char))).before args0 about1 = true := code_word (m := ⟨1, 9⟩) (meth := k1m9) (c := k1c9) (by decide +kernel) rfl rfl rfl (by decide +kernel)
set_option maxRecDepth 65536 in
theorem w_c2 : (Jvm.Cond.code ({ cls := "com/example/rosterhall/rosterhall/ResourceIdParsePinLaw", name := "put", desc := "([CIJJ)V" } : Jvm.MethodName) method_9_code (6 : Nat) (Option.none : Option Jvm.ClassFile.FieldType)).before args0 about1 = true := code_word (m := ⟨1, 8⟩) (meth := k1m8) (c := k1c8) (by decide +kernel) rfl rfl rfl (by decide +kernel)
set_option maxRecDepth 65536 in
theorem w_c3 : (Jvm.Cond.code ({ cls := "com/example/rosterhall/rosterhall/ResourceIdParsePinLaw", name := "posChar", desc := "(JJI)C" } : Jvm.MethodName) method_8_code (5 : Nat) (Option.some Jvm.ClassFile.FieldType.char)).before args0 about1 = true := code_word (m := ⟨1, 7⟩) (meth := k1m7) (c := k1c7) (by decide +kernel) rfl rfl rfl (by decide +kernel)
set_option maxRecDepth 65536 in
theorem w_c4 : (Jvm.Cond.code ({ cls := "com/example/rosterhall/rosterhall/ResourceIdParsePinLaw", name := "isDash", desc := "(I)Z" } : Jvm.MethodName) method_3_code (1 : Nat) (Option.some Jvm.ClassFile.FieldType.boolean)).before args0 about1 = true := code_word (m := ⟨1, 2⟩) (meth := k1m2) (c := k1c2) (by decide +kernel) rfl rfl rfl (by decide +kernel)
set_option maxRecDepth 65536 in
theorem w_c5 : (Jvm.Cond.code ({ cls := "com/example/rosterhall/rosterhall/ResourceIdParsePinLaw", name := "digitIndex", desc := "(I)I" } : Jvm.MethodName) method_4_code (1 : Nat) (Option.some Jvm.ClassFile.FieldType.int)).before args0 about1 = true := code_word (m := ⟨1, 3⟩) (meth := k1m3) (c := k1c3) (by decide +kernel) rfl rfl rfl (by decide +kernel)
set_option maxRecDepth 65536 in
theorem w_c6 : (Jvm.Cond.code ({ cls := "com/example/rosterhall/rosterhall/ResourceIdParsePinLaw", name := "digitChar", desc := "(JJI)C" } : Jvm.MethodName) method_7_code (7 : Nat) (Option.some Jvm.ClassFile.FieldType.char)).before args0 about1 = true := code_word (m := ⟨1, 6⟩) (meth := k1m6) (c := k1c6) (by decide +kernel) rfl rfl rfl (by decide +kernel)
set_option maxRecDepth 65536 in
theorem w_c7 : (Jvm.Cond.code ({ cls := "com/example/rosterhall/rosterhall/ResourceIdParsePinLaw", name := "hexChar", desc := "(I)C" } : Jvm.MethodName) method_6_code (1 : Nat) (Option.some Jvm.ClassFile.FieldType.char)).before args0 about1 = true := code_word (m := ⟨1, 5⟩) (meth := k1m5) (c := k1c5) (by decide +kernel) rfl rfl rfl (by decide +kernel)
set_option maxRecDepth 65536 in
theorem w_c8 : (Jvm.Cond.code ({ cls := "java/lang/String", name := "<init>", desc := "([C)V" } : Jvm.MethodName) jdk_42_method_3_code (2 : Nat) (Option.none : Option Jvm.ClassFile.FieldType)).before args0 about1 = true := code_word (m := ⟨7, 1⟩) (meth := k7m1) (c := k7c1) (by decide +kernel) rfl rfl rfl (by decide +kernel)
set_option maxRecDepth 65536 in
theorem w_c9 : (Jvm.Cond.code ({ cls := "java/lang/String", name := "<init>", desc := "([CIILjava/lang/Void;)V" } : Jvm.MethodName) jdk_42_method_149_code (6 : Nat) (Option.none : Option Jvm.ClassFile.FieldType)).before args0 about1 = true := code_word (m := ⟨7, 4⟩) (meth := k7m4) (c := k7c4) (by decide +kernel) rfl rfl rfl (by decide +kernel)
set_option maxRecDepth 65536 in
theorem w_c10 : (Jvm.Cond.code ({ cls := "java/lang/Object", name := "<init>", desc := "()V" } : Jvm.MethodName) object_method_1_code (1 : Nat) (Option.none : Option Jvm.ClassFile.FieldType)).before args0 about1 = true := code_word (m := ⟨0, 0⟩) (meth := k0m0) (c := k0c0) (by decide +kernel) rfl rfl rfl (by decide +kernel)
set_option maxRecDepth 65536 in
theorem w_c11 : (Jvm.Cond.code ({ cls := "java/lang/StringUTF16", name := "compress", desc := "([CII)[B" } : Jvm.MethodName) jdk_52_method_16_code (6 : Nat) (Option.some (Jvm.ClassFile.FieldType.array Jvm.ClassFile.FieldType.byte))).before args0 about1 = true := code_word (m := ⟨8, 8⟩) (meth := k8m8) (c := k8c8) (by decide +kernel) rfl rfl rfl (by decide +kernel)
set_option maxRecDepth 65536 in
theorem w_c12 : (Jvm.Cond.code ({ cls := "java/lang/StringUTF16", name := "compress", desc := "([CI[BII)I" } : Jvm.MethodName) jdk_52_method_21_code (7 : Nat) (Option.some Jvm.ClassFile.FieldType.int)).before args0 about1 = true := code_word (m := ⟨8, 9⟩) (meth := k8m9) (c := k8c9) (by decide +kernel) rfl rfl rfl (by decide +kernel)
set_option maxRecDepth 65536 in
theorem w_c13 : (Jvm.Cond.code ({ cls := "java/lang/StringUTF16", name := "coderFromArrayLen", desc := "([BI)B" } : Jvm.MethodName) jdk_52_method_15_code (2 : Nat) (Option.some Jvm.ClassFile.FieldType.byte)).before args0 about1 = true := code_word (m := ⟨8, 7⟩) (meth := k8m7) (c := k8c7) (by decide +kernel) rfl rfl rfl (by decide +kernel)
set_option maxRecDepth 65536 in
theorem w_c14 : (Jvm.Cond.code ({ cls := "com/example/rosterhall/rosterhall/ResourceId", name := "parse", desc := "(Ljava/lang/String;)Ljava/util/Optional;" } : Jvm.MethodName) prog_20_method_3_code (9 : Nat) (Option.some (Jvm.ClassFile.FieldType.object "java/util/Optional"))).before args0 about1 = true := code_word (m := ⟨10, 1⟩) (meth := k10m1) (c := k10c1) (by decide +kernel) rfl rfl rfl (by decide +kernel)
set_option maxRecDepth 65536 in
theorem w_c15 : (Jvm.Cond.code ({ cls := "java/lang/String", name := "length", desc := "()I" } : Jvm.MethodName) jdk_42_method_54_code (1 : Nat) (Option.some Jvm.ClassFile.FieldType.int)).before args0 about1 = true := code_word (m := ⟨7, 2⟩) (meth := k7m2) (c := k7c2) (by decide +kernel) rfl rfl rfl (by decide +kernel)
set_option maxRecDepth 65536 in
theorem w_c16 : (Jvm.Cond.code ({ cls := "java/lang/String", name := "coder", desc := "()B" } : Jvm.MethodName) jdk_42_method_152_code (1 : Nat) (Option.some Jvm.ClassFile.FieldType.byte)).before args0 about1 = true := code_word (m := ⟨7, 5⟩) (meth := k7m5) (c := k7c5) (by decide +kernel) rfl rfl rfl (by decide +kernel)
set_option maxRecDepth 65536 in
theorem w_c17 : (Jvm.Cond.code ({ cls := "java/lang/String", name := "charAt", desc := "(I)C" } : Jvm.MethodName) jdk_42_method_56_code (2 : Nat) (Option.some Jvm.ClassFile.FieldType.char)).before args0 about1 = true := code_word (m := ⟨7, 3⟩) (meth := k7m3) (c := k7c3) (by decide +kernel) rfl rfl rfl (by decide +kernel)
set_option maxRecDepth 65536 in
theorem w_c18 : (Jvm.Cond.code ({ cls := "java/lang/String", name := "isLatin1", desc := "()Z" } : Jvm.MethodName) jdk_42_method_154_code (1 : Nat) (Option.some Jvm.ClassFile.FieldType.boolean)).before args0 about1 = true := code_word (m := ⟨7, 6⟩) (meth := k7m6) (c := k7c6) (by decide +kernel) rfl rfl rfl (by decide +kernel)
set_option maxRecDepth 65536 in
theorem w_c19 : (Jvm.Cond.code ({ cls := "java/lang/StringLatin1", name := "charAt", desc := "([BI)C" } : Jvm.MethodName) jdk_43_method_2_code (2 : Nat) (Option.some Jvm.ClassFile.FieldType.char)).before args0 about1 = true := code_word (m := ⟨11, 1⟩) (meth := k11m1) (c := k11c1) (by decide +kernel) rfl rfl rfl (by decide +kernel)
set_option maxRecDepth 65536 in
theorem w_c20 : (Jvm.Cond.code ({ cls := "java/lang/String", name := "checkIndex", desc := "(II)V" } : Jvm.MethodName) jdk_42_method_155_code (2 : Nat) (Option.none : Option Jvm.ClassFile.FieldType)).before args0 about1 = true := code_word (m := ⟨7, 7⟩) (meth := k7m7) (c := k7c7) (by decide +kernel) rfl rfl rfl (by decide +kernel)
set_option maxRecDepth 65536 in
theorem w_c21 : (Jvm.Cond.code ({ cls := "jdk/internal/util/Preconditions", name := "checkIndex", desc := "(IILjava/util/function/BiFunction;)I" } : Jvm.MethodName) jdk_41_method_11_code (3 : Nat) (Option.some Jvm.ClassFile.FieldType.int)).before args0 about1 = true := code_word (m := ⟨12, 1⟩) (meth := k12m1) (c := k12c1) (by decide +kernel) rfl rfl rfl (by decide +kernel)
set_option maxRecDepth 65536 in
theorem w_c22 : (Jvm.Cond.code ({ cls := "com/example/rosterhall/rosterhall/ResourceId", name := "hexDigit", desc := "(C)I" } : Jvm.MethodName) prog_20_method_6_code (1 : Nat) (Option.some Jvm.ClassFile.FieldType.int)).before args0 about1 = true := code_word (m := ⟨10, 2⟩) (meth := k10m2) (c := k10c2) (by decide +kernel) rfl rfl rfl (by decide +kernel)
set_option maxRecDepth 65536 in
theorem w_c23 : (Jvm.Cond.code ({ cls := "com/example/rosterhall/rosterhall/ResourceId", name := "<init>", desc := "(JJ)V" } : Jvm.MethodName) prog_20_method_1_code (5 : Nat) (Option.none : Option Jvm.ClassFile.FieldType)).before args0 about1 = true := code_word (m := ⟨10, 0⟩) (meth := k10m0) (c := k10c0) (by decide +kernel) rfl rfl rfl (by decide +kernel)
set_option maxRecDepth 65536 in
theorem w_c24 : (Jvm.Cond.code ({ cls := "java/lang/Record", name := "<init>", desc := "()V" } : Jvm.MethodName) jdk_30_method_1_code (1 : Nat) (Option.none : Option Jvm.ClassFile.FieldType)).before args0 about1 = true := code_word (m := ⟨9, 0⟩) (meth := k9m0) (c := k9c0) (by decide +kernel) rfl rfl rfl (by decide +kernel)
set_option maxRecDepth 65536 in
theorem w_c25 : (Jvm.Cond.code ({ cls := "java/util/Optional", name := "of", desc := "(Ljava/lang/Object;)Ljava/util/Optional;" } : Jvm.MethodName) jdk_32_method_3_code (1 : Nat) (Option.some (Jvm.ClassFile.FieldType.object "java/util/Optional"))).before args0 about1 = true := code_word (m := ⟨13, 2⟩) (meth := k13m2) (c := k13c2) (by decide +kernel) rfl rfl rfl (by decide +kernel)
set_option maxRecDepth 65536 in
theorem w_c26 : (Jvm.Cond.code ({ cls := "java/util/Objects", name := "requireNonNull", desc := "(Ljava/lang/Object;)Ljava/lang/Object;" } : Jvm.MethodName) jdk_31_method_10_code (1 : Nat) (Option.some (Jvm.ClassFile.FieldType.object "java/lang/Object"))).before args0 about1 = true := code_word (m := ⟨14, 1⟩) (meth := k14m1) (c := k14c1) (by decide +kernel) rfl rfl rfl (by decide +kernel)
set_option maxRecDepth 65536 in
theorem w_c27 : (Jvm.Cond.code ({ cls := "java/util/Optional", name := "<init>", desc := "(Ljava/lang/Object;)V" } : Jvm.MethodName) jdk_32_method_2_code (2 : Nat) (Option.none : Option Jvm.ClassFile.FieldType)).before args0 about1 = true := code_word (m := ⟨13, 1⟩) (meth := k13m1) (c := k13c1) (by decide +kernel) rfl rfl rfl (by decide +kernel)
set_option maxRecDepth 65536 in
theorem w_c28 : (Jvm.Cond.code ({ cls := "java/util/Optional", name := "isPresent", desc := "()Z" } : Jvm.MethodName) jdk_32_method_6_code (1 : Nat) (Option.some Jvm.ClassFile.FieldType.boolean)).before args0 about1 = true := code_word (m := ⟨13, 4⟩) (meth := k13m4) (c := k13c4) (by decide +kernel) rfl rfl rfl (by decide +kernel)
set_option maxRecDepth 65536 in
theorem w_c29 : (Jvm.Cond.code ({ cls := "java/util/Optional", name := "get", desc := "()Ljava/lang/Object;" } : Jvm.MethodName) jdk_32_method_5_code (1 : Nat) (Option.some (Jvm.ClassFile.FieldType.object "java/lang/Object"))).before args0 about1 = true := code_word (m := ⟨13, 3⟩) (meth := k13m3) (c := k13c3) (by decide +kernel) rfl rfl rfl (by decide +kernel)
set_option maxRecDepth 65536 in
theorem w_c30 : (Jvm.Cond.code ({ cls := "com/example/rosterhall/rosterhall/ResourceId", name := "high", desc := "()J" } : Jvm.MethodName) prog_20_method_10_code (1 : Nat) (Option.some Jvm.ClassFile.FieldType.long)).before args0 about1 = true := code_word (m := ⟨10, 3⟩) (meth := k10m3) (c := k10c3) (by decide +kernel) rfl rfl rfl (by decide +kernel)
set_option maxRecDepth 65536 in
theorem w_c31 : (Jvm.Cond.code ({ cls := "com/example/rosterhall/rosterhall/ResourceId", name := "low", desc := "()J" } : Jvm.MethodName) prog_20_method_11_code (1 : Nat) (Option.some Jvm.ClassFile.FieldType.long)).before args0 about1 = true := code_word (m := ⟨10, 4⟩) (meth := k10m4) (c := k10c4) (by decide +kernel) rfl rfl rfl (by decide +kernel)
set_option maxRecDepth 65536 in
theorem w_c32 : (Jvm.Cond.code ({ cls := "java/util/Optional", name := "empty", desc := "()Ljava/util/Optional;" } : Jvm.MethodName) jdk_32_method_1_code (1 : Nat) (Option.some (Jvm.ClassFile.FieldType.object "java/util/Optional"))).before args0 about1 = true := code_word (m := ⟨13, 0⟩) (meth := k13m0) (c := k13c0) (by decide +kernel) rfl rfl rfl (by decide +kernel)
set_option maxRecDepth 65536 in
theorem w_c33 : (Jvm.Cond.code ({ cls := "java/lang/StringUTF16", name := "toBytes", desc := "([CII)[B" } : Jvm.MethodName) jdk_52_method_14_code (5 : Nat) (Option.some (Jvm.ClassFile.FieldType.array Jvm.ClassFile.FieldType.byte))).before args0 about1 = true := code_word (m := ⟨8, 6⟩) (meth := k8m6) (c := k8c6) (by decide +kernel) rfl rfl rfl (by decide +kernel)
set_option maxRecDepth 65536 in
theorem w_c34 : (Jvm.Cond.code ({ cls := "java/lang/StringUTF16", name := "newBytesFor", desc := "(I)[B" } : Jvm.MethodName) jdk_52_method_2_code (1 : Nat) (Option.some (Jvm.ClassFile.FieldType.array Jvm.ClassFile.FieldType.byte))).before args0 about1 = true := code_word (m := ⟨8, 1⟩) (meth := k8m1) (c := k8c1) (by decide +kernel) rfl rfl rfl (by decide +kernel)
set_option maxRecDepth 65536 in
theorem w_c35 : (Jvm.Cond.code ({ cls := "java/lang/StringUTF16", name := "newBytesLength", desc := "(I)I" } : Jvm.MethodName) jdk_52_method_3_code (1 : Nat) (Option.some Jvm.ClassFile.FieldType.int)).before args0 about1 = true := code_word (m := ⟨8, 2⟩) (meth := k8m2) (c := k8c2) (by decide +kernel) rfl rfl rfl (by decide +kernel)
set_option maxRecDepth 65536 in
theorem w_c36 : (Jvm.Cond.code ({ cls := "java/lang/StringUTF16", name := "putChar", desc := "([BII)V" } : Jvm.MethodName) jdk_52_method_4_code (3 : Nat) (Option.none : Option Jvm.ClassFile.FieldType)).before args0 about1 = true := code_word (m := ⟨8, 3⟩) (meth := k8m3) (c := k8c3) (by decide +kernel) rfl rfl rfl (by decide +kernel)
set_option maxRecDepth 65536 in
theorem w_c37 : (Jvm.Cond.code ({ cls := "java/lang/StringUTF16", name := "getChar", desc := "([BI)C" } : Jvm.MethodName) jdk_52_method_5_code (2 : Nat) (Option.some Jvm.ClassFile.FieldType.char)).before args0 about1 = true := code_word (m := ⟨8, 4⟩) (meth := k8m4) (c := k8c4) (by decide +kernel) rfl rfl rfl (by decide +kernel)
set_option maxRecDepth 65536 in
theorem w_c38 : (Jvm.Cond.code ({ cls := "java/lang/StringUTF16", name := "charAt", desc := "([BI)C" } : Jvm.MethodName) jdk_52_method_83_code (2 : Nat) (Option.some Jvm.ClassFile.FieldType.char)).before args0 about1 = true := code_word (m := ⟨8, 10⟩) (meth := k8m10) (c := k8c10) (by decide +kernel) rfl rfl rfl (by decide +kernel)
set_option maxRecDepth 65536 in
theorem w_c39 : (Jvm.Cond.code ({ cls := "java/lang/StringUTF16", name := "checkIndex", desc := "(I[B)V" } : Jvm.MethodName) jdk_52_method_91_code (2 : Nat) (Option.none : Option Jvm.ClassFile.FieldType)).before args0 about1 = true := code_word (m := ⟨8, 11⟩) (meth := k8m11) (c := k8c11) (by decide +kernel) rfl rfl rfl (by decide +kernel)
set_option maxRecDepth 65536 in
theorem w_c40 : (Jvm.Cond.code ({ cls := "java/lang/StringUTF16", name := "length", desc := "([B)I" } : Jvm.MethodName) jdk_52_method_6_code (1 : Nat) (Option.some Jvm.ClassFile.FieldType.int)).before args0 about1 = true := code_word (m := ⟨8, 5⟩) (meth := k8m5) (c := k8c5) (by decide +kernel) rfl rfl rfl (by decide +kernel)
set_option maxRecDepth 65536 in
theorem w_c41 : (Jvm.Cond.code ({ cls := "com/example/rosterhall/rosterhall/ResourceIdParsePinLaw", name := "hexValue", desc := "(C)I" } : Jvm.MethodName) method_5_code (1 : Nat) (Option.some Jvm.ClassFile.FieldType.int)).before args0 about1 = true := code_word (m := ⟨1, 4⟩) (meth := k1m4) (c := k1c4) (by decide +kernel) rfl rfl rfl (by decide +kernel)
def codes1 : List Jvm.Cond := [Jvm.Cond.code x code maxLocals ret, Jvm.Cond.code ({ cls := "com/example/rosterhall/rosterhall/ResourceIdParsePinLaw", name := "draw", desc := "(JJI)[C" } : Jvm.MethodName) method_10_code (6 : Nat) (Option.some (Jvm.ClassFile.FieldType.array Jvm.ClassFile.FieldType.char)), Jvm.Cond.code ({ cls := "com/example/rosterhall/rosterhall/ResourceIdParsePinLaw", name := "put", desc := "([CIJJ)V" } : Jvm.MethodName) method_9_code (6 : Nat) (Option.none : Option Jvm.ClassFile.FieldType), Jvm.Cond.code ({ cls := "com/example/rosterhall/rosterhall/ResourceIdParsePinLaw", name := "posChar", desc := "(JJI)C" } : Jvm.MethodName) method_8_code (5 : Nat) (Option.some Jvm.ClassFile.FieldType.char), Jvm.Cond.code ({ cls := "com/example/rosterhall/rosterhall/ResourceIdParsePinLaw", name := "isDash", desc := "(I)Z" } : Jvm.MethodName) method_3_code (1 : Nat) (Option.some Jvm.ClassFile.FieldType.boolean), Jvm.Cond.code ({ cls := "com/example/rosterhall/rosterhall/ResourceIdParsePinLaw", name := "digitIndex", desc := "(I)I" } : Jvm.MethodName) method_4_code (1 : Nat) (Option.some Jvm.ClassFile.FieldType.int), Jvm.Cond.code ({ cls := "com/example/rosterhall/rosterhall/ResourceIdParsePinLaw", name := "digitChar", desc := "(JJI)C" } : Jvm.MethodName) method_7_code (7 : Nat) (Option.some Jvm.ClassFile.FieldType.char), Jvm.Cond.code ({ cls := "com/example/rosterhall/rosterhall/ResourceIdParsePinLaw", name := "hexChar", desc := "(I)C" } : Jvm.MethodName) method_6_code (1 : Nat) (Option.some Jvm.ClassFile.FieldType.char), Jvm.Cond.code ({ cls := "java/lang/String", name := "<init>", desc := "([C)V" } : Jvm.MethodName) jdk_42_method_3_code (2 : Nat) (Option.none : Option Jvm.ClassFile.FieldType), Jvm.Cond.code ({ cls := "java/lang/String", name := "<init>", desc := "([CIILjava/lang/Void;)V" } : Jvm.MethodName) jdk_42_method_149_code (6 : Nat) (Option.none : Option Jvm.ClassFile.FieldType), Jvm.Cond.code ({ cls := "java/lang/Object", name := "<init>", desc := "()V" } : Jvm.MethodName) object_method_1_code (1 : Nat) (Option.none : Option Jvm.ClassFile.FieldType), Jvm.Cond.code ({ cls := "java/lang/StringUTF16", name := "compress", desc := "([CII)[B" } : Jvm.MethodName) jdk_52_method_16_code (6 : Nat) (Option.some (Jvm.ClassFile.FieldType.array Jvm.ClassFile.FieldType.byte)), Jvm.Cond.code ({ cls := "java/lang/StringUTF16", name := "compress", desc := "([CI[BII)I" } : Jvm.MethodName) jdk_52_method_21_code (7 : Nat) (Option.some Jvm.ClassFile.FieldType.int), Jvm.Cond.code ({ cls := "java/lang/StringUTF16", name := "coderFromArrayLen", desc := "([BI)B" } : Jvm.MethodName) jdk_52_method_15_code (2 : Nat) (Option.some Jvm.ClassFile.FieldType.byte), Jvm.Cond.code ({ cls := "com/example/rosterhall/rosterhall/ResourceId", name := "parse", desc := "(Ljava/lang/String;)Ljava/util/Optional;" } : Jvm.MethodName) prog_20_method_3_code (9 : Nat) (Option.some (Jvm.ClassFile.FieldType.object "java/util/Optional")), Jvm.Cond.code ({ cls := "java/lang/String", name := "length", desc := "()I" } : Jvm.MethodName) jdk_42_method_54_code (1 : Nat) (Option.some Jvm.ClassFile.FieldType.int), Jvm.Cond.code ({ cls := "java/lang/String", name := "coder", desc := "()B" } : Jvm.MethodName) jdk_42_method_152_code (1 : Nat) (Option.some Jvm.ClassFile.FieldType.byte), Jvm.Cond.code ({ cls := "java/lang/String", name := "charAt", desc := "(I)C" } : Jvm.MethodName) jdk_42_method_56_code (2 : Nat) (Option.some Jvm.ClassFile.FieldType.char), Jvm.Cond.code ({ cls := "java/lang/String", name := "isLatin1", desc := "()Z" } : Jvm.MethodName) jdk_42_method_154_code (1 : Nat) (Option.some Jvm.ClassFile.FieldType.boolean), Jvm.Cond.code ({ cls := "java/lang/StringLatin1", name := "charAt", desc := "([BI)C" } : Jvm.MethodName) jdk_43_method_2_code (2 : Nat) (Option.some Jvm.ClassFile.FieldType.char), Jvm.Cond.code ({ cls := "java/lang/String", name := "checkIndex", desc := "(II)V" } : Jvm.MethodName) jdk_42_method_155_code (2 : Nat) (Option.none : Option Jvm.ClassFile.FieldType), Jvm.Cond.code ({ cls := "jdk/internal/util/Preconditions", name := "checkIndex", desc := "(IILjava/util/function/BiFunction;)I" } : Jvm.MethodName) jdk_41_method_11_code (3 : Nat) (Option.some Jvm.ClassFile.FieldType.int), Jvm.Cond.code ({ cls := "com/example/rosterhall/rosterhall/ResourceId", name := "hexDigit", desc := "(C)I" } : Jvm.MethodName) prog_20_method_6_code (1 : Nat) (Option.some Jvm.ClassFile.FieldType.int), Jvm.Cond.code ({ cls := "com/example/rosterhall/rosterhall/ResourceId", name := "<init>", desc := "(JJ)V" } : Jvm.MethodName) prog_20_method_1_code (5 : Nat) (Option.none : Option Jvm.ClassFile.FieldType), Jvm.Cond.code ({ cls := "java/lang/Record", name := "<init>", desc := "()V" } : Jvm.MethodName) jdk_30_method_1_code (1 : Nat) (Option.none : Option Jvm.ClassFile.FieldType), Jvm.Cond.code ({ cls := "java/util/Optional", name := "of", desc := "(Ljava/lang/Object;)Ljava/util/Optional;" } : Jvm.MethodName) jdk_32_method_3_code (1 : Nat) (Option.some (Jvm.ClassFile.FieldType.object "java/util/Optional")), Jvm.Cond.code ({ cls := "java/util/Objects", name := "requireNonNull", desc := "(Ljava/lang/Object;)Ljava/lang/Object;" } : Jvm.MethodName) jdk_31_method_10_code (1 : Nat) (Option.some (Jvm.ClassFile.FieldType.object "java/lang/Object")), Jvm.Cond.code ({ cls := "java/util/Optional", name := "<init>", desc := "(Ljava/lang/Object;)V" } : Jvm.MethodName) jdk_32_method_2_code (2 : Nat) (Option.none : Option Jvm.ClassFile.FieldType), Jvm.Cond.code ({ cls := "java/util/Optional", name := "isPresent", desc := "()Z" } : Jvm.MethodName) jdk_32_method_6_code (1 : Nat) (Option.some Jvm.ClassFile.FieldType.boolean), Jvm.Cond.code ({ cls := "java/util/Optional", name := "get", desc := "()Ljava/lang/Object;" } : Jvm.MethodName) jdk_32_method_5_code (1 : Nat) (Option.some (Jvm.ClassFile.FieldType.object "java/lang/Object")), Jvm.Cond.code ({ cls := "com/example/rosterhall/rosterhall/ResourceId", name := "high", desc := "()J" } : Jvm.MethodName) prog_20_method_10_code (1 : Nat) (Option.some Jvm.ClassFile.FieldType.long), Jvm.Cond.code ({ cls := "com/example/rosterhall/rosterhall/ResourceId", name := "low", desc := "()J" } : Jvm.MethodName) prog_20_method_11_code (1 : Nat) (Option.some Jvm.ClassFile.FieldType.long), Jvm.Cond.code ({ cls := "java/util/Optional", name := "empty", desc := "()Ljava/util/Optional;" } : Jvm.MethodName) jdk_32_method_1_code (1 : Nat) (Option.some (Jvm.ClassFile.FieldType.object "java/util/Optional")), Jvm.Cond.code ({ cls := "java/lang/StringUTF16", name := "toBytes", desc := "([CII)[B" } : Jvm.MethodName) jdk_52_method_14_code (5 : Nat) (Option.some (Jvm.ClassFile.FieldType.array Jvm.ClassFile.FieldType.byte)), Jvm.Cond.code ({ cls := "java/lang/StringUTF16", name := "newBytesFor", desc := "(I)[B" } : Jvm.MethodName) jdk_52_method_2_code (1 : Nat) (Option.some (Jvm.ClassFile.FieldType.array Jvm.ClassFile.FieldType.byte)), Jvm.Cond.code ({ cls := "java/lang/StringUTF16", name := "newBytesLength", desc := "(I)I" } : Jvm.MethodName) jdk_52_method_3_code (1 : Nat) (Option.some Jvm.ClassFile.FieldType.int), Jvm.Cond.code ({ cls := "java/lang/StringUTF16", name := "putChar", desc := "([BII)V" } : Jvm.MethodName) jdk_52_method_4_code (3 : Nat) (Option.none : Option Jvm.ClassFile.FieldType), Jvm.Cond.code ({ cls := "java/lang/StringUTF16", name := "getChar", desc := "([BI)C" } : Jvm.MethodName) jdk_52_method_5_code (2 : Nat) (Option.some Jvm.ClassFile.FieldType.char), Jvm.Cond.code ({ cls := "java/lang/StringUTF16", name := "charAt", desc := "([BI)C" } : Jvm.MethodName) jdk_52_method_83_code (2 : Nat) (Option.some Jvm.ClassFile.FieldType.char), Jvm.Cond.code ({ cls := "java/lang/StringUTF16", name := "checkIndex", desc := "(I[B)V" } : Jvm.MethodName) jdk_52_method_91_code (2 : Nat) (Option.none : Option Jvm.ClassFile.FieldType), Jvm.Cond.code ({ cls := "java/lang/StringUTF16", name := "length", desc := "([B)I" } : Jvm.MethodName) jdk_52_method_6_code (1 : Nat) (Option.some Jvm.ClassFile.FieldType.int), Jvm.Cond.code ({ cls := "com/example/rosterhall/rosterhall/ResourceIdParsePinLaw", name := "hexValue", desc := "(C)I" } : Jvm.MethodName) method_5_code (1 : Nat) (Option.some Jvm.ClassFile.FieldType.int)]
set_option maxRecDepth 65536 in
theorem codes_eq : words1.filter isCode = codes1 := rfl
theorem w_codes : ∀ c ∈ words1.filter isCode, c.before args0 about1 = true := by
  rw [codes_eq]
  intro c hc
  simp only [codes1, List.mem_cons, List.not_mem_nil, or_false] at hc
  rcases hc with rfl | rfl | rfl | rfl | rfl | rfl | rfl | rfl | rfl | rfl | rfl | rfl | rfl | rfl | rfl | rfl | rfl | rfl | rfl | rfl | rfl | rfl | rfl | rfl | rfl | rfl | rfl | rfl | rfl | rfl | rfl | rfl | rfl | rfl | rfl | rfl | rfl | rfl | rfl | rfl | rfl | rfl
  · exact w_c0
  · exact w_c1
  · exact w_c2
  · exact w_c3
  · exact w_c4
  · exact w_c5
  · exact w_c6
  · exact w_c7
  · exact w_c8
  · exact w_c9
  · exact w_c10
  · exact w_c11
  · exact w_c12
  · exact w_c13
  · exact w_c14
  · exact w_c15
  · exact w_c16
  · exact w_c17
  · exact w_c18
  · exact w_c19
  · exact w_c20
  · exact w_c21
  · exact w_c22
  · exact w_c23
  · exact w_c24
  · exact w_c25
  · exact w_c26
  · exact w_c27
  · exact w_c28
  · exact w_c29
  · exact w_c30
  · exact w_c31
  · exact w_c32
  · exact w_c33
  · exact w_c34
  · exact w_c35
  · exact w_c36
  · exact w_c37
  · exact w_c38
  · exact w_c39
  · exact w_c40
  · exact w_c41
set_option maxRecDepth 65536 in
theorem w_t1 : (words1.take 24).all (fun c => isCode c || c.before args0 about1) = true := by decide +kernel
set_option maxRecDepth 65536 in
theorem w_t2 : ((words1.drop 24).take 24).all (fun c => isCode c || c.before args0 about1) = true := by decide +kernel
set_option maxRecDepth 65536 in
theorem w_t3 : (((words1.drop 24).drop 24).take 24).all (fun c => isCode c || c.before args0 about1) = true := by decide +kernel
set_option maxRecDepth 65536 in
theorem w_t4 : ((((words1.drop 24).drop 24).drop 24).take 24).all (fun c => isCode c || c.before args0 about1) = true := by decide +kernel
set_option maxRecDepth 65536 in
theorem w_t5 : (((((words1.drop 24).drop 24).drop 24).drop 24).take 24).all (fun c => isCode c || c.before args0 about1) = true := by decide +kernel
set_option maxRecDepth 65536 in
theorem w_t6 : ((((((words1.drop 24).drop 24).drop 24).drop 24).drop 24).take 24).all (fun c => isCode c || c.before args0 about1) = true := by decide +kernel
set_option maxRecDepth 65536 in
theorem w_t7 : (((((((words1.drop 24).drop 24).drop 24).drop 24).drop 24).drop 24).take 24).all (fun c => isCode c || c.before args0 about1) = true := by decide +kernel
set_option maxRecDepth 65536 in
theorem w_t8 : (((((((words1.drop 24).drop 24).drop 24).drop 24).drop 24).drop 24).drop 24).all (fun c => isCode c || c.before args0 about1) = true := by decide +kernel
theorem w_tables : (allAtoms (Jvm.Cond.code x code maxLocals ret :: tables_1)).before args0 about1 = true := by
  rw [allAtoms_all]
  show words1.all (fun c => c.before args0 about1) = true
  refine all_split ?_ w_codes
  rw [← List.take_append_drop 24 words1, List.all_append, w_t1, ← List.take_append_drop 24 (words1.drop 24), List.all_append, w_t2, ← List.take_append_drop 24 ((words1.drop 24).drop 24), List.all_append, w_t3, ← List.take_append_drop 24 (((words1.drop 24).drop 24).drop 24), List.all_append, w_t4, ← List.take_append_drop 24 ((((words1.drop 24).drop 24).drop 24).drop 24), List.all_append, w_t5, ← List.take_append_drop 24 (((((words1.drop 24).drop 24).drop 24).drop 24).drop 24), List.all_append, w_t6, ← List.take_append_drop 24 ((((((words1.drop 24).drop 24).drop 24).drop 24).drop 24).drop 24), List.all_append, w_t7, w_t8]
  rfl
set_option maxRecDepth 65536 in
theorem w_rest : rest_1_c.before args0 about1 = true := by decide +kernel
set_option maxRecDepth 65536 in
theorem w_case : (Jvm.Cond.and given_1 narrow_1).before args0 about1 = true := by decide +kernel
theorem w_applies : (headSpec (Jvm.Cond.code x code maxLocals ret :: tables_1) room_1).applies x e0.platform about1 = true :=
  (Spec.applies_iff w_frames).mpr ⟨w_running, w_runnable, w_alone, w_named, w_hears, w_ripe, w_room, w_tables⟩
theorem atStart : AtStart classFile x code maxLocals ret World_1 tables_1 room_1 Calls_1 rest_1 Pre_1 launch0 p0 e0 about1 theMethod args0 below0 :=
  ⟨lists_1, trivial, launch0.admits_env _ _ _, launch0.least_env, fairChoices_fair.cas, fairChoices_fair.clock, w_frames, w_args, w_heap, w_applies, trivial, w_rest, w_case⟩
end start1
theorem witness_1 : WitnessClaimed_1 := ⟨start1.p0, start1.e0, start1.about1, start1.theMethod, start1.args0, start1.below0, start1.atStart⟩
end Jvm.Pilot.@@N@@
