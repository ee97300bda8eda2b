import JvmDerived
import JvmDerived.Pilot.@@N@@Statement
import JvmDerived.Pilot.@@N@@Code
set_option linter.unusedVariables false
set_option linter.unusedSimpArgs false
@@BLOCK:NumsL.lean.txt@@
namespace Jvm.RoadKit
open Sem ClassFile Op Lib Jvm.Stand Jvm.Free Jvm.LawKit
section New
variable {p : Program} {l : Launch} {e : Env} {R : Room} {s : State} {m : MethodId} {args : Array Value} {below : List Frame} {meth : Method} {c : Code} {T : State} {locs : List Loc} {cells slots : Nat}
theorem retI (X : Stand p l e R s m args below meth c T locs cells slots) (hx : p.tables.exec = Jvm.exec) {pc : Nat} {Ls : Array Slot} {z : Int32} {rest : List Value} (hret : meth.sig.returnType = some .int) (hd : decode c.code pc = .ok (.ireturn, 1)) {fs : List Frame}
    (hl : ∀ (f : JFrame) (acts : List Action), f.method = m → f.locked = none → f.entered = [] → (doReturn e (T.setTop f) acts (some (.int z))).1 = T.setFrames fs) : Steps p.tables e below (T.setTop (mkF m pc Ls (.int z :: rest))) (T.setFrames fs) := by
  have hm' : T.vm.method? m = some meth := X.method'
  have hn : narrow .int (.int z) = .int z := rfl
  show Steps p.tables e below (T.setTop { method := m, pc := pc, locals := Ls, stack := _ :: rest, locked := none }) _
  jvm_step X.here [X.here.top, hx, hd, hm', hret, hn]
  first | (intro acts; rw [hl _ acts rfl rfl rfl]) | rw [hl _ _ rfl rfl rfl]
  exact Steps.refl _
end New
end Jvm.RoadKit
namespace Jvm.Pilot.@@N@@
open Jvm Jvm.ClassFile Sem Op Lib Jvm.Free Jvm.Stand Jvm.LawKit Jvm.RoadKit Bundle Jvm.Pilot.@@N@@.Jvm.D
theorem own_lcLt {x y : Int64} : lcmpW x y < 0 ↔ x < y := by rw [lcW]; exact lc_lt x y
theorem own_lcGt {x y : Int64} : 0 < lcmpW x y ↔ y < x := by rw [lcW]; exact lc_gt x y
theorem own_lcEq {x y : Int64} : lcmpW x y = 0 ↔ x = y := by rw [lcW]; exact lc_eq x y
theorem own_pn0 : plainName "com/example/taut_choreo/tautchoreo/explore/PairStore" = true := by first | (simp [plainName, overriddenIn]; done) | decide +kernel
theorem own_ef_own_rm1 (m : MethodId) (p0 : Int32) (p1 : Int32) : entryFrame m #[(.int p0), (.int p1)] 4 = mkF m 0 #[.val (.int p0), .val (.int p1), .unset, .unset] [] := by first | (simp [entryFrame, mkF, argsToLocals, Value.category]; done) | rfl
theorem own_d1_0 : decode prog_29_method_9_code 0 = .ok (.iload_n 0, 1) := by decide +kernel
theorem own_d1_1 : decode prog_29_method_9_code 1 = .ok (.i2l, 1) := by decide +kernel
theorem own_d1_2 : decode prog_29_method_9_code 2 = .ok (.bipush 32, 2) := by decide +kernel
theorem own_d1_4 : decode prog_29_method_9_code 4 = .ok (.lshl, 1) := by decide +kernel
theorem own_d1_5 : decode prog_29_method_9_code 5 = .ok (.iload_n 1, 1) := by decide +kernel
theorem own_d1_6 : decode prog_29_method_9_code 6 = .ok (.i2l, 1) := by decide +kernel
theorem own_d1_7 : decode prog_29_method_9_code 7 = .ok (.ldc2_w 72, 3) := by decide +kernel
theorem own_d1_10 : decode prog_29_method_9_code 10 = .ok (.land, 1) := by decide +kernel
theorem own_d1_11 : decode prog_29_method_9_code 11 = .ok (.lor, 1) := by decide +kernel
theorem own_d1_12 : decode prog_29_method_9_code 12 = .ok (.lstore_n 2, 1) := by decide +kernel
theorem own_d1_13 : decode prog_29_method_9_code 13 = .ok (.lload_n 2, 1) := by decide +kernel
theorem own_d1_14 : decode prog_29_method_9_code 14 = .ok (.ldc2_w 74, 3) := by decide +kernel
theorem own_d1_17 : decode prog_29_method_9_code 17 = .ok (.lmul, 1) := by decide +kernel
theorem own_d1_18 : decode prog_29_method_9_code 18 = .ok (.bipush 32, 2) := by decide +kernel
theorem own_d1_20 : decode prog_29_method_9_code 20 = .ok (.lushr, 1) := by decide +kernel
theorem own_d1_21 : decode prog_29_method_9_code 21 = .ok (.l2i, 1) := by decide +kernel
theorem own_d1_22 : decode prog_29_method_9_code 22 = .ok (.ireturn, 1) := by decide +kernel
def own_rm1_f (p0 : Int32) (p1 : Int32) : Int32 := (((((((p0.toInt64) <<< ((32 : Int32) &&& 0x3f).toInt64) ||| ((p1.toInt64) &&& (4294967295 : Int64))) * (-7046029254386353131 : Int64)).toUInt64 >>> ((32 : Int32) &&& 0x3f).toInt64.toUInt64).toInt64).toInt32)
def Qown_rm1 (Z : State) (p0 : Int32) (p1 : Int32) (h0 : Heap) (n0 : Nat) (v : Option Value) (h : Heap) (L : List Loc) : Prop := v = some (.int (own_rm1_f p0 p1)) ∧ Fr n0 L ∧ h = h0
set_option maxRecDepth 65536 in
set_option maxHeartbeats 40000000 in
theorem own_rm1 (l : Launch) (Z : State) (a0 : Array Value) (hw : ∀ d ∈ tables_1, d.before a0 Z = true) (ws : List Jvm.Cond) (p0 : Int32) (p1 : Int32) (h0 : Heap) (n0 : Nat) (Z0 : n0 ≤ h0.size) :
    MetFree l (⟨"com/example/taut_choreo/tautchoreo/explore/PairStore", "hash", "(II)I"⟩ : MethodName) (head1 (Jvm.Cond.code (⟨"com/example/taut_choreo/tautchoreo/explore/PairStore", "hash", "(II)I"⟩ : MethodName) prog_29_method_9_code 4 (some .int) :: ws) ({ frames := 0, cells := 0, slots := 0, locals := 0 } : Room)) (fun a U => a = #[(.int p0), (.int p1)] ∧ Z.Warmed39 U.vm ∧ U.heap = h0) (fun _ _ _ _ _ => True) (fun _ U o U' => ∃ v L, o = .returned v ∧ Qown_rm1 Z p0 p1 h0 n0 v U'.heap L ∧ FrameEnd U o U' L ({ frames := 0, cells := 0, slots := 0, locals := 0 } : Room).cells ({ frames := 0, cells := 0, slots := 0, locals := 0 } : Room).slots) := by
  refine MetFree.of_bodySF (plainFor_of_name own_pn0) hisR ?_
  intro p e s m args below meth c s₁ Bd hml0 hP hK
  obtain ⟨rfl, hZ, hh⟩ := hP
  have hx := Bd.exec
  have hby := Bd.bytes
  have hml : c.maxLocals = 4 := hml0
  have hown : s.vm.findClass "com/example/taut_choreo/tautchoreo/explore/PairStore" = some m.cls := findClass_of_methodNamed Bd.named
  have hnm := (name_of_methodNamed Bd.named Bd.method).1
  have X0 : Stand p l e ({ frames := 0, cells := 0, slots := 0, locals := 0 } : Room) s m #[(.int p0), (.int p1)] below meth c s₁ [] 0 0 := Stand.of_body Bd
  have e0 : s₁.heap = h0 := by rw [← hh, Bd.state]; rfl
  have N0 := Fr.nil n0
  have pre0 : ∀ t, Steps p.tables e below (s₁.setTop (mkF m 0 #[.val (.int p0), .val (.int p1), .unset, .unset] [])) t → Steps p.tables e below (s₁.setTop (entryFrame m #[(.int p0), (.int p1)] 4)) t := fun t k => castTop (own_ef_own_rm1 m p0 p1) k
  obtain ⟨fs, hr, hrun, hended, hW, hsame⟩ := X0.leave (v := some (.int (((((((p0.toInt64) <<< ((32 : Int32) &&& 0x3f).toInt64) ||| ((p1.toInt64) &&& (4294967295 : Int64))) * (-7046029254386353131 : Int64)).toUInt64 >>> ((32 : Int32) &&& 0x3f).toInt64.toUInt64).toInt64).toInt32))) (fun h => by rw [Bd.returns] at h; cases h) (hlocks := BodyLoose.notSynchronized Bd)
  refine ⟨_, _, pre0 _ ?_, hrun, hended, _, _, rfl, ?_, ⟨_, rfl⟩, hW, hsame.mono (by decide) (by decide)⟩
  · show Steps p.tables e below (s₁.setTop (mkF m 0 #[.val (.int p0), .val (.int p1), .unset, .unset] [])) _
    refine XS.iloadN X0.here hx rfl (hb hby own_d1_0) rfl ?_
    show Steps p.tables e below (s₁.setTop (mkF m 1 #[.val (.int p0), .val (.int p1), .unset, .unset] [(.int p0)])) _
    refine XS.i2l X0.here hx rfl (hb hby own_d1_1) rfl ?_
    show Steps p.tables e below (s₁.setTop (mkF m 2 #[.val (.int p0), .val (.int p1), .unset, .unset] [(.long (p0.toInt64))])) _
    refine XS.bipush X0.here hx rfl (hb hby own_d1_2) ?_
    show Steps p.tables e below (s₁.setTop (mkF m 4 #[.val (.int p0), .val (.int p1), .unset, .unset] [(.int (32 : Int32)), (.long (p0.toInt64))])) _
    refine XS.lshl X0.here hx rfl (hb hby own_d1_4) rfl ?_
    show Steps p.tables e below (s₁.setTop (mkF m 5 #[.val (.int p0), .val (.int p1), .unset, .unset] [(.long ((p0.toInt64) <<< ((32 : Int32) &&& 0x3f).toInt64))])) _
    refine XS.iloadN X0.here hx rfl (hb hby own_d1_5) rfl ?_
    show Steps p.tables e below (s₁.setTop (mkF m 6 #[.val (.int p0), .val (.int p1), .unset, .unset] [(.int p1), (.long ((p0.toInt64) <<< ((32 : Int32) &&& 0x3f).toInt64))])) _
    refine XS.i2l X0.here hx rfl (hb hby own_d1_6) rfl ?_
    show Steps p.tables e below (s₁.setTop (mkF m 7 #[.val (.int p0), .val (.int p1), .unset, .unset] [(.long (p1.toInt64)), (.long ((p0.toInt64) <<< ((32 : Int32) &&& 0x3f).toInt64))])) _
    refine X0.ldc2Long hx hown (mvT hZ (hw _ (List.mem_of_getElem? (i := 4) rfl))) (g := (mkF m 7 #[.val (.int p0), .val (.int p1), .unset, .unset] [(.long (p1.toInt64)), (.long ((p0.toInt64) <<< ((32 : Int32) &&& 0x3f).toInt64))])) rfl (hb hby own_d1_7) _ ?_
    show Steps p.tables e below (s₁.setTop (mkF m 10 #[.val (.int p0), .val (.int p1), .unset, .unset] [(.long (4294967295 : Int64)), (.long (p1.toInt64)), (.long ((p0.toInt64) <<< ((32 : Int32) &&& 0x3f).toInt64))])) _
    refine XS.land X0.here hx rfl (hb hby own_d1_10) rfl ?_
    show Steps p.tables e below (s₁.setTop (mkF m 11 #[.val (.int p0), .val (.int p1), .unset, .unset] [(.long ((p1.toInt64) &&& (4294967295 : Int64))), (.long ((p0.toInt64) <<< ((32 : Int32) &&& 0x3f).toInt64))])) _
    refine XS.lor X0.here hx rfl (hb hby own_d1_11) rfl ?_
    show Steps p.tables e below (s₁.setTop (mkF m 12 #[.val (.int p0), .val (.int p1), .unset, .unset] [(.long (((p0.toInt64) <<< ((32 : Int32) &&& 0x3f).toInt64) ||| ((p1.toInt64) &&& (4294967295 : Int64))))])) _
    refine XS.lstoreN X0.here hx rfl (hb hby own_d1_12) rfl (l' := #[.val (.int p0), .val (.int p1), .val (.long (((p0.toInt64) <<< ((32 : Int32) &&& 0x3f).toInt64) ||| ((p1.toInt64) &&& (4294967295 : Int64)))), .second]) rfl ?_
    show Steps p.tables e below (s₁.setTop (mkF m 13 #[.val (.int p0), .val (.int p1), .val (.long (((p0.toInt64) <<< ((32 : Int32) &&& 0x3f).toInt64) ||| ((p1.toInt64) &&& (4294967295 : Int64)))), .second] [])) _
    refine XS.lloadN X0.here hx rfl (hb hby own_d1_13) rfl ?_
    show Steps p.tables e below (s₁.setTop (mkF m 14 #[.val (.int p0), .val (.int p1), .val (.long (((p0.toInt64) <<< ((32 : Int32) &&& 0x3f).toInt64) ||| ((p1.toInt64) &&& (4294967295 : Int64)))), .second] [(.long (((p0.toInt64) <<< ((32 : Int32) &&& 0x3f).toInt64) ||| ((p1.toInt64) &&& (4294967295 : Int64))))])) _
    refine X0.ldc2Long hx hown (mvT hZ (hw _ (List.mem_of_getElem? (i := 5) rfl))) (g := (mkF m 14 #[.val (.int p0), .val (.int p1), .val (.long (((p0.toInt64) <<< ((32 : Int32) &&& 0x3f).toInt64) ||| ((p1.toInt64) &&& (4294967295 : Int64)))), .second] [(.long (((p0.toInt64) <<< ((32 : Int32) &&& 0x3f).toInt64) ||| ((p1.toInt64) &&& (4294967295 : Int64))))])) rfl (hb hby own_d1_14) _ ?_
    show Steps p.tables e below (s₁.setTop (mkF m 17 #[.val (.int p0), .val (.int p1), .val (.long (((p0.toInt64) <<< ((32 : Int32) &&& 0x3f).toInt64) ||| ((p1.toInt64) &&& (4294967295 : Int64)))), .second] [(.long (-7046029254386353131 : Int64)), (.long (((p0.toInt64) <<< ((32 : Int32) &&& 0x3f).toInt64) ||| ((p1.toInt64) &&& (4294967295 : Int64))))])) _
    refine XS.lmul X0.here hx rfl (hb hby own_d1_17) rfl ?_
    show Steps p.tables e below (s₁.setTop (mkF m 18 #[.val (.int p0), .val (.int p1), .val (.long (((p0.toInt64) <<< ((32 : Int32) &&& 0x3f).toInt64) ||| ((p1.toInt64) &&& (4294967295 : Int64)))), .second] [(.long ((((p0.toInt64) <<< ((32 : Int32) &&& 0x3f).toInt64) ||| ((p1.toInt64) &&& (4294967295 : Int64))) * (-7046029254386353131 : Int64)))])) _
    refine XS.bipush X0.here hx rfl (hb hby own_d1_18) ?_
    show Steps p.tables e below (s₁.setTop (mkF m 20 #[.val (.int p0), .val (.int p1), .val (.long (((p0.toInt64) <<< ((32 : Int32) &&& 0x3f).toInt64) ||| ((p1.toInt64) &&& (4294967295 : Int64)))), .second] [(.int (32 : Int32)), (.long ((((p0.toInt64) <<< ((32 : Int32) &&& 0x3f).toInt64) ||| ((p1.toInt64) &&& (4294967295 : Int64))) * (-7046029254386353131 : Int64)))])) _
    refine XS.lushr X0.here hx rfl (hb hby own_d1_20) rfl ?_
    show Steps p.tables e below (s₁.setTop (mkF m 21 #[.val (.int p0), .val (.int p1), .val (.long (((p0.toInt64) <<< ((32 : Int32) &&& 0x3f).toInt64) ||| ((p1.toInt64) &&& (4294967295 : Int64)))), .second] [(.long ((((((p0.toInt64) <<< ((32 : Int32) &&& 0x3f).toInt64) ||| ((p1.toInt64) &&& (4294967295 : Int64))) * (-7046029254386353131 : Int64)).toUInt64 >>> ((32 : Int32) &&& 0x3f).toInt64.toUInt64).toInt64))])) _
    refine XS.l2i X0.here hx rfl (hb hby own_d1_21) rfl ?_
    show Steps p.tables e below (s₁.setTop (mkF m 22 #[.val (.int p0), .val (.int p1), .val (.long (((p0.toInt64) <<< ((32 : Int32) &&& 0x3f).toInt64) ||| ((p1.toInt64) &&& (4294967295 : Int64)))), .second] [(.int (((((((p0.toInt64) <<< ((32 : Int32) &&& 0x3f).toInt64) ||| ((p1.toInt64) &&& (4294967295 : Int64))) * (-7046029254386353131 : Int64)).toUInt64 >>> ((32 : Int32) &&& 0x3f).toInt64.toUInt64).toInt64).toInt32))])) _
    exact retI X0 hx Bd.returns (hb hby own_d1_22) hr
  · show Qown_rm1 Z p0 p1 h0 n0 _ s₁.heap _
    rw [e0]
    have hv : (own_rm1_f p0 p1) = (((((((p0.toInt64) <<< ((32 : Int32) &&& 0x3f).toInt64) ||| ((p1.toInt64) &&& (4294967295 : Int64))) * (-7046029254386353131 : Int64)).toUInt64 >>> ((32 : Int32) &&& 0x3f).toInt64.toUInt64).toInt64).toInt32) := by unfold own_rm1_f; rfl
    exact ⟨(by rw [hv]), N0, rfl⟩
theorem own_pn1 : plainName "com/example/taut_choreo/tautchoreo/explore/PairStoreHashPinLaw" = true := by first | (simp [plainName, overriddenIn]; done) | decide +kernel
theorem own_ef_own_rm2 (m : MethodId) (p0 : Int32) (p1 : Int32) : entryFrame m #[(.int p0), (.int p1)] 7 = mkF m 0 #[.val (.int p0), .val (.int p1), .unset, .unset, .unset, .unset, .unset] [] := by first | (simp [entryFrame, mkF, argsToLocals, Value.category]; done) | rfl
theorem own_d2_0 : decode method_2_code 0 = .ok (.iload_n 1, 1) := by decide +kernel
theorem own_d2_1 : decode method_2_code 1 = .ok (.i2l, 1) := by decide +kernel
theorem own_d2_2 : decode method_2_code 2 = .ok (.ldc2_w 7, 3) := by decide +kernel
theorem own_d2_5 : decode method_2_code 5 = .ok (.land, 1) := by decide +kernel
theorem own_d2_6 : decode method_2_code 6 = .ok (.lstore_n 2, 1) := by decide +kernel
theorem own_d2_7 : decode method_2_code 7 = .ok (.ldc2_w 11, 3) := by decide +kernel
theorem own_d2_10 : decode method_2_code 10 = .ok (.lstore 4, 2) := by decide +kernel
theorem own_d2_12 : decode method_2_code 12 = .ok (.lload_n 2, 1) := by decide +kernel
theorem own_d2_13 : decode method_2_code 13 = .ok (.lload 4, 2) := by decide +kernel
theorem own_d2_15 : decode method_2_code 15 = .ok (.lmul, 1) := by decide +kernel
theorem own_d2_16 : decode method_2_code 16 = .ok (.bipush 32, 2) := by decide +kernel
theorem own_d2_18 : decode method_2_code 18 = .ok (.lushr, 1) := by decide +kernel
theorem own_d2_19 : decode method_2_code 19 = .ok (.l2i, 1) := by decide +kernel
theorem own_d2_20 : decode method_2_code 20 = .ok (.istore 6, 2) := by decide +kernel
theorem own_d2_22 : decode method_2_code 22 = .ok (.iload_n 0, 1) := by decide +kernel
theorem own_d2_23 : decode method_2_code 23 = .ok (.ldc 13, 2) := by decide +kernel
theorem own_d2_25 : decode method_2_code 25 = .ok (.imul, 1) := by decide +kernel
theorem own_d2_26 : decode method_2_code 26 = .ok (.iload_n 1, 1) := by decide +kernel
theorem own_d2_27 : decode method_2_code 27 = .ok (.ldc 14, 2) := by decide +kernel
theorem own_d2_29 : decode method_2_code 29 = .ok (.imul, 1) := by decide +kernel
theorem own_d2_30 : decode method_2_code 30 = .ok (.iadd, 1) := by decide +kernel
theorem own_d2_31 : decode method_2_code 31 = .ok (.iload 6, 2) := by decide +kernel
theorem own_d2_33 : decode method_2_code 33 = .ok (.iadd, 1) := by decide +kernel
theorem own_d2_34 : decode method_2_code 34 = .ok (.ireturn, 1) := by decide +kernel
def own_rm2_f (p0 : Int32) (p1 : Int32) : Int32 := (((p0 * (2135587861 : Int32)) + (p1 * (-1640531527 : Int32))) + ((((((p1.toInt64) &&& (4294967295 : Int64)) * (2135587861 : Int64)).toUInt64 >>> ((32 : Int32) &&& 0x3f).toInt64.toUInt64).toInt64).toInt32))
def Qown_rm2 (Z : State) (p0 : Int32) (p1 : Int32) (h0 : Heap) (n0 : Nat) (v : Option Value) (h : Heap) (L : List Loc) : Prop := v = some (.int (own_rm2_f p0 p1)) ∧ Fr n0 L ∧ h = h0
set_option maxRecDepth 65536 in
set_option maxHeartbeats 40000000 in
theorem own_rm2 (l : Launch) (Z : State) (a0 : Array Value) (hw : ∀ d ∈ tables_1, d.before a0 Z = true) (ws : List Jvm.Cond) (p0 : Int32) (p1 : Int32) (h0 : Heap) (n0 : Nat) (Z0 : n0 ≤ h0.size) :
    MetFree l (⟨"com/example/taut_choreo/tautchoreo/explore/PairStoreHashPinLaw", "reference", "(II)I"⟩ : MethodName) (head1 (Jvm.Cond.code (⟨"com/example/taut_choreo/tautchoreo/explore/PairStoreHashPinLaw", "reference", "(II)I"⟩ : MethodName) method_2_code 7 (some .int) :: ws) ({ frames := 0, cells := 0, slots := 0, locals := 0 } : Room)) (fun a U => a = #[(.int p0), (.int p1)] ∧ Z.Warmed39 U.vm ∧ U.heap = h0) (fun _ _ _ _ _ => True) (fun _ U o U' => ∃ v L, o = .returned v ∧ Qown_rm2 Z p0 p1 h0 n0 v U'.heap L ∧ FrameEnd U o U' L ({ frames := 0, cells := 0, slots := 0, locals := 0 } : Room).cells ({ frames := 0, cells := 0, slots := 0, locals := 0 } : Room).slots) := by
  refine MetFree.of_bodySF (plainFor_of_name own_pn1) hisR ?_
  intro p e s m args below meth c s₁ Bd hml0 hP hK
  obtain ⟨rfl, hZ, hh⟩ := hP
  have hx := Bd.exec
  have hby := Bd.bytes
  have hml : c.maxLocals = 7 := hml0
  have hown : s.vm.findClass "com/example/taut_choreo/tautchoreo/explore/PairStoreHashPinLaw" = some m.cls := findClass_of_methodNamed Bd.named
  have hnm := (name_of_methodNamed Bd.named Bd.method).1
  have X0 : Stand p l e ({ frames := 0, cells := 0, slots := 0, locals := 0 } : Room) s m #[(.int p0), (.int p1)] below meth c s₁ [] 0 0 := Stand.of_body Bd
  have e0 : s₁.heap = h0 := by rw [← hh, Bd.state]; rfl
  have N0 := Fr.nil n0
  have pre0 : ∀ t, Steps p.tables e below (s₁.setTop (mkF m 0 #[.val (.int p0), .val (.int p1), .unset, .unset, .unset, .unset, .unset] [])) t → Steps p.tables e below (s₁.setTop (entryFrame m #[(.int p0), (.int p1)] 7)) t := fun t k => castTop (own_ef_own_rm2 m p0 p1) k
  obtain ⟨fs, hr, hrun, hended, hW, hsame⟩ := X0.leave (v := some (.int (((p0 * (2135587861 : Int32)) + (p1 * (-1640531527 : Int32))) + ((((((p1.toInt64) &&& (4294967295 : Int64)) * (2135587861 : Int64)).toUInt64 >>> ((32 : Int32) &&& 0x3f).toInt64.toUInt64).toInt64).toInt32)))) (fun h => by rw [Bd.returns] at h; cases h) (hlocks := BodyLoose.notSynchronized Bd)
  refine ⟨_, _, pre0 _ ?_, hrun, hended, _, _, rfl, ?_, ⟨_, rfl⟩, hW, hsame.mono (by decide) (by decide)⟩
  · show Steps p.tables e below (s₁.setTop (mkF m 0 #[.val (.int p0), .val (.int p1), .unset, .unset, .unset, .unset, .unset] [])) _
    refine XS.iloadN X0.here hx rfl (hb hby own_d2_0) rfl ?_
    show Steps p.tables e below (s₁.setTop (mkF m 1 #[.val (.int p0), .val (.int p1), .unset, .unset, .unset, .unset, .unset] [(.int p1)])) _
    refine XS.i2l X0.here hx rfl (hb hby own_d2_1) rfl ?_
    show Steps p.tables e below (s₁.setTop (mkF m 2 #[.val (.int p0), .val (.int p1), .unset, .unset, .unset, .unset, .unset] [(.long (p1.toInt64))])) _
    refine X0.ldc2Long hx hown (mvT hZ (hw _ (List.mem_of_getElem? (i := 10) rfl))) (g := (mkF m 2 #[.val (.int p0), .val (.int p1), .unset, .unset, .unset, .unset, .unset] [(.long (p1.toInt64))])) rfl (hb hby own_d2_2) _ ?_
    show Steps p.tables e below (s₁.setTop (mkF m 5 #[.val (.int p0), .val (.int p1), .unset, .unset, .unset, .unset, .unset] [(.long (4294967295 : Int64)), (.long (p1.toInt64))])) _
    refine XS.land X0.here hx rfl (hb hby own_d2_5) rfl ?_
    show Steps p.tables e below (s₁.setTop (mkF m 6 #[.val (.int p0), .val (.int p1), .unset, .unset, .unset, .unset, .unset] [(.long ((p1.toInt64) &&& (4294967295 : Int64)))])) _
    refine XS.lstoreN X0.here hx rfl (hb hby own_d2_6) rfl (l' := #[.val (.int p0), .val (.int p1), .val (.long ((p1.toInt64) &&& (4294967295 : Int64))), .second, .unset, .unset, .unset]) rfl ?_
    show Steps p.tables e below (s₁.setTop (mkF m 7 #[.val (.int p0), .val (.int p1), .val (.long ((p1.toInt64) &&& (4294967295 : Int64))), .second, .unset, .unset, .unset] [])) _
    refine X0.ldc2Long hx hown (mvT hZ (hw _ (List.mem_of_getElem? (i := 11) rfl))) (g := (mkF m 7 #[.val (.int p0), .val (.int p1), .val (.long ((p1.toInt64) &&& (4294967295 : Int64))), .second, .unset, .unset, .unset] [])) rfl (hb hby own_d2_7) _ ?_
    show Steps p.tables e below (s₁.setTop (mkF m 10 #[.val (.int p0), .val (.int p1), .val (.long ((p1.toInt64) &&& (4294967295 : Int64))), .second, .unset, .unset, .unset] [(.long (2135587861 : Int64))])) _
    refine XS.lstore X0.here hx rfl (hb hby own_d2_10) rfl (l' := #[.val (.int p0), .val (.int p1), .val (.long ((p1.toInt64) &&& (4294967295 : Int64))), .second, .val (.long (2135587861 : Int64)), .second, .unset]) rfl ?_
    show Steps p.tables e below (s₁.setTop (mkF m 12 #[.val (.int p0), .val (.int p1), .val (.long ((p1.toInt64) &&& (4294967295 : Int64))), .second, .val (.long (2135587861 : Int64)), .second, .unset] [])) _
    refine XS.lloadN X0.here hx rfl (hb hby own_d2_12) rfl ?_
    show Steps p.tables e below (s₁.setTop (mkF m 13 #[.val (.int p0), .val (.int p1), .val (.long ((p1.toInt64) &&& (4294967295 : Int64))), .second, .val (.long (2135587861 : Int64)), .second, .unset] [(.long ((p1.toInt64) &&& (4294967295 : Int64)))])) _
    refine XS.lload X0.here hx rfl (hb hby own_d2_13) rfl ?_
    show Steps p.tables e below (s₁.setTop (mkF m 15 #[.val (.int p0), .val (.int p1), .val (.long ((p1.toInt64) &&& (4294967295 : Int64))), .second, .val (.long (2135587861 : Int64)), .second, .unset] [(.long (2135587861 : Int64)), (.long ((p1.toInt64) &&& (4294967295 : Int64)))])) _
    refine XS.lmul X0.here hx rfl (hb hby own_d2_15) rfl ?_
    show Steps p.tables e below (s₁.setTop (mkF m 16 #[.val (.int p0), .val (.int p1), .val (.long ((p1.toInt64) &&& (4294967295 : Int64))), .second, .val (.long (2135587861 : Int64)), .second, .unset] [(.long (((p1.toInt64) &&& (4294967295 : Int64)) * (2135587861 : Int64)))])) _
    refine XS.bipush X0.here hx rfl (hb hby own_d2_16) ?_
    show Steps p.tables e below (s₁.setTop (mkF m 18 #[.val (.int p0), .val (.int p1), .val (.long ((p1.toInt64) &&& (4294967295 : Int64))), .second, .val (.long (2135587861 : Int64)), .second, .unset] [(.int (32 : Int32)), (.long (((p1.toInt64) &&& (4294967295 : Int64)) * (2135587861 : Int64)))])) _
    refine XS.lushr X0.here hx rfl (hb hby own_d2_18) rfl ?_
    show Steps p.tables e below (s₁.setTop (mkF m 19 #[.val (.int p0), .val (.int p1), .val (.long ((p1.toInt64) &&& (4294967295 : Int64))), .second, .val (.long (2135587861 : Int64)), .second, .unset] [(.long (((((p1.toInt64) &&& (4294967295 : Int64)) * (2135587861 : Int64)).toUInt64 >>> ((32 : Int32) &&& 0x3f).toInt64.toUInt64).toInt64))])) _
    refine XS.l2i X0.here hx rfl (hb hby own_d2_19) rfl ?_
    show Steps p.tables e below (s₁.setTop (mkF m 20 #[.val (.int p0), .val (.int p1), .val (.long ((p1.toInt64) &&& (4294967295 : Int64))), .second, .val (.long (2135587861 : Int64)), .second, .unset] [(.int ((((((p1.toInt64) &&& (4294967295 : Int64)) * (2135587861 : Int64)).toUInt64 >>> ((32 : Int32) &&& 0x3f).toInt64.toUInt64).toInt64).toInt32))])) _
    refine XS.istore X0.here hx rfl (hb hby own_d2_20) rfl (l' := #[.val (.int p0), .val (.int p1), .val (.long ((p1.toInt64) &&& (4294967295 : Int64))), .second, .val (.long (2135587861 : Int64)), .second, .val (.int ((((((p1.toInt64) &&& (4294967295 : Int64)) * (2135587861 : Int64)).toUInt64 >>> ((32 : Int32) &&& 0x3f).toInt64.toUInt64).toInt64).toInt32))]) rfl ?_
    show Steps p.tables e below (s₁.setTop (mkF m 22 #[.val (.int p0), .val (.int p1), .val (.long ((p1.toInt64) &&& (4294967295 : Int64))), .second, .val (.long (2135587861 : Int64)), .second, .val (.int ((((((p1.toInt64) &&& (4294967295 : Int64)) * (2135587861 : Int64)).toUInt64 >>> ((32 : Int32) &&& 0x3f).toInt64.toUInt64).toInt64).toInt32))] [])) _
    refine XS.iloadN X0.here hx rfl (hb hby own_d2_22) rfl ?_
    show Steps p.tables e below (s₁.setTop (mkF m 23 #[.val (.int p0), .val (.int p1), .val (.long ((p1.toInt64) &&& (4294967295 : Int64))), .second, .val (.long (2135587861 : Int64)), .second, .val (.int ((((((p1.toInt64) &&& (4294967295 : Int64)) * (2135587861 : Int64)).toUInt64 >>> ((32 : Int32) &&& 0x3f).toInt64.toUInt64).toInt64).toInt32))] [(.int p0)])) _
    refine X0.ldcInt hx hown (mvT hZ (hw _ (List.mem_of_getElem? (i := 12) rfl))) (g := (mkF m 23 #[.val (.int p0), .val (.int p1), .val (.long ((p1.toInt64) &&& (4294967295 : Int64))), .second, .val (.long (2135587861 : Int64)), .second, .val (.int ((((((p1.toInt64) &&& (4294967295 : Int64)) * (2135587861 : Int64)).toUInt64 >>> ((32 : Int32) &&& 0x3f).toInt64.toUInt64).toInt64).toInt32))] [(.int p0)])) rfl (hb hby own_d2_23) _ ?_
    show Steps p.tables e below (s₁.setTop (mkF m 25 #[.val (.int p0), .val (.int p1), .val (.long ((p1.toInt64) &&& (4294967295 : Int64))), .second, .val (.long (2135587861 : Int64)), .second, .val (.int ((((((p1.toInt64) &&& (4294967295 : Int64)) * (2135587861 : Int64)).toUInt64 >>> ((32 : Int32) &&& 0x3f).toInt64.toUInt64).toInt64).toInt32))] [(.int (2135587861 : Int32)), (.int p0)])) _
    refine XS.imul X0.here hx rfl (hb hby own_d2_25) rfl ?_
    show Steps p.tables e below (s₁.setTop (mkF m 26 #[.val (.int p0), .val (.int p1), .val (.long ((p1.toInt64) &&& (4294967295 : Int64))), .second, .val (.long (2135587861 : Int64)), .second, .val (.int ((((((p1.toInt64) &&& (4294967295 : Int64)) * (2135587861 : Int64)).toUInt64 >>> ((32 : Int32) &&& 0x3f).toInt64.toUInt64).toInt64).toInt32))] [(.int (p0 * (2135587861 : Int32)))])) _
    refine XS.iloadN X0.here hx rfl (hb hby own_d2_26) rfl ?_
    show Steps p.tables e below (s₁.setTop (mkF m 27 #[.val (.int p0), .val (.int p1), .val (.long ((p1.toInt64) &&& (4294967295 : Int64))), .second, .val (.long (2135587861 : Int64)), .second, .val (.int ((((((p1.toInt64) &&& (4294967295 : Int64)) * (2135587861 : Int64)).toUInt64 >>> ((32 : Int32) &&& 0x3f).toInt64.toUInt64).toInt64).toInt32))] [(.int p1), (.int (p0 * (2135587861 : Int32)))])) _
    refine X0.ldcInt hx hown (mvT hZ (hw _ (List.mem_of_getElem? (i := 13) rfl))) (g := (mkF m 27 #[.val (.int p0), .val (.int p1), .val (.long ((p1.toInt64) &&& (4294967295 : Int64))), .second, .val (.long (2135587861 : Int64)), .second, .val (.int ((((((p1.toInt64) &&& (4294967295 : Int64)) * (2135587861 : Int64)).toUInt64 >>> ((32 : Int32) &&& 0x3f).toInt64.toUInt64).toInt64).toInt32))] [(.int p1), (.int (p0 * (2135587861 : Int32)))])) rfl (hb hby own_d2_27) _ ?_
    show Steps p.tables e below (s₁.setTop (mkF m 29 #[.val (.int p0), .val (.int p1), .val (.long ((p1.toInt64) &&& (4294967295 : Int64))), .second, .val (.long (2135587861 : Int64)), .second, .val (.int ((((((p1.toInt64) &&& (4294967295 : Int64)) * (2135587861 : Int64)).toUInt64 >>> ((32 : Int32) &&& 0x3f).toInt64.toUInt64).toInt64).toInt32))] [(.int (-1640531527 : Int32)), (.int p1), (.int (p0 * (2135587861 : Int32)))])) _
    refine XS.imul X0.here hx rfl (hb hby own_d2_29) rfl ?_
    show Steps p.tables e below (s₁.setTop (mkF m 30 #[.val (.int p0), .val (.int p1), .val (.long ((p1.toInt64) &&& (4294967295 : Int64))), .second, .val (.long (2135587861 : Int64)), .second, .val (.int ((((((p1.toInt64) &&& (4294967295 : Int64)) * (2135587861 : Int64)).toUInt64 >>> ((32 : Int32) &&& 0x3f).toInt64.toUInt64).toInt64).toInt32))] [(.int (p1 * (-1640531527 : Int32))), (.int (p0 * (2135587861 : Int32)))])) _
    refine XS.iadd X0.here hx rfl (hb hby own_d2_30) rfl ?_
    show Steps p.tables e below (s₁.setTop (mkF m 31 #[.val (.int p0), .val (.int p1), .val (.long ((p1.toInt64) &&& (4294967295 : Int64))), .second, .val (.long (2135587861 : Int64)), .second, .val (.int ((((((p1.toInt64) &&& (4294967295 : Int64)) * (2135587861 : Int64)).toUInt64 >>> ((32 : Int32) &&& 0x3f).toInt64.toUInt64).toInt64).toInt32))] [(.int ((p0 * (2135587861 : Int32)) + (p1 * (-1640531527 : Int32))))])) _
    refine XS.iload X0.here hx rfl (hb hby own_d2_31) rfl ?_
    show Steps p.tables e below (s₁.setTop (mkF m 33 #[.val (.int p0), .val (.int p1), .val (.long ((p1.toInt64) &&& (4294967295 : Int64))), .second, .val (.long (2135587861 : Int64)), .second, .val (.int ((((((p1.toInt64) &&& (4294967295 : Int64)) * (2135587861 : Int64)).toUInt64 >>> ((32 : Int32) &&& 0x3f).toInt64.toUInt64).toInt64).toInt32))] [(.int ((((((p1.toInt64) &&& (4294967295 : Int64)) * (2135587861 : Int64)).toUInt64 >>> ((32 : Int32) &&& 0x3f).toInt64.toUInt64).toInt64).toInt32)), (.int ((p0 * (2135587861 : Int32)) + (p1 * (-1640531527 : Int32))))])) _
    refine XS.iadd X0.here hx rfl (hb hby own_d2_33) rfl ?_
    show Steps p.tables e below (s₁.setTop (mkF m 34 #[.val (.int p0), .val (.int p1), .val (.long ((p1.toInt64) &&& (4294967295 : Int64))), .second, .val (.long (2135587861 : Int64)), .second, .val (.int ((((((p1.toInt64) &&& (4294967295 : Int64)) * (2135587861 : Int64)).toUInt64 >>> ((32 : Int32) &&& 0x3f).toInt64.toUInt64).toInt64).toInt32))] [(.int (((p0 * (2135587861 : Int32)) + (p1 * (-1640531527 : Int32))) + ((((((p1.toInt64) &&& (4294967295 : Int64)) * (2135587861 : Int64)).toUInt64 >>> ((32 : Int32) &&& 0x3f).toInt64.toUInt64).toInt64).toInt32)))])) _
    exact retI X0 hx Bd.returns (hb hby own_d2_34) hr
  · show Qown_rm2 Z p0 p1 h0 n0 _ s₁.heap _
    rw [e0]
    have hv : (own_rm2_f p0 p1) = (((p0 * (2135587861 : Int32)) + (p1 * (-1640531527 : Int32))) + ((((((p1.toInt64) &&& (4294967295 : Int64)) * (2135587861 : Int64)).toUInt64 >>> ((32 : Int32) &&& 0x3f).toInt64.toUInt64).toInt64).toInt32)) := by unfold own_rm2_f; rfl
    exact ⟨(by rw [hv]), N0, rfl⟩
theorem own_sx (a : Int32) : (a.toInt64).toBitVec.toNat % 2 ^ 32 = a.toBitVec.toNat := by
  have e : (a.toInt64).toBitVec = a.toBitVec.signExtend 64 := rfl
  have h := a.toBitVec.isLt
  rw [e, BitVec.toNat_signExtend, BitVec.toNat_setWidth]
  split <;> omega
theorem own_x (p q : Int32) : (((p.toInt64 <<< ((32 : Int32) &&& 0x3f).toInt64) ||| (q.toInt64 &&& (4294967295 : Int64)))).toBitVec.toNat = p.toBitVec.toNat * 2 ^ 32 + q.toBitVec.toNat := by
  have e1 : ((p.toInt64 <<< ((32 : Int32) &&& 0x3f).toInt64) ||| (q.toInt64 &&& (4294967295 : Int64))).toBitVec = (p.toInt64.toBitVec <<< 32) ||| (q.toInt64.toBitVec &&& 4294967295#64) := rfl
  have h1 := own_sx p
  have h2 := own_sx q
  have hp := p.toBitVec.isLt
  have hq := q.toBitVec.isLt
  have hx := p.toInt64.toBitVec.isLt
  have m : (4294967295#64).toNat = 2 ^ 32 - 1 := rfl
  rw [e1, BitVec.toNat_or, BitVec.toNat_shiftLeft, BitVec.toNat_and, m, Nat.and_two_pow_sub_one_eq_mod, h2, Nat.shiftLeft_eq]
  have h3 : p.toInt64.toBitVec.toNat * 2 ^ 32 % 2 ^ 64 = p.toBitVec.toNat * 2 ^ 32 := by omega
  rw [h3, ← Nat.shiftLeft_eq, ← Nat.shiftLeft_add_eq_or_of_lt hq, Nat.shiftLeft_eq]
theorem own_md (Y : Nat) : Y % 2 ^ 64 / 2 ^ 32 % 2 ^ 32 = Y / 2 ^ 32 % 2 ^ 32 := by
  have h := Nat.mod_mul_right_div_self Y (2 ^ 32) (2 ^ 32)
  have e : (2 : Nat) ^ 32 * 2 ^ 32 = 2 ^ 64 := by decide
  rw [e] at h
  rw [h, Nat.mod_mod]
theorem own_l (p q : Int32) : (own_rm1_f p q).toBitVec.toNat = ((p.toBitVec.toNat * 2 ^ 32 + q.toBitVec.toNat) * 11400714819323198485 / 2 ^ 32) % 2 ^ 32 := by
  unfold own_rm1_f
  have hx := own_x p q
  generalize (p.toInt64 <<< ((32 : Int32) &&& 0x3f).toInt64) ||| (q.toInt64 &&& (4294967295 : Int64)) = x at hx ⊢
  have e : (((x * (-7046029254386353131 : Int64)).toUInt64 >>> ((32 : Int32) &&& 0x3f).toInt64.toUInt64).toInt64.toInt32).toBitVec = ((x.toBitVec * 11400714819323198485#64) >>> 32).signExtend 32 := rfl
  rw [e, BitVec.signExtend_eq_setWidth_of_le _ (by decide), BitVec.toNat_setWidth, BitVec.toNat_ushiftRight, BitVec.toNat_mul, Nat.shiftRight_eq_div_pow, hx]
  have m : (11400714819323198485#64).toNat = 11400714819323198485 := rfl
  rw [m]
  generalize (p.toBitVec.toNat * 2 ^ 32 + q.toBitVec.toNat) * 11400714819323198485 = Y
  exact own_md Y
theorem own_a3 (A B K : Nat) : ((A % 2 ^ 32 + B % 2 ^ 32) % 2 ^ 32 + K) % 2 ^ 32 = (A + B + K) % 2 ^ 32 := by omega
set_option maxRecDepth 65536 in
theorem own_r (p q : Int32) : (own_rm2_f p q).toBitVec.toNat = (p.toBitVec.toNat * 2135587861 + q.toBitVec.toNat * 2654435769 + (q.toBitVec.toNat * 2135587861 / 2 ^ 32)) % 2 ^ 32 := by
  unfold own_rm2_f
  have h2 := own_sx q
  have hq := q.toBitVec.isLt
  have hp := p.toBitVec.isLt
  have hs : (q.toInt64 &&& (4294967295 : Int64)).toBitVec.toNat = q.toBitVec.toNat := by
    have e1 : (q.toInt64 &&& (4294967295 : Int64)).toBitVec = q.toInt64.toBitVec &&& 4294967295#64 := rfl
    have m : (4294967295#64).toNat = 2 ^ 32 - 1 := rfl
    rw [e1, BitVec.toNat_and, m, Nat.and_two_pow_sub_one_eq_mod, h2]
  generalize q.toInt64 &&& (4294967295 : Int64) = s at hs ⊢
  have ec : (((s * (2135587861 : Int64)).toUInt64 >>> ((32 : Int32) &&& 0x3f).toInt64.toUInt64).toInt64.toInt32).toBitVec = ((s.toBitVec * 2135587861#64) >>> 32).signExtend 32 := rfl
  have hc : (((s * (2135587861 : Int64)).toUInt64 >>> ((32 : Int32) &&& 0x3f).toInt64.toUInt64).toInt64.toInt32).toBitVec.toNat = q.toBitVec.toNat * 2135587861 / 2 ^ 32 := by
    have m : (2135587861#64).toNat = 2135587861 := rfl
    rw [ec, BitVec.signExtend_eq_setWidth_of_le _ (by decide), BitVec.toNat_setWidth, BitVec.toNat_ushiftRight, BitVec.toNat_mul, Nat.shiftRight_eq_div_pow, hs, m, own_md]
    have hy : q.toBitVec.toNat * 2135587861 < 2 ^ 64 := by omega
    generalize q.toBitVec.toNat * 2135587861 = Y at hy ⊢
    exact Nat.mod_eq_of_lt (by omega)
  generalize ((s * (2135587861 : Int64)).toUInt64 >>> ((32 : Int32) &&& 0x3f).toInt64.toUInt64).toInt64.toInt32 = cy at hc ⊢
  have e2 : ((p * (2135587861 : Int32)) + (q * (-1640531527 : Int32)) + cy).toBitVec = p.toBitVec * 2135587861#32 + q.toBitVec * 2654435769#32 + cy.toBitVec := rfl
  have m1 : (2135587861#32).toNat = 2135587861 := rfl
  have m2 : (2654435769#32).toNat = 2654435769 := rfl
  rw [e2, BitVec.toNat_add, BitVec.toNat_add, BitVec.toNat_mul, BitVec.toNat_mul, hc, m1, m2]
  exact own_a3 _ _ _
theorem own_sw (u v k t : Nat) : (u + t) + v + k = (u + v + k) + t := by omega
theorem own_c2 (a CL CH : Nat) (M : Nat) : a * (CL + M * CH) = a * CL + M * (a * CH) := by
  rw [Nat.mul_add, Nat.mul_left_comm]
theorem own_c1 (a b CL CH M : Nat) : (a * M + b) * (CL + M * CH) = M * (a * (CL + M * CH) + b * CH) + b * CL := by
  rw [Nat.add_mul, Nat.mul_add b, Nat.mul_add M, Nat.mul_comm a M, Nat.mul_assoc, Nat.mul_left_comm b M, Nat.add_comm (b * CL), Nat.add_assoc]
theorem own_gen (a b CL CH M : Nat) (hM : 0 < M) : ((a * M + b) * (CL + M * CH) / M) % M = (a * CL + b * CH + b * CL / M) % M := by
  rw [own_c1, Nat.mul_add_div hM, own_c2, own_sw, Nat.add_mul_mod_self_left]
theorem own_alg (a b : Nat) : ((a * 2 ^ 32 + b) * 11400714819323198485 / 2 ^ 32) % 2 ^ 32 = (a * 2135587861 + b * 2654435769 + b * 2135587861 / 2 ^ 32) % 2 ^ 32 := by
  have e : (11400714819323198485 : Nat) = 2135587861 + 2 ^ 32 * 2654435769 := by decide
  rw [e]
  exact own_gen a b 2135587861 2654435769 (2 ^ 32) (by decide)
theorem own_main (p q : Int32) : own_rm1_f p q = own_rm2_f p q := by
  apply Int32.toBitVec_inj.mp
  apply BitVec.eq_of_toNat_eq
  rw [own_l, own_r]
  generalize p.toBitVec.toNat = a
  generalize q.toBitVec.toNat = b
  exact own_alg a b
theorem own_ef_own_law (m : MethodId) (p0 : Int32) (p1 : Int32) : entryFrame m #[(.int p0), (.int p1)] maxLocals = mkF m 0 #[.val (.int p0), .val (.int p1)] [] := by first | (simp [entryFrame, mkF, argsToLocals, Value.category, maxLocals]; done) | rfl
theorem own_pd0 : parseMethodDescriptor "(II)I" = some ⟨[.int, .int], some .int⟩ := by decide +kernel
def Qown_law (Z : State) (p0 : Int32) (p1 : Int32) (h0 : Heap) (n0 : Nat) (v : Option Value) (h : Heap) (L : List Loc) : Prop := v = some (.int (1 : Int32)) ∧ Fr n0 L
set_option maxRecDepth 65536 in
set_option maxHeartbeats 40000000 in
theorem own_law (l : Launch) (Z : State) (a0 : Array Value) (hw : ∀ d ∈ tables_1, d.before a0 Z = true) (ws : List Jvm.Cond) (p0 : Int32) (p1 : Int32) (h0 : Heap) (n0 : Nat) (Z0 : n0 ≤ h0.size) :
    MetFree l x (head1 (Jvm.Cond.code x code maxLocals ret :: ws) room_1) (fun a U => a = #[(.int p0), (.int p1)] ∧ Z.Warmed39 U.vm ∧ U.heap = h0) (fun _ _ _ _ _ => True) (fun _ U o U' => ∃ v L, o = .returned v ∧ Qown_law Z p0 p1 h0 n0 v U'.heap L ∧ FrameEnd U o U' L room_1.cells room_1.slots) := by
  refine MetFree.of_bodySF (plainFor_of_name own_pn1) hisR ?_
  intro p e s m args below meth c s₁ Bd hml0 hP hK
  obtain ⟨rfl, hZ, hh⟩ := hP
  have hx := Bd.exec
  have hby := Bd.bytes
  have hml : c.maxLocals = 2 := hml0
  have hown : s.vm.findClass "com/example/taut_choreo/tautchoreo/explore/PairStoreHashPinLaw" = some m.cls := findClass_of_methodNamed Bd.named
  have hnm := (name_of_methodNamed Bd.named Bd.method).1
  have X0 : Stand p l e room_1 s m #[(.int p0), (.int p1)] below meth c s₁ [] 0 0 := Stand.of_body Bd
  have e0 : s₁.heap = h0 := by rw [← hh, Bd.state]; rfl
  have N0 := Fr.nil n0
  have pre0 : ∀ t, Steps p.tables e below (s₁.setTop (mkF m 0 #[.val (.int p0), .val (.int p1)] [])) t → Steps p.tables e below (s₁.setTop (entryFrame m #[(.int p0), (.int p1)] maxLocals)) t := fun t k => castTop (own_ef_own_law m p0 p1) k
  obtain ⟨_, _, ⟨T4, L4, k4, n4⟩, -, X4, ⟨Lc4, hQ4, l4, y4, z4⟩, st4⟩ := Jvm.LawKit.callS X0 hx (y := (⟨"com/example/taut_choreo/tautchoreo/explore/PairStore", "hash", "(II)I"⟩ : MethodName)) hown (mvT hZ (hw _ (List.mem_of_getElem? (i := 0) rfl))) (mvT hZ (hw _ (List.mem_of_getElem? (i := 1) rfl))) (mvT hZ (hw _ (List.mem_of_getElem? (i := 2) rfl))) (mvT hZ (hw _ (List.mem_of_getElem? (i := 3) rfl))) (by decide) (backOf (W := 0) (own_rm1 l Z a0 hw [] p0 p1 h0 n0 Z0 ) hZ (hw _ (List.mem_of_getElem? (i := 3) rfl)) (hw _ (List.mem_of_getElem? (i := 2) rfl)) (by decide) (by decide)) (g := (mkF m 2 #[.val (.int p0), .val (.int p1)] [(.int p1), (.int p0)])) rfl (by rw [hml]; rfl) (argsL := [(.int p0), (.int p1)]) (rest := []) (lenOf own_pd0 rfl) rfl (by show 2 * 0 + _ ≤ _; exact Nat.le_of_eq rfl) (hb hby at_2) (fun _ _ => ⟨rfl, e0, (by decide : 0 + 0 ≤ _), (by decide : 0 + 0 ≤ _)⟩)
  dsimp only [Pt.U, Pt.locs, Pt.cells, Pt.slots] at X4 l4 y4 z4 st4 hQ4
  subst l4 y4 z4
  obtain ⟨rfl, Nq4, eh4⟩ := hQ4
  have N5 := Fr.app N0 Nq4
  obtain ⟨_, _, ⟨T9, L9, k9, n9⟩, -, X9, ⟨Lc9, hQ9, l9, y9, z9⟩, st9⟩ := Jvm.LawKit.callS X4 hx (y := (⟨"com/example/taut_choreo/tautchoreo/explore/PairStoreHashPinLaw", "reference", "(II)I"⟩ : MethodName)) hown (mvT hZ (hw _ (List.mem_of_getElem? (i := 6) rfl))) (mvT hZ (hw _ (List.mem_of_getElem? (i := 7) rfl))) (mvT hZ (hw _ (List.mem_of_getElem? (i := 8) rfl))) (mvT hZ (hw _ (List.mem_of_getElem? (i := 9) rfl))) (by decide) (backOf (W := 1) (own_rm2 l Z a0 hw [] p0 p1 h0 n0 Z0 ) hZ (hw _ (List.mem_of_getElem? (i := 9) rfl)) (hw _ (List.mem_of_getElem? (i := 8) rfl)) (by decide) (by decide)) (g := (mkF m 7 #[.val (.int p0), .val (.int p1)] [(.int p1), (.int p0), (.int (own_rm1_f p0 p1))])) rfl (by rw [hml]; rfl) (argsL := [(.int p0), (.int p1)]) (rest := [(.int (own_rm1_f p0 p1))]) (lenOf own_pd0 rfl) rfl (by show 2 * 0 + _ ≤ _; exact Nat.le_of_eq rfl) (hb hby at_7) (fun _ _ => ⟨rfl, eh4, (by decide : 0 + 0 ≤ _), (by decide : 0 + 0 ≤ _)⟩)
  dsimp only [Pt.U, Pt.locs, Pt.cells, Pt.slots] at X9 l9 y9 z9 st9 hQ9
  subst l9 y9 z9
  obtain ⟨rfl, Nq9, eh9⟩ := hQ9
  have N10 := Fr.app N5 Nq9
  obtain ⟨fs, hr, hrun, hended, hW, hsame⟩ := X9.leave (v := some (.int (1 : Int32))) (fun h => by rw [Bd.returns] at h; cases h) (hlocks := BodyLoose.notSynchronized Bd)
  refine ⟨_, _, pre0 _ ?_, hrun, hended, _, _, rfl, ?_, ⟨_, rfl⟩, hW, hsame.mono (by decide) (by decide)⟩
  · show Steps p.tables e below (s₁.setTop (mkF m 0 #[.val (.int p0), .val (.int p1)] [])) _
    refine XS.iloadN X0.here hx rfl (hb hby at_0) rfl ?_
    show Steps p.tables e below (s₁.setTop (mkF m 1 #[.val (.int p0), .val (.int p1)] [(.int p0)])) _
    refine XS.iloadN X0.here hx rfl (hb hby at_1) rfl ?_
    show Steps p.tables e below (s₁.setTop (mkF m 2 #[.val (.int p0), .val (.int p1)] [(.int p1), (.int p0)])) _
    refine st4 _ ?_
    show Steps p.tables e below (T4.setTop (mkF m 5 #[.val (.int p0), .val (.int p1)] [(.int (own_rm1_f p0 p1))])) _
    refine XS.iloadN X4.here hx rfl (hb hby at_5) rfl ?_
    show Steps p.tables e below (T4.setTop (mkF m 6 #[.val (.int p0), .val (.int p1)] [(.int p0), (.int (own_rm1_f p0 p1))])) _
    refine XS.iloadN X4.here hx rfl (hb hby at_6) rfl ?_
    show Steps p.tables e below (T4.setTop (mkF m 7 #[.val (.int p0), .val (.int p1)] [(.int p1), (.int p0), (.int (own_rm1_f p0 p1))])) _
    refine st9 _ ?_
    show Steps p.tables e below (T9.setTop (mkF m 10 #[.val (.int p0), .val (.int p1)] [(.int (own_rm2_f p0 p1)), (.int (own_rm1_f p0 p1))])) _
    refine XS.icmpNo X9.here hx rfl (hb hby at_10) rfl (teq (own_main _ _ : (own_rm1_f p0 p1) = (own_rm2_f p0 p1))).2 ?_
    show Steps p.tables e below (T9.setTop (mkF m 13 #[.val (.int p0), .val (.int p1)] [])) _
    refine XS.iconst X9.here hx rfl (hb hby at_13) ?_
    show Steps p.tables e below (T9.setTop (mkF m 14 #[.val (.int p0), .val (.int p1)] [(.int (1 : Int32))])) _
    refine XS.goto X9.here hx rfl (pc0 := 14) (pc' := 18) rfl (hb hby at_14) (by decide) (by decide) ?_
    show Steps p.tables e below (T9.setTop (mkF m 18 #[.val (.int p0), .val (.int p1)] [(.int (1 : Int32))])) _
    exact retN X9 hx (t := .boolean) Bd.returns (by simp) (hb hby at_18) hr
  · show Qown_law Z p0 p1 h0 n0 _ T9.heap _
    rw [eh9]
    exact ⟨rfl, N10⟩
set_option maxRecDepth 65536 in
set_option maxHeartbeats 40000000 in
theorem comes_1 {Post : Tables → Env → Array Value → State → Outcome → State → Prop} (hpost : ∀ tb e args s v u, (limb_1_1.after args s (.returned v) u = true ∧ limb_1_2.after args s (.returned v) u = true ∧ True) → FrameEnd s (.returned v) u (Jvm.fieldLocs frame_1_writes args s ++ Jvm.arrayLocs frame_1_arrays args s ++ Jvm.staticLocs frame_1_statics s) 0 0 → Post tb e args s (.returned v) u) :
    ArmFor flags0 classFile x code maxLocals ret World_1 tables_1 room_1 Calls_1 rest_1 Pre_1 Post := by
  intro l hfl _ _ p e ha hc hk s m args below hf hA hF happ hP
  obtain ⟨hcalls, hrest, hpre⟩ := hP
  obtain ⟨-, -, -, hnamed, -, -, -, hat⟩ := (Spec.applies_iff hf).mp happ
  obtain ⟨hg, hn⟩ := and_e (Cond.before_iff.mp (show (Jvm.Cond.and given_1 narrow_1).before args s = true from hpre))
  obtain ⟨gg1, gg2⟩ := and_e hg
  obtain ⟨gg3, gg4⟩ := and_e gg2
  obtain ⟨w0, w1, rfl⟩ : ∃ w0 w1 : Value, args = #[w0, w1] := by
    have hs : args.size = 2 := by simpa [Cond.value, given_1] using gg1
    obtain ⟨L⟩ := args
    match L, hs with
    | [w0, w1], _ => exact ⟨w0, w1, rfl⟩
  have hw := fun d (hd : d ∈ tables_1) => atoms_spec (ws := Jvm.Cond.code x code maxLocals ret :: tables_1) hat d (List.mem_cons_of_mem _ hd)
  obtain ⟨i0, ei0⟩ := is_v gg3
  obtain rfl : w0 = (.int i0) := Option.some.inj ei0
  obtain ⟨i1, ei1⟩ := is_v gg4
  obtain rfl : w1 = (.int i1) := Option.some.inj ei1
  obtain ⟨n, o, h1, h2, h3, _, L, rfl, ⟨rfl, N⟩, hq⟩ := own_law l s _ hw tables_1 i0 i1 s.heap s.heap.size (Nat.le_refl _) p e ha hc hk s m _ below hf ((Spec.applies_iff_loose hf).mp happ).1 ⟨rfl, State.Warmed39.refl s, rfl⟩ trivial
  refine ⟨n, _, h1, h2, h3, hpost _ _ _ _ _ _ ⟨Cond.after_iff.mpr rfl, Cond.after_iff.mpr (eq_i res_at (Term.int_eval (1)) rfl), trivial⟩ ⟨hq.1, hq.2.1, (hq.2.2.sift fun y hy => Or.inr (N y hy)).mono (by decide) (by decide)⟩⟩
theorem main_1_1 : Claimed_1_1 := comes_1 fun _ _ _ _ _ _ h hF => ⟨h.1, hF⟩
theorem main_1_2 : Claimed_1_2 := comes_1 fun _ _ _ _ _ _ h hF => ⟨h.2.1, hF⟩
end Jvm.Pilot.@@N@@
namespace Jvm.Pilot.@@N@@
open Jvm Jvm.ClassFile Sem Op Lib Jvm.Free Jvm.Stand Jvm.Pilot.@@N@@.Jvm.D
/-! MADE BY PROGRAM (witnessworld.py) out of the Statement's table words and the real class files: 9 classes; the members and pool entries that the words name. The judged class is class 1, her method 2. -/
namespace start1
open Jvm.ClassFile
def u (s : String) : CpInfo := .utf8 (stringToUtf16 s)
/-- a pool by its gaps: so many unusable entries, then the entry; so many at the end -/
def gap : Nat → List CpInfo → List CpInfo
  | 0, r => r
  | n + 1, r => .unusable :: gap n r
def poolList (es : List (Nat × CpInfo)) (last : Nat) : List CpInfo := es.foldr (fun e r => gap e.1 (e.2 :: r)) (gap last [])
def pool (es : List (Nat × CpInfo)) (last : Nat) : Array CpInfo := ⟨poolList es last⟩
def fileOf (pool : Array CpInfo) (this : Nat) (attrs : Array Attribute := #[]) (ms : Array MethodInfo := #[]) (fl : Nat := 33) (sup : Nat := 0) (ifs : Array Nat := #[]) (fds : Array FieldInfo := #[]) : ClassFile where
  minorVersion := 0
  majorVersion := 65
  constantPool := pool
  accessFlags := fl
  thisClass := this
  superClass := sup
  interfaces := ifs
  fields := fds
  methods := ms
  attributes := attrs
def plain (name : String) (sup : Option ClassId) : Class where
  name := name
  kind := .ordinary
  loader := none
  accessFlags := 33
  super := sup
  interfaces := #[]
  cf := none
  fields := #[]
  methods := #[]
  instanceTypes := #[]
  staticTypes := #[]
  resolved := #[]
  callSites := []
  init := .initialized
  statics := none
  mirror := none

def pool0 : Array CpInfo := pool [(5, u "<init>"), (0, u "()V"), (1, .class_ 10), (1, u "java/lang/Object")] 113

def k0m0 : Method := { name := "<init>", desc := "()V", sig := { parameters := [], returnType := none }, accessFlags := 1, code := none }
/-- java/lang/Object -/
def k0 : Class := { plain "java/lang/Object" none with
  accessFlags := 33
  interfaces := #[]
  cf := some (fileOf pool0 8 #[] #[{ accessFlags := 1, nameIndex := 5, descriptorIndex := 6, attributes := #[] }] 33 0 #[] #[])
  fields := #[]
  methods := #[k0m0]
  instanceTypes := #[]
  staticTypes := #[]
  resolved := Array.replicate 124 none
  statics := none }

def pool1 : Array CpInfo := pool [(2, .class_ 4), (1, u "java/lang/Object"), (0, u "<init>"), (0, u "()V"), (0, .long 4294967295), (1, .class_ 10), (0, u "com/example/taut_choreo/tautchoreo/explore/PairStoreHashPinLaw"), (0, .long 2135587861), (1, .integer 2135587861), (0, .integer 2654435769), (0, .methodref 16 17), (0, .class_ 18), (0, .nameAndType 19 20), (0, u "com/example/taut_choreo/tautchoreo/explore/PairStore"), (0, u "hash"), (0, u "(II)I"), (0, .methodref 9 22), (0, .nameAndType 23 20), (0, u "reference"), (0, u "C_HI"), (0, u "I"), (1, u "C_LO"), (2, u "law"), (0, u "(II)Z")] 3

def k1m0 : Method := { name := "<init>", desc := "()V", sig := { parameters := [], returnType := none }, accessFlags := 1, code := none }
def k1c1 : Code := { maxStack := 4, maxLocals := 7, code := method_2_code, exceptionTable := #[], attributes := #[] }
def k1m1 : Method := { name := "reference", desc := "(II)I", sig := { parameters := [.int, .int], returnType := some .int }, accessFlags := 10, code := some k1c1 }
def k1c2 : Code := { maxStack := 3, maxLocals := 2, code := code, exceptionTable := #[], attributes := #[] }
def k1m2 : Method := { name := "law", desc := "(II)Z", sig := { parameters := [.int, .int], returnType := some .boolean }, accessFlags := 9, code := some k1c2 }
/-- com/example/taut_choreo/tautchoreo/explore/PairStoreHashPinLaw -/
def k1 : Class := { plain "com/example/taut_choreo/tautchoreo/explore/PairStoreHashPinLaw" (some 0) with
  accessFlags := 49
  interfaces := #[]
  cf := some (fileOf pool1 9 #[] #[{ accessFlags := 1, nameIndex := 5, descriptorIndex := 6, attributes := #[] }, { accessFlags := 10, nameIndex := 23, descriptorIndex := 20, attributes := #[] }, { accessFlags := 9, nameIndex := 30, descriptorIndex := 31, attributes := #[] }] 49 2 #[] #[{ accessFlags := 26, nameIndex := 24, descriptorIndex := 25, attributes := #[] }, { accessFlags := 26, nameIndex := 27, descriptorIndex := 25, attributes := #[] }])
  fields := #[{ name := "C_HI", type := .int, accessFlags := 26, slot := 0, constantValue := 0 }, { name := "C_LO", type := .int, accessFlags := 26, slot := 1, constantValue := 0 }]
  methods := #[k1m0, k1m1, k1m2]
  instanceTypes := #[]
  staticTypes := #[.int, .int]
  resolved := Array.replicate 35 none
  statics := none }

def pool2 : Array CpInfo := pool [(4, .class_ 6), (1, u "java/lang/Object"), (0, u "<init>"), (0, u "()V"), (4, .class_ 15), (1, u "com/example/taut_choreo/tautchoreo/explore/PairStore"), (0, u "firsts"), (0, u "Lcom/example/taut_choreo/tautchoreo/explore/IntList;"), (2, u "seconds"), (3, u "index"), (0, u "Lcom/example/taut_choreo/tautchoreo/explore/HashIndex;"), (6, u "isSought"), (0, u "Ljava/util/function/IntPredicate;"), (7, u "(II)I"), (10, u "hash"), (9, u "soughtFirst"), (0, u "I"), (2, u "soughtSecond"), (5, .long 4294967295), (1, .long 11400714819323198485), (1, u "CAPACITY")] 29

def k2m0 : Method := { name := "<init>", desc := "()V", sig := { parameters := [], returnType := none }, accessFlags := 1, code := none }
def k2c1 : Code := { maxStack := 6, maxLocals := 4, code := prog_29_method_9_code, exceptionTable := #[], attributes := #[] }
def k2m1 : Method := { name := "hash", desc := "(II)I", sig := { parameters := [.int, .int], returnType := some .int }, accessFlags := 8, code := some k2c1 }
/-- com/example/taut_choreo/tautchoreo/explore/PairStore -/
def k2 : Class := { plain "com/example/taut_choreo/tautchoreo/explore/PairStore" (some 0) with
  accessFlags := 49
  interfaces := #[]
  cf := some (fileOf pool2 13 #[] #[{ accessFlags := 1, nameIndex := 7, descriptorIndex := 8, attributes := #[] }, { accessFlags := 8, nameIndex := 52, descriptorIndex := 41, attributes := #[] }] 49 4 #[] #[{ accessFlags := 25, nameIndex := 76, descriptorIndex := 63, attributes := #[] }, { accessFlags := 18, nameIndex := 16, descriptorIndex := 17, attributes := #[] }, { accessFlags := 18, nameIndex := 20, descriptorIndex := 17, attributes := #[] }, { accessFlags := 18, nameIndex := 24, descriptorIndex := 25, attributes := #[] }, { accessFlags := 18, nameIndex := 32, descriptorIndex := 33, attributes := #[] }, { accessFlags := 2, nameIndex := 62, descriptorIndex := 63, attributes := #[] }, { accessFlags := 2, nameIndex := 66, descriptorIndex := 63, attributes := #[] }])
  fields := #[{ name := "CAPACITY", type := .int, accessFlags := 25, slot := 0, constantValue := 0 }, { name := "firsts", type := (.object "com/example/taut_choreo/tautchoreo/explore/IntList"), accessFlags := 18, slot := 0, constantValue := 0 }, { name := "seconds", type := (.object "com/example/taut_choreo/tautchoreo/explore/IntList"), accessFlags := 18, slot := 1, constantValue := 0 }, { name := "index", type := (.object "com/example/taut_choreo/tautchoreo/explore/HashIndex"), accessFlags := 18, slot := 2, constantValue := 0 }, { name := "isSought", type := (.object "java/util/function/IntPredicate"), accessFlags := 18, slot := 3, constantValue := 0 }, { name := "soughtFirst", type := .int, accessFlags := 2, slot := 4, constantValue := 0 }, { name := "soughtSecond", type := .int, accessFlags := 2, slot := 5, constantValue := 0 }]
  methods := #[k2m0, k2m1]
  instanceTypes := #[(.object "com/example/taut_choreo/tautchoreo/explore/IntList"), (.object "com/example/taut_choreo/tautchoreo/explore/IntList"), (.object "com/example/taut_choreo/tautchoreo/explore/HashIndex"), (.object "java/util/function/IntPredicate"), .int, .int]
  staticTypes := #[.int]
  resolved := Array.replicate 106 none
  statics := none }

def pool3 : Array CpInfo := pool [(1, u "java/lang/Cloneable"), (0, .class_ 1), (0, u "java/lang/Object"), (0, .class_ 3)] 3

/-- java/lang/Cloneable -/
def k3 : Class := { plain "java/lang/Cloneable" (some 0) with
  accessFlags := 1537
  interfaces := #[]
  cf := some (fileOf pool3 2 #[] #[] 1537 4 #[] #[])
  fields := #[]
  methods := #[]
  instanceTypes := #[]
  staticTypes := #[]
  resolved := Array.replicate 8 none
  statics := none }

def pool4 : Array CpInfo := pool [(1, u "java/io/Serializable"), (0, .class_ 1), (0, u "java/lang/Object"), (0, .class_ 3)] 3

/-- java/io/Serializable -/
def k4 : Class := { plain "java/io/Serializable" (some 0) with
  accessFlags := 1537
  interfaces := #[]
  cf := some (fileOf pool4 2 #[] #[] 1537 4 #[] #[])
  fields := #[]
  methods := #[]
  instanceTypes := #[]
  staticTypes := #[]
  resolved := Array.replicate 8 none
  statics := none }

/-- the primitive byte -/
def k5 : Class := { plain "byte" none with kind := .primitive 'B', accessFlags := 0x411 }
/-- [B -/
def k6 : Class := { plain "[B" (some 0) with kind := .array 5 .byte, interfaces := #[3, 4], accessFlags := 1041 }

/-- the primitive int -/
def k7 : Class := { plain "int" none with kind := .primitive 'I', accessFlags := 0x411 }
/-- [I -/
def k8 : Class := { plain "[I" (some 0) with kind := .array 7 .int, interfaces := #[3, 4], accessFlags := 1041 }

def heap : Heap := #[]
def classes : Array Class := #[k0, k1, k2, k3, k4, k5, k6, k7, k8]
def interned : List (Array UInt16 × Addr) := []
def slotsUsed : Nat := 0
def theMethod : MethodId := ⟨1, 2⟩
def args0 : Array Value := #[.int 5, .int 7]
def aboutOver (below : List Frame) : State where
  vm := { classes := classes, interned := interned.toArray }
  heap := heap
  slotsUsed := slotsUsed
  threads := #[{ frames := .invoking theMethod args0 :: below }]
def below0 : List Frame := [.native { method := ⟨0, 0⟩, args := #[] }]
def about1 : State := aboutOver below0
def p0 : Program := .bare "" "" ""
def e0 : Env := launch0.env 0 0 0
theorem w_frames : about1.frames = Frame.invoking theMethod args0 :: below0 := rfl
set_option maxRecDepth 65536 in
theorem w_args : argsFit about1.vm theMethod args0 = true := by decide +kernel
set_option maxRecDepth 65536 in
theorem w_heap : heapFits about1 = true := by decide +kernel
set_option maxRecDepth 65536 in
theorem w_runnable : about1.curStatus? = some .runnable := by decide +kernel
set_option maxRecDepth 65536 in
theorem w_alone : about1.alone = true := by decide +kernel
set_option maxRecDepth 65536 in
theorem w_named : about1.methodNamed? x = some theMethod := by decide +kernel
set_option maxRecDepth 65536 in
theorem w_hears : about1.hears theMethod below0 = true := by decide +kernel
set_option maxRecDepth 65536 in
theorem w_ripe : about1.ripe theMethod args0 below0 = true := by decide +kernel
theorem w_running : about1.status = .running := rfl
set_option maxRecDepth 65536 in
theorem w_room : about1.hasRoom e0.platform room_1 = true :=
  launch0.hasRoom_least _ room_1 (by decide +kernel) (by decide +kernel) (by decide +kernel) (by decide +kernel) (by decide +kernel) (by decide +kernel)
theorem allAtoms_all (ts : List Jvm.Cond) (a : Array Jvm.Value) (st : Jvm.State) : (allAtoms ts).before a st = ts.all (fun c => c.before a st) := by
  induction ts with
  | nil => rfl
  | cons c t ih =>
    show (Jvm.Cond.and c (allAtoms t)).before a st = _
    rw [Jvm.Cond.before_and, ih, List.all_cons]
def words1 : List Jvm.Cond := Jvm.Cond.code x code maxLocals ret :: tables_1
/-- a 'code' word, met by the world's own term for the bytes: nothing is compared byte by byte -/
theorem code_word {y : MethodName} {bytes : ByteArray} {mx : Nat} {rt : Option FieldType} {a : Array Value} {s : State} {m : MethodId} {meth : Method} {c : Code} (h1 : s.methodNamed? y = some m) (h2 : s.vm.method? m = some meth) (h3 : meth.code = some c) (h4 : c.code = bytes)
    (h5 : (c.maxLocals == mx && c.exceptionTable.isEmpty && decide (c.maxStack ≤ mostOperands) && decide (meth.sig.returnType = rt) && !meth.locks && decide (parseMethodDescriptor y.desc = some meth.sig)) = true) : (Jvm.Cond.code y bytes mx rt).before a s = true := by
  simp only [Bool.and_eq_true, beq_iff_eq, Bool.not_eq_true', decide_eq_true_eq] at h5
  obtain ⟨⟨⟨⟨⟨g1, g2⟩, g3⟩, g4⟩, g5⟩, g6⟩ := h5
  simp [Cond.before, Cond.holds, Cond.value, h1, h2, h3, h4, g1, g2, g3, g4, g5, g6]
def isCode : Jvm.Cond → Bool
  | .code _ _ _ _ => true
  | _ => false
theorem all_split {L : List Jvm.Cond} {P : Jvm.Cond → Bool} (h1 : L.all (fun c => isCode c || P c) = true) (h2 : ∀ c ∈ L.filter isCode, P c = true) : L.all P = true := by
  refine List.all_eq_true.mpr fun c hc => ?_
  have h := List.all_eq_true.mp h1 c hc
  rcases Bool.eq_false_or_eq_true (isCode c) with hi | hi
  · exact h2 c (List.mem_filter.mpr ⟨hc, hi⟩)
  · simpa [hi] using h
set_option maxRecDepth 65536 in
theorem w_c0 : (Jvm.Cond.code x code maxLocals ret).before args0 about1 = true := code_word (m := ⟨1, 2⟩) (meth := k1m2) (c := k1c2) (by decide +kernel) rfl rfl rfl (by decide +kernel)
set_option maxRecDepth 65536 in
theorem w_c1 : (Jvm.Cond.code ({ cls := "com/example/taut_choreo/tautchoreo/explore/PairStore", name := "hash", desc := "(II)I" } : Jvm.MethodName) prog_29_method_9_code (4 : Nat) (Option.some Jvm.ClassFile.FieldType.int)).before args0 about1 = true := code_word (m := ⟨2, 1⟩) (meth := k2m1) (c := k2c1) (by decide +kernel) rfl rfl rfl (by decide +kernel)
set_option maxRecDepth 65536 in
theorem w_c2 : (Jvm.Cond.code ({ cls := "com/example/taut_choreo/tautchoreo/explore/PairStoreHashPinLaw", name := "reference", desc := "(II)I" } : Jvm.MethodName) method_2_code (7 : Nat) (Option.some Jvm.ClassFile.FieldType.int)).before args0 about1 = true := code_word (m := ⟨1, 1⟩) (meth := k1m1) (c := k1c1) (by decide +kernel) rfl rfl rfl (by decide +kernel)
def codes1 : List Jvm.Cond := [Jvm.Cond.code x code maxLocals ret, Jvm.Cond.code ({ cls := "com/example/taut_choreo/tautchoreo/explore/PairStore", name := "hash", desc := "(II)I" } : Jvm.MethodName) prog_29_method_9_code (4 : Nat) (Option.some Jvm.ClassFile.FieldType.int), Jvm.Cond.code ({ cls := "com/example/taut_choreo/tautchoreo/explore/PairStoreHashPinLaw", name := "reference", desc := "(II)I" } : Jvm.MethodName) method_2_code (7 : Nat) (Option.some Jvm.ClassFile.FieldType.int)]
set_option maxRecDepth 65536 in
theorem codes_eq : words1.filter isCode = codes1 := rfl
theorem w_codes : ∀ c ∈ words1.filter isCode, c.before args0 about1 = true := by
  rw [codes_eq]
  intro c hc
  simp only [codes1, List.mem_cons, List.not_mem_nil, or_false] at hc
  rcases hc with rfl | rfl | rfl
  · exact w_c0
  · exact w_c1
  · exact w_c2
set_option maxRecDepth 65536 in
theorem w_t1 : words1.all (fun c => isCode c || c.before args0 about1) = true := by decide +kernel
theorem w_tables : (allAtoms (Jvm.Cond.code x code maxLocals ret :: tables_1)).before args0 about1 = true := by
  rw [allAtoms_all]
  show words1.all (fun c => c.before args0 about1) = true
  refine all_split ?_ w_codes
  rw [w_t1]
set_option maxRecDepth 65536 in
theorem w_case : (Jvm.Cond.and given_1 narrow_1).before args0 about1 = true := by decide +kernel
theorem w_applies : (headSpec (Jvm.Cond.code x code maxLocals ret :: tables_1) room_1).applies x e0.platform about1 = true :=
  (Spec.applies_iff w_frames).mpr ⟨w_running, w_runnable, w_alone, w_named, w_hears, w_ripe, w_room, w_tables⟩
theorem atStart : AtStart classFile x code maxLocals ret World_1 tables_1 room_1 Calls_1 rest_1 Pre_1 launch0 p0 e0 about1 theMethod args0 below0 :=
  ⟨lists_1, trivial, launch0.admits_env _ _ _, launch0.least_env, fairChoices_fair.cas, fairChoices_fair.clock, w_frames, w_args, w_heap, w_applies, trivial, trivial, w_case⟩
end start1
theorem witness_1 : WitnessClaimed_1 := ⟨start1.p0, start1.e0, start1.about1, start1.theMethod, start1.args0, start1.below0, start1.atStart⟩
end Jvm.Pilot.@@N@@
