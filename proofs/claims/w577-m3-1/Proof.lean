import JvmDerived
import JvmDerived.Pilot.@@N@@Statement
import JvmDerived.Pilot.@@N@@Code
set_option linter.unusedVariables false
set_option linter.unusedSimpArgs false
@@BLOCK:NumsL.lean.txt@@
namespace Jvm.RoadKit
open Sem ClassFile Op Lib Jvm.Stand Jvm.Free Jvm.LawKit
section New
variable {p : Program} {l : Launch} {e : Env} {R : Room} {s : State} {m : MethodId} {args : Array Value} {below : List Frame} {meth : Method} {c : Code} {T : State} {locs : List Loc} {cells slots : Nat}
theorem retI (X : Stand p l e R s m args below meth c T locs cells slots) (hx : p.tables.exec = Jvm.exec) {pc : Nat} {Ls : Array Slot} {z : Int32} {rest : List Value} (hret : meth.sig.returnType = some .int) (hd : decode c.code pc = .ok (.ireturn, 1)) {fs : List Frame}
    (hl : ∀ (f : JFrame) (acts : List Action), f.method = m → f.locked = none → f.entered = [] → (doReturn e (T.setTop f) acts (some (.int z))).1 = T.setFrames fs) : Steps p.tables e below (T.setTop (mkF m pc Ls (.int z :: rest))) (T.setFrames fs) := by
  have hm' : T.vm.method? m = some meth := X.method'
  have hn : narrow .int (.int z) = .int z := rfl
  show Steps p.tables e below (T.setTop { method := m, pc := pc, locals := Ls, stack := _ :: rest, locked := none }) _
  jvm_step X.here [X.here.top, hx, hd, hm', hret, hn]
  first | (intro acts; rw [hl _ acts rfl rfl rfl]) | rw [hl _ _ rfl rfl rfl]
  exact Steps.refl _
end New
end Jvm.RoadKit
namespace Jvm.Pilot.@@N@@
open Jvm Jvm.ClassFile Sem Op Lib Jvm.Free Jvm.Stand Jvm.LawKit Jvm.RoadKit Bundle Jvm.Pilot.@@N@@.Jvm.D
theorem own_lcLt {x y : Int64} : lcmpW x y < 0 ↔ x < y := by rw [lcW]; exact lc_lt x y
theorem own_lcGt {x y : Int64} : 0 < lcmpW x y ↔ y < x := by rw [lcW]; exact lc_gt x y
theorem own_lcEq {x y : Int64} : lcmpW x y = 0 ↔ x = y := by rw [lcW]; exact lc_eq x y
theorem own_pn0 : plainName "com/example/harrier/harrier/index/IndexFormat" = true := by first | (simp [plainName, overriddenIn]; done) | decide +kernel
theorem own_ef_own_rm1 (m : MethodId) (q0 : Int64) : entryFrame m #[(.long q0)] 2 = mkF m 0 #[.val (.long q0), .second] [] := by first | (simp [entryFrame, mkF, argsToLocals, Value.category]; done) | rfl
theorem own_d1_0 : decode prog_19_method_2_code 0 = .ok (.lload_n 0, 1) := by decide +kernel
theorem own_d1_1 : decode prog_19_method_2_code 1 = .ok (.ldc2_w 9, 3) := by decide +kernel
theorem own_d1_4 : decode prog_19_method_2_code 4 = .ok (.lsub, 1) := by decide +kernel
theorem own_d1_5 : decode prog_19_method_2_code 5 = .ok (.ldc2_w 11, 3) := by decide +kernel
theorem own_d1_8 : decode prog_19_method_2_code 8 = .ok (.ladd, 1) := by decide +kernel
theorem own_d1_9 : decode prog_19_method_2_code 9 = .ok (.lconst 1, 1) := by decide +kernel
theorem own_d1_10 : decode prog_19_method_2_code 10 = .ok (.lsub, 1) := by decide +kernel
theorem own_d1_11 : decode prog_19_method_2_code 11 = .ok (.ldc2_w 11, 3) := by decide +kernel
theorem own_d1_14 : decode prog_19_method_2_code 14 = .ok (.ldiv, 1) := by decide +kernel
theorem own_d1_15 : decode prog_19_method_2_code 15 = .ok (.lreturn, 1) := by decide +kernel
def own_rm1_f (q0 : Int64) : Int64 := ((((q0 - (84 : Int64)) + (4096 : Int64)) - (1 : Int64)) / (4096 : Int64))
def Qown_rm1 (Z : State) (q0 : Int64) (h0 : Heap) (n0 : Nat) (v : Option Value) (h : Heap) (L : List Loc) : Prop := v = some (.long (own_rm1_f q0)) ∧ Fr n0 L ∧ h = h0
set_option maxRecDepth 65536 in
set_option maxHeartbeats 40000000 in
theorem own_rm1 (l : Launch) (Z : State) (a0 : Array Value) (hw : ∀ d ∈ tables_1, d.before a0 Z = true) (ws : List Jvm.Cond) (q0 : Int64) (h0 : Heap) (n0 : Nat) (Z0 : n0 ≤ h0.size) :
    MetFree l (⟨"com/example/harrier/harrier/index/IndexFormat", "blockCount", "(J)J"⟩ : MethodName) (head1 (Jvm.Cond.code (⟨"com/example/harrier/harrier/index/IndexFormat", "blockCount", "(J)J"⟩ : MethodName) prog_19_method_2_code 2 (some .long) :: ws) ({ frames := 0, cells := 0, slots := 0, locals := 0 } : Room)) (fun a U => a = #[(.long q0)] ∧ Z.Warmed39 U.vm ∧ U.heap = h0) (fun _ _ _ _ _ => True) (fun _ U o U' => ∃ v L, o = .returned v ∧ Qown_rm1 Z q0 h0 n0 v U'.heap L ∧ FrameEnd U o U' L ({ frames := 0, cells := 0, slots := 0, locals := 0 } : Room).cells ({ frames := 0, cells := 0, slots := 0, locals := 0 } : Room).slots) := by
  refine MetFree.of_bodySF (plainFor_of_name own_pn0) hisR ?_
  intro p e s m args below meth c s₁ Bd hml0 hP hK
  obtain ⟨rfl, hZ, hh⟩ := hP
  have hx := Bd.exec
  have hby := Bd.bytes
  have hml : c.maxLocals = 2 := hml0
  have hown : s.vm.findClass "com/example/harrier/harrier/index/IndexFormat" = some m.cls := findClass_of_methodNamed Bd.named
  have hnm := (name_of_methodNamed Bd.named Bd.method).1
  have X0 : Stand p l e ({ frames := 0, cells := 0, slots := 0, locals := 0 } : Room) s m #[(.long q0)] below meth c s₁ [] 0 0 := Stand.of_body Bd
  have e0 : s₁.heap = h0 := by rw [← hh, Bd.state]; rfl
  have N0 := Fr.nil n0
  have pre0 : ∀ t, Steps p.tables e below (s₁.setTop (mkF m 0 #[.val (.long q0), .second] [])) t → Steps p.tables e below (s₁.setTop (entryFrame m #[(.long q0)] 2)) t := fun t k => castTop (own_ef_own_rm1 m q0) k
  obtain ⟨fs, hr, hrun, hended, hW, hsame⟩ := X0.leave (v := some (.long ((((q0 - (84 : Int64)) + (4096 : Int64)) - (1 : Int64)) / (4096 : Int64)))) (fun h => by rw [Bd.returns] at h; cases h) (hlocks := BodyLoose.notSynchronized Bd)
  refine ⟨_, _, pre0 _ ?_, hrun, hended, _, _, rfl, ?_, ⟨_, rfl⟩, hW, hsame.mono (by decide) (by decide)⟩
  · show Steps p.tables e below (s₁.setTop (mkF m 0 #[.val (.long q0), .second] [])) _
    refine XS.lloadN X0.here hx rfl (hb hby own_d1_0) rfl ?_
    show Steps p.tables e below (s₁.setTop (mkF m 1 #[.val (.long q0), .second] [(.long q0)])) _
    refine X0.ldc2Long hx hown (mvT hZ (hw _ (List.mem_of_getElem? (i := 8) rfl))) (g := (mkF m 1 #[.val (.long q0), .second] [(.long q0)])) rfl (hb hby own_d1_1) _ ?_
    show Steps p.tables e below (s₁.setTop (mkF m 4 #[.val (.long q0), .second] [(.long (84 : Int64)), (.long q0)])) _
    refine XS.lsub X0.here hx rfl (hb hby own_d1_4) rfl ?_
    show Steps p.tables e below (s₁.setTop (mkF m 5 #[.val (.long q0), .second] [(.long (q0 - (84 : Int64)))])) _
    refine X0.ldc2Long hx hown (mvT hZ (hw _ (List.mem_of_getElem? (i := 9) rfl))) (g := (mkF m 5 #[.val (.long q0), .second] [(.long (q0 - (84 : Int64)))])) rfl (hb hby own_d1_5) _ ?_
    show Steps p.tables e below (s₁.setTop (mkF m 8 #[.val (.long q0), .second] [(.long (4096 : Int64)), (.long (q0 - (84 : Int64)))])) _
    refine XS.ladd X0.here hx rfl (hb hby own_d1_8) rfl ?_
    show Steps p.tables e below (s₁.setTop (mkF m 9 #[.val (.long q0), .second] [(.long ((q0 - (84 : Int64)) + (4096 : Int64)))])) _
    refine XS.lconst X0.here hx rfl (hb hby own_d1_9) ?_
    show Steps p.tables e below (s₁.setTop (mkF m 10 #[.val (.long q0), .second] [(.long (1 : Int64)), (.long ((q0 - (84 : Int64)) + (4096 : Int64)))])) _
    refine XS.lsub X0.here hx rfl (hb hby own_d1_10) rfl ?_
    show Steps p.tables e below (s₁.setTop (mkF m 11 #[.val (.long q0), .second] [(.long (((q0 - (84 : Int64)) + (4096 : Int64)) - (1 : Int64)))])) _
    refine X0.ldc2Long hx hown (mvT hZ (hw _ (List.mem_of_getElem? (i := 9) rfl))) (g := (mkF m 11 #[.val (.long q0), .second] [(.long (((q0 - (84 : Int64)) + (4096 : Int64)) - (1 : Int64)))])) rfl (hb hby own_d1_11) _ ?_
    show Steps p.tables e below (s₁.setTop (mkF m 14 #[.val (.long q0), .second] [(.long (4096 : Int64)), (.long (((q0 - (84 : Int64)) + (4096 : Int64)) - (1 : Int64)))])) _
    refine XS.ldiv X0.here hx rfl (hb hby own_d1_14) rfl (by decide) ?_
    show Steps p.tables e below (s₁.setTop (mkF m 15 #[.val (.long q0), .second] [(.long ((((q0 - (84 : Int64)) + (4096 : Int64)) - (1 : Int64)) / (4096 : Int64)))])) _
    jvm_step X0.here [X0.here.top, hx, (hb hby own_d1_15), X0.method', Bd.returns, narrow]
    first | (intro acts; rw [hr _ acts rfl rfl rfl]) | rw [hr _ _ rfl rfl rfl]
    exact Steps.refl _
  · show Qown_rm1 Z q0 h0 n0 _ s₁.heap _
    rw [e0]
    have hv : (own_rm1_f q0) = ((((q0 - (84 : Int64)) + (4096 : Int64)) - (1 : Int64)) / (4096 : Int64)) := by unfold own_rm1_f; rfl
    exact ⟨(by rw [hv]), N0, rfl⟩
theorem own_mask40 (a : Int64) : 0 ≤ (a &&& (1099511627775 : Int64)).toInt ∧ (a &&& (1099511627775 : Int64)).toInt < 1099511627776 := by
  have e := Jvm.Kit.i64_mask a 1099511627775 (k := 40) (by decide) (by decide)
  omega
theorem own_rem (a : Int32) : 0 ≤ (((a &&& (2147483647 : Int32)) % (4096 : Int32)).toInt64).toInt ∧ (((a &&& (2147483647 : Int32)) % (4096 : Int32)).toInt64).toInt < 4096 := by
  have e := Jvm.Kit.i32_mask a 2147483647 (k := 31) (by decide) (by decide)
  have r := Jvm.Kit.i32_rem_nonneg (x := a &&& 2147483647) (y := 4096) (by omega)
  have e2 : (4096 : Int32).toInt = 4096 := rfl
  rw [e2] at r
  rw [Jvm.Kit.i64_of_i32]
  omega
theorem own_main (q r : Int64) (hq : 0 ≤ q.toInt ∧ q.toInt < 1099511627776) (hr : 0 ≤ r.toInt ∧ r.toInt < 4096) :
    (r = 0 → own_rm1_f (((84 : Int64) + (q * (4096 : Int64))) + r) = q) ∧ (¬ r = 0 → own_rm1_f (((84 : Int64) + (q * (4096 : Int64))) + r) = q + 1) := by
  have e4096 : (4096 : Int64).toInt = 4096 := rfl
  have e84 : (84 : Int64).toInt = 84 := rfl
  have e1 : (1 : Int64).toInt = 1 := rfl
  have e0 : (0 : Int64).toInt = 0 := rfl
  have m1 : (q * (4096 : Int64)).toInt = q.toInt * 4096 := by rw [Jvm.Kit.i64_mul (by rw [e4096]; omega) (by rw [e4096]; omega), e4096]
  have a1 : ((84 : Int64) + q * (4096 : Int64)).toInt = 84 + q.toInt * 4096 := by rw [Jvm.Kit.i64_add (by omega) (by omega), m1, e84]
  have a2 : (((84 : Int64) + q * (4096 : Int64)) + r).toInt = 84 + q.toInt * 4096 + r.toInt := by rw [Jvm.Kit.i64_add (by omega) (by omega), a1]
  have key : (own_rm1_f (((84 : Int64) + (q * (4096 : Int64))) + r)).toInt = (q.toInt * 4096 + r.toInt + 4095) / 4096 := by
    unfold own_rm1_f
    generalize ((84 : Int64) + q * (4096 : Int64)) + r = se at a2 ⊢
    have s1 : (se - (84 : Int64)).toInt = q.toInt * 4096 + r.toInt := by rw [Jvm.Kit.i64_sub (by omega) (by omega)]; omega
    have s2 : (se - (84 : Int64) + (4096 : Int64)).toInt = q.toInt * 4096 + r.toInt + 4096 := by rw [Jvm.Kit.i64_add (by omega) (by omega)]; omega
    have s3 : (se - (84 : Int64) + (4096 : Int64) - (1 : Int64)).toInt = q.toInt * 4096 + r.toInt + 4095 := by rw [Jvm.Kit.i64_sub (by omega) (by omega)]; omega
    rw [Jvm.Kit.i64_div (by omega), s3, e4096, Int.tdiv_eq_ediv_of_nonneg (by omega)]
  constructor
  · intro h
    have h' : r.toInt = 0 := by rw [h]; rfl
    apply Int64.toInt_inj.mp; rw [key]; omega
  · intro h
    have h' : r.toInt ≠ 0 := fun e => h (Int64.toInt_inj.mp e)
    apply Int64.toInt_inj.mp; rw [key, Jvm.Kit.i64_add (by omega) (by omega)]; omega
theorem own_pn1 : plainName "com/example/harrier/harrier/index/IndexFormatBlockCountPinLaw" = true := by first | (simp [plainName, overriddenIn]; done) | decide +kernel
theorem own_ef_own_law (m : MethodId) (q0 : Int64) (p1 : Int32) : entryFrame m #[(.long q0), (.int p1)] maxLocals = mkF m 0 #[.val (.long q0), .second, .val (.int p1), .unset, .unset, .unset, .unset, .unset, .unset, .unset, .unset, .unset, .unset] [] := by first | (simp [entryFrame, mkF, argsToLocals, Value.category, maxLocals]; done) | rfl
theorem own_pd0 : parseMethodDescriptor "(J)J" = some ⟨[.long], some .long⟩ := by decide +kernel
def Qown_law (Z : State) (q0 : Int64) (p1 : Int32) (h0 : Heap) (n0 : Nat) (v : Option Value) (h : Heap) (L : List Loc) : Prop := v = some (.int (1 : Int32)) ∧ Fr n0 L
set_option maxRecDepth 65536 in
set_option maxHeartbeats 40000000 in
theorem own_law (l : Launch) (Z : State) (a0 : Array Value) (hw : ∀ d ∈ tables_1, d.before a0 Z = true) (ws : List Jvm.Cond) (q0 : Int64) (p1 : Int32) (h0 : Heap) (n0 : Nat) (Z0 : n0 ≤ h0.size) :
    MetFree l x (head1 (Jvm.Cond.code x code maxLocals ret :: ws) room_1) (fun a U => a = #[(.long q0), (.int p1)] ∧ Z.Warmed39 U.vm ∧ U.heap = h0) (fun _ _ _ _ _ => True) (fun _ U o U' => ∃ v L, o = .returned v ∧ Qown_law Z q0 p1 h0 n0 v U'.heap L ∧ FrameEnd U o U' L room_1.cells room_1.slots) := by
  refine MetFree.of_bodySF (plainFor_of_name own_pn1) hisR ?_
  intro p e s m args below meth c s₁ Bd hml0 hP hK
  obtain ⟨rfl, hZ, hh⟩ := hP
  have hx := Bd.exec
  have hby := Bd.bytes
  have hml : c.maxLocals = 13 := hml0
  have hown : s.vm.findClass "com/example/harrier/harrier/index/IndexFormatBlockCountPinLaw" = some m.cls := findClass_of_methodNamed Bd.named
  have hnm := (name_of_methodNamed Bd.named Bd.method).1
  have X0 : Stand p l e room_1 s m #[(.long q0), (.int p1)] below meth c s₁ [] 0 0 := Stand.of_body Bd
  have e0 : s₁.heap = h0 := by rw [← hh, Bd.state]; rfl
  have N0 := Fr.nil n0
  have pre0 : ∀ t, Steps p.tables e below (s₁.setTop (mkF m 0 #[.val (.long q0), .second, .val (.int p1), .unset, .unset, .unset, .unset, .unset, .unset, .unset, .unset, .unset, .unset] [])) t → Steps p.tables e below (s₁.setTop (entryFrame m #[(.long q0), (.int p1)] maxLocals)) t := fun t k => castTop (own_ef_own_law m q0 p1) k
  have pre28 : ∀ t, Steps p.tables e below (s₁.setTop (mkF m 43 #[.val (.long q0), .second, .val (.int p1), .val (.long (4096 : Int64)), .second, .val (.long (q0 &&& (1099511627775 : Int64))), .second, .val (.long (((p1 &&& (2147483647 : Int32)) % (4096 : Int32)).toInt64)), .second, .val (.long (((84 : Int64) + ((q0 &&& (1099511627775 : Int64)) * (4096 : Int64))) + (((p1 &&& (2147483647 : Int32)) % (4096 : Int32)).toInt64))), .second, .val (.long (q0 &&& (1099511627775 : Int64))), .second] [(.int (lcmpW (((p1 &&& (2147483647 : Int32)) % (4096 : Int32)).toInt64) (0 : Int64)))])) t → Steps p.tables e below (s₁.setTop (entryFrame m #[(.long q0), (.int p1)] maxLocals)) t := by
    intro t kt
    refine pre0 _ ?_
    show Steps p.tables e below (s₁.setTop (mkF m 0 #[.val (.long q0), .second, .val (.int p1), .unset, .unset, .unset, .unset, .unset, .unset, .unset, .unset, .unset, .unset] [])) _
    refine X0.ldc2Long hx hown (mvT hZ (hw _ (List.mem_of_getElem? (i := 0) rfl))) (g := (mkF m 0 #[.val (.long q0), .second, .val (.int p1), .unset, .unset, .unset, .unset, .unset, .unset, .unset, .unset, .unset, .unset] [])) rfl (hb hby at_0) _ ?_
    show Steps p.tables e below (s₁.setTop (mkF m 3 #[.val (.long q0), .second, .val (.int p1), .unset, .unset, .unset, .unset, .unset, .unset, .unset, .unset, .unset, .unset] [(.long (4096 : Int64))])) _
    refine XS.lstoreN X0.here hx rfl (hb hby at_3) rfl (l' := #[.val (.long q0), .second, .val (.int p1), .val (.long (4096 : Int64)), .second, .unset, .unset, .unset, .unset, .unset, .unset, .unset, .unset]) rfl ?_
    show Steps p.tables e below (s₁.setTop (mkF m 4 #[.val (.long q0), .second, .val (.int p1), .val (.long (4096 : Int64)), .second, .unset, .unset, .unset, .unset, .unset, .unset, .unset, .unset] [])) _
    refine XS.lloadN X0.here hx rfl (hb hby at_4) rfl ?_
    show Steps p.tables e below (s₁.setTop (mkF m 5 #[.val (.long q0), .second, .val (.int p1), .val (.long (4096 : Int64)), .second, .unset, .unset, .unset, .unset, .unset, .unset, .unset, .unset] [(.long q0)])) _
    refine X0.ldc2Long hx hown (mvT hZ (hw _ (List.mem_of_getElem? (i := 1) rfl))) (g := (mkF m 5 #[.val (.long q0), .second, .val (.int p1), .val (.long (4096 : Int64)), .second, .unset, .unset, .unset, .unset, .unset, .unset, .unset, .unset] [(.long q0)])) rfl (hb hby at_5) _ ?_
    show Steps p.tables e below (s₁.setTop (mkF m 8 #[.val (.long q0), .second, .val (.int p1), .val (.long (4096 : Int64)), .second, .unset, .unset, .unset, .unset, .unset, .unset, .unset, .unset] [(.long (1099511627775 : Int64)), (.long q0)])) _
    refine XS.land X0.here hx rfl (hb hby at_8) rfl ?_
    show Steps p.tables e below (s₁.setTop (mkF m 9 #[.val (.long q0), .second, .val (.int p1), .val (.long (4096 : Int64)), .second, .unset, .unset, .unset, .unset, .unset, .unset, .unset, .unset] [(.long (q0 &&& (1099511627775 : Int64)))])) _
    refine XS.lstore X0.here hx rfl (hb hby at_9) rfl (l' := #[.val (.long q0), .second, .val (.int p1), .val (.long (4096 : Int64)), .second, .val (.long (q0 &&& (1099511627775 : Int64))), .second, .unset, .unset, .unset, .unset, .unset, .unset]) rfl ?_
    show Steps p.tables e below (s₁.setTop (mkF m 11 #[.val (.long q0), .second, .val (.int p1), .val (.long (4096 : Int64)), .second, .val (.long (q0 &&& (1099511627775 : Int64))), .second, .unset, .unset, .unset, .unset, .unset, .unset] [])) _
    refine XS.iloadN X0.here hx rfl (hb hby at_11) rfl ?_
    show Steps p.tables e below (s₁.setTop (mkF m 12 #[.val (.long q0), .second, .val (.int p1), .val (.long (4096 : Int64)), .second, .val (.long (q0 &&& (1099511627775 : Int64))), .second, .unset, .unset, .unset, .unset, .unset, .unset] [(.int p1)])) _
    refine X0.ldcInt hx hown (mvT hZ (hw _ (List.mem_of_getElem? (i := 2) rfl))) (g := (mkF m 12 #[.val (.long q0), .second, .val (.int p1), .val (.long (4096 : Int64)), .second, .val (.long (q0 &&& (1099511627775 : Int64))), .second, .unset, .unset, .unset, .unset, .unset, .unset] [(.int p1)])) rfl (hb hby at_12) _ ?_
    show Steps p.tables e below (s₁.setTop (mkF m 14 #[.val (.long q0), .second, .val (.int p1), .val (.long (4096 : Int64)), .second, .val (.long (q0 &&& (1099511627775 : Int64))), .second, .unset, .unset, .unset, .unset, .unset, .unset] [(.int (2147483647 : Int32)), (.int p1)])) _
    refine XS.iand X0.here hx rfl (hb hby at_14) rfl ?_
    show Steps p.tables e below (s₁.setTop (mkF m 15 #[.val (.long q0), .second, .val (.int p1), .val (.long (4096 : Int64)), .second, .val (.long (q0 &&& (1099511627775 : Int64))), .second, .unset, .unset, .unset, .unset, .unset, .unset] [(.int (p1 &&& (2147483647 : Int32)))])) _
    refine XS.sipush X0.here hx rfl (hb hby at_15) ?_
    show Steps p.tables e below (s₁.setTop (mkF m 18 #[.val (.long q0), .second, .val (.int p1), .val (.long (4096 : Int64)), .second, .val (.long (q0 &&& (1099511627775 : Int64))), .second, .unset, .unset, .unset, .unset, .unset, .unset] [(.int (4096 : Int32)), (.int (p1 &&& (2147483647 : Int32)))])) _
    refine iremM X0 hx rfl (hb hby at_18) rfl (by decide) ?_
    show Steps p.tables e below (s₁.setTop (mkF m 19 #[.val (.long q0), .second, .val (.int p1), .val (.long (4096 : Int64)), .second, .val (.long (q0 &&& (1099511627775 : Int64))), .second, .unset, .unset, .unset, .unset, .unset, .unset] [(.int ((p1 &&& (2147483647 : Int32)) % (4096 : Int32)))])) _
    refine XS.i2l X0.here hx rfl (hb hby at_19) rfl ?_
    show Steps p.tables e below (s₁.setTop (mkF m 20 #[.val (.long q0), .second, .val (.int p1), .val (.long (4096 : Int64)), .second, .val (.long (q0 &&& (1099511627775 : Int64))), .second, .unset, .unset, .unset, .unset, .unset, .unset] [(.long (((p1 &&& (2147483647 : Int32)) % (4096 : Int32)).toInt64))])) _
    refine XS.lstore X0.here hx rfl (hb hby at_20) rfl (l' := #[.val (.long q0), .second, .val (.int p1), .val (.long (4096 : Int64)), .second, .val (.long (q0 &&& (1099511627775 : Int64))), .second, .val (.long (((p1 &&& (2147483647 : Int32)) % (4096 : Int32)).toInt64)), .second, .unset, .unset, .unset, .unset]) rfl ?_
    show Steps p.tables e below (s₁.setTop (mkF m 22 #[.val (.long q0), .second, .val (.int p1), .val (.long (4096 : Int64)), .second, .val (.long (q0 &&& (1099511627775 : Int64))), .second, .val (.long (((p1 &&& (2147483647 : Int32)) % (4096 : Int32)).toInt64)), .second, .unset, .unset, .unset, .unset] [])) _
    refine X0.ldc2Long hx hown (mvT hZ (hw _ (List.mem_of_getElem? (i := 3) rfl))) (g := (mkF m 22 #[.val (.long q0), .second, .val (.int p1), .val (.long (4096 : Int64)), .second, .val (.long (q0 &&& (1099511627775 : Int64))), .second, .val (.long (((p1 &&& (2147483647 : Int32)) % (4096 : Int32)).toInt64)), .second, .unset, .unset, .unset, .unset] [])) rfl (hb hby at_22) _ ?_
    show Steps p.tables e below (s₁.setTop (mkF m 25 #[.val (.long q0), .second, .val (.int p1), .val (.long (4096 : Int64)), .second, .val (.long (q0 &&& (1099511627775 : Int64))), .second, .val (.long (((p1 &&& (2147483647 : Int32)) % (4096 : Int32)).toInt64)), .second, .unset, .unset, .unset, .unset] [(.long (84 : Int64))])) _
    refine XS.lload X0.here hx rfl (hb hby at_25) rfl ?_
    show Steps p.tables e below (s₁.setTop (mkF m 27 #[.val (.long q0), .second, .val (.int p1), .val (.long (4096 : Int64)), .second, .val (.long (q0 &&& (1099511627775 : Int64))), .second, .val (.long (((p1 &&& (2147483647 : Int32)) % (4096 : Int32)).toInt64)), .second, .unset, .unset, .unset, .unset] [(.long (q0 &&& (1099511627775 : Int64))), (.long (84 : Int64))])) _
    refine XS.lloadN X0.here hx rfl (hb hby at_27) rfl ?_
    show Steps p.tables e below (s₁.setTop (mkF m 28 #[.val (.long q0), .second, .val (.int p1), .val (.long (4096 : Int64)), .second, .val (.long (q0 &&& (1099511627775 : Int64))), .second, .val (.long (((p1 &&& (2147483647 : Int32)) % (4096 : Int32)).toInt64)), .second, .unset, .unset, .unset, .unset] [(.long (4096 : Int64)), (.long (q0 &&& (1099511627775 : Int64))), (.long (84 : Int64))])) _
    refine XS.lmul X0.here hx rfl (hb hby at_28) rfl ?_
    show Steps p.tables e below (s₁.setTop (mkF m 29 #[.val (.long q0), .second, .val (.int p1), .val (.long (4096 : Int64)), .second, .val (.long (q0 &&& (1099511627775 : Int64))), .second, .val (.long (((p1 &&& (2147483647 : Int32)) % (4096 : Int32)).toInt64)), .second, .unset, .unset, .unset, .unset] [(.long ((q0 &&& (1099511627775 : Int64)) * (4096 : Int64))), (.long (84 : Int64))])) _
    refine XS.ladd X0.here hx rfl (hb hby at_29) rfl ?_
    show Steps p.tables e below (s₁.setTop (mkF m 30 #[.val (.long q0), .second, .val (.int p1), .val (.long (4096 : Int64)), .second, .val (.long (q0 &&& (1099511627775 : Int64))), .second, .val (.long (((p1 &&& (2147483647 : Int32)) % (4096 : Int32)).toInt64)), .second, .unset, .unset, .unset, .unset] [(.long ((84 : Int64) + ((q0 &&& (1099511627775 : Int64)) * (4096 : Int64))))])) _
    refine XS.lload X0.here hx rfl (hb hby at_30) rfl ?_
    show Steps p.tables e below (s₁.setTop (mkF m 32 #[.val (.long q0), .second, .val (.int p1), .val (.long (4096 : Int64)), .second, .val (.long (q0 &&& (1099511627775 : Int64))), .second, .val (.long (((p1 &&& (2147483647 : Int32)) % (4096 : Int32)).toInt64)), .second, .unset, .unset, .unset, .unset] [(.long (((p1 &&& (2147483647 : Int32)) % (4096 : Int32)).toInt64)), (.long ((84 : Int64) + ((q0 &&& (1099511627775 : Int64)) * (4096 : Int64))))])) _
    refine XS.ladd X0.here hx rfl (hb hby at_32) rfl ?_
    show Steps p.tables e below (s₁.setTop (mkF m 33 #[.val (.long q0), .second, .val (.int p1), .val (.long (4096 : Int64)), .second, .val (.long (q0 &&& (1099511627775 : Int64))), .second, .val (.long (((p1 &&& (2147483647 : Int32)) % (4096 : Int32)).toInt64)), .second, .unset, .unset, .unset, .unset] [(.long (((84 : Int64) + ((q0 &&& (1099511627775 : Int64)) * (4096 : Int64))) + (((p1 &&& (2147483647 : Int32)) % (4096 : Int32)).toInt64)))])) _
    refine XS.lstore X0.here hx rfl (hb hby at_33) rfl (l' := #[.val (.long q0), .second, .val (.int p1), .val (.long (4096 : Int64)), .second, .val (.long (q0 &&& (1099511627775 : Int64))), .second, .val (.long (((p1 &&& (2147483647 : Int32)) % (4096 : Int32)).toInt64)), .second, .val (.long (((84 : Int64) + ((q0 &&& (1099511627775 : Int64)) * (4096 : Int64))) + (((p1 &&& (2147483647 : Int32)) % (4096 : Int32)).toInt64))), .second, .unset, .unset]) rfl ?_
    show Steps p.tables e below (s₁.setTop (mkF m 35 #[.val (.long q0), .second, .val (.int p1), .val (.long (4096 : Int64)), .second, .val (.long (q0 &&& (1099511627775 : Int64))), .second, .val (.long (((p1 &&& (2147483647 : Int32)) % (4096 : Int32)).toInt64)), .second, .val (.long (((84 : Int64) + ((q0 &&& (1099511627775 : Int64)) * (4096 : Int64))) + (((p1 &&& (2147483647 : Int32)) % (4096 : Int32)).toInt64))), .second, .unset, .unset] [])) _
    refine XS.lload X0.here hx rfl (hb hby at_35) rfl ?_
    show Steps p.tables e below (s₁.setTop (mkF m 37 #[.val (.long q0), .second, .val (.int p1), .val (.long (4096 : Int64)), .second, .val (.long (q0 &&& (1099511627775 : Int64))), .second, .val (.long (((p1 &&& (2147483647 : Int32)) % (4096 : Int32)).toInt64)), .second, .val (.long (((84 : Int64) + ((q0 &&& (1099511627775 : Int64)) * (4096 : Int64))) + (((p1 &&& (2147483647 : Int32)) % (4096 : Int32)).toInt64))), .second, .unset, .unset] [(.long (q0 &&& (1099511627775 : Int64)))])) _
    refine XS.lstore X0.here hx rfl (hb hby at_37) rfl (l' := #[.val (.long q0), .second, .val (.int p1), .val (.long (4096 : Int64)), .second, .val (.long (q0 &&& (1099511627775 : Int64))), .second, .val (.long (((p1 &&& (2147483647 : Int32)) % (4096 : Int32)).toInt64)), .second, .val (.long (((84 : Int64) + ((q0 &&& (1099511627775 : Int64)) * (4096 : Int64))) + (((p1 &&& (2147483647 : Int32)) % (4096 : Int32)).toInt64))), .second, .val (.long (q0 &&& (1099511627775 : Int64))), .second]) rfl ?_
    show Steps p.tables e below (s₁.setTop (mkF m 39 #[.val (.long q0), .second, .val (.int p1), .val (.long (4096 : Int64)), .second, .val (.long (q0 &&& (1099511627775 : Int64))), .second, .val (.long (((p1 &&& (2147483647 : Int32)) % (4096 : Int32)).toInt64)), .second, .val (.long (((84 : Int64) + ((q0 &&& (1099511627775 : Int64)) * (4096 : Int64))) + (((p1 &&& (2147483647 : Int32)) % (4096 : Int32)).toInt64))), .second, .val (.long (q0 &&& (1099511627775 : Int64))), .second] [])) _
    refine XS.lload X0.here hx rfl (hb hby at_39) rfl ?_
    show Steps p.tables e below (s₁.setTop (mkF m 41 #[.val (.long q0), .second, .val (.int p1), .val (.long (4096 : Int64)), .second, .val (.long (q0 &&& (1099511627775 : Int64))), .second, .val (.long (((p1 &&& (2147483647 : Int32)) % (4096 : Int32)).toInt64)), .second, .val (.long (((84 : Int64) + ((q0 &&& (1099511627775 : Int64)) * (4096 : Int64))) + (((p1 &&& (2147483647 : Int32)) % (4096 : Int32)).toInt64))), .second, .val (.long (q0 &&& (1099511627775 : Int64))), .second] [(.long (((p1 &&& (2147483647 : Int32)) % (4096 : Int32)).toInt64))])) _
    refine XS.lconst X0.here hx rfl (hb hby at_41) ?_
    show Steps p.tables e below (s₁.setTop (mkF m 42 #[.val (.long q0), .second, .val (.int p1), .val (.long (4096 : Int64)), .second, .val (.long (q0 &&& (1099511627775 : Int64))), .second, .val (.long (((p1 &&& (2147483647 : Int32)) % (4096 : Int32)).toInt64)), .second, .val (.long (((84 : Int64) + ((q0 &&& (1099511627775 : Int64)) * (4096 : Int64))) + (((p1 &&& (2147483647 : Int32)) % (4096 : Int32)).toInt64))), .second, .val (.long (q0 &&& (1099511627775 : Int64))), .second] [(.long (0 : Int64)), (.long (((p1 &&& (2147483647 : Int32)) % (4096 : Int32)).toInt64))])) _
    refine XS.lcmp X0.here hx rfl (hb hby at_42) rfl ?_
    exact kt
  by_cases hc43_29 : (((p1 &&& (2147483647 : Int32)) % (4096 : Int32)).toInt64) = (0 : Int64)
  · obtain ⟨_, _, ⟨T32, L32, k32, n32⟩, -, X32, ⟨Lc32, hQ32, l32, y32, z32⟩, st32⟩ := Jvm.LawKit.callS X0 hx (y := (⟨"com/example/harrier/harrier/index/IndexFormat", "blockCount", "(J)J"⟩ : MethodName)) hown (mvT hZ (hw _ (List.mem_of_getElem? (i := 4) rfl))) (mvT hZ (hw _ (List.mem_of_getElem? (i := 5) rfl))) (mvT hZ (hw _ (List.mem_of_getElem? (i := 6) rfl))) (mvT hZ (hw _ (List.mem_of_getElem? (i := 7) rfl))) (by decide) (backOf (W := 0) (own_rm1 l Z a0 hw [] (((84 : Int64) + ((q0 &&& (1099511627775 : Int64)) * (4096 : Int64))) + (((p1 &&& (2147483647 : Int32)) % (4096 : Int32)).toInt64)) h0 n0 Z0 ) hZ (hw _ (List.mem_of_getElem? (i := 7) rfl)) (hw _ (List.mem_of_getElem? (i := 6) rfl)) (by decide) (by decide)) (g := (mkF m 54 #[.val (.long q0), .second, .val (.int p1), .val (.long (4096 : Int64)), .second, .val (.long (q0 &&& (1099511627775 : Int64))), .second, .val (.long (((p1 &&& (2147483647 : Int32)) % (4096 : Int32)).toInt64)), .second, .val (.long (((84 : Int64) + ((q0 &&& (1099511627775 : Int64)) * (4096 : Int64))) + (((p1 &&& (2147483647 : Int32)) % (4096 : Int32)).toInt64))), .second, .val (.long (q0 &&& (1099511627775 : Int64))), .second] [(.long (((84 : Int64) + ((q0 &&& (1099511627775 : Int64)) * (4096 : Int64))) + (((p1 &&& (2147483647 : Int32)) % (4096 : Int32)).toInt64)))])) rfl (by rw [hml]; rfl) (argsL := [(.long (((84 : Int64) + ((q0 &&& (1099511627775 : Int64)) * (4096 : Int64))) + (((p1 &&& (2147483647 : Int32)) % (4096 : Int32)).toInt64)))]) (rest := []) (lenOf own_pd0 rfl) rfl (by show 2 * 0 + _ ≤ _; exact Nat.le_of_eq rfl) (hb hby at_54) (fun _ _ => ⟨rfl, e0, (by decide : 0 + 0 ≤ _), (by decide : 0 + 0 ≤ _)⟩)
    dsimp only [Pt.U, Pt.locs, Pt.cells, Pt.slots] at X32 l32 y32 z32 st32 hQ32
    subst l32 y32 z32
    obtain ⟨rfl, Nq32, eh32⟩ := hQ32
    have N33 := Fr.app N0 Nq32
    obtain ⟨fs, hr, hrun, hended, hW, hsame⟩ := X32.leave (v := some (.int (1 : Int32))) (fun h => by rw [Bd.returns] at h; cases h) (hlocks := BodyLoose.notSynchronized Bd)
    refine ⟨_, _, pre28 _ ?_, hrun, hended, _, _, rfl, ?_, ⟨_, rfl⟩, hW, hsame.mono (by decide) (by decide)⟩
    · show Steps p.tables e below (s₁.setTop (mkF m 43 #[.val (.long q0), .second, .val (.int p1), .val (.long (4096 : Int64)), .second, .val (.long (q0 &&& (1099511627775 : Int64))), .second, .val (.long (((p1 &&& (2147483647 : Int32)) % (4096 : Int32)).toInt64)), .second, .val (.long (((84 : Int64) + ((q0 &&& (1099511627775 : Int64)) * (4096 : Int64))) + (((p1 &&& (2147483647 : Int32)) % (4096 : Int32)).toInt64))), .second, .val (.long (q0 &&& (1099511627775 : Int64))), .second] [(.int (lcmpW (((p1 &&& (2147483647 : Int32)) % (4096 : Int32)).toInt64) (0 : Int64)))])) _
      refine XS.ifYes X0.here hx rfl (pc0 := 43) (pc' := 52) rfl (hb hby at_43) rfl ((if0 _ _).trans (teq (own_lcEq.mpr hc43_29)).1) (by decide) (by decide) ?_
      show Steps p.tables e below (s₁.setTop (mkF m 52 #[.val (.long q0), .second, .val (.int p1), .val (.long (4096 : Int64)), .second, .val (.long (q0 &&& (1099511627775 : Int64))), .second, .val (.long (((p1 &&& (2147483647 : Int32)) % (4096 : Int32)).toInt64)), .second, .val (.long (((84 : Int64) + ((q0 &&& (1099511627775 : Int64)) * (4096 : Int64))) + (((p1 &&& (2147483647 : Int32)) % (4096 : Int32)).toInt64))), .second, .val (.long (q0 &&& (1099511627775 : Int64))), .second] [])) _
      refine XS.lload X0.here hx rfl (hb hby at_52) rfl ?_
      show Steps p.tables e below (s₁.setTop (mkF m 54 #[.val (.long q0), .second, .val (.int p1), .val (.long (4096 : Int64)), .second, .val (.long (q0 &&& (1099511627775 : Int64))), .second, .val (.long (((p1 &&& (2147483647 : Int32)) % (4096 : Int32)).toInt64)), .second, .val (.long (((84 : Int64) + ((q0 &&& (1099511627775 : Int64)) * (4096 : Int64))) + (((p1 &&& (2147483647 : Int32)) % (4096 : Int32)).toInt64))), .second, .val (.long (q0 &&& (1099511627775 : Int64))), .second] [(.long (((84 : Int64) + ((q0 &&& (1099511627775 : Int64)) * (4096 : Int64))) + (((p1 &&& (2147483647 : Int32)) % (4096 : Int32)).toInt64)))])) _
      refine st32 _ ?_
      show Steps p.tables e below (T32.setTop (mkF m 57 #[.val (.long q0), .second, .val (.int p1), .val (.long (4096 : Int64)), .second, .val (.long (q0 &&& (1099511627775 : Int64))), .second, .val (.long (((p1 &&& (2147483647 : Int32)) % (4096 : Int32)).toInt64)), .second, .val (.long (((84 : Int64) + ((q0 &&& (1099511627775 : Int64)) * (4096 : Int64))) + (((p1 &&& (2147483647 : Int32)) % (4096 : Int32)).toInt64))), .second, .val (.long (q0 &&& (1099511627775 : Int64))), .second] [(.long (own_rm1_f (((84 : Int64) + ((q0 &&& (1099511627775 : Int64)) * (4096 : Int64))) + (((p1 &&& (2147483647 : Int32)) % (4096 : Int32)).toInt64))))])) _
      refine XS.lload X32.here hx rfl (hb hby at_57) rfl ?_
      show Steps p.tables e below (T32.setTop (mkF m 59 #[.val (.long q0), .second, .val (.int p1), .val (.long (4096 : Int64)), .second, .val (.long (q0 &&& (1099511627775 : Int64))), .second, .val (.long (((p1 &&& (2147483647 : Int32)) % (4096 : Int32)).toInt64)), .second, .val (.long (((84 : Int64) + ((q0 &&& (1099511627775 : Int64)) * (4096 : Int64))) + (((p1 &&& (2147483647 : Int32)) % (4096 : Int32)).toInt64))), .second, .val (.long (q0 &&& (1099511627775 : Int64))), .second] [(.long (q0 &&& (1099511627775 : Int64))), (.long (own_rm1_f (((84 : Int64) + ((q0 &&& (1099511627775 : Int64)) * (4096 : Int64))) + (((p1 &&& (2147483647 : Int32)) % (4096 : Int32)).toInt64))))])) _
      refine XS.lcmp X32.here hx rfl (hb hby at_59) rfl ?_
      show Steps p.tables e below (T32.setTop (mkF m 60 #[.val (.long q0), .second, .val (.int p1), .val (.long (4096 : Int64)), .second, .val (.long (q0 &&& (1099511627775 : Int64))), .second, .val (.long (((p1 &&& (2147483647 : Int32)) % (4096 : Int32)).toInt64)), .second, .val (.long (((84 : Int64) + ((q0 &&& (1099511627775 : Int64)) * (4096 : Int64))) + (((p1 &&& (2147483647 : Int32)) % (4096 : Int32)).toInt64))), .second, .val (.long (q0 &&& (1099511627775 : Int64))), .second] [(.int (lcmpW (own_rm1_f (((84 : Int64) + ((q0 &&& (1099511627775 : Int64)) * (4096 : Int64))) + (((p1 &&& (2147483647 : Int32)) % (4096 : Int32)).toInt64))) (q0 &&& (1099511627775 : Int64))))])) _
      refine XS.ifNo X32.here hx rfl (hb hby at_60) rfl ((if0 _ _).trans (teq (own_lcEq.mpr (((own_main _ _ (own_mask40 _) (own_rem _)).1 hc43_29) : (own_rm1_f (((84 : Int64) + ((q0 &&& (1099511627775 : Int64)) * (4096 : Int64))) + (((p1 &&& (2147483647 : Int32)) % (4096 : Int32)).toInt64))) = (q0 &&& (1099511627775 : Int64))))).2) ?_
      show Steps p.tables e below (T32.setTop (mkF m 63 #[.val (.long q0), .second, .val (.int p1), .val (.long (4096 : Int64)), .second, .val (.long (q0 &&& (1099511627775 : Int64))), .second, .val (.long (((p1 &&& (2147483647 : Int32)) % (4096 : Int32)).toInt64)), .second, .val (.long (((84 : Int64) + ((q0 &&& (1099511627775 : Int64)) * (4096 : Int64))) + (((p1 &&& (2147483647 : Int32)) % (4096 : Int32)).toInt64))), .second, .val (.long (q0 &&& (1099511627775 : Int64))), .second] [])) _
      refine XS.iconst X32.here hx rfl (hb hby at_63) ?_
      show Steps p.tables e below (T32.setTop (mkF m 64 #[.val (.long q0), .second, .val (.int p1), .val (.long (4096 : Int64)), .second, .val (.long (q0 &&& (1099511627775 : Int64))), .second, .val (.long (((p1 &&& (2147483647 : Int32)) % (4096 : Int32)).toInt64)), .second, .val (.long (((84 : Int64) + ((q0 &&& (1099511627775 : Int64)) * (4096 : Int64))) + (((p1 &&& (2147483647 : Int32)) % (4096 : Int32)).toInt64))), .second, .val (.long (q0 &&& (1099511627775 : Int64))), .second] [(.int (1 : Int32))])) _
      refine XS.goto X32.here hx rfl (pc0 := 64) (pc' := 68) rfl (hb hby at_64) (by decide) (by decide) ?_
      show Steps p.tables e below (T32.setTop (mkF m 68 #[.val (.long q0), .second, .val (.int p1), .val (.long (4096 : Int64)), .second, .val (.long (q0 &&& (1099511627775 : Int64))), .second, .val (.long (((p1 &&& (2147483647 : Int32)) % (4096 : Int32)).toInt64)), .second, .val (.long (((84 : Int64) + ((q0 &&& (1099511627775 : Int64)) * (4096 : Int64))) + (((p1 &&& (2147483647 : Int32)) % (4096 : Int32)).toInt64))), .second, .val (.long (q0 &&& (1099511627775 : Int64))), .second] [(.int (1 : Int32))])) _
      exact retN X32 hx (t := .boolean) Bd.returns (by simp) (hb hby at_68) hr
    · show Qown_law Z q0 p1 h0 n0 _ T32.heap _
      rw [eh32]
      exact ⟨rfl, N33⟩
  · obtain ⟨_, _, ⟨T46, L46, k46, n46⟩, -, X46, ⟨Lc46, hQ46, l46, y46, z46⟩, st46⟩ := Jvm.LawKit.callS X0 hx (y := (⟨"com/example/harrier/harrier/index/IndexFormat", "blockCount", "(J)J"⟩ : MethodName)) hown (mvT hZ (hw _ (List.mem_of_getElem? (i := 4) rfl))) (mvT hZ (hw _ (List.mem_of_getElem? (i := 5) rfl))) (mvT hZ (hw _ (List.mem_of_getElem? (i := 6) rfl))) (mvT hZ (hw _ (List.mem_of_getElem? (i := 7) rfl))) (by decide) (backOf (W := 0) (own_rm1 l Z a0 hw [] (((84 : Int64) + ((q0 &&& (1099511627775 : Int64)) * (4096 : Int64))) + (((p1 &&& (2147483647 : Int32)) % (4096 : Int32)).toInt64)) h0 n0 Z0 ) hZ (hw _ (List.mem_of_getElem? (i := 7) rfl)) (hw _ (List.mem_of_getElem? (i := 6) rfl)) (by decide) (by decide)) (g := (mkF m 54 #[.val (.long q0), .second, .val (.int p1), .val (.long (4096 : Int64)), .second, .val (.long (q0 &&& (1099511627775 : Int64))), .second, .val (.long (((p1 &&& (2147483647 : Int32)) % (4096 : Int32)).toInt64)), .second, .val (.long (((84 : Int64) + ((q0 &&& (1099511627775 : Int64)) * (4096 : Int64))) + (((p1 &&& (2147483647 : Int32)) % (4096 : Int32)).toInt64))), .second, .val (.long ((q0 &&& (1099511627775 : Int64)) + (1 : Int64))), .second] [(.long (((84 : Int64) + ((q0 &&& (1099511627775 : Int64)) * (4096 : Int64))) + (((p1 &&& (2147483647 : Int32)) % (4096 : Int32)).toInt64)))])) rfl (by rw [hml]; rfl) (argsL := [(.long (((84 : Int64) + ((q0 &&& (1099511627775 : Int64)) * (4096 : Int64))) + (((p1 &&& (2147483647 : Int32)) % (4096 : Int32)).toInt64)))]) (rest := []) (lenOf own_pd0 rfl) rfl (by show 2 * 0 + _ ≤ _; exact Nat.le_of_eq rfl) (hb hby at_54) (fun _ _ => ⟨rfl, e0, (by decide : 0 + 0 ≤ _), (by decide : 0 + 0 ≤ _)⟩)
    dsimp only [Pt.U, Pt.locs, Pt.cells, Pt.slots] at X46 l46 y46 z46 st46 hQ46
    subst l46 y46 z46
    obtain ⟨rfl, Nq46, eh46⟩ := hQ46
    have N47 := Fr.app N0 Nq46
    obtain ⟨fs, hr, hrun, hended, hW, hsame⟩ := X46.leave (v := some (.int (1 : Int32))) (fun h => by rw [Bd.returns] at h; cases h) (hlocks := BodyLoose.notSynchronized Bd)
    refine ⟨_, _, pre28 _ ?_, hrun, hended, _, _, rfl, ?_, ⟨_, rfl⟩, hW, hsame.mono (by decide) (by decide)⟩
    · show Steps p.tables e below (s₁.setTop (mkF m 43 #[.val (.long q0), .second, .val (.int p1), .val (.long (4096 : Int64)), .second, .val (.long (q0 &&& (1099511627775 : Int64))), .second, .val (.long (((p1 &&& (2147483647 : Int32)) % (4096 : Int32)).toInt64)), .second, .val (.long (((84 : Int64) + ((q0 &&& (1099511627775 : Int64)) * (4096 : Int64))) + (((p1 &&& (2147483647 : Int32)) % (4096 : Int32)).toInt64))), .second, .val (.long (q0 &&& (1099511627775 : Int64))), .second] [(.int (lcmpW (((p1 &&& (2147483647 : Int32)) % (4096 : Int32)).toInt64) (0 : Int64)))])) _
      refine XS.ifNo X0.here hx rfl (hb hby at_43) rfl ((if0 _ _).trans (feq (fun q => hc43_29 (own_lcEq.mp q))).1) ?_
      show Steps p.tables e below (s₁.setTop (mkF m 46 #[.val (.long q0), .second, .val (.int p1), .val (.long (4096 : Int64)), .second, .val (.long (q0 &&& (1099511627775 : Int64))), .second, .val (.long (((p1 &&& (2147483647 : Int32)) % (4096 : Int32)).toInt64)), .second, .val (.long (((84 : Int64) + ((q0 &&& (1099511627775 : Int64)) * (4096 : Int64))) + (((p1 &&& (2147483647 : Int32)) % (4096 : Int32)).toInt64))), .second, .val (.long (q0 &&& (1099511627775 : Int64))), .second] [])) _
      refine XS.lload X0.here hx rfl (hb hby at_46) rfl ?_
      show Steps p.tables e below (s₁.setTop (mkF m 48 #[.val (.long q0), .second, .val (.int p1), .val (.long (4096 : Int64)), .second, .val (.long (q0 &&& (1099511627775 : Int64))), .second, .val (.long (((p1 &&& (2147483647 : Int32)) % (4096 : Int32)).toInt64)), .second, .val (.long (((84 : Int64) + ((q0 &&& (1099511627775 : Int64)) * (4096 : Int64))) + (((p1 &&& (2147483647 : Int32)) % (4096 : Int32)).toInt64))), .second, .val (.long (q0 &&& (1099511627775 : Int64))), .second] [(.long (q0 &&& (1099511627775 : Int64)))])) _
      refine XS.lconst X0.here hx rfl (hb hby at_48) ?_
      show Steps p.tables e below (s₁.setTop (mkF m 49 #[.val (.long q0), .second, .val (.int p1), .val (.long (4096 : Int64)), .second, .val (.long (q0 &&& (1099511627775 : Int64))), .second, .val (.long (((p1 &&& (2147483647 : Int32)) % (4096 : Int32)).toInt64)), .second, .val (.long (((84 : Int64) + ((q0 &&& (1099511627775 : Int64)) * (4096 : Int64))) + (((p1 &&& (2147483647 : Int32)) % (4096 : Int32)).toInt64))), .second, .val (.long (q0 &&& (1099511627775 : Int64))), .second] [(.long (1 : Int64)), (.long (q0 &&& (1099511627775 : Int64)))])) _
      refine XS.ladd X0.here hx rfl (hb hby at_49) rfl ?_
      show Steps p.tables e below (s₁.setTop (mkF m 50 #[.val (.long q0), .second, .val (.int p1), .val (.long (4096 : Int64)), .second, .val (.long (q0 &&& (1099511627775 : Int64))), .second, .val (.long (((p1 &&& (2147483647 : Int32)) % (4096 : Int32)).toInt64)), .second, .val (.long (((84 : Int64) + ((q0 &&& (1099511627775 : Int64)) * (4096 : Int64))) + (((p1 &&& (2147483647 : Int32)) % (4096 : Int32)).toInt64))), .second, .val (.long (q0 &&& (1099511627775 : Int64))), .second] [(.long ((q0 &&& (1099511627775 : Int64)) + (1 : Int64)))])) _
      refine XS.lstore X0.here hx rfl (hb hby at_50) rfl (l' := #[.val (.long q0), .second, .val (.int p1), .val (.long (4096 : Int64)), .second, .val (.long (q0 &&& (1099511627775 : Int64))), .second, .val (.long (((p1 &&& (2147483647 : Int32)) % (4096 : Int32)).toInt64)), .second, .val (.long (((84 : Int64) + ((q0 &&& (1099511627775 : Int64)) * (4096 : Int64))) + (((p1 &&& (2147483647 : Int32)) % (4096 : Int32)).toInt64))), .second, .val (.long ((q0 &&& (1099511627775 : Int64)) + (1 : Int64))), .second]) rfl ?_
      show Steps p.tables e below (s₁.setTop (mkF m 52 #[.val (.long q0), .second, .val (.int p1), .val (.long (4096 : Int64)), .second, .val (.long (q0 &&& (1099511627775 : Int64))), .second, .val (.long (((p1 &&& (2147483647 : Int32)) % (4096 : Int32)).toInt64)), .second, .val (.long (((84 : Int64) + ((q0 &&& (1099511627775 : Int64)) * (4096 : Int64))) + (((p1 &&& (2147483647 : Int32)) % (4096 : Int32)).toInt64))), .second, .val (.long ((q0 &&& (1099511627775 : Int64)) + (1 : Int64))), .second] [])) _
      refine XS.lload X0.here hx rfl (hb hby at_52) rfl ?_
      show Steps p.tables e below (s₁.setTop (mkF m 54 #[.val (.long q0), .second, .val (.int p1), .val (.long (4096 : Int64)), .second, .val (.long (q0 &&& (1099511627775 : Int64))), .second, .val (.long (((p1 &&& (2147483647 : Int32)) % (4096 : Int32)).toInt64)), .second, .val (.long (((84 : Int64) + ((q0 &&& (1099511627775 : Int64)) * (4096 : Int64))) + (((p1 &&& (2147483647 : Int32)) % (4096 : Int32)).toInt64))), .second, .val (.long ((q0 &&& (1099511627775 : Int64)) + (1 : Int64))), .second] [(.long (((84 : Int64) + ((q0 &&& (1099511627775 : Int64)) * (4096 : Int64))) + (((p1 &&& (2147483647 : Int32)) % (4096 : Int32)).toInt64)))])) _
      refine st46 _ ?_
      show Steps p.tables e below (T46.setTop (mkF m 57 #[.val (.long q0), .second, .val (.int p1), .val (.long (4096 : Int64)), .second, .val (.long (q0 &&& (1099511627775 : Int64))), .second, .val (.long (((p1 &&& (2147483647 : Int32)) % (4096 : Int32)).toInt64)), .second, .val (.long (((84 : Int64) + ((q0 &&& (1099511627775 : Int64)) * (4096 : Int64))) + (((p1 &&& (2147483647 : Int32)) % (4096 : Int32)).toInt64))), .second, .val (.long ((q0 &&& (1099511627775 : Int64)) + (1 : Int64))), .second] [(.long (own_rm1_f (((84 : Int64) + ((q0 &&& (1099511627775 : Int64)) * (4096 : Int64))) + (((p1 &&& (2147483647 : Int32)) % (4096 : Int32)).toInt64))))])) _
      refine XS.lload X46.here hx rfl (hb hby at_57) rfl ?_
      show Steps p.tables e below (T46.setTop (mkF m 59 #[.val (.long q0), .second, .val (.int p1), .val (.long (4096 : Int64)), .second, .val (.long (q0 &&& (1099511627775 : Int64))), .second, .val (.long (((p1 &&& (2147483647 : Int32)) % (4096 : Int32)).toInt64)), .second, .val (.long (((84 : Int64) + ((q0 &&& (1099511627775 : Int64)) * (4096 : Int64))) + (((p1 &&& (2147483647 : Int32)) % (4096 : Int32)).toInt64))), .second, .val (.long ((q0 &&& (1099511627775 : Int64)) + (1 : Int64))), .second] [(.long ((q0 &&& (1099511627775 : Int64)) + (1 : Int64))), (.long (own_rm1_f (((84 : Int64) + ((q0 &&& (1099511627775 : Int64)) * (4096 : Int64))) + (((p1 &&& (2147483647 : Int32)) % (4096 : Int32)).toInt64))))])) _
      refine XS.lcmp X46.here hx rfl (hb hby at_59) rfl ?_
      show Steps p.tables e below (T46.setTop (mkF m 60 #[.val (.long q0), .second, .val (.int p1), .val (.long (4096 : Int64)), .second, .val (.long (q0 &&& (1099511627775 : Int64))), .second, .val (.long (((p1 &&& (2147483647 : Int32)) % (4096 : Int32)).toInt64)), .second, .val (.long (((84 : Int64) + ((q0 &&& (1099511627775 : Int64)) * (4096 : Int64))) + (((p1 &&& (2147483647 : Int32)) % (4096 : Int32)).toInt64))), .second, .val (.long ((q0 &&& (1099511627775 : Int64)) + (1 : Int64))), .second] [(.int (lcmpW (own_rm1_f (((84 : Int64) + ((q0 &&& (1099511627775 : Int64)) * (4096 : Int64))) + (((p1 &&& (2147483647 : Int32)) % (4096 : Int32)).toInt64))) ((q0 &&& (1099511627775 : Int64)) + (1 : Int64))))])) _
      refine XS.ifNo X46.here hx rfl (hb hby at_60) rfl ((if0 _ _).trans (teq (own_lcEq.mpr (((own_main _ _ (own_mask40 _) (own_rem _)).2 hc43_29) : (own_rm1_f (((84 : Int64) + ((q0 &&& (1099511627775 : Int64)) * (4096 : Int64))) + (((p1 &&& (2147483647 : Int32)) % (4096 : Int32)).toInt64))) = ((q0 &&& (1099511627775 : Int64)) + (1 : Int64))))).2) ?_
      show Steps p.tables e below (T46.setTop (mkF m 63 #[.val (.long q0), .second, .val (.int p1), .val (.long (4096 : Int64)), .second, .val (.long (q0 &&& (1099511627775 : Int64))), .second, .val (.long (((p1 &&& (2147483647 : Int32)) % (4096 : Int32)).toInt64)), .second, .val (.long (((84 : Int64) + ((q0 &&& (1099511627775 : Int64)) * (4096 : Int64))) + (((p1 &&& (2147483647 : Int32)) % (4096 : Int32)).toInt64))), .second, .val (.long ((q0 &&& (1099511627775 : Int64)) + (1 : Int64))), .second] [])) _
      refine XS.iconst X46.here hx rfl (hb hby at_63) ?_
      show Steps p.tables e below (T46.setTop (mkF m 64 #[.val (.long q0), .second, .val (.int p1), .val (.long (4096 : Int64)), .second, .val (.long (q0 &&& (1099511627775 : Int64))), .second, .val (.long (((p1 &&& (2147483647 : Int32)) % (4096 : Int32)).toInt64)), .second, .val (.long (((84 : Int64) + ((q0 &&& (1099511627775 : Int64)) * (4096 : Int64))) + (((p1 &&& (2147483647 : Int32)) % (4096 : Int32)).toInt64))), .second, .val (.long ((q0 &&& (1099511627775 : Int64)) + (1 : Int64))), .second] [(.int (1 : Int32))])) _
      refine XS.goto X46.here hx rfl (pc0 := 64) (pc' := 68) rfl (hb hby at_64) (by decide) (by decide) ?_
      show Steps p.tables e below (T46.setTop (mkF m 68 #[.val (.long q0), .second, .val (.int p1), .val (.long (4096 : Int64)), .second, .val (.long (q0 &&& (1099511627775 : Int64))), .second, .val (.long (((p1 &&& (2147483647 : Int32)) % (4096 : Int32)).toInt64)), .second, .val (.long (((84 : Int64) + ((q0 &&& (1099511627775 : Int64)) * (4096 : Int64))) + (((p1 &&& (2147483647 : Int32)) % (4096 : Int32)).toInt64))), .second, .val (.long ((q0 &&& (1099511627775 : Int64)) + (1 : Int64))), .second] [(.int (1 : Int32))])) _
      exact retN X46 hx (t := .boolean) Bd.returns (by simp) (hb hby at_68) hr
    · show Qown_law Z q0 p1 h0 n0 _ T46.heap _
      rw [eh46]
      exact ⟨rfl, N47⟩
set_option maxRecDepth 65536 in
set_option maxHeartbeats 40000000 in
theorem comes_1 {Post : Tables → Env → Array Value → State → Outcome → State → Prop} (hpost : ∀ tb e args s v u, (limb_1_1.after args s (.returned v) u = true ∧ limb_1_2.after args s (.returned v) u = true ∧ True) → FrameEnd s (.returned v) u (Jvm.fieldLocs frame_1_writes args s ++ Jvm.arrayLocs frame_1_arrays args s ++ Jvm.staticLocs frame_1_statics s) 0 0 → Post tb e args s (.returned v) u) :
    ArmFor flags0 classFile x code maxLocals ret World_1 tables_1 room_1 Calls_1 rest_1 Pre_1 Post := by
  intro l hfl _ _ p e ha hc hk s m args below hf hA hF happ hP
  obtain ⟨hcalls, hrest, hpre⟩ := hP
  obtain ⟨-, -, -, hnamed, -, -, -, hat⟩ := (Spec.applies_iff hf).mp happ
  obtain ⟨hg, hn⟩ := and_e (Cond.before_iff.mp (show (Jvm.Cond.and given_1 narrow_1).before args s = true from hpre))
  obtain ⟨gg1, gg2⟩ := and_e hg
  obtain ⟨gg3, gg4⟩ := and_e gg2
  obtain ⟨w0, w1, rfl⟩ : ∃ w0 w1 : Value, args = #[w0, w1] := by
    have hs : args.size = 2 := by simpa [Cond.value, given_1] using gg1
    obtain ⟨L⟩ := args
    match L, hs with
    | [w0, w1], _ => exact ⟨w0, w1, rfl⟩
  have hw := fun d (hd : d ∈ tables_1) => atoms_spec (ws := Jvm.Cond.code x code maxLocals ret :: tables_1) hat d (List.mem_cons_of_mem _ hd)
  obtain ⟨i0, ei0⟩ := isL_v gg3
  obtain rfl : w0 = (.long i0) := Option.some.inj ei0
  obtain ⟨i1, ei1⟩ := is_v gg4
  obtain rfl : w1 = (.int i1) := Option.some.inj ei1
  obtain ⟨n, o, h1, h2, h3, _, L, rfl, ⟨rfl, N⟩, hq⟩ := own_law l s _ hw tables_1 i0 i1 s.heap s.heap.size (Nat.le_refl _) p e ha hc hk s m _ below hf ((Spec.applies_iff_loose hf).mp happ).1 ⟨rfl, State.Warmed39.refl s, rfl⟩ trivial
  refine ⟨n, _, h1, h2, h3, hpost _ _ _ _ _ _ ⟨Cond.after_iff.mpr rfl, Cond.after_iff.mpr (eq_i res_at (Term.int_eval (1)) rfl), trivial⟩ ⟨hq.1, hq.2.1, (hq.2.2.sift fun y hy => Or.inr (N y hy)).mono (by decide) (by decide)⟩⟩
theorem main_1_1 : Claimed_1_1 := comes_1 fun _ _ _ _ _ _ h hF => ⟨h.1, hF⟩
theorem main_1_2 : Claimed_1_2 := comes_1 fun _ _ _ _ _ _ h hF => ⟨h.2.1, hF⟩
end Jvm.Pilot.@@N@@
namespace Jvm.Pilot.@@N@@
open Jvm Jvm.ClassFile Sem Op Lib Jvm.Free Jvm.Stand Jvm.Pilot.@@N@@.Jvm.D
/-! MADE BY PROGRAM (witnessworld.py) out of the Statement's table words and the real class files: 9 classes; the members and pool entries that the words name. The judged class is class 1, her method 1. -/
namespace start1
open Jvm.ClassFile
def u (s : String) : CpInfo := .utf8 (stringToUtf16 s)
/-- a pool by its gaps: so many unusable entries, then the entry; so many at the end -/
def gap : Nat → List CpInfo → List CpInfo
  | 0, r => r
  | n + 1, r => .unusable :: gap n r
def poolList (es : List (Nat × CpInfo)) (last : Nat) : List CpInfo := es.foldr (fun e r => gap e.1 (e.2 :: r)) (gap last [])
def pool (es : List (Nat × CpInfo)) (last : Nat) : Array CpInfo := ⟨poolList es last⟩
def fileOf (pool : Array CpInfo) (this : Nat) (attrs : Array Attribute := #[]) (ms : Array MethodInfo := #[]) (fl : Nat := 33) (sup : Nat := 0) (ifs : Array Nat := #[]) (fds : Array FieldInfo := #[]) : ClassFile where
  minorVersion := 0
  majorVersion := 65
  constantPool := pool
  accessFlags := fl
  thisClass := this
  superClass := sup
  interfaces := ifs
  fields := fds
  methods := ms
  attributes := attrs
def plain (name : String) (sup : Option ClassId) : Class where
  name := name
  kind := .ordinary
  loader := none
  accessFlags := 33
  super := sup
  interfaces := #[]
  cf := none
  fields := #[]
  methods := #[]
  instanceTypes := #[]
  staticTypes := #[]
  resolved := #[]
  callSites := []
  init := .initialized
  statics := none
  mirror := none

def pool0 : Array CpInfo := pool [(5, u "<init>"), (0, u "()V"), (1, .class_ 10), (1, u "java/lang/Object")] 113

def k0m0 : Method := { name := "<init>", desc := "()V", sig := { parameters := [], returnType := none }, accessFlags := 1, code := none }
/-- java/lang/Object -/
def k0 : Class := { plain "java/lang/Object" none with
  accessFlags := 33
  interfaces := #[]
  cf := some (fileOf pool0 8 #[] #[{ accessFlags := 1, nameIndex := 5, descriptorIndex := 6, attributes := #[] }] 33 0 #[] #[])
  fields := #[]
  methods := #[k0m0]
  instanceTypes := #[]
  staticTypes := #[]
  resolved := Array.replicate 124 none
  statics := none }

def pool1 : Array CpInfo := pool [(2, .class_ 4), (1, u "java/lang/Object"), (0, u "<init>"), (0, u "()V"), (0, .class_ 8), (0, u "com/example/harrier/harrier/index/IndexFormat"), (0, .long 4096), (1, .long 1099511627775), (1, .integer 2147483647), (0, .long 84), (1, .methodref 7 17), (0, .nameAndType 18 19), (0, u "blockCount"), (0, u "(J)J"), (0, .class_ 21), (0, u "com/example/harrier/harrier/index/IndexFormatBlockCountPinLaw"), (2, u "law"), (0, u "(JI)Z")] 3

def k1m0 : Method := { name := "<init>", desc := "()V", sig := { parameters := [], returnType := none }, accessFlags := 2, code := none }
def k1c1 : Code := { maxStack := 6, maxLocals := 13, code := code, exceptionTable := #[], attributes := #[] }
def k1m1 : Method := { name := "law", desc := "(JI)Z", sig := { parameters := [.long, .int], returnType := some .boolean }, accessFlags := 9, code := some k1c1 }
/-- com/example/harrier/harrier/index/IndexFormatBlockCountPinLaw -/
def k1 : Class := { plain "com/example/harrier/harrier/index/IndexFormatBlockCountPinLaw" (some 0) with
  accessFlags := 49
  interfaces := #[]
  cf := some (fileOf pool1 20 #[] #[{ accessFlags := 2, nameIndex := 5, descriptorIndex := 6, attributes := #[] }, { accessFlags := 9, nameIndex := 24, descriptorIndex := 25, attributes := #[] }] 49 2 #[] #[])
  fields := #[]
  methods := #[k1m0, k1m1]
  instanceTypes := #[]
  staticTypes := #[]
  resolved := Array.replicate 29 none
  statics := none }

def pool2 : Array CpInfo := pool [(2, .class_ 4), (1, u "java/lang/Object"), (0, u "<init>"), (0, u "()V"), (0, .class_ 8), (0, u "com/example/harrier/harrier/index/IndexFormat"), (0, .long 84), (1, .long 4096), (12, u "FILE_NAME"), (0, u "Ljava/lang/String;"), (3, u "MAGIC"), (0, u "I"), (1, u "VERSION"), (1, u "HEADER_BYTES"), (1, u "DOCUMENT_ENTRY_BYTES"), (1, u "TERM_ENTRY_BYTES"), (1, u "BLOCK_BYTES"), (1, u "CHECKSUM_BYTES"), (3, u "blockCount"), (0, u "(J)J")] 4

def k2m0 : Method := { name := "<init>", desc := "()V", sig := { parameters := [], returnType := none }, accessFlags := 2, code := none }
def k2c1 : Code := { maxStack := 4, maxLocals := 2, code := prog_19_method_2_code, exceptionTable := #[], attributes := #[] }
def k2m1 : Method := { name := "blockCount", desc := "(J)J", sig := { parameters := [.long], returnType := some .long }, accessFlags := 8, code := some k2c1 }
/-- com/example/harrier/harrier/index/IndexFormat -/
def k2 : Class := { plain "com/example/harrier/harrier/index/IndexFormat" (some 0) with
  accessFlags := 48
  interfaces := #[]
  cf := some (fileOf pool2 7 #[] #[{ accessFlags := 2, nameIndex := 5, descriptorIndex := 6, attributes := #[] }, { accessFlags := 8, nameIndex := 46, descriptorIndex := 47, attributes := #[] }] 48 2 #[] #[{ accessFlags := 24, nameIndex := 24, descriptorIndex := 25, attributes := #[] }, { accessFlags := 24, nameIndex := 29, descriptorIndex := 30, attributes := #[] }, { accessFlags := 24, nameIndex := 32, descriptorIndex := 30, attributes := #[] }, { accessFlags := 24, nameIndex := 34, descriptorIndex := 30, attributes := #[] }, { accessFlags := 24, nameIndex := 36, descriptorIndex := 30, attributes := #[] }, { accessFlags := 24, nameIndex := 38, descriptorIndex := 30, attributes := #[] }, { accessFlags := 24, nameIndex := 40, descriptorIndex := 30, attributes := #[] }, { accessFlags := 24, nameIndex := 42, descriptorIndex := 30, attributes := #[] }])
  fields := #[{ name := "FILE_NAME", type := (.object "java/lang/String"), accessFlags := 24, slot := 0, constantValue := 0 }, { name := "MAGIC", type := .int, accessFlags := 24, slot := 1, constantValue := 0 }, { name := "VERSION", type := .int, accessFlags := 24, slot := 2, constantValue := 0 }, { name := "HEADER_BYTES", type := .int, accessFlags := 24, slot := 3, constantValue := 0 }, { name := "DOCUMENT_ENTRY_BYTES", type := .int, accessFlags := 24, slot := 4, constantValue := 0 }, { name := "TERM_ENTRY_BYTES", type := .int, accessFlags := 24, slot := 5, constantValue := 0 }, { name := "BLOCK_BYTES", type := .int, accessFlags := 24, slot := 6, constantValue := 0 }, { name := "CHECKSUM_BYTES", type := .int, accessFlags := 24, slot := 7, constantValue := 0 }]
  methods := #[k2m0, k2m1]
  instanceTypes := #[]
  staticTypes := #[(.object "java/lang/String"), .int, .int, .int, .int, .int, .int, .int]
  resolved := Array.replicate 52 none
  statics := none }

def pool3 : Array CpInfo := pool [(1, u "java/lang/Cloneable"), (0, .class_ 1), (0, u "java/lang/Object"), (0, .class_ 3)] 3

/-- java/lang/Cloneable -/
def k3 : Class := { plain "java/lang/Cloneable" (some 0) with
  accessFlags := 1537
  interfaces := #[]
  cf := some (fileOf pool3 2 #[] #[] 1537 4 #[] #[])
  fields := #[]
  methods := #[]
  instanceTypes := #[]
  staticTypes := #[]
  resolved := Array.replicate 8 none
  statics := none }

def pool4 : Array CpInfo := pool [(1, u "java/io/Serializable"), (0, .class_ 1), (0, u "java/lang/Object"), (0, .class_ 3)] 3

/-- java/io/Serializable -/
def k4 : Class := { plain "java/io/Serializable" (some 0) with
  accessFlags := 1537
  interfaces := #[]
  cf := some (fileOf pool4 2 #[] #[] 1537 4 #[] #[])
  fields := #[]
  methods := #[]
  instanceTypes := #[]
  staticTypes := #[]
  resolved := Array.replicate 8 none
  statics := none }

/-- the primitive byte -/
def k5 : Class := { plain "byte" none with kind := .primitive 'B', accessFlags := 0x411 }
/-- [B -/
def k6 : Class := { plain "[B" (some 0) with kind := .array 5 .byte, interfaces := #[3, 4], accessFlags := 1041 }

/-- the primitive int -/
def k7 : Class := { plain "int" none with kind := .primitive 'I', accessFlags := 0x411 }
/-- [I -/
def k8 : Class := { plain "[I" (some 0) with kind := .array 7 .int, interfaces := #[3, 4], accessFlags := 1041 }

def heap : Heap := #[]
def classes : Array Class := #[k0, k1, k2, k3, k4, k5, k6, k7, k8]
def interned : List (Array UInt16 × Addr) := []
def slotsUsed : Nat := 0
def theMethod : MethodId := ⟨1, 1⟩
def args0 : Array Value := #[.long 5, .int 7]
def aboutOver (below : List Frame) : State where
  vm := { classes := classes, interned := interned.toArray }
  heap := heap
  slotsUsed := slotsUsed
  threads := #[{ frames := .invoking theMethod args0 :: below }]
def below0 : List Frame := [.native { method := ⟨0, 0⟩, args := #[] }]
def about1 : State := aboutOver below0
def p0 : Program := .bare "" "" ""
def e0 : Env := launch0.env 0 0 0
theorem w_frames : about1.frames = Frame.invoking theMethod args0 :: below0 := rfl
set_option maxRecDepth 65536 in
theorem w_args : argsFit about1.vm theMethod args0 = true := by decide +kernel
set_option maxRecDepth 65536 in
theorem w_heap : heapFits about1 = true := by decide +kernel
set_option maxRecDepth 65536 in
theorem w_runnable : about1.curStatus? = some .runnable := by decide +kernel
set_option maxRecDepth 65536 in
theorem w_alone : about1.alone = true := by decide +kernel
set_option maxRecDepth 65536 in
theorem w_named : about1.methodNamed? x = some theMethod := by decide +kernel
set_option maxRecDepth 65536 in
theorem w_hears : about1.hears theMethod below0 = true := by decide +kernel
set_option maxRecDepth 65536 in
theorem w_ripe : about1.ripe theMethod args0 below0 = true := by decide +kernel
theorem w_running : about1.status = .running := rfl
set_option maxRecDepth 65536 in
theorem w_room : about1.hasRoom e0.platform room_1 = true :=
  launch0.hasRoom_least _ room_1 (by decide +kernel) (by decide +kernel) (by decide +kernel) (by decide +kernel) (by decide +kernel) (by decide +kernel)
theorem allAtoms_all (ts : List Jvm.Cond) (a : Array Jvm.Value) (st : Jvm.State) : (allAtoms ts).before a st = ts.all (fun c => c.before a st) := by
  induction ts with
  | nil => rfl
  | cons c t ih =>
    show (Jvm.Cond.and c (allAtoms t)).before a st = _
    rw [Jvm.Cond.before_and, ih, List.all_cons]
def words1 : List Jvm.Cond := Jvm.Cond.code x code maxLocals ret :: tables_1
/-- a 'code' word, met by the world's own term for the bytes: nothing is compared byte by byte -/
theorem code_word {y : MethodName} {bytes : ByteArray} {mx : Nat} {rt : Option FieldType} {a : Array Value} {s : State} {m : MethodId} {meth : Method} {c : Code} (h1 : s.methodNamed? y = some m) (h2 : s.vm.method? m = some meth) (h3 : meth.code = some c) (h4 : c.code = bytes)
    (h5 : (c.maxLocals == mx && c.exceptionTable.isEmpty && decide (c.maxStack ≤ mostOperands) && decide (meth.sig.returnType = rt) && !meth.locks && decide (parseMethodDescriptor y.desc = some meth.sig)) = true) : (Jvm.Cond.code y bytes mx rt).before a s = true := by
  simp only [Bool.and_eq_true, beq_iff_eq, Bool.not_eq_true', decide_eq_true_eq] at h5
  obtain ⟨⟨⟨⟨⟨g1, g2⟩, g3⟩, g4⟩, g5⟩, g6⟩ := h5
  simp [Cond.before, Cond.holds, Cond.value, h1, h2, h3, h4, g1, g2, g3, g4, g5, g6]
def isCode : Jvm.Cond → Bool
  | .code _ _ _ _ => true
  | _ => false
theorem all_split {L : List Jvm.Cond} {P : Jvm.Cond → Bool} (h1 : L.all (fun c => isCode c || P c) = true) (h2 : ∀ c ∈ L.filter isCode, P c = true) : L.all P = true := by
  refine List.all_eq_true.mpr fun c hc => ?_
  have h := List.all_eq_true.mp h1 c hc
  rcases Bool.eq_false_or_eq_true (isCode c) with hi | hi
  · exact h2 c (List.mem_filter.mpr ⟨hc, hi⟩)
  · simpa [hi] using h
set_option maxRecDepth 65536 in
theorem w_c0 : (Jvm.Cond.code x code maxLocals ret).before args0 about1 = true := code_word (m := ⟨1, 1⟩) (meth := k1m1) (c := k1c1) (by decide +kernel) rfl rfl rfl (by decide +kernel)
set_option maxRecDepth 65536 in
theorem w_c1 : (Jvm.Cond.code ({ cls := "com/example/harrier/harrier/index/IndexFormat", name := "blockCount", desc := "(J)J" } : Jvm.MethodName) prog_19_method_2_code (2 : Nat) (Option.some Jvm.ClassFile.FieldType.long)).before args0 about1 = true := code_word (m := ⟨2, 1⟩) (meth := k2m1) (c := k2c1) (by decide +kernel) rfl rfl rfl (by decide +kernel)
def codes1 : List Jvm.Cond := [Jvm.Cond.code x code maxLocals ret, Jvm.Cond.code ({ cls := "com/example/harrier/harrier/index/IndexFormat", name := "blockCount", desc := "(J)J" } : Jvm.MethodName) prog_19_method_2_code (2 : Nat) (Option.some Jvm.ClassFile.FieldType.long)]
set_option maxRecDepth 65536 in
theorem codes_eq : words1.filter isCode = codes1 := rfl
theorem w_codes : ∀ c ∈ words1.filter isCode, c.before args0 about1 = true := by
  rw [codes_eq]
  intro c hc
  simp only [codes1, List.mem_cons, List.not_mem_nil, or_false] at hc
  rcases hc with rfl | rfl
  · exact w_c0
  · exact w_c1
set_option maxRecDepth 65536 in
theorem w_t1 : words1.all (fun c => isCode c || c.before args0 about1) = true := by decide +kernel
theorem w_tables : (allAtoms (Jvm.Cond.code x code maxLocals ret :: tables_1)).before args0 about1 = true := by
  rw [allAtoms_all]
  show words1.all (fun c => c.before args0 about1) = true
  refine all_split ?_ w_codes
  rw [w_t1]
set_option maxRecDepth 65536 in
theorem w_case : (Jvm.Cond.and given_1 narrow_1).before args0 about1 = true := by decide +kernel
theorem w_applies : (headSpec (Jvm.Cond.code x code maxLocals ret :: tables_1) room_1).applies x e0.platform about1 = true :=
  (Spec.applies_iff w_frames).mpr ⟨w_running, w_runnable, w_alone, w_named, w_hears, w_ripe, w_room, w_tables⟩
theorem atStart : AtStart classFile x code maxLocals ret World_1 tables_1 room_1 Calls_1 rest_1 Pre_1 launch0 p0 e0 about1 theMethod args0 below0 :=
  ⟨lists_1, trivial, launch0.admits_env _ _ _, launch0.least_env, fairChoices_fair.cas, fairChoices_fair.clock, w_frames, w_args, w_heap, w_applies, trivial, trivial, w_case⟩
end start1
theorem witness_1 : WitnessClaimed_1 := ⟨start1.p0, start1.e0, start1.about1, start1.theMethod, start1.args0, start1.below0, start1.atStart⟩
end Jvm.Pilot.@@N@@
