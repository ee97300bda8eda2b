import JvmDerived
import JvmDerived.Pilot.@@N@@Statement
import JvmDerived.Pilot.@@N@@Code
set_option linter.unusedVariables false
set_option linter.unusedSimpArgs false
@@BLOCK:NumsL.lean.txt@@
namespace Jvm.RoadKit
open Sem ClassFile Op Lib Jvm.Stand Jvm.Free Jvm.LawKit
section New
variable {p : Program} {l : Launch} {e : Env} {R : Room} {s : State} {m : MethodId} {args : Array Value} {below : List Frame} {meth : Method} {c : Code} {T : State} {locs : List Loc} {cells slots : Nat}
theorem retI (X : Stand p l e R s m args below meth c T locs cells slots) (hx : p.tables.exec = Jvm.exec) {pc : Nat} {Ls : Array Slot} {z : Int32} {rest : List Value} (hret : meth.sig.returnType = some .int) (hd : decode c.code pc = .ok (.ireturn, 1)) {fs : List Frame}
    (hl : ∀ (f : JFrame) (acts : List Action), f.method = m → f.locked = none → f.entered = [] → (doReturn e (T.setTop f) acts (some (.int z))).1 = T.setFrames fs) : Steps p.tables e below (T.setTop (mkF m pc Ls (.int z :: rest))) (T.setFrames fs) := by
  have hm' : T.vm.method? m = some meth := X.method'
  have hn : narrow .int (.int z) = .int z := rfl
  show Steps p.tables e below (T.setTop { method := m, pc := pc, locals := Ls, stack := _ :: rest, locked := none }) _
  jvm_step X.here [X.here.top, hx, hd, hm', hret, hn]
  first | (intro acts; rw [hl _ acts rfl rfl rfl]) | rw [hl _ _ rfl rfl rfl]
  exact Steps.refl _
end New
end Jvm.RoadKit
namespace Jvm.Pilot.@@N@@
open Jvm Jvm.ClassFile Sem Op Lib Jvm.Free Jvm.Stand Jvm.LawKit Jvm.RoadKit Bundle Jvm.Pilot.@@N@@.Jvm.D
theorem own_lcLt {x y : Int64} : lcmpW x y < 0 ↔ x < y := by rw [lcW]; exact lc_lt x y
theorem own_lcGt {x y : Int64} : 0 < lcmpW x y ↔ y < x := by rw [lcW]; exact lc_gt x y
theorem own_lcEq {x y : Int64} : lcmpW x y = 0 ↔ x = y := by rw [lcW]; exact lc_eq x y
theorem own_pn0 : plainName "com/example/rosterhall/rosterhall/ResourceIdCompareToPinLaw" = true := by first | (simp [plainName, overriddenIn]; done) | decide +kernel
theorem own_ef_own_ucmp (m : MethodId) (q0 : Int64) (q1 : Int64) : entryFrame m #[(.long q0), (.long q1)] 8 = mkF m 0 #[.val (.long q0), .second, .val (.long q1), .second, .unset, .unset, .unset, .unset] [] := by first | (simp [entryFrame, mkF, argsToLocals, Value.category]; done) | rfl
theorem own_d5_0 : decode method_3_code 0 = .ok (.lload_n 0, 1) := by decide +kernel
theorem own_d5_1 : decode method_3_code 1 = .ok (.ldc2_w 26, 3) := by decide +kernel
theorem own_d5_4 : decode method_3_code 4 = .ok (.lxor, 1) := by decide +kernel
theorem own_d5_5 : decode method_3_code 5 = .ok (.lstore 4, 2) := by decide +kernel
theorem own_d5_7 : decode method_3_code 7 = .ok (.lload_n 2, 1) := by decide +kernel
theorem own_d5_8 : decode method_3_code 8 = .ok (.ldc2_w 26, 3) := by decide +kernel
theorem own_d5_11 : decode method_3_code 11 = .ok (.lxor, 1) := by decide +kernel
theorem own_d5_12 : decode method_3_code 12 = .ok (.lstore 6, 2) := by decide +kernel
theorem own_d5_14 : decode method_3_code 14 = .ok (.lload 4, 2) := by decide +kernel
theorem own_d5_16 : decode method_3_code 16 = .ok (.lload 6, 2) := by decide +kernel
theorem own_d5_18 : decode method_3_code 18 = .ok (.lcmp, 1) := by decide +kernel
theorem own_d5_19 : decode method_3_code 19 = .ok (.ifCond .ge 5, 3) := by decide +kernel
theorem own_d5_22 : decode method_3_code 22 = .ok (.iconst (-1), 1) := by decide +kernel
theorem own_d5_23 : decode method_3_code 23 = .ok (.ireturn, 1) := by decide +kernel
theorem own_d5_24 : decode method_3_code 24 = .ok (.lload 4, 2) := by decide +kernel
theorem own_d5_26 : decode method_3_code 26 = .ok (.lload 6, 2) := by decide +kernel
theorem own_d5_28 : decode method_3_code 28 = .ok (.lcmp, 1) := by decide +kernel
theorem own_d5_29 : decode method_3_code 29 = .ok (.ifCond .le 5, 3) := by decide +kernel
theorem own_d5_32 : decode method_3_code 32 = .ok (.iconst 1, 1) := by decide +kernel
theorem own_d5_33 : decode method_3_code 33 = .ok (.ireturn, 1) := by decide +kernel
theorem own_d5_34 : decode method_3_code 34 = .ok (.iconst 0, 1) := by decide +kernel
theorem own_d5_35 : decode method_3_code 35 = .ok (.ireturn, 1) := by decide +kernel
def own_ucmp_f (q0 : Int64) (q1 : Int64) : Int32 := (if (q0 ^^^ (-9223372036854775808 : Int64)) < (q1 ^^^ (-9223372036854775808 : Int64)) then (-1 : Int32) else (if (q1 ^^^ (-9223372036854775808 : Int64)) < (q0 ^^^ (-9223372036854775808 : Int64)) then (1 : Int32) else (0 : Int32)))
def Qown_ucmp (Z : State) (q0 : Int64) (q1 : Int64) (h0 : Heap) (n0 : Nat) (v : Option Value) (h : Heap) (L : List Loc) : Prop := v = some (.int (own_ucmp_f q0 q1)) ∧ Fr n0 L ∧ h = h0
set_option maxRecDepth 65536 in
set_option maxHeartbeats 40000000 in
theorem own_ucmp (l : Launch) (Z : State) (a0 : Array Value) (hw : ∀ d ∈ tables_1, d.before a0 Z = true) (ws : List Jvm.Cond) (q0 : Int64) (q1 : Int64) (h0 : Heap) (n0 : Nat) (Z0 : n0 ≤ h0.size) :
    MetFree l (⟨"com/example/rosterhall/rosterhall/ResourceIdCompareToPinLaw", "ucmp", "(JJ)I"⟩ : MethodName) (head1 (Jvm.Cond.code (⟨"com/example/rosterhall/rosterhall/ResourceIdCompareToPinLaw", "ucmp", "(JJ)I"⟩ : MethodName) method_3_code 8 (some .int) :: ws) ({ frames := 0, cells := 0, slots := 0, locals := 0 } : Room)) (fun a U => a = #[(.long q0), (.long q1)] ∧ Z.Warmed39 U.vm ∧ U.heap = h0) (fun _ _ _ _ _ => True) (fun _ U o U' => ∃ v L, o = .returned v ∧ Qown_ucmp Z q0 q1 h0 n0 v U'.heap L ∧ FrameEnd U o U' L ({ frames := 0, cells := 0, slots := 0, locals := 0 } : Room).cells ({ frames := 0, cells := 0, slots := 0, locals := 0 } : Room).slots) := by
  refine MetFree.of_bodySF (plainFor_of_name own_pn0) hisR ?_
  intro p e s m args below meth c s₁ Bd hml0 hP hK
  obtain ⟨rfl, hZ, hh⟩ := hP
  have hx := Bd.exec
  have hby := Bd.bytes
  have hml : c.maxLocals = 8 := hml0
  have hown : s.vm.findClass "com/example/rosterhall/rosterhall/ResourceIdCompareToPinLaw" = some m.cls := findClass_of_methodNamed Bd.named
  have hnm := (name_of_methodNamed Bd.named Bd.method).1
  have X0 : Stand p l e ({ frames := 0, cells := 0, slots := 0, locals := 0 } : Room) s m #[(.long q0), (.long q1)] below meth c s₁ [] 0 0 := Stand.of_body Bd
  have e0 : s₁.heap = h0 := by rw [← hh, Bd.state]; rfl
  have N0 := Fr.nil n0
  have pre0 : ∀ t, Steps p.tables e below (s₁.setTop (mkF m 0 #[.val (.long q0), .second, .val (.long q1), .second, .unset, .unset, .unset, .unset] [])) t → Steps p.tables e below (s₁.setTop (entryFrame m #[(.long q0), (.long q1)] 8)) t := fun t k => castTop (own_ef_own_ucmp m q0 q1) k
  have pre13 : ∀ t, Steps p.tables e below (s₁.setTop (mkF m 19 #[.val (.long q0), .second, .val (.long q1), .second, .val (.long (q0 ^^^ (-9223372036854775808 : Int64))), .second, .val (.long (q1 ^^^ (-9223372036854775808 : Int64))), .second] [(.int (lcmpW (q0 ^^^ (-9223372036854775808 : Int64)) (q1 ^^^ (-9223372036854775808 : Int64))))])) t → Steps p.tables e below (s₁.setTop (entryFrame m #[(.long q0), (.long q1)] 8)) t := by
    intro t kt
    refine pre0 _ ?_
    show Steps p.tables e below (s₁.setTop (mkF m 0 #[.val (.long q0), .second, .val (.long q1), .second, .unset, .unset, .unset, .unset] [])) _
    refine XS.lloadN X0.here hx rfl (hb hby own_d5_0) rfl ?_
    show Steps p.tables e below (s₁.setTop (mkF m 1 #[.val (.long q0), .second, .val (.long q1), .second, .unset, .unset, .unset, .unset] [(.long q0)])) _
    refine X0.ldc2Long hx hown (mvT hZ (hw _ (List.mem_of_getElem? (i := 25) rfl))) (g := (mkF m 1 #[.val (.long q0), .second, .val (.long q1), .second, .unset, .unset, .unset, .unset] [(.long q0)])) rfl (hb hby own_d5_1) _ ?_
    show Steps p.tables e below (s₁.setTop (mkF m 4 #[.val (.long q0), .second, .val (.long q1), .second, .unset, .unset, .unset, .unset] [(.long (-9223372036854775808 : Int64)), (.long q0)])) _
    refine XS.lxor X0.here hx rfl (hb hby own_d5_4) rfl ?_
    show Steps p.tables e below (s₁.setTop (mkF m 5 #[.val (.long q0), .second, .val (.long q1), .second, .unset, .unset, .unset, .unset] [(.long (q0 ^^^ (-9223372036854775808 : Int64)))])) _
    refine XS.lstore X0.here hx rfl (hb hby own_d5_5) rfl (l' := #[.val (.long q0), .second, .val (.long q1), .second, .val (.long (q0 ^^^ (-9223372036854775808 : Int64))), .second, .unset, .unset]) rfl ?_
    show Steps p.tables e below (s₁.setTop (mkF m 7 #[.val (.long q0), .second, .val (.long q1), .second, .val (.long (q0 ^^^ (-9223372036854775808 : Int64))), .second, .unset, .unset] [])) _
    refine XS.lloadN X0.here hx rfl (hb hby own_d5_7) rfl ?_
    show Steps p.tables e below (s₁.setTop (mkF m 8 #[.val (.long q0), .second, .val (.long q1), .second, .val (.long (q0 ^^^ (-9223372036854775808 : Int64))), .second, .unset, .unset] [(.long q1)])) _
    refine X0.ldc2Long hx hown (mvT hZ (hw _ (List.mem_of_getElem? (i := 25) rfl))) (g := (mkF m 8 #[.val (.long q0), .second, .val (.long q1), .second, .val (.long (q0 ^^^ (-9223372036854775808 : Int64))), .second, .unset, .unset] [(.long q1)])) rfl (hb hby own_d5_8) _ ?_
    show Steps p.tables e below (s₁.setTop (mkF m 11 #[.val (.long q0), .second, .val (.long q1), .second, .val (.long (q0 ^^^ (-9223372036854775808 : Int64))), .second, .unset, .unset] [(.long (-9223372036854775808 : Int64)), (.long q1)])) _
    refine XS.lxor X0.here hx rfl (hb hby own_d5_11) rfl ?_
    show Steps p.tables e below (s₁.setTop (mkF m 12 #[.val (.long q0), .second, .val (.long q1), .second, .val (.long (q0 ^^^ (-9223372036854775808 : Int64))), .second, .unset, .unset] [(.long (q1 ^^^ (-9223372036854775808 : Int64)))])) _
    refine XS.lstore X0.here hx rfl (hb hby own_d5_12) rfl (l' := #[.val (.long q0), .second, .val (.long q1), .second, .val (.long (q0 ^^^ (-9223372036854775808 : Int64))), .second, .val (.long (q1 ^^^ (-9223372036854775808 : Int64))), .second]) rfl ?_
    show Steps p.tables e below (s₁.setTop (mkF m 14 #[.val (.long q0), .second, .val (.long q1), .second, .val (.long (q0 ^^^ (-9223372036854775808 : Int64))), .second, .val (.long (q1 ^^^ (-9223372036854775808 : Int64))), .second] [])) _
    refine XS.lload X0.here hx rfl (hb hby own_d5_14) rfl ?_
    show Steps p.tables e below (s₁.setTop (mkF m 16 #[.val (.long q0), .second, .val (.long q1), .second, .val (.long (q0 ^^^ (-9223372036854775808 : Int64))), .second, .val (.long (q1 ^^^ (-9223372036854775808 : Int64))), .second] [(.long (q0 ^^^ (-9223372036854775808 : Int64)))])) _
    refine XS.lload X0.here hx rfl (hb hby own_d5_16) rfl ?_
    show Steps p.tables e below (s₁.setTop (mkF m 18 #[.val (.long q0), .second, .val (.long q1), .second, .val (.long (q0 ^^^ (-9223372036854775808 : Int64))), .second, .val (.long (q1 ^^^ (-9223372036854775808 : Int64))), .second] [(.long (q1 ^^^ (-9223372036854775808 : Int64))), (.long (q0 ^^^ (-9223372036854775808 : Int64)))])) _
    refine XS.lcmp X0.here hx rfl (hb hby own_d5_18) rfl ?_
    exact kt
  by_cases hc19_14 : (q0 ^^^ (-9223372036854775808 : Int64)) < (q1 ^^^ (-9223372036854775808 : Int64))
  · obtain ⟨fs, hr, hrun, hended, hW, hsame⟩ := X0.leave (v := some (.int (-1 : Int32))) (fun h => by rw [Bd.returns] at h; cases h) (hlocks := BodyLoose.notSynchronized Bd)
    refine ⟨_, _, pre13 _ ?_, hrun, hended, _, _, rfl, ?_, ⟨_, rfl⟩, hW, hsame.mono (by decide) (by decide)⟩
    · show Steps p.tables e below (s₁.setTop (mkF m 19 #[.val (.long q0), .second, .val (.long q1), .second, .val (.long (q0 ^^^ (-9223372036854775808 : Int64))), .second, .val (.long (q1 ^^^ (-9223372036854775808 : Int64))), .second] [(.int (lcmpW (q0 ^^^ (-9223372036854775808 : Int64)) (q1 ^^^ (-9223372036854775808 : Int64))))])) _
      refine XS.ifNo X0.here hx rfl (hb hby own_d5_19) rfl ((if0 _ _).trans (tlt (own_lcLt.mpr hc19_14)).2.1) ?_
      show Steps p.tables e below (s₁.setTop (mkF m 22 #[.val (.long q0), .second, .val (.long q1), .second, .val (.long (q0 ^^^ (-9223372036854775808 : Int64))), .second, .val (.long (q1 ^^^ (-9223372036854775808 : Int64))), .second] [])) _
      refine XS.iconst X0.here hx rfl (hb hby own_d5_22) ?_
      show Steps p.tables e below (s₁.setTop (mkF m 23 #[.val (.long q0), .second, .val (.long q1), .second, .val (.long (q0 ^^^ (-9223372036854775808 : Int64))), .second, .val (.long (q1 ^^^ (-9223372036854775808 : Int64))), .second] [(.int (-1 : Int32))])) _
      exact retI X0 hx Bd.returns (hb hby own_d5_23) hr
    · show Qown_ucmp Z q0 q1 h0 n0 _ s₁.heap _
      rw [e0]
      have hv : (own_ucmp_f q0 q1) = (-1 : Int32) := by unfold own_ucmp_f; rw [if_pos hc19_14]
      exact ⟨(by rw [hv]), N0, rfl⟩
  · have pre21 : ∀ t, Steps p.tables e below (s₁.setTop (mkF m 29 #[.val (.long q0), .second, .val (.long q1), .second, .val (.long (q0 ^^^ (-9223372036854775808 : Int64))), .second, .val (.long (q1 ^^^ (-9223372036854775808 : Int64))), .second] [(.int (lcmpW (q0 ^^^ (-9223372036854775808 : Int64)) (q1 ^^^ (-9223372036854775808 : Int64))))])) t → Steps p.tables e below (s₁.setTop (entryFrame m #[(.long q0), (.long q1)] 8)) t := by
      intro t kt
      refine pre13 _ ?_
      show Steps p.tables e below (s₁.setTop (mkF m 19 #[.val (.long q0), .second, .val (.long q1), .second, .val (.long (q0 ^^^ (-9223372036854775808 : Int64))), .second, .val (.long (q1 ^^^ (-9223372036854775808 : Int64))), .second] [(.int (lcmpW (q0 ^^^ (-9223372036854775808 : Int64)) (q1 ^^^ (-9223372036854775808 : Int64))))])) _
      refine XS.ifYes X0.here hx rfl (pc0 := 19) (pc' := 24) rfl (hb hby own_d5_19) rfl ((if0 _ _).trans (flt (fun q => hc19_14 (own_lcLt.mp q))).2.1) (by decide) (by decide) ?_
      show Steps p.tables e below (s₁.setTop (mkF m 24 #[.val (.long q0), .second, .val (.long q1), .second, .val (.long (q0 ^^^ (-9223372036854775808 : Int64))), .second, .val (.long (q1 ^^^ (-9223372036854775808 : Int64))), .second] [])) _
      refine XS.lload X0.here hx rfl (hb hby own_d5_24) rfl ?_
      show Steps p.tables e below (s₁.setTop (mkF m 26 #[.val (.long q0), .second, .val (.long q1), .second, .val (.long (q0 ^^^ (-9223372036854775808 : Int64))), .second, .val (.long (q1 ^^^ (-9223372036854775808 : Int64))), .second] [(.long (q0 ^^^ (-9223372036854775808 : Int64)))])) _
      refine XS.lload X0.here hx rfl (hb hby own_d5_26) rfl ?_
      show Steps p.tables e below (s₁.setTop (mkF m 28 #[.val (.long q0), .second, .val (.long q1), .second, .val (.long (q0 ^^^ (-9223372036854775808 : Int64))), .second, .val (.long (q1 ^^^ (-9223372036854775808 : Int64))), .second] [(.long (q1 ^^^ (-9223372036854775808 : Int64))), (.long (q0 ^^^ (-9223372036854775808 : Int64)))])) _
      refine XS.lcmp X0.here hx rfl (hb hby own_d5_28) rfl ?_
      exact kt
    by_cases hc29_22 : (q1 ^^^ (-9223372036854775808 : Int64)) < (q0 ^^^ (-9223372036854775808 : Int64))
    · obtain ⟨fs, hr, hrun, hended, hW, hsame⟩ := X0.leave (v := some (.int (1 : Int32))) (fun h => by rw [Bd.returns] at h; cases h) (hlocks := BodyLoose.notSynchronized Bd)
      refine ⟨_, _, pre21 _ ?_, hrun, hended, _, _, rfl, ?_, ⟨_, rfl⟩, hW, hsame.mono (by decide) (by decide)⟩
      · show Steps p.tables e below (s₁.setTop (mkF m 29 #[.val (.long q0), .second, .val (.long q1), .second, .val (.long (q0 ^^^ (-9223372036854775808 : Int64))), .second, .val (.long (q1 ^^^ (-9223372036854775808 : Int64))), .second] [(.int (lcmpW (q0 ^^^ (-9223372036854775808 : Int64)) (q1 ^^^ (-9223372036854775808 : Int64))))])) _
        refine XS.ifNo X0.here hx rfl (hb hby own_d5_29) rfl ((if0 _ _).trans (tlt (own_lcGt.mpr hc29_22)).2.2.2) ?_
        show Steps p.tables e below (s₁.setTop (mkF m 32 #[.val (.long q0), .second, .val (.long q1), .second, .val (.long (q0 ^^^ (-9223372036854775808 : Int64))), .second, .val (.long (q1 ^^^ (-9223372036854775808 : Int64))), .second] [])) _
        refine XS.iconst X0.here hx rfl (hb hby own_d5_32) ?_
        show Steps p.tables e below (s₁.setTop (mkF m 33 #[.val (.long q0), .second, .val (.long q1), .second, .val (.long (q0 ^^^ (-9223372036854775808 : Int64))), .second, .val (.long (q1 ^^^ (-9223372036854775808 : Int64))), .second] [(.int (1 : Int32))])) _
        exact retI X0 hx Bd.returns (hb hby own_d5_33) hr
      · show Qown_ucmp Z q0 q1 h0 n0 _ s₁.heap _
        rw [e0]
        have hv : (own_ucmp_f q0 q1) = (1 : Int32) := by unfold own_ucmp_f; rw [if_neg hc19_14, if_pos hc29_22]
        exact ⟨(by rw [hv]), N0, rfl⟩
    · obtain ⟨fs, hr, hrun, hended, hW, hsame⟩ := X0.leave (v := some (.int (0 : Int32))) (fun h => by rw [Bd.returns] at h; cases h) (hlocks := BodyLoose.notSynchronized Bd)
      refine ⟨_, _, pre21 _ ?_, hrun, hended, _, _, rfl, ?_, ⟨_, rfl⟩, hW, hsame.mono (by decide) (by decide)⟩
      · show Steps p.tables e below (s₁.setTop (mkF m 29 #[.val (.long q0), .second, .val (.long q1), .second, .val (.long (q0 ^^^ (-9223372036854775808 : Int64))), .second, .val (.long (q1 ^^^ (-9223372036854775808 : Int64))), .second] [(.int (lcmpW (q0 ^^^ (-9223372036854775808 : Int64)) (q1 ^^^ (-9223372036854775808 : Int64))))])) _
        refine XS.ifYes X0.here hx rfl (pc0 := 29) (pc' := 34) rfl (hb hby own_d5_29) rfl ((if0 _ _).trans (flt (fun q => hc29_22 (own_lcGt.mp q))).2.2.2) (by decide) (by decide) ?_
        show Steps p.tables e below (s₁.setTop (mkF m 34 #[.val (.long q0), .second, .val (.long q1), .second, .val (.long (q0 ^^^ (-9223372036854775808 : Int64))), .second, .val (.long (q1 ^^^ (-9223372036854775808 : Int64))), .second] [])) _
        refine XS.iconst X0.here hx rfl (hb hby own_d5_34) ?_
        show Steps p.tables e below (s₁.setTop (mkF m 35 #[.val (.long q0), .second, .val (.long q1), .second, .val (.long (q0 ^^^ (-9223372036854775808 : Int64))), .second, .val (.long (q1 ^^^ (-9223372036854775808 : Int64))), .second] [(.int (0 : Int32))])) _
        exact retI X0 hx Bd.returns (hb hby own_d5_35) hr
      · show Qown_ucmp Z q0 q1 h0 n0 _ s₁.heap _
        rw [e0]
        have hv : (own_ucmp_f q0 q1) = (0 : Int32) := by unfold own_ucmp_f; rw [if_neg hc19_14, if_neg hc29_22]
        exact ⟨(by rw [hv]), N0, rfl⟩
theorem own_ef_own_ref (m : MethodId) (q0 : Int64) (q1 : Int64) (q2 : Int64) (q3 : Int64) : entryFrame m #[(.long q0), (.long q1), (.long q2), (.long q3)] 9 = mkF m 0 #[.val (.long q0), .second, .val (.long q1), .second, .val (.long q2), .second, .val (.long q3), .second, .unset] [] := by first | (simp [entryFrame, mkF, argsToLocals, Value.category]; done) | rfl
theorem own_pd0 : parseMethodDescriptor "(JJ)I" = some ⟨[.long, .long], some .int⟩ := by decide +kernel
theorem own_d4_0 : decode method_4_code 0 = .ok (.lload_n 0, 1) := by decide +kernel
theorem own_d4_1 : decode method_4_code 1 = .ok (.lload 4, 2) := by decide +kernel
theorem own_d4_3 : decode method_4_code 3 = .ok (.invokestatic 28, 3) := by decide +kernel
theorem own_d4_6 : decode method_4_code 6 = .ok (.istore 8, 2) := by decide +kernel
theorem own_d4_8 : decode method_4_code 8 = .ok (.iload 8, 2) := by decide +kernel
theorem own_d4_10 : decode method_4_code 10 = .ok (.ifCond .eq 6, 3) := by decide +kernel
theorem own_d4_13 : decode method_4_code 13 = .ok (.iload 8, 2) := by decide +kernel
theorem own_d4_15 : decode method_4_code 15 = .ok (.ireturn, 1) := by decide +kernel
theorem own_d4_16 : decode method_4_code 16 = .ok (.lload_n 2, 1) := by decide +kernel
theorem own_d4_17 : decode method_4_code 17 = .ok (.lload 6, 2) := by decide +kernel
theorem own_d4_19 : decode method_4_code 19 = .ok (.invokestatic 28, 3) := by decide +kernel
theorem own_d4_22 : decode method_4_code 22 = .ok (.ireturn, 1) := by decide +kernel
def own_ref_f (q0 : Int64) (q1 : Int64) (q2 : Int64) (q3 : Int64) : Int32 := (if (own_ucmp_f q0 q2) = (0 : Int32) then (own_ucmp_f q1 q3) else (own_ucmp_f q0 q2))
def Qown_ref (Z : State) (q0 : Int64) (q1 : Int64) (q2 : Int64) (q3 : Int64) (h0 : Heap) (n0 : Nat) (v : Option Value) (h : Heap) (L : List Loc) : Prop := v = some (.int (own_ref_f q0 q1 q2 q3)) ∧ Fr n0 L ∧ h = h0
set_option maxRecDepth 65536 in
set_option maxHeartbeats 40000000 in
theorem own_ref (l : Launch) (Z : State) (a0 : Array Value) (hw : ∀ d ∈ tables_1, d.before a0 Z = true) (ws : List Jvm.Cond) (q0 : Int64) (q1 : Int64) (q2 : Int64) (q3 : Int64) (h0 : Heap) (n0 : Nat) (Z0 : n0 ≤ h0.size) :
    MetFree l (⟨"com/example/rosterhall/rosterhall/ResourceIdCompareToPinLaw", "ref", "(JJJJ)I"⟩ : MethodName) (head1 (Jvm.Cond.code (⟨"com/example/rosterhall/rosterhall/ResourceIdCompareToPinLaw", "ref", "(JJJJ)I"⟩ : MethodName) method_4_code 9 (some .int) :: ws) ({ frames := 1, cells := 0, slots := 0, locals := 19 } : Room)) (fun a U => a = #[(.long q0), (.long q1), (.long q2), (.long q3)] ∧ Z.Warmed39 U.vm ∧ U.heap = h0) (fun _ _ _ _ _ => True) (fun _ U o U' => ∃ v L, o = .returned v ∧ Qown_ref Z q0 q1 q2 q3 h0 n0 v U'.heap L ∧ FrameEnd U o U' L ({ frames := 1, cells := 0, slots := 0, locals := 19 } : Room).cells ({ frames := 1, cells := 0, slots := 0, locals := 19 } : Room).slots) := by
  refine MetFree.of_bodySF (plainFor_of_name own_pn0) hisR ?_
  intro p e s m args below meth c s₁ Bd hml0 hP hK
  obtain ⟨rfl, hZ, hh⟩ := hP
  have hx := Bd.exec
  have hby := Bd.bytes
  have hml : c.maxLocals = 9 := hml0
  have hown : s.vm.findClass "com/example/rosterhall/rosterhall/ResourceIdCompareToPinLaw" = some m.cls := findClass_of_methodNamed Bd.named
  have hnm := (name_of_methodNamed Bd.named Bd.method).1
  have X0 : Stand p l e ({ frames := 1, cells := 0, slots := 0, locals := 19 } : Room) s m #[(.long q0), (.long q1), (.long q2), (.long q3)] below meth c s₁ [] 0 0 := Stand.of_body Bd
  have e0 : s₁.heap = h0 := by rw [← hh, Bd.state]; rfl
  have N0 := Fr.nil n0
  have pre0 : ∀ t, Steps p.tables e below (s₁.setTop (mkF m 0 #[.val (.long q0), .second, .val (.long q1), .second, .val (.long q2), .second, .val (.long q3), .second, .unset] [])) t → Steps p.tables e below (s₁.setTop (entryFrame m #[(.long q0), (.long q1), (.long q2), (.long q3)] 9)) t := fun t k => castTop (own_ef_own_ref m q0 q1 q2 q3) k
  obtain ⟨_, _, ⟨T4, L4, k4, n4⟩, -, X4, ⟨Lc4, hQ4, l4, y4, z4⟩, st4⟩ := Jvm.LawKit.callS X0 hx (y := (⟨"com/example/rosterhall/rosterhall/ResourceIdCompareToPinLaw", "ucmp", "(JJ)I"⟩ : MethodName)) hown (mvT hZ (hw _ (List.mem_of_getElem? (i := 22) rfl))) (mvT hZ (hw _ (List.mem_of_getElem? (i := 23) rfl))) (mvT hZ (hw _ (List.mem_of_getElem? (i := 20) rfl))) (mvT hZ (hw _ (List.mem_of_getElem? (i := 24) rfl))) (by decide) (backOf (W := 0) (own_ucmp l Z a0 hw [] q0 q2 h0 n0 Z0 ) hZ (hw _ (List.mem_of_getElem? (i := 24) rfl)) (hw _ (List.mem_of_getElem? (i := 20) rfl)) (by decide) (by decide)) (g := (mkF m 3 #[.val (.long q0), .second, .val (.long q1), .second, .val (.long q2), .second, .val (.long q3), .second, .unset] [(.long q2), (.long q0)])) rfl (by rw [hml]; rfl) (argsL := [(.long q0), (.long q2)]) (rest := []) (lenOf own_pd0 rfl) rfl (by show 2 * 0 + _ ≤ _; exact Nat.le_of_eq rfl) (hb hby own_d4_3) (fun _ _ => ⟨rfl, e0, (by decide : 0 + 0 ≤ _), (by decide : 0 + 0 ≤ _)⟩)
  dsimp only [Pt.U, Pt.locs, Pt.cells, Pt.slots] at X4 l4 y4 z4 st4 hQ4
  subst l4 y4 z4
  obtain ⟨rfl, Nq4, eh4⟩ := hQ4
  have N5 := Fr.app N0 Nq4
  have pre9 : ∀ t, Steps p.tables e below (T4.setTop (mkF m 10 #[.val (.long q0), .second, .val (.long q1), .second, .val (.long q2), .second, .val (.long q3), .second, .val (.int (own_ucmp_f q0 q2))] [(.int (own_ucmp_f q0 q2))])) t → Steps p.tables e below (s₁.setTop (entryFrame m #[(.long q0), (.long q1), (.long q2), (.long q3)] 9)) t := by
    intro t kt
    refine pre0 _ ?_
    show Steps p.tables e below (s₁.setTop (mkF m 0 #[.val (.long q0), .second, .val (.long q1), .second, .val (.long q2), .second, .val (.long q3), .second, .unset] [])) _
    refine XS.lloadN X0.here hx rfl (hb hby own_d4_0) rfl ?_
    show Steps p.tables e below (s₁.setTop (mkF m 1 #[.val (.long q0), .second, .val (.long q1), .second, .val (.long q2), .second, .val (.long q3), .second, .unset] [(.long q0)])) _
    refine XS.lload X0.here hx rfl (hb hby own_d4_1) rfl ?_
    show Steps p.tables e below (s₁.setTop (mkF m 3 #[.val (.long q0), .second, .val (.long q1), .second, .val (.long q2), .second, .val (.long q3), .second, .unset] [(.long q2), (.long q0)])) _
    refine st4 _ ?_
    show Steps p.tables e below (T4.setTop (mkF m 6 #[.val (.long q0), .second, .val (.long q1), .second, .val (.long q2), .second, .val (.long q3), .second, .unset] [(.int (own_ucmp_f q0 q2))])) _
    refine XS.istore X4.here hx rfl (hb hby own_d4_6) rfl (l' := #[.val (.long q0), .second, .val (.long q1), .second, .val (.long q2), .second, .val (.long q3), .second, .val (.int (own_ucmp_f q0 q2))]) rfl ?_
    show Steps p.tables e below (T4.setTop (mkF m 8 #[.val (.long q0), .second, .val (.long q1), .second, .val (.long q2), .second, .val (.long q3), .second, .val (.int (own_ucmp_f q0 q2))] [])) _
    refine XS.iload X4.here hx rfl (hb hby own_d4_8) rfl ?_
    exact kt
  by_cases hc10_10 : (own_ucmp_f q0 q2) = (0 : Int32)
  · obtain ⟨_, _, ⟨T14, L14, k14, n14⟩, -, X14, ⟨Lc14, hQ14, l14, y14, z14⟩, st14⟩ := Jvm.LawKit.callS X4 hx (y := (⟨"com/example/rosterhall/rosterhall/ResourceIdCompareToPinLaw", "ucmp", "(JJ)I"⟩ : MethodName)) hown (mvT hZ (hw _ (List.mem_of_getElem? (i := 22) rfl))) (mvT hZ (hw _ (List.mem_of_getElem? (i := 23) rfl))) (mvT hZ (hw _ (List.mem_of_getElem? (i := 20) rfl))) (mvT hZ (hw _ (List.mem_of_getElem? (i := 24) rfl))) (by decide) (backOf (W := 0) (own_ucmp l Z a0 hw [] q1 q3 h0 n0 Z0 ) hZ (hw _ (List.mem_of_getElem? (i := 24) rfl)) (hw _ (List.mem_of_getElem? (i := 20) rfl)) (by decide) (by decide)) (g := (mkF m 19 #[.val (.long q0), .second, .val (.long q1), .second, .val (.long q2), .second, .val (.long q3), .second, .val (.int (own_ucmp_f q0 q2))] [(.long q3), (.long q1)])) rfl (by rw [hml]; rfl) (argsL := [(.long q1), (.long q3)]) (rest := []) (lenOf own_pd0 rfl) rfl (by show 2 * 0 + _ ≤ _; exact Nat.le_of_eq rfl) (hb hby own_d4_19) (fun _ _ => ⟨rfl, eh4, (by decide : 0 + 0 ≤ _), (by decide : 0 + 0 ≤ _)⟩)
    dsimp only [Pt.U, Pt.locs, Pt.cells, Pt.slots] at X14 l14 y14 z14 st14 hQ14
    subst l14 y14 z14
    obtain ⟨rfl, Nq14, eh14⟩ := hQ14
    have N15 := Fr.app N5 Nq14
    obtain ⟨fs, hr, hrun, hended, hW, hsame⟩ := X14.leave (v := some (.int (own_ucmp_f q1 q3))) (fun h => by rw [Bd.returns] at h; cases h) (hlocks := BodyLoose.notSynchronized Bd)
    refine ⟨_, _, pre9 _ ?_, hrun, hended, _, _, rfl, ?_, ⟨_, rfl⟩, hW, hsame.mono (by decide) (by decide)⟩
    · show Steps p.tables e below (T4.setTop (mkF m 10 #[.val (.long q0), .second, .val (.long q1), .second, .val (.long q2), .second, .val (.long q3), .second, .val (.int (own_ucmp_f q0 q2))] [(.int (own_ucmp_f q0 q2))])) _
      refine XS.ifYes X4.here hx rfl (pc0 := 10) (pc' := 16) rfl (hb hby own_d4_10) rfl ((if0 _ _).trans (teq hc10_10).1) (by decide) (by decide) ?_
      show Steps p.tables e below (T4.setTop (mkF m 16 #[.val (.long q0), .second, .val (.long q1), .second, .val (.long q2), .second, .val (.long q3), .second, .val (.int (own_ucmp_f q0 q2))] [])) _
      refine XS.lloadN X4.here hx rfl (hb hby own_d4_16) rfl ?_
      show Steps p.tables e below (T4.setTop (mkF m 17 #[.val (.long q0), .second, .val (.long q1), .second, .val (.long q2), .second, .val (.long q3), .second, .val (.int (own_ucmp_f q0 q2))] [(.long q1)])) _
      refine XS.lload X4.here hx rfl (hb hby own_d4_17) rfl ?_
      show Steps p.tables e below (T4.setTop (mkF m 19 #[.val (.long q0), .second, .val (.long q1), .second, .val (.long q2), .second, .val (.long q3), .second, .val (.int (own_ucmp_f q0 q2))] [(.long q3), (.long q1)])) _
      refine st14 _ ?_
      show Steps p.tables e below (T14.setTop (mkF m 22 #[.val (.long q0), .second, .val (.long q1), .second, .val (.long q2), .second, .val (.long q3), .second, .val (.int (own_ucmp_f q0 q2))] [(.int (own_ucmp_f q1 q3))])) _
      exact retI X14 hx Bd.returns (hb hby own_d4_22) hr
    · show Qown_ref Z q0 q1 q2 q3 h0 n0 _ T14.heap _
      rw [eh14]
      have hv : (own_ref_f q0 q1 q2 q3) = (own_ucmp_f q1 q3) := by unfold own_ref_f; rw [if_pos hc10_10]
      exact ⟨(by rw [hv]), N15, rfl⟩
  · obtain ⟨fs, hr, hrun, hended, hW, hsame⟩ := X4.leave (v := some (.int (own_ucmp_f q0 q2))) (fun h => by rw [Bd.returns] at h; cases h) (hlocks := BodyLoose.notSynchronized Bd)
    refine ⟨_, _, pre9 _ ?_, hrun, hended, _, _, rfl, ?_, ⟨_, rfl⟩, hW, hsame.mono (by decide) (by decide)⟩
    · show Steps p.tables e below (T4.setTop (mkF m 10 #[.val (.long q0), .second, .val (.long q1), .second, .val (.long q2), .second, .val (.long q3), .second, .val (.int (own_ucmp_f q0 q2))] [(.int (own_ucmp_f q0 q2))])) _
      refine XS.ifNo X4.here hx rfl (hb hby own_d4_10) rfl ((if0 _ _).trans (feq hc10_10).1) ?_
      show Steps p.tables e below (T4.setTop (mkF m 13 #[.val (.long q0), .second, .val (.long q1), .second, .val (.long q2), .second, .val (.long q3), .second, .val (.int (own_ucmp_f q0 q2))] [])) _
      refine XS.iload X4.here hx rfl (hb hby own_d4_13) rfl ?_
      show Steps p.tables e below (T4.setTop (mkF m 15 #[.val (.long q0), .second, .val (.long q1), .second, .val (.long q2), .second, .val (.long q3), .second, .val (.int (own_ucmp_f q0 q2))] [(.int (own_ucmp_f q0 q2))])) _
      exact retI X4 hx Bd.returns (hb hby own_d4_15) hr
    · show Qown_ref Z q0 q1 q2 q3 h0 n0 _ T4.heap _
      rw [eh4]
      have hv : (own_ref_f q0 q1 q2 q3) = (own_ucmp_f q0 q2) := by unfold own_ref_f; rw [if_neg hc10_10]
      exact ⟨(by rw [hv]), N5, rfl⟩
theorem own_ef_own_sign (m : MethodId) (p0 : Int32) : entryFrame m #[(.int p0)] 1 = mkF m 0 #[.val (.int p0)] [] := by first | (simp [entryFrame, mkF, argsToLocals, Value.category]; done) | rfl
theorem own_d9_0 : decode method_5_code 0 = .ok (.iload_n 0, 1) := by decide +kernel
theorem own_d9_1 : decode method_5_code 1 = .ok (.ifCond .ge 5, 3) := by decide +kernel
theorem own_d9_4 : decode method_5_code 4 = .ok (.iconst (-1), 1) := by decide +kernel
theorem own_d9_5 : decode method_5_code 5 = .ok (.ireturn, 1) := by decide +kernel
theorem own_d9_6 : decode method_5_code 6 = .ok (.iload_n 0, 1) := by decide +kernel
theorem own_d9_7 : decode method_5_code 7 = .ok (.ifCond .le 5, 3) := by decide +kernel
theorem own_d9_10 : decode method_5_code 10 = .ok (.iconst 1, 1) := by decide +kernel
theorem own_d9_11 : decode method_5_code 11 = .ok (.ireturn, 1) := by decide +kernel
theorem own_d9_12 : decode method_5_code 12 = .ok (.iconst 0, 1) := by decide +kernel
theorem own_d9_13 : decode method_5_code 13 = .ok (.ireturn, 1) := by decide +kernel
def own_sign_f (p0 : Int32) : Int32 := (if p0 < (0 : Int32) then (-1 : Int32) else (if (0 : Int32) < p0 then (1 : Int32) else (0 : Int32)))
def Qown_sign (Z : State) (p0 : Int32) (h0 : Heap) (n0 : Nat) (v : Option Value) (h : Heap) (L : List Loc) : Prop := v = some (.int (own_sign_f p0)) ∧ Fr n0 L ∧ h = h0
set_option maxRecDepth 65536 in
set_option maxHeartbeats 40000000 in
theorem own_sign (l : Launch) (Z : State) (a0 : Array Value) (hw : ∀ d ∈ tables_1, d.before a0 Z = true) (ws : List Jvm.Cond) (p0 : Int32) (h0 : Heap) (n0 : Nat) (Z0 : n0 ≤ h0.size) :
    MetFree l (⟨"com/example/rosterhall/rosterhall/ResourceIdCompareToPinLaw", "sign", "(I)I"⟩ : MethodName) (head1 (Jvm.Cond.code (⟨"com/example/rosterhall/rosterhall/ResourceIdCompareToPinLaw", "sign", "(I)I"⟩ : MethodName) method_5_code 1 (some .int) :: ws) ({ frames := 0, cells := 0, slots := 0, locals := 0 } : Room)) (fun a U => a = #[(.int p0)] ∧ Z.Warmed39 U.vm ∧ U.heap = h0) (fun _ _ _ _ _ => True) (fun _ U o U' => ∃ v L, o = .returned v ∧ Qown_sign Z p0 h0 n0 v U'.heap L ∧ FrameEnd U o U' L ({ frames := 0, cells := 0, slots := 0, locals := 0 } : Room).cells ({ frames := 0, cells := 0, slots := 0, locals := 0 } : Room).slots) := by
  refine MetFree.of_bodySF (plainFor_of_name own_pn0) hisR ?_
  intro p e s m args below meth c s₁ Bd hml0 hP hK
  obtain ⟨rfl, hZ, hh⟩ := hP
  have hx := Bd.exec
  have hby := Bd.bytes
  have hml : c.maxLocals = 1 := hml0
  have hown : s.vm.findClass "com/example/rosterhall/rosterhall/ResourceIdCompareToPinLaw" = some m.cls := findClass_of_methodNamed Bd.named
  have hnm := (name_of_methodNamed Bd.named Bd.method).1
  have X0 : Stand p l e ({ frames := 0, cells := 0, slots := 0, locals := 0 } : Room) s m #[(.int p0)] below meth c s₁ [] 0 0 := Stand.of_body Bd
  have e0 : s₁.heap = h0 := by rw [← hh, Bd.state]; rfl
  have N0 := Fr.nil n0
  have pre0 : ∀ t, Steps p.tables e below (s₁.setTop (mkF m 0 #[.val (.int p0)] [])) t → Steps p.tables e below (s₁.setTop (entryFrame m #[(.int p0)] 1)) t := fun t k => castTop (own_ef_own_sign m p0) k
  have pre3 : ∀ t, Steps p.tables e below (s₁.setTop (mkF m 1 #[.val (.int p0)] [(.int p0)])) t → Steps p.tables e below (s₁.setTop (entryFrame m #[(.int p0)] 1)) t := by
    intro t kt
    refine pre0 _ ?_
    show Steps p.tables e below (s₁.setTop (mkF m 0 #[.val (.int p0)] [])) _
    refine XS.iloadN X0.here hx rfl (hb hby own_d9_0) rfl ?_
    exact kt
  by_cases hc1_4 : p0 < (0 : Int32)
  · obtain ⟨fs, hr, hrun, hended, hW, hsame⟩ := X0.leave (v := some (.int (-1 : Int32))) (fun h => by rw [Bd.returns] at h; cases h) (hlocks := BodyLoose.notSynchronized Bd)
    refine ⟨_, _, pre3 _ ?_, hrun, hended, _, _, rfl, ?_, ⟨_, rfl⟩, hW, hsame.mono (by decide) (by decide)⟩
    · show Steps p.tables e below (s₁.setTop (mkF m 1 #[.val (.int p0)] [(.int p0)])) _
      refine XS.ifNo X0.here hx rfl (hb hby own_d9_1) rfl ((if0 _ _).trans (tlt hc1_4).2.1) ?_
      show Steps p.tables e below (s₁.setTop (mkF m 4 #[.val (.int p0)] [])) _
      refine XS.iconst X0.here hx rfl (hb hby own_d9_4) ?_
      show Steps p.tables e below (s₁.setTop (mkF m 5 #[.val (.int p0)] [(.int (-1 : Int32))])) _
      exact retI X0 hx Bd.returns (hb hby own_d9_5) hr
    · show Qown_sign Z p0 h0 n0 _ s₁.heap _
      rw [e0]
      have hv : (own_sign_f p0) = (-1 : Int32) := by unfold own_sign_f; rw [if_pos hc1_4]
      exact ⟨(by rw [hv]), N0, rfl⟩
  · have pre9 : ∀ t, Steps p.tables e below (s₁.setTop (mkF m 7 #[.val (.int p0)] [(.int p0)])) t → Steps p.tables e below (s₁.setTop (entryFrame m #[(.int p0)] 1)) t := by
      intro t kt
      refine pre3 _ ?_
      show Steps p.tables e below (s₁.setTop (mkF m 1 #[.val (.int p0)] [(.int p0)])) _
      refine XS.ifYes X0.here hx rfl (pc0 := 1) (pc' := 6) rfl (hb hby own_d9_1) rfl ((if0 _ _).trans (flt hc1_4).2.1) (by decide) (by decide) ?_
      show Steps p.tables e below (s₁.setTop (mkF m 6 #[.val (.int p0)] [])) _
      refine XS.iloadN X0.here hx rfl (hb hby own_d9_6) rfl ?_
      exact kt
    by_cases hc7_10 : (0 : Int32) < p0
    · obtain ⟨fs, hr, hrun, hended, hW, hsame⟩ := X0.leave (v := some (.int (1 : Int32))) (fun h => by rw [Bd.returns] at h; cases h) (hlocks := BodyLoose.notSynchronized Bd)
      refine ⟨_, _, pre9 _ ?_, hrun, hended, _, _, rfl, ?_, ⟨_, rfl⟩, hW, hsame.mono (by decide) (by decide)⟩
      · show Steps p.tables e below (s₁.setTop (mkF m 7 #[.val (.int p0)] [(.int p0)])) _
        refine XS.ifNo X0.here hx rfl (hb hby own_d9_7) rfl ((if0 _ _).trans (tlt hc7_10).2.2.2) ?_
        show Steps p.tables e below (s₁.setTop (mkF m 10 #[.val (.int p0)] [])) _
        refine XS.iconst X0.here hx rfl (hb hby own_d9_10) ?_
        show Steps p.tables e below (s₁.setTop (mkF m 11 #[.val (.int p0)] [(.int (1 : Int32))])) _
        exact retI X0 hx Bd.returns (hb hby own_d9_11) hr
      · show Qown_sign Z p0 h0 n0 _ s₁.heap _
        rw [e0]
        have hv : (own_sign_f p0) = (1 : Int32) := by unfold own_sign_f; rw [if_neg hc1_4, if_pos hc7_10]
        exact ⟨(by rw [hv]), N0, rfl⟩
    · obtain ⟨fs, hr, hrun, hended, hW, hsame⟩ := X0.leave (v := some (.int (0 : Int32))) (fun h => by rw [Bd.returns] at h; cases h) (hlocks := BodyLoose.notSynchronized Bd)
      refine ⟨_, _, pre9 _ ?_, hrun, hended, _, _, rfl, ?_, ⟨_, rfl⟩, hW, hsame.mono (by decide) (by decide)⟩
      · show Steps p.tables e below (s₁.setTop (mkF m 7 #[.val (.int p0)] [(.int p0)])) _
        refine XS.ifYes X0.here hx rfl (pc0 := 7) (pc' := 12) rfl (hb hby own_d9_7) rfl ((if0 _ _).trans (flt hc7_10).2.2.2) (by decide) (by decide) ?_
        show Steps p.tables e below (s₁.setTop (mkF m 12 #[.val (.int p0)] [])) _
        refine XS.iconst X0.here hx rfl (hb hby own_d9_12) ?_
        show Steps p.tables e below (s₁.setTop (mkF m 13 #[.val (.int p0)] [(.int (0 : Int32))])) _
        exact retI X0 hx Bd.returns (hb hby own_d9_13) hr
      · show Qown_sign Z p0 h0 n0 _ s₁.heap _
        rw [e0]
        have hv : (own_sign_f p0) = (0 : Int32) := by unfold own_sign_f; rw [if_neg hc1_4, if_neg hc7_10]
        exact ⟨(by rw [hv]), N0, rfl⟩
theorem own_pn1 : plainName "java/lang/Long" = true := by first | (simp [plainName, overriddenIn]; done) | decide +kernel
theorem own_ef_own_cmp (m : MethodId) (q0 : Int64) (q1 : Int64) : entryFrame m #[(.long q0), (.long q1)] 4 = mkF m 0 #[.val (.long q0), .second, .val (.long q1), .second] [] := by first | (simp [entryFrame, mkF, argsToLocals, Value.category]; done) | rfl
theorem own_d8_0 : decode jdk_35_method_42_code 0 = .ok (.lload_n 0, 1) := by decide +kernel
theorem own_d8_1 : decode jdk_35_method_42_code 1 = .ok (.lload_n 2, 1) := by decide +kernel
theorem own_d8_2 : decode jdk_35_method_42_code 2 = .ok (.lcmp, 1) := by decide +kernel
theorem own_d8_3 : decode jdk_35_method_42_code 3 = .ok (.ifCond .ge 7, 3) := by decide +kernel
theorem own_d8_6 : decode jdk_35_method_42_code 6 = .ok (.iconst (-1), 1) := by decide +kernel
theorem own_d8_7 : decode jdk_35_method_42_code 7 = .ok (.goto 14, 3) := by decide +kernel
theorem own_d8_10 : decode jdk_35_method_42_code 10 = .ok (.lload_n 0, 1) := by decide +kernel
theorem own_d8_11 : decode jdk_35_method_42_code 11 = .ok (.lload_n 2, 1) := by decide +kernel
theorem own_d8_12 : decode jdk_35_method_42_code 12 = .ok (.lcmp, 1) := by decide +kernel
theorem own_d8_13 : decode jdk_35_method_42_code 13 = .ok (.ifCond .ne 7, 3) := by decide +kernel
theorem own_d8_16 : decode jdk_35_method_42_code 16 = .ok (.iconst 0, 1) := by decide +kernel
theorem own_d8_17 : decode jdk_35_method_42_code 17 = .ok (.goto 4, 3) := by decide +kernel
theorem own_d8_20 : decode jdk_35_method_42_code 20 = .ok (.iconst 1, 1) := by decide +kernel
theorem own_d8_21 : decode jdk_35_method_42_code 21 = .ok (.ireturn, 1) := by decide +kernel
def own_cmp_f (q0 : Int64) (q1 : Int64) : Int32 := (if q0 < q1 then (-1 : Int32) else (if q0 = q1 then (0 : Int32) else (1 : Int32)))
def Qown_cmp (Z : State) (q0 : Int64) (q1 : Int64) (h0 : Heap) (n0 : Nat) (v : Option Value) (h : Heap) (L : List Loc) : Prop := v = some (.int (own_cmp_f q0 q1)) ∧ Fr n0 L ∧ h = h0
set_option maxRecDepth 65536 in
set_option maxHeartbeats 40000000 in
theorem own_cmp (l : Launch) (Z : State) (a0 : Array Value) (hw : ∀ d ∈ tables_1, d.before a0 Z = true) (ws : List Jvm.Cond) (q0 : Int64) (q1 : Int64) (h0 : Heap) (n0 : Nat) (Z0 : n0 ≤ h0.size) :
    MetFree l (⟨"java/lang/Long", "compare", "(JJ)I"⟩ : MethodName) (head1 (Jvm.Cond.code (⟨"java/lang/Long", "compare", "(JJ)I"⟩ : MethodName) jdk_35_method_42_code 4 (some .int) :: ws) ({ frames := 0, cells := 0, slots := 0, locals := 0 } : Room)) (fun a U => a = #[(.long q0), (.long q1)] ∧ Z.Warmed39 U.vm ∧ U.heap = h0) (fun _ _ _ _ _ => True) (fun _ U o U' => ∃ v L, o = .returned v ∧ Qown_cmp Z q0 q1 h0 n0 v U'.heap L ∧ FrameEnd U o U' L ({ frames := 0, cells := 0, slots := 0, locals := 0 } : Room).cells ({ frames := 0, cells := 0, slots := 0, locals := 0 } : Room).slots) := by
  refine MetFree.of_bodySF (plainFor_of_name own_pn1) hisR ?_
  intro p e s m args below meth c s₁ Bd hml0 hP hK
  obtain ⟨rfl, hZ, hh⟩ := hP
  have hx := Bd.exec
  have hby := Bd.bytes
  have hml : c.maxLocals = 4 := hml0
  have hown : s.vm.findClass "java/lang/Long" = some m.cls := findClass_of_methodNamed Bd.named
  have hnm := (name_of_methodNamed Bd.named Bd.method).1
  have X0 : Stand p l e ({ frames := 0, cells := 0, slots := 0, locals := 0 } : Room) s m #[(.long q0), (.long q1)] below meth c s₁ [] 0 0 := Stand.of_body Bd
  have e0 : s₁.heap = h0 := by rw [← hh, Bd.state]; rfl
  have N0 := Fr.nil n0
  have pre0 : ∀ t, Steps p.tables e below (s₁.setTop (mkF m 0 #[.val (.long q0), .second, .val (.long q1), .second] [])) t → Steps p.tables e below (s₁.setTop (entryFrame m #[(.long q0), (.long q1)] 4)) t := fun t k => castTop (own_ef_own_cmp m q0 q1) k
  have pre5 : ∀ t, Steps p.tables e below (s₁.setTop (mkF m 3 #[.val (.long q0), .second, .val (.long q1), .second] [(.int (lcmpW q0 q1))])) t → Steps p.tables e below (s₁.setTop (entryFrame m #[(.long q0), (.long q1)] 4)) t := by
    intro t kt
    refine pre0 _ ?_
    show Steps p.tables e below (s₁.setTop (mkF m 0 #[.val (.long q0), .second, .val (.long q1), .second] [])) _
    refine XS.lloadN X0.here hx rfl (hb hby own_d8_0) rfl ?_
    show Steps p.tables e below (s₁.setTop (mkF m 1 #[.val (.long q0), .second, .val (.long q1), .second] [(.long q0)])) _
    refine XS.lloadN X0.here hx rfl (hb hby own_d8_1) rfl ?_
    show Steps p.tables e below (s₁.setTop (mkF m 2 #[.val (.long q0), .second, .val (.long q1), .second] [(.long q1), (.long q0)])) _
    refine XS.lcmp X0.here hx rfl (hb hby own_d8_2) rfl ?_
    exact kt
  by_cases hc3_6 : q0 < q1
  · obtain ⟨fs, hr, hrun, hended, hW, hsame⟩ := X0.leave (v := some (.int (-1 : Int32))) (fun h => by rw [Bd.returns] at h; cases h) (hlocks := BodyLoose.notSynchronized Bd)
    refine ⟨_, _, pre5 _ ?_, hrun, hended, _, _, rfl, ?_, ⟨_, rfl⟩, hW, hsame.mono (by decide) (by decide)⟩
    · show Steps p.tables e below (s₁.setTop (mkF m 3 #[.val (.long q0), .second, .val (.long q1), .second] [(.int (lcmpW q0 q1))])) _
      refine XS.ifNo X0.here hx rfl (hb hby own_d8_3) rfl ((if0 _ _).trans (tlt (own_lcLt.mpr hc3_6)).2.1) ?_
      show Steps p.tables e below (s₁.setTop (mkF m 6 #[.val (.long q0), .second, .val (.long q1), .second] [])) _
      refine XS.iconst X0.here hx rfl (hb hby own_d8_6) ?_
      show Steps p.tables e below (s₁.setTop (mkF m 7 #[.val (.long q0), .second, .val (.long q1), .second] [(.int (-1 : Int32))])) _
      refine XS.goto X0.here hx rfl (pc0 := 7) (pc' := 21) rfl (hb hby own_d8_7) (by decide) (by decide) ?_
      show Steps p.tables e below (s₁.setTop (mkF m 21 #[.val (.long q0), .second, .val (.long q1), .second] [(.int (-1 : Int32))])) _
      exact retI X0 hx Bd.returns (hb hby own_d8_21) hr
    · show Qown_cmp Z q0 q1 h0 n0 _ s₁.heap _
      rw [e0]
      have hv : (own_cmp_f q0 q1) = (-1 : Int32) := by unfold own_cmp_f; rw [if_pos hc3_6]
      exact ⟨(by rw [hv]), N0, rfl⟩
  · have pre14 : ∀ t, Steps p.tables e below (s₁.setTop (mkF m 13 #[.val (.long q0), .second, .val (.long q1), .second] [(.int (lcmpW q0 q1))])) t → Steps p.tables e below (s₁.setTop (entryFrame m #[(.long q0), (.long q1)] 4)) t := by
      intro t kt
      refine pre5 _ ?_
      show Steps p.tables e below (s₁.setTop (mkF m 3 #[.val (.long q0), .second, .val (.long q1), .second] [(.int (lcmpW q0 q1))])) _
      refine XS.ifYes X0.here hx rfl (pc0 := 3) (pc' := 10) rfl (hb hby own_d8_3) rfl ((if0 _ _).trans (flt (fun q => hc3_6 (own_lcLt.mp q))).2.1) (by decide) (by decide) ?_
      show Steps p.tables e below (s₁.setTop (mkF m 10 #[.val (.long q0), .second, .val (.long q1), .second] [])) _
      refine XS.lloadN X0.here hx rfl (hb hby own_d8_10) rfl ?_
      show Steps p.tables e below (s₁.setTop (mkF m 11 #[.val (.long q0), .second, .val (.long q1), .second] [(.long q0)])) _
      refine XS.lloadN X0.here hx rfl (hb hby own_d8_11) rfl ?_
      show Steps p.tables e below (s₁.setTop (mkF m 12 #[.val (.long q0), .second, .val (.long q1), .second] [(.long q1), (.long q0)])) _
      refine XS.lcmp X0.here hx rfl (hb hby own_d8_12) rfl ?_
      exact kt
    by_cases hc13_15 : q0 = q1
    · obtain ⟨fs, hr, hrun, hended, hW, hsame⟩ := X0.leave (v := some (.int (0 : Int32))) (fun h => by rw [Bd.returns] at h; cases h) (hlocks := BodyLoose.notSynchronized Bd)
      refine ⟨_, _, pre14 _ ?_, hrun, hended, _, _, rfl, ?_, ⟨_, rfl⟩, hW, hsame.mono (by decide) (by decide)⟩
      · show Steps p.tables e below (s₁.setTop (mkF m 13 #[.val (.long q0), .second, .val (.long q1), .second] [(.int (lcmpW q0 q1))])) _
        refine XS.ifNo X0.here hx rfl (hb hby own_d8_13) rfl ((if0 _ _).trans (teq (own_lcEq.mpr hc13_15)).2) ?_
        show Steps p.tables e below (s₁.setTop (mkF m 16 #[.val (.long q0), .second, .val (.long q1), .second] [])) _
        refine XS.iconst X0.here hx rfl (hb hby own_d8_16) ?_
        show Steps p.tables e below (s₁.setTop (mkF m 17 #[.val (.long q0), .second, .val (.long q1), .second] [(.int (0 : Int32))])) _
        refine XS.goto X0.here hx rfl (pc0 := 17) (pc' := 21) rfl (hb hby own_d8_17) (by decide) (by decide) ?_
        show Steps p.tables e below (s₁.setTop (mkF m 21 #[.val (.long q0), .second, .val (.long q1), .second] [(.int (0 : Int32))])) _
        exact retI X0 hx Bd.returns (hb hby own_d8_21) hr
      · show Qown_cmp Z q0 q1 h0 n0 _ s₁.heap _
        rw [e0]
        have hv : (own_cmp_f q0 q1) = (0 : Int32) := by unfold own_cmp_f; rw [if_neg hc3_6, if_pos hc13_15]
        exact ⟨(by rw [hv]), N0, rfl⟩
    · obtain ⟨fs, hr, hrun, hended, hW, hsame⟩ := X0.leave (v := some (.int (1 : Int32))) (fun h => by rw [Bd.returns] at h; cases h) (hlocks := BodyLoose.notSynchronized Bd)
      refine ⟨_, _, pre14 _ ?_, hrun, hended, _, _, rfl, ?_, ⟨_, rfl⟩, hW, hsame.mono (by decide) (by decide)⟩
      · show Steps p.tables e below (s₁.setTop (mkF m 13 #[.val (.long q0), .second, .val (.long q1), .second] [(.int (lcmpW q0 q1))])) _
        refine XS.ifYes X0.here hx rfl (pc0 := 13) (pc' := 20) rfl (hb hby own_d8_13) rfl ((if0 _ _).trans (feq (fun q => hc13_15 (own_lcEq.mp q))).2) (by decide) (by decide) ?_
        show Steps p.tables e below (s₁.setTop (mkF m 20 #[.val (.long q0), .second, .val (.long q1), .second] [])) _
        refine XS.iconst X0.here hx rfl (hb hby own_d8_20) ?_
        show Steps p.tables e below (s₁.setTop (mkF m 21 #[.val (.long q0), .second, .val (.long q1), .second] [(.int (1 : Int32))])) _
        exact retI X0 hx Bd.returns (hb hby own_d8_21) hr
      · show Qown_cmp Z q0 q1 h0 n0 _ s₁.heap _
        rw [e0]
        have hv : (own_cmp_f q0 q1) = (1 : Int32) := by unfold own_cmp_f; rw [if_neg hc3_6, if_neg hc13_15]
        exact ⟨(by rw [hv]), N0, rfl⟩
theorem own_ef_own_cmpU (m : MethodId) (q0 : Int64) (q1 : Int64) : entryFrame m #[(.long q0), (.long q1)] 4 = mkF m 0 #[.val (.long q0), .second, .val (.long q1), .second] [] := by first | (simp [entryFrame, mkF, argsToLocals, Value.category]; done) | rfl
theorem own_d7_0 : decode jdk_35_method_43_code 0 = .ok (.lload_n 0, 1) := by decide +kernel
theorem own_d7_1 : decode jdk_35_method_43_code 1 = .ok (.ldc2_w 168, 3) := by decide +kernel
theorem own_d7_4 : decode jdk_35_method_43_code 4 = .ok (.ladd, 1) := by decide +kernel
theorem own_d7_5 : decode jdk_35_method_43_code 5 = .ok (.lload_n 2, 1) := by decide +kernel
theorem own_d7_6 : decode jdk_35_method_43_code 6 = .ok (.ldc2_w 168, 3) := by decide +kernel
theorem own_d7_9 : decode jdk_35_method_43_code 9 = .ok (.ladd, 1) := by decide +kernel
theorem own_d7_10 : decode jdk_35_method_43_code 10 = .ok (.invokestatic 302, 3) := by decide +kernel
theorem own_d7_13 : decode jdk_35_method_43_code 13 = .ok (.ireturn, 1) := by decide +kernel
def own_cmpU_f (q0 : Int64) (q1 : Int64) : Int32 := (own_cmp_f (q0 + (-9223372036854775808 : Int64)) (q1 + (-9223372036854775808 : Int64)))
def Qown_cmpU (Z : State) (q0 : Int64) (q1 : Int64) (h0 : Heap) (n0 : Nat) (v : Option Value) (h : Heap) (L : List Loc) : Prop := v = some (.int (own_cmpU_f q0 q1)) ∧ Fr n0 L ∧ h = h0
set_option maxRecDepth 65536 in
set_option maxHeartbeats 40000000 in
theorem own_cmpU (l : Launch) (Z : State) (a0 : Array Value) (hw : ∀ d ∈ tables_1, d.before a0 Z = true) (ws : List Jvm.Cond) (q0 : Int64) (q1 : Int64) (h0 : Heap) (n0 : Nat) (Z0 : n0 ≤ h0.size) :
    MetFree l (⟨"java/lang/Long", "compareUnsigned", "(JJ)I"⟩ : MethodName) (head1 (Jvm.Cond.code (⟨"java/lang/Long", "compareUnsigned", "(JJ)I"⟩ : MethodName) jdk_35_method_43_code 4 (some .int) :: ws) ({ frames := 1, cells := 0, slots := 0, locals := 15 } : Room)) (fun a U => a = #[(.long q0), (.long q1)] ∧ Z.Warmed39 U.vm ∧ U.heap = h0) (fun _ _ _ _ _ => True) (fun _ U o U' => ∃ v L, o = .returned v ∧ Qown_cmpU Z q0 q1 h0 n0 v U'.heap L ∧ FrameEnd U o U' L ({ frames := 1, cells := 0, slots := 0, locals := 15 } : Room).cells ({ frames := 1, cells := 0, slots := 0, locals := 15 } : Room).slots) := by
  refine MetFree.of_bodySF (plainFor_of_name own_pn1) hisR ?_
  intro p e s m args below meth c s₁ Bd hml0 hP hK
  obtain ⟨rfl, hZ, hh⟩ := hP
  have hx := Bd.exec
  have hby := Bd.bytes
  have hml : c.maxLocals = 4 := hml0
  have hown : s.vm.findClass "java/lang/Long" = some m.cls := findClass_of_methodNamed Bd.named
  have hnm := (name_of_methodNamed Bd.named Bd.method).1
  have X0 : Stand p l e ({ frames := 1, cells := 0, slots := 0, locals := 15 } : Room) s m #[(.long q0), (.long q1)] below meth c s₁ [] 0 0 := Stand.of_body Bd
  have e0 : s₁.heap = h0 := by rw [← hh, Bd.state]; rfl
  have N0 := Fr.nil n0
  have pre0 : ∀ t, Steps p.tables e below (s₁.setTop (mkF m 0 #[.val (.long q0), .second, .val (.long q1), .second] [])) t → Steps p.tables e below (s₁.setTop (entryFrame m #[(.long q0), (.long q1)] 4)) t := fun t k => castTop (own_ef_own_cmpU m q0 q1) k
  obtain ⟨_, _, ⟨T8, L8, k8, n8⟩, -, X8, ⟨Lc8, hQ8, l8, y8, z8⟩, st8⟩ := Jvm.LawKit.callS X0 hx (y := (⟨"java/lang/Long", "compare", "(JJ)I"⟩ : MethodName)) hown (mvT hZ (hw _ (List.mem_of_getElem? (i := 36) rfl))) (mvT hZ (hw _ (List.mem_of_getElem? (i := 37) rfl))) (mvT hZ (hw _ (List.mem_of_getElem? (i := 33) rfl))) (mvT hZ (hw _ (List.mem_of_getElem? (i := 38) rfl))) (by decide) (backOf (W := 0) (own_cmp l Z a0 hw [] (q0 + (-9223372036854775808 : Int64)) (q1 + (-9223372036854775808 : Int64)) h0 n0 Z0 ) hZ (hw _ (List.mem_of_getElem? (i := 38) rfl)) (hw _ (List.mem_of_getElem? (i := 33) rfl)) (by decide) (by decide)) (g := (mkF m 10 #[.val (.long q0), .second, .val (.long q1), .second] [(.long (q1 + (-9223372036854775808 : Int64))), (.long (q0 + (-9223372036854775808 : Int64)))])) rfl (by rw [hml]; rfl) (argsL := [(.long (q0 + (-9223372036854775808 : Int64))), (.long (q1 + (-9223372036854775808 : Int64)))]) (rest := []) (lenOf own_pd0 rfl) rfl (by show 2 * 0 + _ ≤ _; exact Nat.le_of_eq rfl) (hb hby own_d7_10) (fun _ _ => ⟨rfl, e0, (by decide : 0 + 0 ≤ _), (by decide : 0 + 0 ≤ _)⟩)
  dsimp only [Pt.U, Pt.locs, Pt.cells, Pt.slots] at X8 l8 y8 z8 st8 hQ8
  subst l8 y8 z8
  obtain ⟨rfl, Nq8, eh8⟩ := hQ8
  have N9 := Fr.app N0 Nq8
  obtain ⟨fs, hr, hrun, hended, hW, hsame⟩ := X8.leave (v := some (.int (own_cmp_f (q0 + (-9223372036854775808 : Int64)) (q1 + (-9223372036854775808 : Int64))))) (fun h => by rw [Bd.returns] at h; cases h) (hlocks := BodyLoose.notSynchronized Bd)
  refine ⟨_, _, pre0 _ ?_, hrun, hended, _, _, rfl, ?_, ⟨_, rfl⟩, hW, hsame.mono (by decide) (by decide)⟩
  · show Steps p.tables e below (s₁.setTop (mkF m 0 #[.val (.long q0), .second, .val (.long q1), .second] [])) _
    refine XS.lloadN X0.here hx rfl (hb hby own_d7_0) rfl ?_
    show Steps p.tables e below (s₁.setTop (mkF m 1 #[.val (.long q0), .second, .val (.long q1), .second] [(.long q0)])) _
    refine X0.ldc2Long hx hown (mvT hZ (hw _ (List.mem_of_getElem? (i := 35) rfl))) (g := (mkF m 1 #[.val (.long q0), .second, .val (.long q1), .second] [(.long q0)])) rfl (hb hby own_d7_1) _ ?_
    show Steps p.tables e below (s₁.setTop (mkF m 4 #[.val (.long q0), .second, .val (.long q1), .second] [(.long (-9223372036854775808 : Int64)), (.long q0)])) _
    refine XS.ladd X0.here hx rfl (hb hby own_d7_4) rfl ?_
    show Steps p.tables e below (s₁.setTop (mkF m 5 #[.val (.long q0), .second, .val (.long q1), .second] [(.long (q0 + (-9223372036854775808 : Int64)))])) _
    refine XS.lloadN X0.here hx rfl (hb hby own_d7_5) rfl ?_
    show Steps p.tables e below (s₁.setTop (mkF m 6 #[.val (.long q0), .second, .val (.long q1), .second] [(.long q1), (.long (q0 + (-9223372036854775808 : Int64)))])) _
    refine X0.ldc2Long hx hown (mvT hZ (hw _ (List.mem_of_getElem? (i := 35) rfl))) (g := (mkF m 6 #[.val (.long q0), .second, .val (.long q1), .second] [(.long q1), (.long (q0 + (-9223372036854775808 : Int64)))])) rfl (hb hby own_d7_6) _ ?_
    show Steps p.tables e below (s₁.setTop (mkF m 9 #[.val (.long q0), .second, .val (.long q1), .second] [(.long (-9223372036854775808 : Int64)), (.long q1), (.long (q0 + (-9223372036854775808 : Int64)))])) _
    refine XS.ladd X0.here hx rfl (hb hby own_d7_9) rfl ?_
    show Steps p.tables e below (s₁.setTop (mkF m 10 #[.val (.long q0), .second, .val (.long q1), .second] [(.long (q1 + (-9223372036854775808 : Int64))), (.long (q0 + (-9223372036854775808 : Int64)))])) _
    refine st8 _ ?_
    show Steps p.tables e below (T8.setTop (mkF m 13 #[.val (.long q0), .second, .val (.long q1), .second] [(.int (own_cmp_f (q0 + (-9223372036854775808 : Int64)) (q1 + (-9223372036854775808 : Int64))))])) _
    exact retI X8 hx Bd.returns (hb hby own_d7_13) hr
  · show Qown_cmpU Z q0 q1 h0 n0 _ T8.heap _
    rw [eh8]
    have hv : (own_cmpU_f q0 q1) = (own_cmp_f (q0 + (-9223372036854775808 : Int64)) (q1 + (-9223372036854775808 : Int64))) := by unfold own_cmpU_f; rfl
    exact ⟨(by rw [hv]), N9, rfl⟩
theorem own_pn2 : plainName "java/lang/Record" = true := by first | (simp [plainName, overriddenIn]; done) | decide +kernel
theorem own_ef_own_rec (m : MethodId) (a_o : Addr) : entryFrame m #[(.ref a_o)] 1 = mkF m 0 #[.val (.ref a_o)] [] := by first | (simp [entryFrame, mkF, argsToLocals, Value.category]; done) | rfl
theorem own_d2_0 : decode jdk_30_method_1_code 0 = .ok (.aload_n 0, 1) := by decide +kernel
theorem own_d2_1 : decode jdk_30_method_1_code 1 = .ok (.invokespecial 1, 3) := by decide +kernel
theorem own_d2_4 : decode jdk_30_method_1_code 4 = .ok (.return_, 1) := by decide +kernel
def Qown_rec (Z : State) (a_o : Addr) (h0 : Heap) (n0 : Nat) (v : Option Value) (h : Heap) (L : List Loc) : Prop := v = none ∧ Fr n0 L ∧ h = h0
set_option maxRecDepth 65536 in
set_option maxHeartbeats 40000000 in
theorem own_rec (l : Launch) (Z : State) (a0 : Array Value) (hw : ∀ d ∈ tables_1, d.before a0 Z = true) (ws : List Jvm.Cond) (a_o : Addr) (h0 : Heap) (n0 : Nat) (Z0 : n0 ≤ h0.size) :
    MetFree l (⟨"java/lang/Record", "<init>", "()V"⟩ : MethodName) (head1 (Jvm.Cond.code (⟨"java/lang/Record", "<init>", "()V"⟩ : MethodName) jdk_30_method_1_code 1 none :: ws) ({ frames := 1, cells := 0, slots := 0, locals := 12 } : Room)) (fun a U => a = #[(.ref a_o)] ∧ Z.Warmed39 U.vm ∧ U.heap = h0) (fun _ _ _ _ _ => True) (fun _ U o U' => ∃ v L, o = .returned v ∧ Qown_rec Z a_o h0 n0 v U'.heap L ∧ FrameEnd U o U' L ({ frames := 1, cells := 0, slots := 0, locals := 12 } : Room).cells ({ frames := 1, cells := 0, slots := 0, locals := 12 } : Room).slots) := by
  refine MetFree.of_bodySF (plainFor_of_name own_pn2) hisR ?_
  intro p e s m args below meth c s₁ Bd hml0 hP hK
  obtain ⟨rfl, hZ, hh⟩ := hP
  have hx := Bd.exec
  have hby := Bd.bytes
  have hml : c.maxLocals = 1 := hml0
  have hown : s.vm.findClass "java/lang/Record" = some m.cls := findClass_of_methodNamed Bd.named
  have hnm := (name_of_methodNamed Bd.named Bd.method).1
  have X0 : Stand p l e ({ frames := 1, cells := 0, slots := 0, locals := 12 } : Room) s m #[(.ref a_o)] below meth c s₁ [] 0 0 := Stand.of_body Bd
  have e0 : s₁.heap = h0 := by rw [← hh, Bd.state]; rfl
  have N0 := Fr.nil n0
  have pre0 : ∀ t, Steps p.tables e below (s₁.setTop (mkF m 0 #[.val (.ref a_o)] [])) t → Steps p.tables e below (s₁.setTop (entryFrame m #[(.ref a_o)] 1)) t := fun t k => castTop (own_ef_own_rec m a_o) k
  obtain ⟨T3, X3, e3, st3⟩ := initO X0 hx hZ hown (hw _ (List.mem_of_getElem? (i := 11) rfl)) (hw _ (List.mem_of_getElem? (i := 12) rfl)) (hw _ (List.mem_of_getElem? (i := 13) rfl)) e0 (g := (mkF m 1 #[.val (.ref a_o)] [(.ref a_o)])) rfl (by rw [hml]; rfl) rfl (hb hby own_d2_1) (by decide) (W := 0) (by show 2 * 0 + _ ≤ _; exact Nat.le_of_eq rfl) (by decide)
  obtain ⟨fs, hr, hrun, hended, hW, hsame⟩ := X3.leave (v := none) (fun _ => rfl) (hlocks := BodyLoose.notSynchronized Bd)
  refine ⟨_, _, pre0 _ ?_, hrun, hended, _, _, rfl, ?_, ⟨_, rfl⟩, hW, hsame.mono (by decide) (by decide)⟩
  · show Steps p.tables e below (s₁.setTop (mkF m 0 #[.val (.ref a_o)] [])) _
    refine XS.aloadN X0.here hx rfl (hb hby own_d2_0) rfl rfl ?_
    show Steps p.tables e below (s₁.setTop (mkF m 1 #[.val (.ref a_o)] [(.ref a_o)])) _
    refine st3 _ ?_
    show Steps p.tables e below (T3.setTop (mkF m 4 #[.val (.ref a_o)] [])) _
    exact X3.returnOut hx Bd.returns (hb hby own_d2_4) hr
  · show Qown_rec Z a_o h0 n0 _ T3.heap _
    rw [e3]
    exact ⟨rfl, N0, rfl⟩
theorem own_pn3 : plainName "com/example/rosterhall/rosterhall/ResourceId" = true := by first | (simp [plainName, overriddenIn]; done) | decide +kernel
theorem own_ef_own_rmI (m : MethodId) (a_o : Addr) (x_1 : Int64) (x_2 : Int64) : entryFrame m #[(.ref a_o), (.long x_1), (.long x_2)] 5 = mkF m 0 #[.val (.ref a_o), .val (.long x_1), .second, .val (.long x_2), .second] [] := by first | (simp [entryFrame, mkF, argsToLocals, Value.category]; done) | rfl
theorem own_pd1 : parseMethodDescriptor "()V" = some ⟨[], none⟩ := by decide +kernel
theorem own_d1_0 : decode prog_20_method_1_code 0 = .ok (.aload_n 0, 1) := by decide +kernel
theorem own_d1_1 : decode prog_20_method_1_code 1 = .ok (.invokespecial 1, 3) := by decide +kernel
theorem own_d1_4 : decode prog_20_method_1_code 4 = .ok (.aload_n 0, 1) := by decide +kernel
theorem own_d1_5 : decode prog_20_method_1_code 5 = .ok (.lload_n 1, 1) := by decide +kernel
theorem own_d1_6 : decode prog_20_method_1_code 6 = .ok (.putfield 7, 3) := by decide +kernel
theorem own_d1_9 : decode prog_20_method_1_code 9 = .ok (.aload_n 0, 1) := by decide +kernel
theorem own_d1_10 : decode prog_20_method_1_code 10 = .ok (.lload_n 3, 1) := by decide +kernel
theorem own_d1_11 : decode prog_20_method_1_code 11 = .ok (.putfield 13, 3) := by decide +kernel
theorem own_d1_14 : decode prog_20_method_1_code 14 = .ok (.return_, 1) := by decide +kernel
def Qown_rmI (Z : State) (a_o : Addr) (x_1 : Int64) (x_2 : Int64) (h0 : Heap) (n0 : Nat) (v : Option Value) (h : Heap) (L : List Loc) : Prop := v = none ∧ Fr n0 L ∧ Keep h0 h [a_o] ∧ Exa Z h a_o "com/example/rosterhall/rosterhall/ResourceId" ∧ Fld Z h a_o "com/example/rosterhall/rosterhall/ResourceId" "high" "J" (.long x_1) ∧ Fld Z h a_o "com/example/rosterhall/rosterhall/ResourceId" "low" "J" (.long x_2)
set_option maxRecDepth 65536 in
set_option maxHeartbeats 40000000 in
theorem own_rmI (l : Launch) (Z : State) (a0 : Array Value) (hw : ∀ d ∈ tables_1, d.before a0 Z = true) (ws : List Jvm.Cond) (a_o : Addr) (x_1 : Int64) (x_2 : Int64) (h0 : Heap) (n0 : Nat) (Z0 : n0 ≤ h0.size) (Eo : Exa Z h0 a_o "com/example/rosterhall/rosterhall/ResourceId") (F_high : Fld Z h0 a_o "com/example/rosterhall/rosterhall/ResourceId" "high" "J" (.long (0 : Int64))) (F_low : Fld Z h0 a_o "com/example/rosterhall/rosterhall/ResourceId" "low" "J" (.long (0 : Int64))) (ga : n0 ≤ a_o) :
    MetFree l (⟨"com/example/rosterhall/rosterhall/ResourceId", "<init>", "(JJ)V"⟩ : MethodName) (head1 (Jvm.Cond.code (⟨"com/example/rosterhall/rosterhall/ResourceId", "<init>", "(JJ)V"⟩ : MethodName) prog_20_method_1_code 5 none :: ws) ({ frames := 2, cells := 0, slots := 0, locals := 24 } : Room)) (fun a U => a = #[(.ref a_o), (.long x_1), (.long x_2)] ∧ Z.Warmed39 U.vm ∧ U.heap = h0) (fun _ _ _ _ _ => True) (fun _ U o U' => ∃ v L, o = .returned v ∧ Qown_rmI Z a_o x_1 x_2 h0 n0 v U'.heap L ∧ FrameEnd U o U' L ({ frames := 2, cells := 0, slots := 0, locals := 24 } : Room).cells ({ frames := 2, cells := 0, slots := 0, locals := 24 } : Room).slots) := by
  refine MetFree.of_bodySF (plainFor_of_name own_pn3) hisR ?_
  intro p e s m args below meth c s₁ Bd hml0 hP hK
  obtain ⟨rfl, hZ, hh⟩ := hP
  have hx := Bd.exec
  have hby := Bd.bytes
  have hml : c.maxLocals = 5 := hml0
  have hown : s.vm.findClass "com/example/rosterhall/rosterhall/ResourceId" = some m.cls := findClass_of_methodNamed Bd.named
  have hnm := (name_of_methodNamed Bd.named Bd.method).1
  have X0 : Stand p l e ({ frames := 2, cells := 0, slots := 0, locals := 24 } : Room) s m #[(.ref a_o), (.long x_1), (.long x_2)] below meth c s₁ [] 0 0 := Stand.of_body Bd
  have e0 : s₁.heap = h0 := by rw [← hh, Bd.state]; rfl
  have N0 := Fr.nil n0
  have pre0 : ∀ t, Steps p.tables e below (s₁.setTop (mkF m 0 #[.val (.ref a_o), .val (.long x_1), .second, .val (.long x_2), .second] [])) t → Steps p.tables e below (s₁.setTop (entryFrame m #[(.ref a_o), (.long x_1), (.long x_2)] 5)) t := fun t k => castTop (own_ef_own_rmI m a_o x_1 x_2) k
  obtain ⟨_, _, ⟨T3, L3, k3, n3⟩, -, X3, ⟨Lc3, hQ3, l3, y3, z3⟩, st3⟩ := X0.specialBack hx (y := (⟨"java/lang/Record", "<init>", "()V"⟩ : MethodName)) rfl hown (mvT hZ (hw _ (List.mem_of_getElem? (i := 6) rfl))) (mvT hZ (hw _ (List.mem_of_getElem? (i := 7) rfl))) (mvT hZ (hw _ (List.mem_of_getElem? (i := 10) rfl))) (by decide) (backOf (W := 0) (own_rec l Z a0 hw [] a_o h0 n0 Z0 ) hZ (hw _ (List.mem_of_getElem? (i := 10) rfl)) (hw _ (List.mem_of_getElem? (i := 9) rfl)) (by decide) (by decide)) (g := (mkF m 1 #[.val (.ref a_o), .val (.long x_1), .second, .val (.long x_2), .second] [(.ref a_o)])) rfl (by rw [hml]; rfl) (Steps.refl _) (a := a_o) (argsL := []) (rest := []) (lenOf own_pd1 rfl) rfl (by show 2 * 0 + _ ≤ _; exact Nat.le_of_eq rfl) (hb hby own_d1_1) (fun _ _ => ⟨rfl, e0, (by decide : 0 + 0 ≤ _), (by decide : 0 + 0 ≤ _)⟩)
  dsimp only [Pt.U, Pt.locs, Pt.cells, Pt.slots] at X3 l3 y3 z3 st3 hQ3
  subst l3 y3 z3
  obtain ⟨rfl, Nq3, eh3⟩ := hQ3
  have N4 := Fr.app N0 Nq3
  obtain ⟨T8, h8, X8, e8, W8, st8⟩ := putF X3 hx hZ hown (host := "") (Or.inl (hw _ (List.mem_of_getElem? (i := 14) rfl))) Via.refl eh3 F_high Eo (Or.inr ⟨(hw _ (List.mem_of_getElem? (i := 15) rfl)), rfl, hnm⟩) (hw _ (List.mem_of_getElem? (i := 1) rfl)) (ty := .long) (by decide) rfl rfl (g := (mkF m 6 #[.val (.ref a_o), .val (.long x_1), .second, .val (.long x_2), .second] [(.long x_1), (.ref a_o)])) rfl rfl (hb hby own_d1_6)
  have Kc9 : Keep h0 h8 [a_o] := (Keep.refl h0 [a_o]).wr W8 (Or.inl (List.mem_of_getElem? (i := 0) rfl))
  have Zs10 : n0 ≤ h8.size := Nat.le_trans Z0 (Keep.of_wr W8).1
  have N11 := Fr.snoc X8 N4 ga
  have Fw8 : Fld Z h8 a_o "com/example/rosterhall/rosterhall/ResourceId" "high" "J" (.long x_1) := F_high.same W8
  have Fq15 : Exa Z h8 a_o "com/example/rosterhall/rosterhall/ResourceId" := (Eo.wr W8)
  have Fq16 : Fld Z h8 a_o "com/example/rosterhall/rosterhall/ResourceId" "low" "J" (.long (0 : Int64)) := (F_low.other W8 (Or.inr (slot_ne (Or.inr (hw _ (List.mem_of_getElem? (i := 17) rfl))) (Or.inr (hw _ (List.mem_of_getElem? (i := 15) rfl))) (by decide) (t := .long) (t' := .long) (by decide) (by decide))))
  obtain ⟨T17, h17, X17, e17, W17, st17⟩ := putF X8 hx hZ hown (host := "") (Or.inl (hw _ (List.mem_of_getElem? (i := 16) rfl))) Via.refl e8 Fq16 Fq15 (Or.inr ⟨(hw _ (List.mem_of_getElem? (i := 17) rfl)), rfl, hnm⟩) (hw _ (List.mem_of_getElem? (i := 1) rfl)) (ty := .long) (by decide) rfl rfl (g := (mkF m 11 #[.val (.ref a_o), .val (.long x_1), .second, .val (.long x_2), .second] [(.long x_2), (.ref a_o)])) rfl rfl (hb hby own_d1_11)
  have Kc18 : Keep h0 h17 [a_o] := Kc9.wr W17 (Or.inl (List.mem_of_getElem? (i := 0) rfl))
  have Zs19 : n0 ≤ h17.size := Nat.le_trans Zs10 (Keep.of_wr W17).1
  have N20 := Fr.snoc X17 N11 ga
  have Fw17 : Fld Z h17 a_o "com/example/rosterhall/rosterhall/ResourceId" "low" "J" (.long x_2) := Fq16.same W17
  obtain ⟨fs, hr, hrun, hended, hW, hsame⟩ := X17.leave (v := none) (fun _ => rfl) (hlocks := BodyLoose.notSynchronized Bd)
  refine ⟨_, _, pre0 _ ?_, hrun, hended, _, _, rfl, ?_, ⟨_, rfl⟩, hW, hsame.mono (by decide) (by decide)⟩
  · show Steps p.tables e below (s₁.setTop (mkF m 0 #[.val (.ref a_o), .val (.long x_1), .second, .val (.long x_2), .second] [])) _
    refine XS.aloadN X0.here hx rfl (hb hby own_d1_0) rfl rfl ?_
    show Steps p.tables e below (s₁.setTop (mkF m 1 #[.val (.ref a_o), .val (.long x_1), .second, .val (.long x_2), .second] [(.ref a_o)])) _
    refine st3.trans ?_
    show Steps p.tables e below (T3.setTop (mkF m 4 #[.val (.ref a_o), .val (.long x_1), .second, .val (.long x_2), .second] [])) _
    refine XS.aloadN X3.here hx rfl (hb hby own_d1_4) rfl rfl ?_
    show Steps p.tables e below (T3.setTop (mkF m 5 #[.val (.ref a_o), .val (.long x_1), .second, .val (.long x_2), .second] [(.ref a_o)])) _
    refine XS.lloadN X3.here hx rfl (hb hby own_d1_5) rfl ?_
    show Steps p.tables e below (T3.setTop (mkF m 6 #[.val (.ref a_o), .val (.long x_1), .second, .val (.long x_2), .second] [(.long x_1), (.ref a_o)])) _
    refine st8 _ ?_
    show Steps p.tables e below (T8.setTop (mkF m 9 #[.val (.ref a_o), .val (.long x_1), .second, .val (.long x_2), .second] [])) _
    refine XS.aloadN X8.here hx rfl (hb hby own_d1_9) rfl rfl ?_
    show Steps p.tables e below (T8.setTop (mkF m 10 #[.val (.ref a_o), .val (.long x_1), .second, .val (.long x_2), .second] [(.ref a_o)])) _
    refine XS.lloadN X8.here hx rfl (hb hby own_d1_10) rfl ?_
    show Steps p.tables e below (T8.setTop (mkF m 11 #[.val (.ref a_o), .val (.long x_1), .second, .val (.long x_2), .second] [(.long x_2), (.ref a_o)])) _
    refine st17 _ ?_
    show Steps p.tables e below (T17.setTop (mkF m 14 #[.val (.ref a_o), .val (.long x_1), .second, .val (.long x_2), .second] [])) _
    exact X17.returnOut hx Bd.returns (hb hby own_d1_14) hr
  · show Qown_rmI Z a_o x_1 x_2 h0 n0 _ T17.heap _
    rw [e17]
    have Fq22 : Exa Z h17 a_o "com/example/rosterhall/rosterhall/ResourceId" := (Fq15.wr W17)
    have Fq23 : Fld Z h17 a_o "com/example/rosterhall/rosterhall/ResourceId" "high" "J" (.long x_1) := (Fw8.other W17 (Or.inr (slot_ne (Or.inr (hw _ (List.mem_of_getElem? (i := 15) rfl))) (Or.inr (hw _ (List.mem_of_getElem? (i := 17) rfl))) (by decide) (t := .long) (t' := .long) (by decide) (by decide))))
    exact ⟨rfl, N20, Kc18, Fq22, Fq23, Fw17⟩
theorem own_ef_own_rmC (m : MethodId) (a_o : Addr) (b_o : Addr) : entryFrame m #[(.ref a_o), (.ref b_o)] 3 = mkF m 0 #[.val (.ref a_o), .val (.ref b_o), .unset] [] := by first | (simp [entryFrame, mkF, argsToLocals, Value.category]; done) | rfl
theorem own_d6_0 : decode prog_20_method_5_code 0 = .ok (.aload_n 0, 1) := by decide +kernel
theorem own_d6_1 : decode prog_20_method_5_code 1 = .ok (.getfield 7, 3) := by decide +kernel
theorem own_d6_4 : decode prog_20_method_5_code 4 = .ok (.aload_n 1, 1) := by decide +kernel
theorem own_d6_5 : decode prog_20_method_5_code 5 = .ok (.getfield 7, 3) := by decide +kernel
theorem own_d6_8 : decode prog_20_method_5_code 8 = .ok (.invokestatic 68, 3) := by decide +kernel
theorem own_d6_11 : decode prog_20_method_5_code 11 = .ok (.istore_n 2, 1) := by decide +kernel
theorem own_d6_12 : decode prog_20_method_5_code 12 = .ok (.iload_n 2, 1) := by decide +kernel
theorem own_d6_13 : decode prog_20_method_5_code 13 = .ok (.ifCond .eq 7, 3) := by decide +kernel
theorem own_d6_16 : decode prog_20_method_5_code 16 = .ok (.iload_n 2, 1) := by decide +kernel
theorem own_d6_17 : decode prog_20_method_5_code 17 = .ok (.goto 14, 3) := by decide +kernel
theorem own_d6_20 : decode prog_20_method_5_code 20 = .ok (.aload_n 0, 1) := by decide +kernel
theorem own_d6_21 : decode prog_20_method_5_code 21 = .ok (.getfield 13, 3) := by decide +kernel
theorem own_d6_24 : decode prog_20_method_5_code 24 = .ok (.aload_n 1, 1) := by decide +kernel
theorem own_d6_25 : decode prog_20_method_5_code 25 = .ok (.getfield 13, 3) := by decide +kernel
theorem own_d6_28 : decode prog_20_method_5_code 28 = .ok (.invokestatic 68, 3) := by decide +kernel
theorem own_d6_31 : decode prog_20_method_5_code 31 = .ok (.ireturn, 1) := by decide +kernel
def own_rmC_f (x_1 : Int64) (x_2 : Int64) (y_1 : Int64) (y_2 : Int64) : Int32 := (if (own_cmpU_f x_1 y_1) = (0 : Int32) then (own_cmpU_f x_2 y_2) else (own_cmpU_f x_1 y_1))
def Qown_rmC (Z : State) (a_o : Addr) (b_o : Addr) (x_1 : Int64) (x_2 : Int64) (y_1 : Int64) (y_2 : Int64) (h0 : Heap) (n0 : Nat) (v : Option Value) (h : Heap) (L : List Loc) : Prop := v = some (.int (own_rmC_f x_1 x_2 y_1 y_2)) ∧ Fr n0 L ∧ h = h0
set_option maxRecDepth 65536 in
set_option maxHeartbeats 40000000 in
theorem own_rmC (l : Launch) (Z : State) (a0 : Array Value) (hw : ∀ d ∈ tables_1, d.before a0 Z = true) (ws : List Jvm.Cond) (a_o : Addr) (b_o : Addr) (x_1 : Int64) (x_2 : Int64) (y_1 : Int64) (y_2 : Int64) (h0 : Heap) (n0 : Nat) (Z0 : n0 ≤ h0.size) (F_high : Fld Z h0 a_o "com/example/rosterhall/rosterhall/ResourceId" "high" "J" (.long x_1)) (F_low : Fld Z h0 a_o "com/example/rosterhall/rosterhall/ResourceId" "low" "J" (.long x_2)) (G_high : Fld Z h0 b_o "com/example/rosterhall/rosterhall/ResourceId" "high" "J" (.long y_1)) (G_low : Fld Z h0 b_o "com/example/rosterhall/rosterhall/ResourceId" "low" "J" (.long y_2)) :
    MetFree l (⟨"com/example/rosterhall/rosterhall/ResourceId", "compareTo", "(Lcom/example/rosterhall/rosterhall/ResourceId;)I"⟩ : MethodName) (head1 (Jvm.Cond.code (⟨"com/example/rosterhall/rosterhall/ResourceId", "compareTo", "(Lcom/example/rosterhall/rosterhall/ResourceId;)I"⟩ : MethodName) prog_20_method_5_code 3 (some .int) :: ws) ({ frames := 2, cells := 0, slots := 0, locals := 30 } : Room)) (fun a U => a = #[(.ref a_o), (.ref b_o)] ∧ Z.Warmed39 U.vm ∧ U.heap = h0) (fun _ _ _ _ _ => True) (fun _ U o U' => ∃ v L, o = .returned v ∧ Qown_rmC Z a_o b_o x_1 x_2 y_1 y_2 h0 n0 v U'.heap L ∧ FrameEnd U o U' L ({ frames := 2, cells := 0, slots := 0, locals := 30 } : Room).cells ({ frames := 2, cells := 0, slots := 0, locals := 30 } : Room).slots) := by
  refine MetFree.of_bodySF (plainFor_of_name own_pn3) hisR ?_
  intro p e s m args below meth c s₁ Bd hml0 hP hK
  obtain ⟨rfl, hZ, hh⟩ := hP
  have hx := Bd.exec
  have hby := Bd.bytes
  have hml : c.maxLocals = 3 := hml0
  have hown : s.vm.findClass "com/example/rosterhall/rosterhall/ResourceId" = some m.cls := findClass_of_methodNamed Bd.named
  have hnm := (name_of_methodNamed Bd.named Bd.method).1
  have X0 : Stand p l e ({ frames := 2, cells := 0, slots := 0, locals := 30 } : Room) s m #[(.ref a_o), (.ref b_o)] below meth c s₁ [] 0 0 := Stand.of_body Bd
  have e0 : s₁.heap = h0 := by rw [← hh, Bd.state]; rfl
  have N0 := Fr.nil n0
  have pre0 : ∀ t, Steps p.tables e below (s₁.setTop (mkF m 0 #[.val (.ref a_o), .val (.ref b_o), .unset] [])) t → Steps p.tables e below (s₁.setTop (entryFrame m #[(.ref a_o), (.ref b_o)] 3)) t := fun t k => castTop (own_ef_own_rmC m a_o b_o) k
  obtain ⟨T3, X3, e3, st3⟩ := getF X0 hx hZ hown (host := "") (Or.inl (hw _ (List.mem_of_getElem? (i := 14) rfl))) Via.refl e0 F_high (g := (mkF m 1 #[.val (.ref a_o), .val (.ref b_o), .unset] [(.ref a_o)])) rfl rfl (hb hby own_d6_1)
  obtain ⟨T6, X6, e6, st6⟩ := getF X3 hx hZ hown (host := "") (Or.inl (hw _ (List.mem_of_getElem? (i := 14) rfl))) Via.refl e3 G_high (g := (mkF m 5 #[.val (.ref a_o), .val (.ref b_o), .unset] [(.ref b_o), (.long x_1)])) rfl rfl (hb hby own_d6_5)
  obtain ⟨_, _, ⟨T8, L8, k8, n8⟩, -, X8, ⟨Lc8, hQ8, l8, y8, z8⟩, st8⟩ := Jvm.LawKit.callS X6 hx (y := (⟨"java/lang/Long", "compareUnsigned", "(JJ)I"⟩ : MethodName)) hown (mvT hZ (hw _ (List.mem_of_getElem? (i := 31) rfl))) (mvT hZ (hw _ (List.mem_of_getElem? (i := 32) rfl))) (mvT hZ (hw _ (List.mem_of_getElem? (i := 33) rfl))) (mvT hZ (hw _ (List.mem_of_getElem? (i := 34) rfl))) (by decide) (backOf (W := 0) (own_cmpU l Z a0 hw [] x_1 y_1 h0 n0 Z0 ) hZ (hw _ (List.mem_of_getElem? (i := 34) rfl)) (hw _ (List.mem_of_getElem? (i := 33) rfl)) (by decide) (by decide)) (g := (mkF m 8 #[.val (.ref a_o), .val (.ref b_o), .unset] [(.long y_1), (.long x_1)])) rfl (by rw [hml]; rfl) (argsL := [(.long x_1), (.long y_1)]) (rest := []) (lenOf own_pd0 rfl) rfl (by show 2 * 0 + _ ≤ _; exact Nat.le_of_eq rfl) (hb hby own_d6_8) (fun _ _ => ⟨rfl, e6, (by decide : 0 + 0 ≤ _), (by decide : 0 + 0 ≤ _)⟩)
  dsimp only [Pt.U, Pt.locs, Pt.cells, Pt.slots] at X8 l8 y8 z8 st8 hQ8
  subst l8 y8 z8
  obtain ⟨rfl, Nq8, eh8⟩ := hQ8
  have N9 := Fr.app N0 Nq8
  have pre13 : ∀ t, Steps p.tables e below (T8.setTop (mkF m 13 #[.val (.ref a_o), .val (.ref b_o), .val (.int (own_cmpU_f x_1 y_1))] [(.int (own_cmpU_f x_1 y_1))])) t → Steps p.tables e below (s₁.setTop (entryFrame m #[(.ref a_o), (.ref b_o)] 3)) t := by
    intro t kt
    refine pre0 _ ?_
    show Steps p.tables e below (s₁.setTop (mkF m 0 #[.val (.ref a_o), .val (.ref b_o), .unset] [])) _
    refine XS.aloadN X0.here hx rfl (hb hby own_d6_0) rfl rfl ?_
    show Steps p.tables e below (s₁.setTop (mkF m 1 #[.val (.ref a_o), .val (.ref b_o), .unset] [(.ref a_o)])) _
    refine st3 _ ?_
    show Steps p.tables e below (T3.setTop (mkF m 4 #[.val (.ref a_o), .val (.ref b_o), .unset] [(.long x_1)])) _
    refine XS.aloadN X3.here hx rfl (hb hby own_d6_4) rfl rfl ?_
    show Steps p.tables e below (T3.setTop (mkF m 5 #[.val (.ref a_o), .val (.ref b_o), .unset] [(.ref b_o), (.long x_1)])) _
    refine st6 _ ?_
    show Steps p.tables e below (T6.setTop (mkF m 8 #[.val (.ref a_o), .val (.ref b_o), .unset] [(.long y_1), (.long x_1)])) _
    refine st8 _ ?_
    show Steps p.tables e below (T8.setTop (mkF m 11 #[.val (.ref a_o), .val (.ref b_o), .unset] [(.int (own_cmpU_f x_1 y_1))])) _
    refine XS.istoreN X8.here hx rfl (hb hby own_d6_11) rfl (l' := #[.val (.ref a_o), .val (.ref b_o), .val (.int (own_cmpU_f x_1 y_1))]) rfl ?_
    show Steps p.tables e below (T8.setTop (mkF m 12 #[.val (.ref a_o), .val (.ref b_o), .val (.int (own_cmpU_f x_1 y_1))] [])) _
    refine XS.iloadN X8.here hx rfl (hb hby own_d6_12) rfl ?_
    exact kt
  by_cases hc13_14 : (own_cmpU_f x_1 y_1) = (0 : Int32)
  · obtain ⟨T17, X17, e17, st17⟩ := getF X8 hx hZ hown (host := "") (Or.inl (hw _ (List.mem_of_getElem? (i := 16) rfl))) Via.refl eh8 F_low (g := (mkF m 21 #[.val (.ref a_o), .val (.ref b_o), .val (.int (own_cmpU_f x_1 y_1))] [(.ref a_o)])) rfl rfl (hb hby own_d6_21)
    obtain ⟨T20, X20, e20, st20⟩ := getF X17 hx hZ hown (host := "") (Or.inl (hw _ (List.mem_of_getElem? (i := 16) rfl))) Via.refl e17 G_low (g := (mkF m 25 #[.val (.ref a_o), .val (.ref b_o), .val (.int (own_cmpU_f x_1 y_1))] [(.ref b_o), (.long x_2)])) rfl rfl (hb hby own_d6_25)
    obtain ⟨_, _, ⟨T22, L22, k22, n22⟩, -, X22, ⟨Lc22, hQ22, l22, y22, z22⟩, st22⟩ := Jvm.LawKit.callS X20 hx (y := (⟨"java/lang/Long", "compareUnsigned", "(JJ)I"⟩ : MethodName)) hown (mvT hZ (hw _ (List.mem_of_getElem? (i := 31) rfl))) (mvT hZ (hw _ (List.mem_of_getElem? (i := 32) rfl))) (mvT hZ (hw _ (List.mem_of_getElem? (i := 33) rfl))) (mvT hZ (hw _ (List.mem_of_getElem? (i := 34) rfl))) (by decide) (backOf (W := 0) (own_cmpU l Z a0 hw [] x_2 y_2 h0 n0 Z0 ) hZ (hw _ (List.mem_of_getElem? (i := 34) rfl)) (hw _ (List.mem_of_getElem? (i := 33) rfl)) (by decide) (by decide)) (g := (mkF m 28 #[.val (.ref a_o), .val (.ref b_o), .val (.int (own_cmpU_f x_1 y_1))] [(.long y_2), (.long x_2)])) rfl (by rw [hml]; rfl) (argsL := [(.long x_2), (.long y_2)]) (rest := []) (lenOf own_pd0 rfl) rfl (by show 2 * 0 + _ ≤ _; exact Nat.le_of_eq rfl) (hb hby own_d6_28) (fun _ _ => ⟨rfl, e20, (by decide : 0 + 0 ≤ _), (by decide : 0 + 0 ≤ _)⟩)
    dsimp only [Pt.U, Pt.locs, Pt.cells, Pt.slots] at X22 l22 y22 z22 st22 hQ22
    subst l22 y22 z22
    obtain ⟨rfl, Nq22, eh22⟩ := hQ22
    have N23 := Fr.app N9 Nq22
    obtain ⟨fs, hr, hrun, hended, hW, hsame⟩ := X22.leave (v := some (.int (own_cmpU_f x_2 y_2))) (fun h => by rw [Bd.returns] at h; cases h) (hlocks := BodyLoose.notSynchronized Bd)
    refine ⟨_, _, pre13 _ ?_, hrun, hended, _, _, rfl, ?_, ⟨_, rfl⟩, hW, hsame.mono (by decide) (by decide)⟩
    · show Steps p.tables e below (T8.setTop (mkF m 13 #[.val (.ref a_o), .val (.ref b_o), .val (.int (own_cmpU_f x_1 y_1))] [(.int (own_cmpU_f x_1 y_1))])) _
      refine XS.ifYes X8.here hx rfl (pc0 := 13) (pc' := 20) rfl (hb hby own_d6_13) rfl ((if0 _ _).trans (teq hc13_14).1) (by decide) (by decide) ?_
      show Steps p.tables e below (T8.setTop (mkF m 20 #[.val (.ref a_o), .val (.ref b_o), .val (.int (own_cmpU_f x_1 y_1))] [])) _
      refine XS.aloadN X8.here hx rfl (hb hby own_d6_20) rfl rfl ?_
      show Steps p.tables e below (T8.setTop (mkF m 21 #[.val (.ref a_o), .val (.ref b_o), .val (.int (own_cmpU_f x_1 y_1))] [(.ref a_o)])) _
      refine st17 _ ?_
      show Steps p.tables e below (T17.setTop (mkF m 24 #[.val (.ref a_o), .val (.ref b_o), .val (.int (own_cmpU_f x_1 y_1))] [(.long x_2)])) _
      refine XS.aloadN X17.here hx rfl (hb hby own_d6_24) rfl rfl ?_
      show Steps p.tables e below (T17.setTop (mkF m 25 #[.val (.ref a_o), .val (.ref b_o), .val (.int (own_cmpU_f x_1 y_1))] [(.ref b_o), (.long x_2)])) _
      refine st20 _ ?_
      show Steps p.tables e below (T20.setTop (mkF m 28 #[.val (.ref a_o), .val (.ref b_o), .val (.int (own_cmpU_f x_1 y_1))] [(.long y_2), (.long x_2)])) _
      refine st22 _ ?_
      show Steps p.tables e below (T22.setTop (mkF m 31 #[.val (.ref a_o), .val (.ref b_o), .val (.int (own_cmpU_f x_1 y_1))] [(.int (own_cmpU_f x_2 y_2))])) _
      exact retI X22 hx Bd.returns (hb hby own_d6_31) hr
    · show Qown_rmC Z a_o b_o x_1 x_2 y_1 y_2 h0 n0 _ T22.heap _
      rw [eh22]
      have hv : (own_rmC_f x_1 x_2 y_1 y_2) = (own_cmpU_f x_2 y_2) := by unfold own_rmC_f; rw [if_pos hc13_14]
      exact ⟨(by rw [hv]), N23, rfl⟩
  · obtain ⟨fs, hr, hrun, hended, hW, hsame⟩ := X8.leave (v := some (.int (own_cmpU_f x_1 y_1))) (fun h => by rw [Bd.returns] at h; cases h) (hlocks := BodyLoose.notSynchronized Bd)
    refine ⟨_, _, pre13 _ ?_, hrun, hended, _, _, rfl, ?_, ⟨_, rfl⟩, hW, hsame.mono (by decide) (by decide)⟩
    · show Steps p.tables e below (T8.setTop (mkF m 13 #[.val (.ref a_o), .val (.ref b_o), .val (.int (own_cmpU_f x_1 y_1))] [(.int (own_cmpU_f x_1 y_1))])) _
      refine XS.ifNo X8.here hx rfl (hb hby own_d6_13) rfl ((if0 _ _).trans (feq hc13_14).1) ?_
      show Steps p.tables e below (T8.setTop (mkF m 16 #[.val (.ref a_o), .val (.ref b_o), .val (.int (own_cmpU_f x_1 y_1))] [])) _
      refine XS.iloadN X8.here hx rfl (hb hby own_d6_16) rfl ?_
      show Steps p.tables e below (T8.setTop (mkF m 17 #[.val (.ref a_o), .val (.ref b_o), .val (.int (own_cmpU_f x_1 y_1))] [(.int (own_cmpU_f x_1 y_1))])) _
      refine XS.goto X8.here hx rfl (pc0 := 17) (pc' := 31) rfl (hb hby own_d6_17) (by decide) (by decide) ?_
      show Steps p.tables e below (T8.setTop (mkF m 31 #[.val (.ref a_o), .val (.ref b_o), .val (.int (own_cmpU_f x_1 y_1))] [(.int (own_cmpU_f x_1 y_1))])) _
      exact retI X8 hx Bd.returns (hb hby own_d6_31) hr
    · show Qown_rmC Z a_o b_o x_1 x_2 y_1 y_2 h0 n0 _ T8.heap _
      rw [eh8]
      have hv : (own_rmC_f x_1 x_2 y_1 y_2) = (own_cmpU_f x_1 y_1) := by unfold own_rmC_f; rw [if_neg hc13_14]
      exact ⟨(by rw [hv]), N9, rfl⟩
theorem own_flip (x : Int64) : x ^^^ (-9223372036854775808 : Int64) = x + (-9223372036854775808 : Int64) := by
  apply Int64.toBitVec_inj.mp
  apply BitVec.eq_of_toNat_eq
  have hm : (-9223372036854775808 : Int64).toBitVec.toNat = 2 ^ 63 := by decide
  rw [Int64.toBitVec_xor, Int64.toBitVec_add, BitVec.toNat_xor, BitVec.toNat_add, hm]
  have hx := x.toBitVec.isLt
  generalize x.toBitVec.toNat = n at hx ⊢
  have e1 : (n ^^^ 2 ^ 63) % 2 ^ 63 = n % 2 ^ 63 := by rw [Nat.xor_mod_two_pow, Nat.mod_self, Nat.xor_zero]
  have e2 : (n ^^^ 2 ^ 63) / 2 ^ 63 = n / 2 ^ 63 ^^^ 1 := by rw [Nat.xor_div_two_pow]
  have h : n / 2 ^ 63 = 0 ∨ n / 2 ^ 63 = 1 := by omega
  rcases h with h | h
  · rw [h] at e2; have e3 : (0 ^^^ 1 : Nat) = 1 := rfl; omega
  · rw [h] at e2; have e3 : (1 ^^^ 1 : Nat) = 0 := rfl; omega
theorem own_lt {x y : Int64} : x < y ↔ x.toInt < y.toInt := Int64.lt_iff_toInt_lt
theorem own_lin {x y : Int64} (h1 : ¬ x < y) (h2 : ¬ y < x) : x = y := by
  rw [own_lt] at h1 h2; exact Int64.toInt_inj.mp (by omega)
theorem own_uc (x y : Int64) : own_cmpU_f x y = own_ucmp_f x y := by
  unfold own_cmpU_f own_ucmp_f own_cmp_f
  rw [own_flip, own_flip]
  generalize x + (-9223372036854775808 : Int64) = a
  generalize y + (-9223372036854775808 : Int64) = b
  by_cases h1 : a < b
  · rw [if_pos h1, if_pos h1]
  · rw [if_neg h1, if_neg h1]
    by_cases h2 : b < a
    · rw [if_pos h2, if_neg (fun e => by rw [e, own_lt] at h2; omega)]
    · rw [if_neg h2, if_pos (own_lin h1 h2)]
theorem own_ref_eq (a b c d : Int64) : own_rmC_f a b c d = own_ref_f a b c d := by
  unfold own_rmC_f own_ref_f; rw [own_uc, own_uc]
theorem own_ucmp_cases (x y : Int64) : (own_ucmp_f x y = -1 ∧ own_ucmp_f y x = 1) ∨ (own_ucmp_f x y = 1 ∧ own_ucmp_f y x = -1) ∨ (own_ucmp_f x y = 0 ∧ own_ucmp_f y x = 0) := by
  unfold own_ucmp_f
  generalize x ^^^ (-9223372036854775808 : Int64) = a
  generalize y ^^^ (-9223372036854775808 : Int64) = b
  by_cases h1 : a < b
  · have h2 : ¬ b < a := by rw [own_lt] at h1 ⊢; omega
    left; rw [if_pos h1, if_neg h2, if_pos h1]; exact ⟨rfl, rfl⟩
  · by_cases h2 : b < a
    · right; left; rw [if_neg h1, if_pos h2, if_pos h2]; exact ⟨rfl, rfl⟩
    · right; right; rw [if_neg h1, if_neg h2, if_neg h1, if_neg h2]; exact ⟨rfl, rfl⟩
theorem own_ref_cases (a b c d : Int64) : (own_ref_f a b c d = -1 ∧ own_ref_f c d a b = 1) ∨ (own_ref_f a b c d = 1 ∧ own_ref_f c d a b = -1) ∨ (own_ref_f a b c d = 0 ∧ own_ref_f c d a b = 0) := by
  unfold own_ref_f
  rcases own_ucmp_cases a c with ⟨h1, h2⟩ | ⟨h1, h2⟩ | ⟨h1, h2⟩
  · left; rw [h1, h2]; exact ⟨rfl, rfl⟩
  · right; left; rw [h1, h2]; exact ⟨rfl, rfl⟩
  · rw [h1, h2, if_pos rfl, if_pos rfl]; exact own_ucmp_cases b d
theorem own_m1 (a b c d : Int64) : own_sign_f (own_rmC_f a b c d) = own_ref_f a b c d := by
  rw [own_ref_eq]
  rcases own_ref_cases a b c d with ⟨h, -⟩ | ⟨h, -⟩ | ⟨h, -⟩ <;> rw [h] <;> decide
theorem own_m2 (a b c d : Int64) : own_sign_f (own_rmC_f c d a b) = -own_ref_f a b c d := by
  rw [own_ref_eq]
  rcases own_ref_cases a b c d with ⟨h, g⟩ | ⟨h, g⟩ | ⟨h, g⟩ <;> rw [h, g] <;> decide
theorem own_ef_own_law (m : MethodId) (q0 : Int64) (q1 : Int64) (q2 : Int64) (q3 : Int64) (p4 : Int32) : entryFrame m #[(.long q0), (.long q1), (.long q2), (.long q3), (.int p4)] maxLocals = mkF m 0 #[.val (.long q0), .second, .val (.long q1), .second, .val (.long q2), .second, .val (.long q3), .second, .val (.int p4), .unset, .unset, .unset, .unset, .unset, .unset, .unset, .unset, .unset] [] := by first | (simp [entryFrame, mkF, argsToLocals, Value.category, maxLocals]; done) | rfl
theorem own_pd2 : parseMethodDescriptor "(JJ)V" = some ⟨[.long, .long], none⟩ := by decide +kernel
theorem own_pd3 : parseMethodDescriptor "(JJJJ)I" = some ⟨[.long, .long, .long, .long], some .int⟩ := by decide +kernel
theorem own_pd4 : parseMethodDescriptor "(Lcom/example/rosterhall/rosterhall/ResourceId;)I" = some ⟨[(.object "com/example/rosterhall/rosterhall/ResourceId")], some .int⟩ := by decide +kernel
theorem own_pd5 : parseMethodDescriptor "(I)I" = some ⟨[.int], some .int⟩ := by decide +kernel
def Qown_law (Z : State) (q0 : Int64) (q1 : Int64) (q2 : Int64) (q3 : Int64) (p4 : Int32) (h0 : Heap) (n0 : Nat) (v : Option Value) (h : Heap) (L : List Loc) : Prop := v = some (.int (1 : Int32)) ∧ Fr n0 L
set_option maxRecDepth 65536 in
set_option maxHeartbeats 40000000 in
theorem own_law (l : Launch) (Z : State) (a0 : Array Value) (hw : ∀ d ∈ tables_1, d.before a0 Z = true) (ws : List Jvm.Cond) (q0 : Int64) (q1 : Int64) (q2 : Int64) (q3 : Int64) (p4 : Int32) (h0 : Heap) (n0 : Nat) (Z0 : n0 ≤ h0.size) :
    MetFree l x (head1 (Jvm.Cond.code x code maxLocals ret :: ws) room_1) (fun a U => a = #[(.long q0), (.long q1), (.long q2), (.long q3), (.int p4)] ∧ Z.Warmed39 U.vm ∧ U.heap = h0) (fun _ _ _ _ _ => True) (fun _ U o U' => ∃ v L, o = .returned v ∧ Qown_law Z q0 q1 q2 q3 p4 h0 n0 v U'.heap L ∧ FrameEnd U o U' L room_1.cells room_1.slots) := by
  refine MetFree.of_bodySF (plainFor_of_name own_pn0) hisR ?_
  intro p e s m args below meth c s₁ Bd hml0 hP hK
  obtain ⟨rfl, hZ, hh⟩ := hP
  have hx := Bd.exec
  have hby := Bd.bytes
  have hml : c.maxLocals = 18 := hml0
  have hown : s.vm.findClass "com/example/rosterhall/rosterhall/ResourceIdCompareToPinLaw" = some m.cls := findClass_of_methodNamed Bd.named
  have hnm := (name_of_methodNamed Bd.named Bd.method).1
  have X0 : Stand p l e room_1 s m #[(.long q0), (.long q1), (.long q2), (.long q3), (.int p4)] below meth c s₁ [] 0 0 := Stand.of_body Bd
  have e0 : s₁.heap = h0 := by rw [← hh, Bd.state]; rfl
  have N0 := Fr.nil n0
  have pre0 : ∀ t, Steps p.tables e below (s₁.setTop (mkF m 0 #[.val (.long q0), .second, .val (.long q1), .second, .val (.long q2), .second, .val (.long q3), .second, .val (.int p4), .unset, .unset, .unset, .unset, .unset, .unset, .unset, .unset, .unset] [])) t → Steps p.tables e below (s₁.setTop (entryFrame m #[(.long q0), (.long q1), (.long q2), (.long q3), (.int p4)] maxLocals)) t := fun t k => castTop (own_ef_own_law m q0 q1 q2 q3 p4) k
  have pre5 : ∀ t, Steps p.tables e below (s₁.setTop (mkF m 4 #[.val (.long q0), .second, .val (.long q1), .second, .val (.long q2), .second, .val (.long q3), .second, .val (.int p4), .unset, .unset, .unset, .unset, .unset, .unset, .unset, .unset, .unset] [(.int (p4 &&& (1 : Int32)))])) t → Steps p.tables e below (s₁.setTop (entryFrame m #[(.long q0), (.long q1), (.long q2), (.long q3), (.int p4)] maxLocals)) t := by
    intro t kt
    refine pre0 _ ?_
    show Steps p.tables e below (s₁.setTop (mkF m 0 #[.val (.long q0), .second, .val (.long q1), .second, .val (.long q2), .second, .val (.long q3), .second, .val (.int p4), .unset, .unset, .unset, .unset, .unset, .unset, .unset, .unset, .unset] [])) _
    refine XS.iload X0.here hx rfl (hb hby at_0) rfl ?_
    show Steps p.tables e below (s₁.setTop (mkF m 2 #[.val (.long q0), .second, .val (.long q1), .second, .val (.long q2), .second, .val (.long q3), .second, .val (.int p4), .unset, .unset, .unset, .unset, .unset, .unset, .unset, .unset, .unset] [(.int p4)])) _
    refine XS.iconst X0.here hx rfl (hb hby at_2) ?_
    show Steps p.tables e below (s₁.setTop (mkF m 3 #[.val (.long q0), .second, .val (.long q1), .second, .val (.long q2), .second, .val (.long q3), .second, .val (.int p4), .unset, .unset, .unset, .unset, .unset, .unset, .unset, .unset, .unset] [(.int (1 : Int32)), (.int p4)])) _
    refine XS.iand X0.here hx rfl (hb hby at_3) rfl ?_
    exact kt
  by_cases hc4_6 : (p4 &&& (1 : Int32)) = (0 : Int32)
  · have pre13 : ∀ t, Steps p.tables e below (s₁.setTop (mkF m 19 #[.val (.long q0), .second, .val (.long q1), .second, .val (.long q2), .second, .val (.long q3), .second, .val (.int p4), .val (.long q2), .second, .unset, .unset, .unset, .unset, .unset, .unset, .unset] [(.int (p4 &&& (2 : Int32)))])) t → Steps p.tables e below (s₁.setTop (entryFrame m #[(.long q0), (.long q1), (.long q2), (.long q3), (.int p4)] maxLocals)) t := by
      intro t kt
      refine pre5 _ ?_
      show Steps p.tables e below (s₁.setTop (mkF m 4 #[.val (.long q0), .second, .val (.long q1), .second, .val (.long q2), .second, .val (.long q3), .second, .val (.int p4), .unset, .unset, .unset, .unset, .unset, .unset, .unset, .unset, .unset] [(.int (p4 &&& (1 : Int32)))])) _
      refine XS.ifYes X0.here hx rfl (pc0 := 4) (pc' := 11) rfl (hb hby at_4) rfl ((if0 _ _).trans (teq hc4_6).1) (by decide) (by decide) ?_
      show Steps p.tables e below (s₁.setTop (mkF m 11 #[.val (.long q0), .second, .val (.long q1), .second, .val (.long q2), .second, .val (.long q3), .second, .val (.int p4), .unset, .unset, .unset, .unset, .unset, .unset, .unset, .unset, .unset] [])) _
      refine XS.lload X0.here hx rfl (hb hby at_11) rfl ?_
      show Steps p.tables e below (s₁.setTop (mkF m 13 #[.val (.long q0), .second, .val (.long q1), .second, .val (.long q2), .second, .val (.long q3), .second, .val (.int p4), .unset, .unset, .unset, .unset, .unset, .unset, .unset, .unset, .unset] [(.long q2)])) _
      refine XS.lstore X0.here hx rfl (hb hby at_13) rfl (l' := #[.val (.long q0), .second, .val (.long q1), .second, .val (.long q2), .second, .val (.long q3), .second, .val (.int p4), .val (.long q2), .second, .unset, .unset, .unset, .unset, .unset, .unset, .unset]) rfl ?_
      show Steps p.tables e below (s₁.setTop (mkF m 15 #[.val (.long q0), .second, .val (.long q1), .second, .val (.long q2), .second, .val (.long q3), .second, .val (.int p4), .val (.long q2), .second, .unset, .unset, .unset, .unset, .unset, .unset, .unset] [])) _
      refine XS.iload X0.here hx rfl (hb hby at_15) rfl ?_
      show Steps p.tables e below (s₁.setTop (mkF m 17 #[.val (.long q0), .second, .val (.long q1), .second, .val (.long q2), .second, .val (.long q3), .second, .val (.int p4), .val (.long q2), .second, .unset, .unset, .unset, .unset, .unset, .unset, .unset] [(.int p4)])) _
      refine XS.iconst X0.here hx rfl (hb hby at_17) ?_
      show Steps p.tables e below (s₁.setTop (mkF m 18 #[.val (.long q0), .second, .val (.long q1), .second, .val (.long q2), .second, .val (.long q3), .second, .val (.int p4), .val (.long q2), .second, .unset, .unset, .unset, .unset, .unset, .unset, .unset] [(.int (2 : Int32)), (.int p4)])) _
      refine XS.iand X0.here hx rfl (hb hby at_18) rfl ?_
      exact kt
    by_cases hc19_14 : (p4 &&& (2 : Int32)) = (0 : Int32)
    · obtain ⟨T18, h18, X18, e18, E18, A18, D18, -, st18⟩ := newO X0 hx hZ hown (hw _ (List.mem_of_getElem? (i := 0) rfl)) (hw _ (List.mem_of_getElem? (i := 1) rfl)) (hw _ (List.mem_of_getElem? (i := 2) rfl)) e0 (g := (mkF m 30 #[.val (.long q0), .second, .val (.long q1), .second, .val (.long q2), .second, .val (.long q3), .second, .val (.int p4), .val (.long q2), .second, .val (.long q3), .second, .unset, .unset, .unset, .unset, .unset] [])) rfl (hb hby at_30) (by decide) (by decide)
      obtain ⟨b18, g18⟩ : ∃ z, z = h0.size := ⟨_, rfl⟩
      rw [← g18] at A18 D18 st18
      have Ge19 : n0 ≤ b18 := Nat.le_trans Z0 (Nat.le_of_eq g18.symm)
      have Sz20 : h0.size ≤ b18 := Nat.le_trans (Keep.refl h0 []).1 (Nat.le_of_eq g18.symm)
      have Kc21 : Keep h0 h18 [] := (Keep.refl h0 []).ext E18
      have Zs22 : n0 ≤ h18.size := (Nat.le_trans Z0 E18.1)
      have F18_high : Fld Z h18 b18 "com/example/rosterhall/rosterhall/ResourceId" "high" "J" (.long (0 : Int64)) := D18 (Or.inr (hw _ (List.mem_of_getElem? (i := 15) rfl))) (ty := .long) (by decide)
      have F18_low : Fld Z h18 b18 "com/example/rosterhall/rosterhall/ResourceId" "low" "J" (.long (0 : Int64)) := D18 (Or.inr (hw _ (List.mem_of_getElem? (i := 17) rfl))) (ty := .long) (by decide)
      obtain ⟨_, _, ⟨T27, L27, k27, n27⟩, -, X27, ⟨Lc27, hQ27, l27, y27, z27⟩, st27⟩ := X18.specialBack hx (y := (⟨"com/example/rosterhall/rosterhall/ResourceId", "<init>", "(JJ)V"⟩ : MethodName)) rfl hown (mvT hZ (hw _ (List.mem_of_getElem? (i := 3) rfl))) (mvT hZ (hw _ (List.mem_of_getElem? (i := 4) rfl))) (mvT hZ (hw _ (List.mem_of_getElem? (i := 5) rfl))) (by decide) (backOf (W := 1) (own_rmI l Z a0 hw [] b18 q0 q1 h18 n0 Zs22 A18 F18_high F18_low Ge19) hZ (hw _ (List.mem_of_getElem? (i := 5) rfl)) (hw _ (List.mem_of_getElem? (i := 2) rfl)) (by decide) (by decide)) (g := (mkF m 36 #[.val (.long q0), .second, .val (.long q1), .second, .val (.long q2), .second, .val (.long q3), .second, .val (.int p4), .val (.long q2), .second, .val (.long q3), .second, .unset, .unset, .unset, .unset, .unset] [(.long q1), (.long q0), (.ref b18), (.ref b18)])) rfl (by rw [hml]; rfl) (Steps.refl _) (a := b18) (argsL := [(.long q0), (.long q1)]) (rest := [(.ref b18)]) (lenOf own_pd2 rfl) rfl (by show 2 * 0 + _ ≤ _; exact Nat.le_of_eq rfl) (hb hby at_36) (fun _ _ => ⟨rfl, e18, (by decide : 1 + 0 ≤ _), (by decide : 2 + 0 ≤ _)⟩)
      dsimp only [Pt.U, Pt.locs, Pt.cells, Pt.slots] at X27 l27 y27 z27 st27 hQ27
      subst l27 y27 z27
      obtain ⟨rfl, Nq27, K27, Pf27_0, Pf27_1, Pf27_2⟩ := hQ27
      have N28 := Fr.app N0 Nq27
      have Kc29 : Keep h0 T27.heap [] := Kc21.trans K27 (allS (Or.inr Sz20) all0)
      have Zs30 : n0 ≤ T27.heap.size := Nat.le_trans Zs22 K27.1
      obtain ⟨T33, h33, X33, e33, E33, A33, D33, -, st33⟩ := newO X27 hx hZ hown (hw _ (List.mem_of_getElem? (i := 0) rfl)) (hw _ (List.mem_of_getElem? (i := 1) rfl)) (hw _ (List.mem_of_getElem? (i := 2) rfl)) rfl (g := (mkF m 41 #[.val (.long q0), .second, .val (.long q1), .second, .val (.long q2), .second, .val (.long q3), .second, .val (.int p4), .val (.long q2), .second, .val (.long q3), .second, .val (.ref b18), .unset, .unset, .unset, .unset] [])) rfl (hb hby at_41) (by decide) (by decide)
      obtain ⟨b33, g33⟩ : ∃ z, z = T27.heap.size := ⟨_, rfl⟩
      rw [← g33] at A33 D33 st33
      have Ne34 : b18 ≠ b33 := Nat.ne_of_lt (Nat.lt_of_lt_of_le Pf27_0.lt (Nat.le_of_eq g33.symm))
      have Ge35 : n0 ≤ b33 := Nat.le_trans Zs30 (Nat.le_of_eq g33.symm)
      have Sz36 : h0.size ≤ b33 := Nat.le_trans Kc29.1 (Nat.le_of_eq g33.symm)
      have Kc37 : Keep h0 h33 [] := Kc29.ext E33
      have Zs38 : n0 ≤ h33.size := (Nat.le_trans Zs30 E33.1)
      have F33_high : Fld Z h33 b33 "com/example/rosterhall/rosterhall/ResourceId" "high" "J" (.long (0 : Int64)) := D33 (Or.inr (hw _ (List.mem_of_getElem? (i := 15) rfl))) (ty := .long) (by decide)
      have F33_low : Fld Z h33 b33 "com/example/rosterhall/rosterhall/ResourceId" "low" "J" (.long (0 : Int64)) := D33 (Or.inr (hw _ (List.mem_of_getElem? (i := 17) rfl))) (ty := .long) (by decide)
      obtain ⟨_, _, ⟨T43, L43, k43, n43⟩, -, X43, ⟨Lc43, hQ43, l43, y43, z43⟩, st43⟩ := X33.specialBack hx (y := (⟨"com/example/rosterhall/rosterhall/ResourceId", "<init>", "(JJ)V"⟩ : MethodName)) rfl hown (mvT hZ (hw _ (List.mem_of_getElem? (i := 3) rfl))) (mvT hZ (hw _ (List.mem_of_getElem? (i := 4) rfl))) (mvT hZ (hw _ (List.mem_of_getElem? (i := 5) rfl))) (by decide) (backOf (W := 1) (own_rmI l Z a0 hw [] b33 q2 q3 h33 n0 Zs38 A33 F33_high F33_low Ge35) hZ (hw _ (List.mem_of_getElem? (i := 5) rfl)) (hw _ (List.mem_of_getElem? (i := 2) rfl)) (by decide) (by decide)) (g := (mkF m 49 #[.val (.long q0), .second, .val (.long q1), .second, .val (.long q2), .second, .val (.long q3), .second, .val (.int p4), .val (.long q2), .second, .val (.long q3), .second, .val (.ref b18), .unset, .unset, .unset, .unset] [(.long q3), (.long q2), (.ref b33), (.ref b33)])) rfl (by rw [hml]; rfl) (Steps.refl _) (a := b33) (argsL := [(.long q2), (.long q3)]) (rest := [(.ref b33)]) (lenOf own_pd2 rfl) rfl (by show 2 * 0 + _ ≤ _; exact Nat.le_of_eq rfl) (hb hby at_49) (fun _ _ => ⟨rfl, e33, (by decide : 2 + 0 ≤ _), (by decide : 4 + 0 ≤ _)⟩)
      dsimp only [Pt.U, Pt.locs, Pt.cells, Pt.slots] at X43 l43 y43 z43 st43 hQ43
      subst l43 y43 z43
      obtain ⟨rfl, Nq43, K43, Pf43_0, Pf43_1, Pf43_2⟩ := hQ43
      have N44 := Fr.app N28 Nq43
      have Kc45 : Keep h0 T43.heap [] := Kc37.trans K43 (allS (Or.inr Sz36) all0)
      have Zs46 : n0 ≤ T43.heap.size := Nat.le_trans Zs38 K43.1
      obtain ⟨_, _, ⟨T53, L53, k53, n53⟩, -, X53, ⟨Lc53, hQ53, l53, y53, z53⟩, st53⟩ := Jvm.LawKit.callS X43 hx (y := (⟨"com/example/rosterhall/rosterhall/ResourceIdCompareToPinLaw", "ref", "(JJJJ)I"⟩ : MethodName)) hown (mvT hZ (hw _ (List.mem_of_getElem? (i := 18) rfl))) (mvT hZ (hw _ (List.mem_of_getElem? (i := 19) rfl))) (mvT hZ (hw _ (List.mem_of_getElem? (i := 20) rfl))) (mvT hZ (hw _ (List.mem_of_getElem? (i := 21) rfl))) (by decide) (backOf (W := 0) (own_ref l Z a0 hw [] q0 q1 q2 q3 T43.heap n0 Zs46 ) hZ (hw _ (List.mem_of_getElem? (i := 21) rfl)) (hw _ (List.mem_of_getElem? (i := 20) rfl)) (by decide) (by decide)) (g := (mkF m 60 #[.val (.long q0), .second, .val (.long q1), .second, .val (.long q2), .second, .val (.long q3), .second, .val (.int p4), .val (.long q2), .second, .val (.long q3), .second, .val (.ref b18), .val (.ref b33), .unset, .unset, .unset] [(.long q3), (.long q2), (.long q1), (.long q0)])) rfl (by rw [hml]; rfl) (argsL := [(.long q0), (.long q1), (.long q2), (.long q3)]) (rest := []) (lenOf own_pd3 rfl) rfl (by show 2 * 0 + _ ≤ _; exact Nat.le_of_eq rfl) (hb hby at_60) (fun _ _ => ⟨rfl, rfl, (by decide : 2 + 0 ≤ _), (by decide : 4 + 0 ≤ _)⟩)
      dsimp only [Pt.U, Pt.locs, Pt.cells, Pt.slots] at X53 l53 y53 z53 st53 hQ53
      subst l53 y53 z53
      obtain ⟨rfl, Nq53, eh53⟩ := hQ53
      have N54 := Fr.app N44 Nq53
      have Fq60 : Fld Z T43.heap b18 "com/example/rosterhall/rosterhall/ResourceId" "high" "J" (.long q0) := ((Pf27_1.ext E33).keep K43 (ninS Ne34 nin0))
      have Fq61 : Fld Z T43.heap b18 "com/example/rosterhall/rosterhall/ResourceId" "low" "J" (.long q1) := ((Pf27_2.ext E33).keep K43 (ninS Ne34 nin0))
      have Fq62 : Exa Z T43.heap b18 "com/example/rosterhall/rosterhall/ResourceId" := ((Pf27_0.ext E33).keep K43)
      obtain ⟨cq59, kq59, q59a, q59b, q59c⟩ := isOf hZ eh53 Fq62
      obtain ⟨_, _, ⟨T59, L59, k59, n59⟩, -, X59, ⟨Lc59, hQ59, l59, y59, z59⟩, st59⟩ := X53.virtualBack hx (y := (⟨"com/example/rosterhall/rosterhall/ResourceId", "compareTo", "(Lcom/example/rosterhall/rosterhall/ResourceId;)I"⟩ : MethodName)) (z := (⟨"com/example/rosterhall/rosterhall/ResourceId", "compareTo", "(Lcom/example/rosterhall/rosterhall/ResourceId;)I"⟩ : MethodName)) hown (mvT hZ (hw _ (List.mem_of_getElem? (i := 26) rfl))) (mvT hZ (hw _ (List.mem_of_getElem? (i := 27) rfl))) (notFace_of_selects (args := #[]) (mvT hZ (hw _ (List.mem_of_getElem? (i := 29) rfl)))) (mvT hZ (hw _ (List.mem_of_getElem? (i := 29) rfl))) (mvT hZ (hw _ (List.mem_of_getElem? (i := 28) rfl))) (by decide) (backOf (W := 0) (own_rmC l Z a0 hw [] b18 b33 q0 q1 q2 q3 T43.heap n0 Zs46 Fq60 Fq61 Pf43_1 Pf43_2) hZ (hw _ (List.mem_of_getElem? (i := 30) rfl)) (hw _ (List.mem_of_getElem? (i := 2) rfl)) (by decide) (by decide)) q59a q59c (g := (mkF m 69 #[.val (.long q0), .second, .val (.long q1), .second, .val (.long q2), .second, .val (.long q3), .second, .val (.int p4), .val (.long q2), .second, .val (.long q3), .second, .val (.ref b18), .val (.ref b33), .val (.int (own_ref_f q0 q1 q2 q3)), .unset, .unset] [(.ref b33), (.ref b18)])) rfl (by rw [hml]; rfl) (Steps.refl _) (argsL := [(.ref b33)]) (rest := []) (lenOf own_pd4 rfl) rfl (by show 2 * 0 + _ ≤ _; exact Nat.le_of_eq rfl) (hb hby at_69) (fun _ _ => ⟨rfl, eh53, (by decide : 2 + 0 ≤ _), (by decide : 4 + 0 ≤ _)⟩)
      dsimp only [Pt.U, Pt.locs, Pt.cells, Pt.slots] at X59 l59 y59 z59 st59 hQ59
      subst l59 y59 z59
      obtain ⟨rfl, Nq59, eh59⟩ := hQ59
      have N63 := Fr.app N54 Nq59
      obtain ⟨_, _, ⟨T65, L65, k65, n65⟩, -, X65, ⟨Lc65, hQ65, l65, y65, z65⟩, st65⟩ := Jvm.LawKit.callS X59 hx (y := (⟨"com/example/rosterhall/rosterhall/ResourceIdCompareToPinLaw", "sign", "(I)I"⟩ : MethodName)) hown (mvT hZ (hw _ (List.mem_of_getElem? (i := 39) rfl))) (mvT hZ (hw _ (List.mem_of_getElem? (i := 40) rfl))) (mvT hZ (hw _ (List.mem_of_getElem? (i := 20) rfl))) (mvT hZ (hw _ (List.mem_of_getElem? (i := 41) rfl))) (by decide) (backOf (W := 0) (own_sign l Z a0 hw [] (own_rmC_f q0 q1 q2 q3) T43.heap n0 Zs46 ) hZ (hw _ (List.mem_of_getElem? (i := 41) rfl)) (hw _ (List.mem_of_getElem? (i := 20) rfl)) (by decide) (by decide)) (g := (mkF m 72 #[.val (.long q0), .second, .val (.long q1), .second, .val (.long q2), .second, .val (.long q3), .second, .val (.int p4), .val (.long q2), .second, .val (.long q3), .second, .val (.ref b18), .val (.ref b33), .val (.int (own_ref_f q0 q1 q2 q3)), .unset, .unset] [(.int (own_rmC_f q0 q1 q2 q3))])) rfl (by rw [hml]; rfl) (argsL := [(.int (own_rmC_f q0 q1 q2 q3))]) (rest := []) (lenOf own_pd5 rfl) rfl (by show 2 * 0 + _ ≤ _; exact Nat.le_of_eq rfl) (hb hby at_72) (fun _ _ => ⟨rfl, eh59, (by decide : 2 + 0 ≤ _), (by decide : 4 + 0 ≤ _)⟩)
      dsimp only [Pt.U, Pt.locs, Pt.cells, Pt.slots] at X65 l65 y65 z65 st65 hQ65
      subst l65 y65 z65
      obtain ⟨rfl, Nq65, eh65⟩ := hQ65
      have N66 := Fr.app N63 Nq65
      obtain ⟨cq71, kq71, q71a, q71b, q71c⟩ := isOf hZ eh65 Pf43_0
      obtain ⟨_, _, ⟨T71, L71, k71, n71⟩, -, X71, ⟨Lc71, hQ71, l71, y71, z71⟩, st71⟩ := X65.virtualBack hx (y := (⟨"com/example/rosterhall/rosterhall/ResourceId", "compareTo", "(Lcom/example/rosterhall/rosterhall/ResourceId;)I"⟩ : MethodName)) (z := (⟨"com/example/rosterhall/rosterhall/ResourceId", "compareTo", "(Lcom/example/rosterhall/rosterhall/ResourceId;)I"⟩ : MethodName)) hown (mvT hZ (hw _ (List.mem_of_getElem? (i := 26) rfl))) (mvT hZ (hw _ (List.mem_of_getElem? (i := 27) rfl))) (notFace_of_selects (args := #[]) (mvT hZ (hw _ (List.mem_of_getElem? (i := 29) rfl)))) (mvT hZ (hw _ (List.mem_of_getElem? (i := 29) rfl))) (mvT hZ (hw _ (List.mem_of_getElem? (i := 28) rfl))) (by decide) (backOf (W := 0) (own_rmC l Z a0 hw [] b33 b18 q2 q3 q0 q1 T43.heap n0 Zs46 Pf43_1 Pf43_2 Fq60 Fq61) hZ (hw _ (List.mem_of_getElem? (i := 30) rfl)) (hw _ (List.mem_of_getElem? (i := 2) rfl)) (by decide) (by decide)) q71a q71c (g := (mkF m 81 #[.val (.long q0), .second, .val (.long q1), .second, .val (.long q2), .second, .val (.long q3), .second, .val (.int p4), .val (.long q2), .second, .val (.long q3), .second, .val (.ref b18), .val (.ref b33), .val (.int (own_ref_f q0 q1 q2 q3)), .val (.int (own_sign_f (own_rmC_f q0 q1 q2 q3))), .unset] [(.ref b18), (.ref b33)])) rfl (by rw [hml]; rfl) (Steps.refl _) (argsL := [(.ref b18)]) (rest := []) (lenOf own_pd4 rfl) rfl (by show 2 * 0 + _ ≤ _; exact Nat.le_of_eq rfl) (hb hby at_81) (fun _ _ => ⟨rfl, eh65, (by decide : 2 + 0 ≤ _), (by decide : 4 + 0 ≤ _)⟩)
      dsimp only [Pt.U, Pt.locs, Pt.cells, Pt.slots] at X71 l71 y71 z71 st71 hQ71
      subst l71 y71 z71
      obtain ⟨rfl, Nq71, eh71⟩ := hQ71
      have N72 := Fr.app N66 Nq71
      obtain ⟨_, _, ⟨T74, L74, k74, n74⟩, -, X74, ⟨Lc74, hQ74, l74, y74, z74⟩, st74⟩ := Jvm.LawKit.callS X71 hx (y := (⟨"com/example/rosterhall/rosterhall/ResourceIdCompareToPinLaw", "sign", "(I)I"⟩ : MethodName)) hown (mvT hZ (hw _ (List.mem_of_getElem? (i := 39) rfl))) (mvT hZ (hw _ (List.mem_of_getElem? (i := 40) rfl))) (mvT hZ (hw _ (List.mem_of_getElem? (i := 20) rfl))) (mvT hZ (hw _ (List.mem_of_getElem? (i := 41) rfl))) (by decide) (backOf (W := 0) (own_sign l Z a0 hw [] (own_rmC_f q2 q3 q0 q1) T43.heap n0 Zs46 ) hZ (hw _ (List.mem_of_getElem? (i := 41) rfl)) (hw _ (List.mem_of_getElem? (i := 20) rfl)) (by decide) (by decide)) (g := (mkF m 84 #[.val (.long q0), .second, .val (.long q1), .second, .val (.long q2), .second, .val (.long q3), .second, .val (.int p4), .val (.long q2), .second, .val (.long q3), .second, .val (.ref b18), .val (.ref b33), .val (.int (own_ref_f q0 q1 q2 q3)), .val (.int (own_sign_f (own_rmC_f q0 q1 q2 q3))), .unset] [(.int (own_rmC_f q2 q3 q0 q1))])) rfl (by rw [hml]; rfl) (argsL := [(.int (own_rmC_f q2 q3 q0 q1))]) (rest := []) (lenOf own_pd5 rfl) rfl (by show 2 * 0 + _ ≤ _; exact Nat.le_of_eq rfl) (hb hby at_84) (fun _ _ => ⟨rfl, eh71, (by decide : 2 + 0 ≤ _), (by decide : 4 + 0 ≤ _)⟩)
      dsimp only [Pt.U, Pt.locs, Pt.cells, Pt.slots] at X74 l74 y74 z74 st74 hQ74
      subst l74 y74 z74
      obtain ⟨rfl, Nq74, eh74⟩ := hQ74
      have N75 := Fr.app N72 Nq74
      obtain ⟨fs, hr, hrun, hended, hW, hsame⟩ := X74.leave (v := some (.int (1 : Int32))) (fun h => by rw [Bd.returns] at h; cases h) (hlocks := BodyLoose.notSynchronized Bd)
      refine ⟨_, _, pre13 _ ?_, hrun, hended, _, _, rfl, ?_, ⟨_, rfl⟩, hW, hsame.mono (by decide) (by decide)⟩
      · show Steps p.tables e below (s₁.setTop (mkF m 19 #[.val (.long q0), .second, .val (.long q1), .second, .val (.long q2), .second, .val (.long q3), .second, .val (.int p4), .val (.long q2), .second, .unset, .unset, .unset, .unset, .unset, .unset, .unset] [(.int (p4 &&& (2 : Int32)))])) _
        refine XS.ifYes X0.here hx rfl (pc0 := 19) (pc' := 26) rfl (hb hby at_19) rfl ((if0 _ _).trans (teq hc19_14).1) (by decide) (by decide) ?_
        show Steps p.tables e below (s₁.setTop (mkF m 26 #[.val (.long q0), .second, .val (.long q1), .second, .val (.long q2), .second, .val (.long q3), .second, .val (.int p4), .val (.long q2), .second, .unset, .unset, .unset, .unset, .unset, .unset, .unset] [])) _
        refine XS.lload X0.here hx rfl (hb hby at_26) rfl ?_
        show Steps p.tables e below (s₁.setTop (mkF m 28 #[.val (.long q0), .second, .val (.long q1), .second, .val (.long q2), .second, .val (.long q3), .second, .val (.int p4), .val (.long q2), .second, .unset, .unset, .unset, .unset, .unset, .unset, .unset] [(.long q3)])) _
        refine XS.lstore X0.here hx rfl (hb hby at_28) rfl (l' := #[.val (.long q0), .second, .val (.long q1), .second, .val (.long q2), .second, .val (.long q3), .second, .val (.int p4), .val (.long q2), .second, .val (.long q3), .second, .unset, .unset, .unset, .unset, .unset]) rfl ?_
        show Steps p.tables e below (s₁.setTop (mkF m 30 #[.val (.long q0), .second, .val (.long q1), .second, .val (.long q2), .second, .val (.long q3), .second, .val (.int p4), .val (.long q2), .second, .val (.long q3), .second, .unset, .unset, .unset, .unset, .unset] [])) _
        refine st18 _ ?_
        show Steps p.tables e below (T18.setTop (mkF m 33 #[.val (.long q0), .second, .val (.long q1), .second, .val (.long q2), .second, .val (.long q3), .second, .val (.int p4), .val (.long q2), .second, .val (.long q3), .second, .unset, .unset, .unset, .unset, .unset] [(.ref b18)])) _
        refine XS.dup X18.here hx rfl (hb hby at_33) rfl rfl ?_
        show Steps p.tables e below (T18.setTop (mkF m 34 #[.val (.long q0), .second, .val (.long q1), .second, .val (.long q2), .second, .val (.long q3), .second, .val (.int p4), .val (.long q2), .second, .val (.long q3), .second, .unset, .unset, .unset, .unset, .unset] [(.ref b18), (.ref b18)])) _
        refine XS.lloadN X18.here hx rfl (hb hby at_34) rfl ?_
        show Steps p.tables e below (T18.setTop (mkF m 35 #[.val (.long q0), .second, .val (.long q1), .second, .val (.long q2), .second, .val (.long q3), .second, .val (.int p4), .val (.long q2), .second, .val (.long q3), .second, .unset, .unset, .unset, .unset, .unset] [(.long q0), (.ref b18), (.ref b18)])) _
        refine XS.lloadN X18.here hx rfl (hb hby at_35) rfl ?_
        show Steps p.tables e below (T18.setTop (mkF m 36 #[.val (.long q0), .second, .val (.long q1), .second, .val (.long q2), .second, .val (.long q3), .second, .val (.int p4), .val (.long q2), .second, .val (.long q3), .second, .unset, .unset, .unset, .unset, .unset] [(.long q1), (.long q0), (.ref b18), (.ref b18)])) _
        refine st27.trans ?_
        show Steps p.tables e below (T27.setTop (mkF m 39 #[.val (.long q0), .second, .val (.long q1), .second, .val (.long q2), .second, .val (.long q3), .second, .val (.int p4), .val (.long q2), .second, .val (.long q3), .second, .unset, .unset, .unset, .unset, .unset] [(.ref b18)])) _
        refine XS.astore X27.here hx rfl (hb hby at_39) rfl rfl (l' := #[.val (.long q0), .second, .val (.long q1), .second, .val (.long q2), .second, .val (.long q3), .second, .val (.int p4), .val (.long q2), .second, .val (.long q3), .second, .val (.ref b18), .unset, .unset, .unset, .unset]) rfl ?_
        show Steps p.tables e below (T27.setTop (mkF m 41 #[.val (.long q0), .second, .val (.long q1), .second, .val (.long q2), .second, .val (.long q3), .second, .val (.int p4), .val (.long q2), .second, .val (.long q3), .second, .val (.ref b18), .unset, .unset, .unset, .unset] [])) _
        refine st33 _ ?_
        show Steps p.tables e below (T33.setTop (mkF m 44 #[.val (.long q0), .second, .val (.long q1), .second, .val (.long q2), .second, .val (.long q3), .second, .val (.int p4), .val (.long q2), .second, .val (.long q3), .second, .val (.ref b18), .unset, .unset, .unset, .unset] [(.ref b33)])) _
        refine XS.dup X33.here hx rfl (hb hby at_44) rfl rfl ?_
        show Steps p.tables e below (T33.setTop (mkF m 45 #[.val (.long q0), .second, .val (.long q1), .second, .val (.long q2), .second, .val (.long q3), .second, .val (.int p4), .val (.long q2), .second, .val (.long q3), .second, .val (.ref b18), .unset, .unset, .unset, .unset] [(.ref b33), (.ref b33)])) _
        refine XS.lload X33.here hx rfl (hb hby at_45) rfl ?_
        show Steps p.tables e below (T33.setTop (mkF m 47 #[.val (.long q0), .second, .val (.long q1), .second, .val (.long q2), .second, .val (.long q3), .second, .val (.int p4), .val (.long q2), .second, .val (.long q3), .second, .val (.ref b18), .unset, .unset, .unset, .unset] [(.long q2), (.ref b33), (.ref b33)])) _
        refine XS.lload X33.here hx rfl (hb hby at_47) rfl ?_
        show Steps p.tables e below (T33.setTop (mkF m 49 #[.val (.long q0), .second, .val (.long q1), .second, .val (.long q2), .second, .val (.long q3), .second, .val (.int p4), .val (.long q2), .second, .val (.long q3), .second, .val (.ref b18), .unset, .unset, .unset, .unset] [(.long q3), (.long q2), (.ref b33), (.ref b33)])) _
        refine st43.trans ?_
        show Steps p.tables e below (T43.setTop (mkF m 52 #[.val (.long q0), .second, .val (.long q1), .second, .val (.long q2), .second, .val (.long q3), .second, .val (.int p4), .val (.long q2), .second, .val (.long q3), .second, .val (.ref b18), .unset, .unset, .unset, .unset] [(.ref b33)])) _
        refine XS.astore X43.here hx rfl (hb hby at_52) rfl rfl (l' := #[.val (.long q0), .second, .val (.long q1), .second, .val (.long q2), .second, .val (.long q3), .second, .val (.int p4), .val (.long q2), .second, .val (.long q3), .second, .val (.ref b18), .val (.ref b33), .unset, .unset, .unset]) rfl ?_
        show Steps p.tables e below (T43.setTop (mkF m 54 #[.val (.long q0), .second, .val (.long q1), .second, .val (.long q2), .second, .val (.long q3), .second, .val (.int p4), .val (.long q2), .second, .val (.long q3), .second, .val (.ref b18), .val (.ref b33), .unset, .unset, .unset] [])) _
        refine XS.lloadN X43.here hx rfl (hb hby at_54) rfl ?_
        show Steps p.tables e below (T43.setTop (mkF m 55 #[.val (.long q0), .second, .val (.long q1), .second, .val (.long q2), .second, .val (.long q3), .second, .val (.int p4), .val (.long q2), .second, .val (.long q3), .second, .val (.ref b18), .val (.ref b33), .unset, .unset, .unset] [(.long q0)])) _
        refine XS.lloadN X43.here hx rfl (hb hby at_55) rfl ?_
        show Steps p.tables e below (T43.setTop (mkF m 56 #[.val (.long q0), .second, .val (.long q1), .second, .val (.long q2), .second, .val (.long q3), .second, .val (.int p4), .val (.long q2), .second, .val (.long q3), .second, .val (.ref b18), .val (.ref b33), .unset, .unset, .unset] [(.long q1), (.long q0)])) _
        refine XS.lload X43.here hx rfl (hb hby at_56) rfl ?_
        show Steps p.tables e below (T43.setTop (mkF m 58 #[.val (.long q0), .second, .val (.long q1), .second, .val (.long q2), .second, .val (.long q3), .second, .val (.int p4), .val (.long q2), .second, .val (.long q3), .second, .val (.ref b18), .val (.ref b33), .unset, .unset, .unset] [(.long q2), (.long q1), (.long q0)])) _
        refine XS.lload X43.here hx rfl (hb hby at_58) rfl ?_
        show Steps p.tables e below (T43.setTop (mkF m 60 #[.val (.long q0), .second, .val (.long q1), .second, .val (.long q2), .second, .val (.long q3), .second, .val (.int p4), .val (.long q2), .second, .val (.long q3), .second, .val (.ref b18), .val (.ref b33), .unset, .unset, .unset] [(.long q3), (.long q2), (.long q1), (.long q0)])) _
        refine st53 _ ?_
        show Steps p.tables e below (T53.setTop (mkF m 63 #[.val (.long q0), .second, .val (.long q1), .second, .val (.long q2), .second, .val (.long q3), .second, .val (.int p4), .val (.long q2), .second, .val (.long q3), .second, .val (.ref b18), .val (.ref b33), .unset, .unset, .unset] [(.int (own_ref_f q0 q1 q2 q3))])) _
        refine XS.istore X53.here hx rfl (hb hby at_63) rfl (l' := #[.val (.long q0), .second, .val (.long q1), .second, .val (.long q2), .second, .val (.long q3), .second, .val (.int p4), .val (.long q2), .second, .val (.long q3), .second, .val (.ref b18), .val (.ref b33), .val (.int (own_ref_f q0 q1 q2 q3)), .unset, .unset]) rfl ?_
        show Steps p.tables e below (T53.setTop (mkF m 65 #[.val (.long q0), .second, .val (.long q1), .second, .val (.long q2), .second, .val (.long q3), .second, .val (.int p4), .val (.long q2), .second, .val (.long q3), .second, .val (.ref b18), .val (.ref b33), .val (.int (own_ref_f q0 q1 q2 q3)), .unset, .unset] [])) _
        refine XS.aload X53.here hx rfl (hb hby at_65) rfl rfl ?_
        show Steps p.tables e below (T53.setTop (mkF m 67 #[.val (.long q0), .second, .val (.long q1), .second, .val (.long q2), .second, .val (.long q3), .second, .val (.int p4), .val (.long q2), .second, .val (.long q3), .second, .val (.ref b18), .val (.ref b33), .val (.int (own_ref_f q0 q1 q2 q3)), .unset, .unset] [(.ref b18)])) _
        refine XS.aload X53.here hx rfl (hb hby at_67) rfl rfl ?_
        show Steps p.tables e below (T53.setTop (mkF m 69 #[.val (.long q0), .second, .val (.long q1), .second, .val (.long q2), .second, .val (.long q3), .second, .val (.int p4), .val (.long q2), .second, .val (.long q3), .second, .val (.ref b18), .val (.ref b33), .val (.int (own_ref_f q0 q1 q2 q3)), .unset, .unset] [(.ref b33), (.ref b18)])) _
        refine st59.trans ?_
        show Steps p.tables e below (T59.setTop (mkF m 72 #[.val (.long q0), .second, .val (.long q1), .second, .val (.long q2), .second, .val (.long q3), .second, .val (.int p4), .val (.long q2), .second, .val (.long q3), .second, .val (.ref b18), .val (.ref b33), .val (.int (own_ref_f q0 q1 q2 q3)), .unset, .unset] [(.int (own_rmC_f q0 q1 q2 q3))])) _
        refine st65 _ ?_
        show Steps p.tables e below (T65.setTop (mkF m 75 #[.val (.long q0), .second, .val (.long q1), .second, .val (.long q2), .second, .val (.long q3), .second, .val (.int p4), .val (.long q2), .second, .val (.long q3), .second, .val (.ref b18), .val (.ref b33), .val (.int (own_ref_f q0 q1 q2 q3)), .unset, .unset] [(.int (own_sign_f (own_rmC_f q0 q1 q2 q3)))])) _
        refine XS.istore X65.here hx rfl (hb hby at_75) rfl (l' := #[.val (.long q0), .second, .val (.long q1), .second, .val (.long q2), .second, .val (.long q3), .second, .val (.int p4), .val (.long q2), .second, .val (.long q3), .second, .val (.ref b18), .val (.ref b33), .val (.int (own_ref_f q0 q1 q2 q3)), .val (.int (own_sign_f (own_rmC_f q0 q1 q2 q3))), .unset]) rfl ?_
        show Steps p.tables e below (T65.setTop (mkF m 77 #[.val (.long q0), .second, .val (.long q1), .second, .val (.long q2), .second, .val (.long q3), .second, .val (.int p4), .val (.long q2), .second, .val (.long q3), .second, .val (.ref b18), .val (.ref b33), .val (.int (own_ref_f q0 q1 q2 q3)), .val (.int (own_sign_f (own_rmC_f q0 q1 q2 q3))), .unset] [])) _
        refine XS.aload X65.here hx rfl (hb hby at_77) rfl rfl ?_
        show Steps p.tables e below (T65.setTop (mkF m 79 #[.val (.long q0), .second, .val (.long q1), .second, .val (.long q2), .second, .val (.long q3), .second, .val (.int p4), .val (.long q2), .second, .val (.long q3), .second, .val (.ref b18), .val (.ref b33), .val (.int (own_ref_f q0 q1 q2 q3)), .val (.int (own_sign_f (own_rmC_f q0 q1 q2 q3))), .unset] [(.ref b33)])) _
        refine XS.aload X65.here hx rfl (hb hby at_79) rfl rfl ?_
        show Steps p.tables e below (T65.setTop (mkF m 81 #[.val (.long q0), .second, .val (.long q1), .second, .val (.long q2), .second, .val (.long q3), .second, .val (.int p4), .val (.long q2), .second, .val (.long q3), .second, .val (.ref b18), .val (.ref b33), .val (.int (own_ref_f q0 q1 q2 q3)), .val (.int (own_sign_f (own_rmC_f q0 q1 q2 q3))), .unset] [(.ref b18), (.ref b33)])) _
        refine st71.trans ?_
        show Steps p.tables e below (T71.setTop (mkF m 84 #[.val (.long q0), .second, .val (.long q1), .second, .val (.long q2), .second, .val (.long q3), .second, .val (.int p4), .val (.long q2), .second, .val (.long q3), .second, .val (.ref b18), .val (.ref b33), .val (.int (own_ref_f q0 q1 q2 q3)), .val (.int (own_sign_f (own_rmC_f q0 q1 q2 q3))), .unset] [(.int (own_rmC_f q2 q3 q0 q1))])) _
        refine st74 _ ?_
        show Steps p.tables e below (T74.setTop (mkF m 87 #[.val (.long q0), .second, .val (.long q1), .second, .val (.long q2), .second, .val (.long q3), .second, .val (.int p4), .val (.long q2), .second, .val (.long q3), .second, .val (.ref b18), .val (.ref b33), .val (.int (own_ref_f q0 q1 q2 q3)), .val (.int (own_sign_f (own_rmC_f q0 q1 q2 q3))), .unset] [(.int (own_sign_f (own_rmC_f q2 q3 q0 q1)))])) _
        refine XS.istore X74.here hx rfl (hb hby at_87) rfl (l' := #[.val (.long q0), .second, .val (.long q1), .second, .val (.long q2), .second, .val (.long q3), .second, .val (.int p4), .val (.long q2), .second, .val (.long q3), .second, .val (.ref b18), .val (.ref b33), .val (.int (own_ref_f q0 q1 q2 q3)), .val (.int (own_sign_f (own_rmC_f q0 q1 q2 q3))), .val (.int (own_sign_f (own_rmC_f q2 q3 q0 q1)))]) rfl ?_
        show Steps p.tables e below (T74.setTop (mkF m 89 #[.val (.long q0), .second, .val (.long q1), .second, .val (.long q2), .second, .val (.long q3), .second, .val (.int p4), .val (.long q2), .second, .val (.long q3), .second, .val (.ref b18), .val (.ref b33), .val (.int (own_ref_f q0 q1 q2 q3)), .val (.int (own_sign_f (own_rmC_f q0 q1 q2 q3))), .val (.int (own_sign_f (own_rmC_f q2 q3 q0 q1)))] [])) _
        refine XS.iload X74.here hx rfl (hb hby at_89) rfl ?_
        show Steps p.tables e below (T74.setTop (mkF m 91 #[.val (.long q0), .second, .val (.long q1), .second, .val (.long q2), .second, .val (.long q3), .second, .val (.int p4), .val (.long q2), .second, .val (.long q3), .second, .val (.ref b18), .val (.ref b33), .val (.int (own_ref_f q0 q1 q2 q3)), .val (.int (own_sign_f (own_rmC_f q0 q1 q2 q3))), .val (.int (own_sign_f (own_rmC_f q2 q3 q0 q1)))] [(.int (own_sign_f (own_rmC_f q0 q1 q2 q3)))])) _
        refine XS.iload X74.here hx rfl (hb hby at_91) rfl ?_
        show Steps p.tables e below (T74.setTop (mkF m 93 #[.val (.long q0), .second, .val (.long q1), .second, .val (.long q2), .second, .val (.long q3), .second, .val (.int p4), .val (.long q2), .second, .val (.long q3), .second, .val (.ref b18), .val (.ref b33), .val (.int (own_ref_f q0 q1 q2 q3)), .val (.int (own_sign_f (own_rmC_f q0 q1 q2 q3))), .val (.int (own_sign_f (own_rmC_f q2 q3 q0 q1)))] [(.int (own_ref_f q0 q1 q2 q3)), (.int (own_sign_f (own_rmC_f q0 q1 q2 q3)))])) _
        refine XS.icmpNo X74.here hx rfl (hb hby at_93) rfl (teq (own_m1 _ _ _ _ : (own_sign_f (own_rmC_f q0 q1 q2 q3)) = (own_ref_f q0 q1 q2 q3))).2 ?_
        show Steps p.tables e below (T74.setTop (mkF m 96 #[.val (.long q0), .second, .val (.long q1), .second, .val (.long q2), .second, .val (.long q3), .second, .val (.int p4), .val (.long q2), .second, .val (.long q3), .second, .val (.ref b18), .val (.ref b33), .val (.int (own_ref_f q0 q1 q2 q3)), .val (.int (own_sign_f (own_rmC_f q0 q1 q2 q3))), .val (.int (own_sign_f (own_rmC_f q2 q3 q0 q1)))] [])) _
        refine XS.iload X74.here hx rfl (hb hby at_96) rfl ?_
        show Steps p.tables e below (T74.setTop (mkF m 98 #[.val (.long q0), .second, .val (.long q1), .second, .val (.long q2), .second, .val (.long q3), .second, .val (.int p4), .val (.long q2), .second, .val (.long q3), .second, .val (.ref b18), .val (.ref b33), .val (.int (own_ref_f q0 q1 q2 q3)), .val (.int (own_sign_f (own_rmC_f q0 q1 q2 q3))), .val (.int (own_sign_f (own_rmC_f q2 q3 q0 q1)))] [(.int (own_sign_f (own_rmC_f q2 q3 q0 q1)))])) _
        refine XS.iload X74.here hx rfl (hb hby at_98) rfl ?_
        show Steps p.tables e below (T74.setTop (mkF m 100 #[.val (.long q0), .second, .val (.long q1), .second, .val (.long q2), .second, .val (.long q3), .second, .val (.int p4), .val (.long q2), .second, .val (.long q3), .second, .val (.ref b18), .val (.ref b33), .val (.int (own_ref_f q0 q1 q2 q3)), .val (.int (own_sign_f (own_rmC_f q0 q1 q2 q3))), .val (.int (own_sign_f (own_rmC_f q2 q3 q0 q1)))] [(.int (own_ref_f q0 q1 q2 q3)), (.int (own_sign_f (own_rmC_f q2 q3 q0 q1)))])) _
        refine XS.ineg X74.here hx rfl (hb hby at_100) rfl ?_
        show Steps p.tables e below (T74.setTop (mkF m 101 #[.val (.long q0), .second, .val (.long q1), .second, .val (.long q2), .second, .val (.long q3), .second, .val (.int p4), .val (.long q2), .second, .val (.long q3), .second, .val (.ref b18), .val (.ref b33), .val (.int (own_ref_f q0 q1 q2 q3)), .val (.int (own_sign_f (own_rmC_f q0 q1 q2 q3))), .val (.int (own_sign_f (own_rmC_f q2 q3 q0 q1)))] [(.int (-(own_ref_f q0 q1 q2 q3))), (.int (own_sign_f (own_rmC_f q2 q3 q0 q1)))])) _
        refine XS.icmpNo X74.here hx rfl (hb hby at_101) rfl (teq (own_m2 _ _ _ _ : (own_sign_f (own_rmC_f q2 q3 q0 q1)) = (-(own_ref_f q0 q1 q2 q3)))).2 ?_
        show Steps p.tables e below (T74.setTop (mkF m 104 #[.val (.long q0), .second, .val (.long q1), .second, .val (.long q2), .second, .val (.long q3), .second, .val (.int p4), .val (.long q2), .second, .val (.long q3), .second, .val (.ref b18), .val (.ref b33), .val (.int (own_ref_f q0 q1 q2 q3)), .val (.int (own_sign_f (own_rmC_f q0 q1 q2 q3))), .val (.int (own_sign_f (own_rmC_f q2 q3 q0 q1)))] [])) _
        refine XS.iconst X74.here hx rfl (hb hby at_104) ?_
        show Steps p.tables e below (T74.setTop (mkF m 105 #[.val (.long q0), .second, .val (.long q1), .second, .val (.long q2), .second, .val (.long q3), .second, .val (.int p4), .val (.long q2), .second, .val (.long q3), .second, .val (.ref b18), .val (.ref b33), .val (.int (own_ref_f q0 q1 q2 q3)), .val (.int (own_sign_f (own_rmC_f q0 q1 q2 q3))), .val (.int (own_sign_f (own_rmC_f q2 q3 q0 q1)))] [(.int (1 : Int32))])) _
        refine XS.goto X74.here hx rfl (pc0 := 105) (pc' := 109) rfl (hb hby at_105) (by decide) (by decide) ?_
        show Steps p.tables e below (T74.setTop (mkF m 109 #[.val (.long q0), .second, .val (.long q1), .second, .val (.long q2), .second, .val (.long q3), .second, .val (.int p4), .val (.long q2), .second, .val (.long q3), .second, .val (.ref b18), .val (.ref b33), .val (.int (own_ref_f q0 q1 q2 q3)), .val (.int (own_sign_f (own_rmC_f q0 q1 q2 q3))), .val (.int (own_sign_f (own_rmC_f q2 q3 q0 q1)))] [(.int (1 : Int32))])) _
        exact retN X74 hx (t := .boolean) Bd.returns (by simp) (hb hby at_109) hr
      · show Qown_law Z q0 q1 q2 q3 p4 h0 n0 _ T74.heap _
        rw [eh74]
        exact ⟨rfl, N75⟩
    · obtain ⟨T91, h91, X91, e91, E91, A91, D91, -, st91⟩ := newO X0 hx hZ hown (hw _ (List.mem_of_getElem? (i := 0) rfl)) (hw _ (List.mem_of_getElem? (i := 1) rfl)) (hw _ (List.mem_of_getElem? (i := 2) rfl)) e0 (g := (mkF m 30 #[.val (.long q0), .second, .val (.long q1), .second, .val (.long q2), .second, .val (.long q3), .second, .val (.int p4), .val (.long q2), .second, .val (.long q1), .second, .unset, .unset, .unset, .unset, .unset] [])) rfl (hb hby at_30) (by decide) (by decide)
      obtain ⟨b91, g91⟩ : ∃ z, z = h0.size := ⟨_, rfl⟩
      rw [← g91] at A91 D91 st91
      have Ge92 : n0 ≤ b91 := Nat.le_trans Z0 (Nat.le_of_eq g91.symm)
      have Sz93 : h0.size ≤ b91 := Nat.le_trans (Keep.refl h0 []).1 (Nat.le_of_eq g91.symm)
      have Kc94 : Keep h0 h91 [] := (Keep.refl h0 []).ext E91
      have Zs95 : n0 ≤ h91.size := (Nat.le_trans Z0 E91.1)
      have F91_high : Fld Z h91 b91 "com/example/rosterhall/rosterhall/ResourceId" "high" "J" (.long (0 : Int64)) := D91 (Or.inr (hw _ (List.mem_of_getElem? (i := 15) rfl))) (ty := .long) (by decide)
      have F91_low : Fld Z h91 b91 "com/example/rosterhall/rosterhall/ResourceId" "low" "J" (.long (0 : Int64)) := D91 (Or.inr (hw _ (List.mem_of_getElem? (i := 17) rfl))) (ty := .long) (by decide)
      obtain ⟨_, _, ⟨T100, L100, k100, n100⟩, -, X100, ⟨Lc100, hQ100, l100, y100, z100⟩, st100⟩ := X91.specialBack hx (y := (⟨"com/example/rosterhall/rosterhall/ResourceId", "<init>", "(JJ)V"⟩ : MethodName)) rfl hown (mvT hZ (hw _ (List.mem_of_getElem? (i := 3) rfl))) (mvT hZ (hw _ (List.mem_of_getElem? (i := 4) rfl))) (mvT hZ (hw _ (List.mem_of_getElem? (i := 5) rfl))) (by decide) (backOf (W := 1) (own_rmI l Z a0 hw [] b91 q0 q1 h91 n0 Zs95 A91 F91_high F91_low Ge92) hZ (hw _ (List.mem_of_getElem? (i := 5) rfl)) (hw _ (List.mem_of_getElem? (i := 2) rfl)) (by decide) (by decide)) (g := (mkF m 36 #[.val (.long q0), .second, .val (.long q1), .second, .val (.long q2), .second, .val (.long q3), .second, .val (.int p4), .val (.long q2), .second, .val (.long q1), .second, .unset, .unset, .unset, .unset, .unset] [(.long q1), (.long q0), (.ref b91), (.ref b91)])) rfl (by rw [hml]; rfl) (Steps.refl _) (a := b91) (argsL := [(.long q0), (.long q1)]) (rest := [(.ref b91)]) (lenOf own_pd2 rfl) rfl (by show 2 * 0 + _ ≤ _; exact Nat.le_of_eq rfl) (hb hby at_36) (fun _ _ => ⟨rfl, e91, (by decide : 1 + 0 ≤ _), (by decide : 2 + 0 ≤ _)⟩)
      dsimp only [Pt.U, Pt.locs, Pt.cells, Pt.slots] at X100 l100 y100 z100 st100 hQ100
      subst l100 y100 z100
      obtain ⟨rfl, Nq100, K100, Pf100_0, Pf100_1, Pf100_2⟩ := hQ100
      have N101 := Fr.app N0 Nq100
      have Kc102 : Keep h0 T100.heap [] := Kc94.trans K100 (allS (Or.inr Sz93) all0)
      have Zs103 : n0 ≤ T100.heap.size := Nat.le_trans Zs95 K100.1
      obtain ⟨T106, h106, X106, e106, E106, A106, D106, -, st106⟩ := newO X100 hx hZ hown (hw _ (List.mem_of_getElem? (i := 0) rfl)) (hw _ (List.mem_of_getElem? (i := 1) rfl)) (hw _ (List.mem_of_getElem? (i := 2) rfl)) rfl (g := (mkF m 41 #[.val (.long q0), .second, .val (.long q1), .second, .val (.long q2), .second, .val (.long q3), .second, .val (.int p4), .val (.long q2), .second, .val (.long q1), .second, .val (.ref b91), .unset, .unset, .unset, .unset] [])) rfl (hb hby at_41) (by decide) (by decide)
      obtain ⟨b106, g106⟩ : ∃ z, z = T100.heap.size := ⟨_, rfl⟩
      rw [← g106] at A106 D106 st106
      have Ne107 : b91 ≠ b106 := Nat.ne_of_lt (Nat.lt_of_lt_of_le Pf100_0.lt (Nat.le_of_eq g106.symm))
      have Ge108 : n0 ≤ b106 := Nat.le_trans Zs103 (Nat.le_of_eq g106.symm)
      have Sz109 : h0.size ≤ b106 := Nat.le_trans Kc102.1 (Nat.le_of_eq g106.symm)
      have Kc110 : Keep h0 h106 [] := Kc102.ext E106
      have Zs111 : n0 ≤ h106.size := (Nat.le_trans Zs103 E106.1)
      have F106_high : Fld Z h106 b106 "com/example/rosterhall/rosterhall/ResourceId" "high" "J" (.long (0 : Int64)) := D106 (Or.inr (hw _ (List.mem_of_getElem? (i := 15) rfl))) (ty := .long) (by decide)
      have F106_low : Fld Z h106 b106 "com/example/rosterhall/rosterhall/ResourceId" "low" "J" (.long (0 : Int64)) := D106 (Or.inr (hw _ (List.mem_of_getElem? (i := 17) rfl))) (ty := .long) (by decide)
      obtain ⟨_, _, ⟨T116, L116, k116, n116⟩, -, X116, ⟨Lc116, hQ116, l116, y116, z116⟩, st116⟩ := X106.specialBack hx (y := (⟨"com/example/rosterhall/rosterhall/ResourceId", "<init>", "(JJ)V"⟩ : MethodName)) rfl hown (mvT hZ (hw _ (List.mem_of_getElem? (i := 3) rfl))) (mvT hZ (hw _ (List.mem_of_getElem? (i := 4) rfl))) (mvT hZ (hw _ (List.mem_of_getElem? (i := 5) rfl))) (by decide) (backOf (W := 1) (own_rmI l Z a0 hw [] b106 q2 q1 h106 n0 Zs111 A106 F106_high F106_low Ge108) hZ (hw _ (List.mem_of_getElem? (i := 5) rfl)) (hw _ (List.mem_of_getElem? (i := 2) rfl)) (by decide) (by decide)) (g := (mkF m 49 #[.val (.long q0), .second, .val (.long q1), .second, .val (.long q2), .second, .val (.long q3), .second, .val (.int p4), .val (.long q2), .second, .val (.long q1), .second, .val (.ref b91), .unset, .unset, .unset, .unset] [(.long q1), (.long q2), (.ref b106), (.ref b106)])) rfl (by rw [hml]; rfl) (Steps.refl _) (a := b106) (argsL := [(.long q2), (.long q1)]) (rest := [(.ref b106)]) (lenOf own_pd2 rfl) rfl (by show 2 * 0 + _ ≤ _; exact Nat.le_of_eq rfl) (hb hby at_49) (fun _ _ => ⟨rfl, e106, (by decide : 2 + 0 ≤ _), (by decide : 4 + 0 ≤ _)⟩)
      dsimp only [Pt.U, Pt.locs, Pt.cells, Pt.slots] at X116 l116 y116 z116 st116 hQ116
      subst l116 y116 z116
      obtain ⟨rfl, Nq116, K116, Pf116_0, Pf116_1, Pf116_2⟩ := hQ116
      have N117 := Fr.app N101 Nq116
      have Kc118 : Keep h0 T116.heap [] := Kc110.trans K116 (allS (Or.inr Sz109) all0)
      have Zs119 : n0 ≤ T116.heap.size := Nat.le_trans Zs111 K116.1
      obtain ⟨_, _, ⟨T126, L126, k126, n126⟩, -, X126, ⟨Lc126, hQ126, l126, y126, z126⟩, st126⟩ := Jvm.LawKit.callS X116 hx (y := (⟨"com/example/rosterhall/rosterhall/ResourceIdCompareToPinLaw", "ref", "(JJJJ)I"⟩ : MethodName)) hown (mvT hZ (hw _ (List.mem_of_getElem? (i := 18) rfl))) (mvT hZ (hw _ (List.mem_of_getElem? (i := 19) rfl))) (mvT hZ (hw _ (List.mem_of_getElem? (i := 20) rfl))) (mvT hZ (hw _ (List.mem_of_getElem? (i := 21) rfl))) (by decide) (backOf (W := 0) (own_ref l Z a0 hw [] q0 q1 q2 q1 T116.heap n0 Zs119 ) hZ (hw _ (List.mem_of_getElem? (i := 21) rfl)) (hw _ (List.mem_of_getElem? (i := 20) rfl)) (by decide) (by decide)) (g := (mkF m 60 #[.val (.long q0), .second, .val (.long q1), .second, .val (.long q2), .second, .val (.long q3), .second, .val (.int p4), .val (.long q2), .second, .val (.long q1), .second, .val (.ref b91), .val (.ref b106), .unset, .unset, .unset] [(.long q1), (.long q2), (.long q1), (.long q0)])) rfl (by rw [hml]; rfl) (argsL := [(.long q0), (.long q1), (.long q2), (.long q1)]) (rest := []) (lenOf own_pd3 rfl) rfl (by show 2 * 0 + _ ≤ _; exact Nat.le_of_eq rfl) (hb hby at_60) (fun _ _ => ⟨rfl, rfl, (by decide : 2 + 0 ≤ _), (by decide : 4 + 0 ≤ _)⟩)
      dsimp only [Pt.U, Pt.locs, Pt.cells, Pt.slots] at X126 l126 y126 z126 st126 hQ126
      subst l126 y126 z126
      obtain ⟨rfl, Nq126, eh126⟩ := hQ126
      have N127 := Fr.app N117 Nq126
      have Fq133 : Fld Z T116.heap b91 "com/example/rosterhall/rosterhall/ResourceId" "high" "J" (.long q0) := ((Pf100_1.ext E106).keep K116 (ninS Ne107 nin0))
      have Fq134 : Fld Z T116.heap b91 "com/example/rosterhall/rosterhall/ResourceId" "low" "J" (.long q1) := ((Pf100_2.ext E106).keep K116 (ninS Ne107 nin0))
      have Fq135 : Exa Z T116.heap b91 "com/example/rosterhall/rosterhall/ResourceId" := ((Pf100_0.ext E106).keep K116)
      obtain ⟨cq132, kq132, q132a, q132b, q132c⟩ := isOf hZ eh126 Fq135
      obtain ⟨_, _, ⟨T132, L132, k132, n132⟩, -, X132, ⟨Lc132, hQ132, l132, y132, z132⟩, st132⟩ := X126.virtualBack hx (y := (⟨"com/example/rosterhall/rosterhall/ResourceId", "compareTo", "(Lcom/example/rosterhall/rosterhall/ResourceId;)I"⟩ : MethodName)) (z := (⟨"com/example/rosterhall/rosterhall/ResourceId", "compareTo", "(Lcom/example/rosterhall/rosterhall/ResourceId;)I"⟩ : MethodName)) hown (mvT hZ (hw _ (List.mem_of_getElem? (i := 26) rfl))) (mvT hZ (hw _ (List.mem_of_getElem? (i := 27) rfl))) (notFace_of_selects (args := #[]) (mvT hZ (hw _ (List.mem_of_getElem? (i := 29) rfl)))) (mvT hZ (hw _ (List.mem_of_getElem? (i := 29) rfl))) (mvT hZ (hw _ (List.mem_of_getElem? (i := 28) rfl))) (by decide) (backOf (W := 0) (own_rmC l Z a0 hw [] b91 b106 q0 q1 q2 q1 T116.heap n0 Zs119 Fq133 Fq134 Pf116_1 Pf116_2) hZ (hw _ (List.mem_of_getElem? (i := 30) rfl)) (hw _ (List.mem_of_getElem? (i := 2) rfl)) (by decide) (by decide)) q132a q132c (g := (mkF m 69 #[.val (.long q0), .second, .val (.long q1), .second, .val (.long q2), .second, .val (.long q3), .second, .val (.int p4), .val (.long q2), .second, .val (.long q1), .second, .val (.ref b91), .val (.ref b106), .val (.int (own_ref_f q0 q1 q2 q1)), .unset, .unset] [(.ref b106), (.ref b91)])) rfl (by rw [hml]; rfl) (Steps.refl _) (argsL := [(.ref b106)]) (rest := []) (lenOf own_pd4 rfl) rfl (by show 2 * 0 + _ ≤ _; exact Nat.le_of_eq rfl) (hb hby at_69) (fun _ _ => ⟨rfl, eh126, (by decide : 2 + 0 ≤ _), (by decide : 4 + 0 ≤ _)⟩)
      dsimp only [Pt.U, Pt.locs, Pt.cells, Pt.slots] at X132 l132 y132 z132 st132 hQ132
      subst l132 y132 z132
      obtain ⟨rfl, Nq132, eh132⟩ := hQ132
      have N136 := Fr.app N127 Nq132
      obtain ⟨_, _, ⟨T138, L138, k138, n138⟩, -, X138, ⟨Lc138, hQ138, l138, y138, z138⟩, st138⟩ := Jvm.LawKit.callS X132 hx (y := (⟨"com/example/rosterhall/rosterhall/ResourceIdCompareToPinLaw", "sign", "(I)I"⟩ : MethodName)) hown (mvT hZ (hw _ (List.mem_of_getElem? (i := 39) rfl))) (mvT hZ (hw _ (List.mem_of_getElem? (i := 40) rfl))) (mvT hZ (hw _ (List.mem_of_getElem? (i := 20) rfl))) (mvT hZ (hw _ (List.mem_of_getElem? (i := 41) rfl))) (by decide) (backOf (W := 0) (own_sign l Z a0 hw [] (own_rmC_f q0 q1 q2 q1) T116.heap n0 Zs119 ) hZ (hw _ (List.mem_of_getElem? (i := 41) rfl)) (hw _ (List.mem_of_getElem? (i := 20) rfl)) (by decide) (by decide)) (g := (mkF m 72 #[.val (.long q0), .second, .val (.long q1), .second, .val (.long q2), .second, .val (.long q3), .second, .val (.int p4), .val (.long q2), .second, .val (.long q1), .second, .val (.ref b91), .val (.ref b106), .val (.int (own_ref_f q0 q1 q2 q1)), .unset, .unset] [(.int (own_rmC_f q0 q1 q2 q1))])) rfl (by rw [hml]; rfl) (argsL := [(.int (own_rmC_f q0 q1 q2 q1))]) (rest := []) (lenOf own_pd5 rfl) rfl (by show 2 * 0 + _ ≤ _; exact Nat.le_of_eq rfl) (hb hby at_72) (fun _ _ => ⟨rfl, eh132, (by decide : 2 + 0 ≤ _), (by decide : 4 + 0 ≤ _)⟩)
      dsimp only [Pt.U, Pt.locs, Pt.cells, Pt.slots] at X138 l138 y138 z138 st138 hQ138
      subst l138 y138 z138
      obtain ⟨rfl, Nq138, eh138⟩ := hQ138
      have N139 := Fr.app N136 Nq138
      obtain ⟨cq144, kq144, q144a, q144b, q144c⟩ := isOf hZ eh138 Pf116_0
      obtain ⟨_, _, ⟨T144, L144, k144, n144⟩, -, X144, ⟨Lc144, hQ144, l144, y144, z144⟩, st144⟩ := X138.virtualBack hx (y := (⟨"com/example/rosterhall/rosterhall/ResourceId", "compareTo", "(Lcom/example/rosterhall/rosterhall/ResourceId;)I"⟩ : MethodName)) (z := (⟨"com/example/rosterhall/rosterhall/ResourceId", "compareTo", "(Lcom/example/rosterhall/rosterhall/ResourceId;)I"⟩ : MethodName)) hown (mvT hZ (hw _ (List.mem_of_getElem? (i := 26) rfl))) (mvT hZ (hw _ (List.mem_of_getElem? (i := 27) rfl))) (notFace_of_selects (args := #[]) (mvT hZ (hw _ (List.mem_of_getElem? (i := 29) rfl)))) (mvT hZ (hw _ (List.mem_of_getElem? (i := 29) rfl))) (mvT hZ (hw _ (List.mem_of_getElem? (i := 28) rfl))) (by decide) (backOf (W := 0) (own_rmC l Z a0 hw [] b106 b91 q2 q1 q0 q1 T116.heap n0 Zs119 Pf116_1 Pf116_2 Fq133 Fq134) hZ (hw _ (List.mem_of_getElem? (i := 30) rfl)) (hw _ (List.mem_of_getElem? (i := 2) rfl)) (by decide) (by decide)) q144a q144c (g := (mkF m 81 #[.val (.long q0), .second, .val (.long q1), .second, .val (.long q2), .second, .val (.long q3), .second, .val (.int p4), .val (.long q2), .second, .val (.long q1), .second, .val (.ref b91), .val (.ref b106), .val (.int (own_ref_f q0 q1 q2 q1)), .val (.int (own_sign_f (own_rmC_f q0 q1 q2 q1))), .unset] [(.ref b91), (.ref b106)])) rfl (by rw [hml]; rfl) (Steps.refl _) (argsL := [(.ref b91)]) (rest := []) (lenOf own_pd4 rfl) rfl (by show 2 * 0 + _ ≤ _; exact Nat.le_of_eq rfl) (hb hby at_81) (fun _ _ => ⟨rfl, eh138, (by decide : 2 + 0 ≤ _), (by decide : 4 + 0 ≤ _)⟩)
      dsimp only [Pt.U, Pt.locs, Pt.cells, Pt.slots] at X144 l144 y144 z144 st144 hQ144
      subst l144 y144 z144
      obtain ⟨rfl, Nq144, eh144⟩ := hQ144
      have N145 := Fr.app N139 Nq144
      obtain ⟨_, _, ⟨T147, L147, k147, n147⟩, -, X147, ⟨Lc147, hQ147, l147, y147, z147⟩, st147⟩ := Jvm.LawKit.callS X144 hx (y := (⟨"com/example/rosterhall/rosterhall/ResourceIdCompareToPinLaw", "sign", "(I)I"⟩ : MethodName)) hown (mvT hZ (hw _ (List.mem_of_getElem? (i := 39) rfl))) (mvT hZ (hw _ (List.mem_of_getElem? (i := 40) rfl))) (mvT hZ (hw _ (List.mem_of_getElem? (i := 20) rfl))) (mvT hZ (hw _ (List.mem_of_getElem? (i := 41) rfl))) (by decide) (backOf (W := 0) (own_sign l Z a0 hw [] (own_rmC_f q2 q1 q0 q1) T116.heap n0 Zs119 ) hZ (hw _ (List.mem_of_getElem? (i := 41) rfl)) (hw _ (List.mem_of_getElem? (i := 20) rfl)) (by decide) (by decide)) (g := (mkF m 84 #[.val (.long q0), .second, .val (.long q1), .second, .val (.long q2), .second, .val (.long q3), .second, .val (.int p4), .val (.long q2), .second, .val (.long q1), .second, .val (.ref b91), .val (.ref b106), .val (.int (own_ref_f q0 q1 q2 q1)), .val (.int (own_sign_f (own_rmC_f q0 q1 q2 q1))), .unset] [(.int (own_rmC_f q2 q1 q0 q1))])) rfl (by rw [hml]; rfl) (argsL := [(.int (own_rmC_f q2 q1 q0 q1))]) (rest := []) (lenOf own_pd5 rfl) rfl (by show 2 * 0 + _ ≤ _; exact Nat.le_of_eq rfl) (hb hby at_84) (fun _ _ => ⟨rfl, eh144, (by decide : 2 + 0 ≤ _), (by decide : 4 + 0 ≤ _)⟩)
      dsimp only [Pt.U, Pt.locs, Pt.cells, Pt.slots] at X147 l147 y147 z147 st147 hQ147
      subst l147 y147 z147
      obtain ⟨rfl, Nq147, eh147⟩ := hQ147
      have N148 := Fr.app N145 Nq147
      obtain ⟨fs, hr, hrun, hended, hW, hsame⟩ := X147.leave (v := some (.int (1 : Int32))) (fun h => by rw [Bd.returns] at h; cases h) (hlocks := BodyLoose.notSynchronized Bd)
      refine ⟨_, _, pre13 _ ?_, hrun, hended, _, _, rfl, ?_, ⟨_, rfl⟩, hW, hsame.mono (by decide) (by decide)⟩
      · show Steps p.tables e below (s₁.setTop (mkF m 19 #[.val (.long q0), .second, .val (.long q1), .second, .val (.long q2), .second, .val (.long q3), .second, .val (.int p4), .val (.long q2), .second, .unset, .unset, .unset, .unset, .unset, .unset, .unset] [(.int (p4 &&& (2 : Int32)))])) _
        refine XS.ifNo X0.here hx rfl (hb hby at_19) rfl ((if0 _ _).trans (feq hc19_14).1) ?_
        show Steps p.tables e below (s₁.setTop (mkF m 22 #[.val (.long q0), .second, .val (.long q1), .second, .val (.long q2), .second, .val (.long q3), .second, .val (.int p4), .val (.long q2), .second, .unset, .unset, .unset, .unset, .unset, .unset, .unset] [])) _
        refine XS.lloadN X0.here hx rfl (hb hby at_22) rfl ?_
        show Steps p.tables e below (s₁.setTop (mkF m 23 #[.val (.long q0), .second, .val (.long q1), .second, .val (.long q2), .second, .val (.long q3), .second, .val (.int p4), .val (.long q2), .second, .unset, .unset, .unset, .unset, .unset, .unset, .unset] [(.long q1)])) _
        refine XS.goto X0.here hx rfl (pc0 := 23) (pc' := 28) rfl (hb hby at_23) (by decide) (by decide) ?_
        show Steps p.tables e below (s₁.setTop (mkF m 28 #[.val (.long q0), .second, .val (.long q1), .second, .val (.long q2), .second, .val (.long q3), .second, .val (.int p4), .val (.long q2), .second, .unset, .unset, .unset, .unset, .unset, .unset, .unset] [(.long q1)])) _
        refine XS.lstore X0.here hx rfl (hb hby at_28) rfl (l' := #[.val (.long q0), .second, .val (.long q1), .second, .val (.long q2), .second, .val (.long q3), .second, .val (.int p4), .val (.long q2), .second, .val (.long q1), .second, .unset, .unset, .unset, .unset, .unset]) rfl ?_
        show Steps p.tables e below (s₁.setTop (mkF m 30 #[.val (.long q0), .second, .val (.long q1), .second, .val (.long q2), .second, .val (.long q3), .second, .val (.int p4), .val (.long q2), .second, .val (.long q1), .second, .unset, .unset, .unset, .unset, .unset] [])) _
        refine st91 _ ?_
        show Steps p.tables e below (T91.setTop (mkF m 33 #[.val (.long q0), .second, .val (.long q1), .second, .val (.long q2), .second, .val (.long q3), .second, .val (.int p4), .val (.long q2), .second, .val (.long q1), .second, .unset, .unset, .unset, .unset, .unset] [(.ref b91)])) _
        refine XS.dup X91.here hx rfl (hb hby at_33) rfl rfl ?_
        show Steps p.tables e below (T91.setTop (mkF m 34 #[.val (.long q0), .second, .val (.long q1), .second, .val (.long q2), .second, .val (.long q3), .second, .val (.int p4), .val (.long q2), .second, .val (.long q1), .second, .unset, .unset, .unset, .unset, .unset] [(.ref b91), (.ref b91)])) _
        refine XS.lloadN X91.here hx rfl (hb hby at_34) rfl ?_
        show Steps p.tables e below (T91.setTop (mkF m 35 #[.val (.long q0), .second, .val (.long q1), .second, .val (.long q2), .second, .val (.long q3), .second, .val (.int p4), .val (.long q2), .second, .val (.long q1), .second, .unset, .unset, .unset, .unset, .unset] [(.long q0), (.ref b91), (.ref b91)])) _
        refine XS.lloadN X91.here hx rfl (hb hby at_35) rfl ?_
        show Steps p.tables e below (T91.setTop (mkF m 36 #[.val (.long q0), .second, .val (.long q1), .second, .val (.long q2), .second, .val (.long q3), .second, .val (.int p4), .val (.long q2), .second, .val (.long q1), .second, .unset, .unset, .unset, .unset, .unset] [(.long q1), (.long q0), (.ref b91), (.ref b91)])) _
        refine st100.trans ?_
        show Steps p.tables e below (T100.setTop (mkF m 39 #[.val (.long q0), .second, .val (.long q1), .second, .val (.long q2), .second, .val (.long q3), .second, .val (.int p4), .val (.long q2), .second, .val (.long q1), .second, .unset, .unset, .unset, .unset, .unset] [(.ref b91)])) _
        refine XS.astore X100.here hx rfl (hb hby at_39) rfl rfl (l' := #[.val (.long q0), .second, .val (.long q1), .second, .val (.long q2), .second, .val (.long q3), .second, .val (.int p4), .val (.long q2), .second, .val (.long q1), .second, .val (.ref b91), .unset, .unset, .unset, .unset]) rfl ?_
        show Steps p.tables e below (T100.setTop (mkF m 41 #[.val (.long q0), .second, .val (.long q1), .second, .val (.long q2), .second, .val (.long q3), .second, .val (.int p4), .val (.long q2), .second, .val (.long q1), .second, .val (.ref b91), .unset, .unset, .unset, .unset] [])) _
        refine st106 _ ?_
        show Steps p.tables e below (T106.setTop (mkF m 44 #[.val (.long q0), .second, .val (.long q1), .second, .val (.long q2), .second, .val (.long q3), .second, .val (.int p4), .val (.long q2), .second, .val (.long q1), .second, .val (.ref b91), .unset, .unset, .unset, .unset] [(.ref b106)])) _
        refine XS.dup X106.here hx rfl (hb hby at_44) rfl rfl ?_
        show Steps p.tables e below (T106.setTop (mkF m 45 #[.val (.long q0), .second, .val (.long q1), .second, .val (.long q2), .second, .val (.long q3), .second, .val (.int p4), .val (.long q2), .second, .val (.long q1), .second, .val (.ref b91), .unset, .unset, .unset, .unset] [(.ref b106), (.ref b106)])) _
        refine XS.lload X106.here hx rfl (hb hby at_45) rfl ?_
        show Steps p.tables e below (T106.setTop (mkF m 47 #[.val (.long q0), .second, .val (.long q1), .second, .val (.long q2), .second, .val (.long q3), .second, .val (.int p4), .val (.long q2), .second, .val (.long q1), .second, .val (.ref b91), .unset, .unset, .unset, .unset] [(.long q2), (.ref b106), (.ref b106)])) _
        refine XS.lload X106.here hx rfl (hb hby at_47) rfl ?_
        show Steps p.tables e below (T106.setTop (mkF m 49 #[.val (.long q0), .second, .val (.long q1), .second, .val (.long q2), .second, .val (.long q3), .second, .val (.int p4), .val (.long q2), .second, .val (.long q1), .second, .val (.ref b91), .unset, .unset, .unset, .unset] [(.long q1), (.long q2), (.ref b106), (.ref b106)])) _
        refine st116.trans ?_
        show Steps p.tables e below (T116.setTop (mkF m 52 #[.val (.long q0), .second, .val (.long q1), .second, .val (.long q2), .second, .val (.long q3), .second, .val (.int p4), .val (.long q2), .second, .val (.long q1), .second, .val (.ref b91), .unset, .unset, .unset, .unset] [(.ref b106)])) _
        refine XS.astore X116.here hx rfl (hb hby at_52) rfl rfl (l' := #[.val (.long q0), .second, .val (.long q1), .second, .val (.long q2), .second, .val (.long q3), .second, .val (.int p4), .val (.long q2), .second, .val (.long q1), .second, .val (.ref b91), .val (.ref b106), .unset, .unset, .unset]) rfl ?_
        show Steps p.tables e below (T116.setTop (mkF m 54 #[.val (.long q0), .second, .val (.long q1), .second, .val (.long q2), .second, .val (.long q3), .second, .val (.int p4), .val (.long q2), .second, .val (.long q1), .second, .val (.ref b91), .val (.ref b106), .unset, .unset, .unset] [])) _
        refine XS.lloadN X116.here hx rfl (hb hby at_54) rfl ?_
        show Steps p.tables e below (T116.setTop (mkF m 55 #[.val (.long q0), .second, .val (.long q1), .second, .val (.long q2), .second, .val (.long q3), .second, .val (.int p4), .val (.long q2), .second, .val (.long q1), .second, .val (.ref b91), .val (.ref b106), .unset, .unset, .unset] [(.long q0)])) _
        refine XS.lloadN X116.here hx rfl (hb hby at_55) rfl ?_
        show Steps p.tables e below (T116.setTop (mkF m 56 #[.val (.long q0), .second, .val (.long q1), .second, .val (.long q2), .second, .val (.long q3), .second, .val (.int p4), .val (.long q2), .second, .val (.long q1), .second, .val (.ref b91), .val (.ref b106), .unset, .unset, .unset] [(.long q1), (.long q0)])) _
        refine XS.lload X116.here hx rfl (hb hby at_56) rfl ?_
        show Steps p.tables e below (T116.setTop (mkF m 58 #[.val (.long q0), .second, .val (.long q1), .second, .val (.long q2), .second, .val (.long q3), .second, .val (.int p4), .val (.long q2), .second, .val (.long q1), .second, .val (.ref b91), .val (.ref b106), .unset, .unset, .unset] [(.long q2), (.long q1), (.long q0)])) _
        refine XS.lload X116.here hx rfl (hb hby at_58) rfl ?_
        show Steps p.tables e below (T116.setTop (mkF m 60 #[.val (.long q0), .second, .val (.long q1), .second, .val (.long q2), .second, .val (.long q3), .second, .val (.int p4), .val (.long q2), .second, .val (.long q1), .second, .val (.ref b91), .val (.ref b106), .unset, .unset, .unset] [(.long q1), (.long q2), (.long q1), (.long q0)])) _
        refine st126 _ ?_
        show Steps p.tables e below (T126.setTop (mkF m 63 #[.val (.long q0), .second, .val (.long q1), .second, .val (.long q2), .second, .val (.long q3), .second, .val (.int p4), .val (.long q2), .second, .val (.long q1), .second, .val (.ref b91), .val (.ref b106), .unset, .unset, .unset] [(.int (own_ref_f q0 q1 q2 q1))])) _
        refine XS.istore X126.here hx rfl (hb hby at_63) rfl (l' := #[.val (.long q0), .second, .val (.long q1), .second, .val (.long q2), .second, .val (.long q3), .second, .val (.int p4), .val (.long q2), .second, .val (.long q1), .second, .val (.ref b91), .val (.ref b106), .val (.int (own_ref_f q0 q1 q2 q1)), .unset, .unset]) rfl ?_
        show Steps p.tables e below (T126.setTop (mkF m 65 #[.val (.long q0), .second, .val (.long q1), .second, .val (.long q2), .second, .val (.long q3), .second, .val (.int p4), .val (.long q2), .second, .val (.long q1), .second, .val (.ref b91), .val (.ref b106), .val (.int (own_ref_f q0 q1 q2 q1)), .unset, .unset] [])) _
        refine XS.aload X126.here hx rfl (hb hby at_65) rfl rfl ?_
        show Steps p.tables e below (T126.setTop (mkF m 67 #[.val (.long q0), .second, .val (.long q1), .second, .val (.long q2), .second, .val (.long q3), .second, .val (.int p4), .val (.long q2), .second, .val (.long q1), .second, .val (.ref b91), .val (.ref b106), .val (.int (own_ref_f q0 q1 q2 q1)), .unset, .unset] [(.ref b91)])) _
        refine XS.aload X126.here hx rfl (hb hby at_67) rfl rfl ?_
        show Steps p.tables e below (T126.setTop (mkF m 69 #[.val (.long q0), .second, .val (.long q1), .second, .val (.long q2), .second, .val (.long q3), .second, .val (.int p4), .val (.long q2), .second, .val (.long q1), .second, .val (.ref b91), .val (.ref b106), .val (.int (own_ref_f q0 q1 q2 q1)), .unset, .unset] [(.ref b106), (.ref b91)])) _
        refine st132.trans ?_
        show Steps p.tables e below (T132.setTop (mkF m 72 #[.val (.long q0), .second, .val (.long q1), .second, .val (.long q2), .second, .val (.long q3), .second, .val (.int p4), .val (.long q2), .second, .val (.long q1), .second, .val (.ref b91), .val (.ref b106), .val (.int (own_ref_f q0 q1 q2 q1)), .unset, .unset] [(.int (own_rmC_f q0 q1 q2 q1))])) _
        refine st138 _ ?_
        show Steps p.tables e below (T138.setTop (mkF m 75 #[.val (.long q0), .second, .val (.long q1), .second, .val (.long q2), .second, .val (.long q3), .second, .val (.int p4), .val (.long q2), .second, .val (.long q1), .second, .val (.ref b91), .val (.ref b106), .val (.int (own_ref_f q0 q1 q2 q1)), .unset, .unset] [(.int (own_sign_f (own_rmC_f q0 q1 q2 q1)))])) _
        refine XS.istore X138.here hx rfl (hb hby at_75) rfl (l' := #[.val (.long q0), .second, .val (.long q1), .second, .val (.long q2), .second, .val (.long q3), .second, .val (.int p4), .val (.long q2), .second, .val (.long q1), .second, .val (.ref b91), .val (.ref b106), .val (.int (own_ref_f q0 q1 q2 q1)), .val (.int (own_sign_f (own_rmC_f q0 q1 q2 q1))), .unset]) rfl ?_
        show Steps p.tables e below (T138.setTop (mkF m 77 #[.val (.long q0), .second, .val (.long q1), .second, .val (.long q2), .second, .val (.long q3), .second, .val (.int p4), .val (.long q2), .second, .val (.long q1), .second, .val (.ref b91), .val (.ref b106), .val (.int (own_ref_f q0 q1 q2 q1)), .val (.int (own_sign_f (own_rmC_f q0 q1 q2 q1))), .unset] [])) _
        refine XS.aload X138.here hx rfl (hb hby at_77) rfl rfl ?_
        show Steps p.tables e below (T138.setTop (mkF m 79 #[.val (.long q0), .second, .val (.long q1), .second, .val (.long q2), .second, .val (.long q3), .second, .val (.int p4), .val (.long q2), .second, .val (.long q1), .second, .val (.ref b91), .val (.ref b106), .val (.int (own_ref_f q0 q1 q2 q1)), .val (.int (own_sign_f (own_rmC_f q0 q1 q2 q1))), .unset] [(.ref b106)])) _
        refine XS.aload X138.here hx rfl (hb hby at_79) rfl rfl ?_
        show Steps p.tables e below (T138.setTop (mkF m 81 #[.val (.long q0), .second, .val (.long q1), .second, .val (.long q2), .second, .val (.long q3), .second, .val (.int p4), .val (.long q2), .second, .val (.long q1), .second, .val (.ref b91), .val (.ref b106), .val (.int (own_ref_f q0 q1 q2 q1)), .val (.int (own_sign_f (own_rmC_f q0 q1 q2 q1))), .unset] [(.ref b91), (.ref b106)])) _
        refine st144.trans ?_
        show Steps p.tables e below (T144.setTop (mkF m 84 #[.val (.long q0), .second, .val (.long q1), .second, .val (.long q2), .second, .val (.long q3), .second, .val (.int p4), .val (.long q2), .second, .val (.long q1), .second, .val (.ref b91), .val (.ref b106), .val (.int (own_ref_f q0 q1 q2 q1)), .val (.int (own_sign_f (own_rmC_f q0 q1 q2 q1))), .unset] [(.int (own_rmC_f q2 q1 q0 q1))])) _
        refine st147 _ ?_
        show Steps p.tables e below (T147.setTop (mkF m 87 #[.val (.long q0), .second, .val (.long q1), .second, .val (.long q2), .second, .val (.long q3), .second, .val (.int p4), .val (.long q2), .second, .val (.long q1), .second, .val (.ref b91), .val (.ref b106), .val (.int (own_ref_f q0 q1 q2 q1)), .val (.int (own_sign_f (own_rmC_f q0 q1 q2 q1))), .unset] [(.int (own_sign_f (own_rmC_f q2 q1 q0 q1)))])) _
        refine XS.istore X147.here hx rfl (hb hby at_87) rfl (l' := #[.val (.long q0), .second, .val (.long q1), .second, .val (.long q2), .second, .val (.long q3), .second, .val (.int p4), .val (.long q2), .second, .val (.long q1), .second, .val (.ref b91), .val (.ref b106), .val (.int (own_ref_f q0 q1 q2 q1)), .val (.int (own_sign_f (own_rmC_f q0 q1 q2 q1))), .val (.int (own_sign_f (own_rmC_f q2 q1 q0 q1)))]) rfl ?_
        show Steps p.tables e below (T147.setTop (mkF m 89 #[.val (.long q0), .second, .val (.long q1), .second, .val (.long q2), .second, .val (.long q3), .second, .val (.int p4), .val (.long q2), .second, .val (.long q1), .second, .val (.ref b91), .val (.ref b106), .val (.int (own_ref_f q0 q1 q2 q1)), .val (.int (own_sign_f (own_rmC_f q0 q1 q2 q1))), .val (.int (own_sign_f (own_rmC_f q2 q1 q0 q1)))] [])) _
        refine XS.iload X147.here hx rfl (hb hby at_89) rfl ?_
        show Steps p.tables e below (T147.setTop (mkF m 91 #[.val (.long q0), .second, .val (.long q1), .second, .val (.long q2), .second, .val (.long q3), .second, .val (.int p4), .val (.long q2), .second, .val (.long q1), .second, .val (.ref b91), .val (.ref b106), .val (.int (own_ref_f q0 q1 q2 q1)), .val (.int (own_sign_f (own_rmC_f q0 q1 q2 q1))), .val (.int (own_sign_f (own_rmC_f q2 q1 q0 q1)))] [(.int (own_sign_f (own_rmC_f q0 q1 q2 q1)))])) _
        refine XS.iload X147.here hx rfl (hb hby at_91) rfl ?_
        show Steps p.tables e below (T147.setTop (mkF m 93 #[.val (.long q0), .second, .val (.long q1), .second, .val (.long q2), .second, .val (.long q3), .second, .val (.int p4), .val (.long q2), .second, .val (.long q1), .second, .val (.ref b91), .val (.ref b106), .val (.int (own_ref_f q0 q1 q2 q1)), .val (.int (own_sign_f (own_rmC_f q0 q1 q2 q1))), .val (.int (own_sign_f (own_rmC_f q2 q1 q0 q1)))] [(.int (own_ref_f q0 q1 q2 q1)), (.int (own_sign_f (own_rmC_f q0 q1 q2 q1)))])) _
        refine XS.icmpNo X147.here hx rfl (hb hby at_93) rfl (teq (own_m1 _ _ _ _ : (own_sign_f (own_rmC_f q0 q1 q2 q1)) = (own_ref_f q0 q1 q2 q1))).2 ?_
        show Steps p.tables e below (T147.setTop (mkF m 96 #[.val (.long q0), .second, .val (.long q1), .second, .val (.long q2), .second, .val (.long q3), .second, .val (.int p4), .val (.long q2), .second, .val (.long q1), .second, .val (.ref b91), .val (.ref b106), .val (.int (own_ref_f q0 q1 q2 q1)), .val (.int (own_sign_f (own_rmC_f q0 q1 q2 q1))), .val (.int (own_sign_f (own_rmC_f q2 q1 q0 q1)))] [])) _
        refine XS.iload X147.here hx rfl (hb hby at_96) rfl ?_
        show Steps p.tables e below (T147.setTop (mkF m 98 #[.val (.long q0), .second, .val (.long q1), .second, .val (.long q2), .second, .val (.long q3), .second, .val (.int p4), .val (.long q2), .second, .val (.long q1), .second, .val (.ref b91), .val (.ref b106), .val (.int (own_ref_f q0 q1 q2 q1)), .val (.int (own_sign_f (own_rmC_f q0 q1 q2 q1))), .val (.int (own_sign_f (own_rmC_f q2 q1 q0 q1)))] [(.int (own_sign_f (own_rmC_f q2 q1 q0 q1)))])) _
        refine XS.iload X147.here hx rfl (hb hby at_98) rfl ?_
        show Steps p.tables e below (T147.setTop (mkF m 100 #[.val (.long q0), .second, .val (.long q1), .second, .val (.long q2), .second, .val (.long q3), .second, .val (.int p4), .val (.long q2), .second, .val (.long q1), .second, .val (.ref b91), .val (.ref b106), .val (.int (own_ref_f q0 q1 q2 q1)), .val (.int (own_sign_f (own_rmC_f q0 q1 q2 q1))), .val (.int (own_sign_f (own_rmC_f q2 q1 q0 q1)))] [(.int (own_ref_f q0 q1 q2 q1)), (.int (own_sign_f (own_rmC_f q2 q1 q0 q1)))])) _
        refine XS.ineg X147.here hx rfl (hb hby at_100) rfl ?_
        show Steps p.tables e below (T147.setTop (mkF m 101 #[.val (.long q0), .second, .val (.long q1), .second, .val (.long q2), .second, .val (.long q3), .second, .val (.int p4), .val (.long q2), .second, .val (.long q1), .second, .val (.ref b91), .val (.ref b106), .val (.int (own_ref_f q0 q1 q2 q1)), .val (.int (own_sign_f (own_rmC_f q0 q1 q2 q1))), .val (.int (own_sign_f (own_rmC_f q2 q1 q0 q1)))] [(.int (-(own_ref_f q0 q1 q2 q1))), (.int (own_sign_f (own_rmC_f q2 q1 q0 q1)))])) _
        refine XS.icmpNo X147.here hx rfl (hb hby at_101) rfl (teq (own_m2 _ _ _ _ : (own_sign_f (own_rmC_f q2 q1 q0 q1)) = (-(own_ref_f q0 q1 q2 q1)))).2 ?_
        show Steps p.tables e below (T147.setTop (mkF m 104 #[.val (.long q0), .second, .val (.long q1), .second, .val (.long q2), .second, .val (.long q3), .second, .val (.int p4), .val (.long q2), .second, .val (.long q1), .second, .val (.ref b91), .val (.ref b106), .val (.int (own_ref_f q0 q1 q2 q1)), .val (.int (own_sign_f (own_rmC_f q0 q1 q2 q1))), .val (.int (own_sign_f (own_rmC_f q2 q1 q0 q1)))] [])) _
        refine XS.iconst X147.here hx rfl (hb hby at_104) ?_
        show Steps p.tables e below (T147.setTop (mkF m 105 #[.val (.long q0), .second, .val (.long q1), .second, .val (.long q2), .second, .val (.long q3), .second, .val (.int p4), .val (.long q2), .second, .val (.long q1), .second, .val (.ref b91), .val (.ref b106), .val (.int (own_ref_f q0 q1 q2 q1)), .val (.int (own_sign_f (own_rmC_f q0 q1 q2 q1))), .val (.int (own_sign_f (own_rmC_f q2 q1 q0 q1)))] [(.int (1 : Int32))])) _
        refine XS.goto X147.here hx rfl (pc0 := 105) (pc' := 109) rfl (hb hby at_105) (by decide) (by decide) ?_
        show Steps p.tables e below (T147.setTop (mkF m 109 #[.val (.long q0), .second, .val (.long q1), .second, .val (.long q2), .second, .val (.long q3), .second, .val (.int p4), .val (.long q2), .second, .val (.long q1), .second, .val (.ref b91), .val (.ref b106), .val (.int (own_ref_f q0 q1 q2 q1)), .val (.int (own_sign_f (own_rmC_f q0 q1 q2 q1))), .val (.int (own_sign_f (own_rmC_f q2 q1 q0 q1)))] [(.int (1 : Int32))])) _
        exact retN X147 hx (t := .boolean) Bd.returns (by simp) (hb hby at_109) hr
      · show Qown_law Z q0 q1 q2 q3 p4 h0 n0 _ T147.heap _
        rw [eh147]
        exact ⟨rfl, N148⟩
  · have pre167 : ∀ t, Steps p.tables e below (s₁.setTop (mkF m 19 #[.val (.long q0), .second, .val (.long q1), .second, .val (.long q2), .second, .val (.long q3), .second, .val (.int p4), .val (.long q0), .second, .unset, .unset, .unset, .unset, .unset, .unset, .unset] [(.int (p4 &&& (2 : Int32)))])) t → Steps p.tables e below (s₁.setTop (entryFrame m #[(.long q0), (.long q1), (.long q2), (.long q3), (.int p4)] maxLocals)) t := by
      intro t kt
      refine pre5 _ ?_
      show Steps p.tables e below (s₁.setTop (mkF m 4 #[.val (.long q0), .second, .val (.long q1), .second, .val (.long q2), .second, .val (.long q3), .second, .val (.int p4), .unset, .unset, .unset, .unset, .unset, .unset, .unset, .unset, .unset] [(.int (p4 &&& (1 : Int32)))])) _
      refine XS.ifNo X0.here hx rfl (hb hby at_4) rfl ((if0 _ _).trans (feq hc4_6).1) ?_
      show Steps p.tables e below (s₁.setTop (mkF m 7 #[.val (.long q0), .second, .val (.long q1), .second, .val (.long q2), .second, .val (.long q3), .second, .val (.int p4), .unset, .unset, .unset, .unset, .unset, .unset, .unset, .unset, .unset] [])) _
      refine XS.lloadN X0.here hx rfl (hb hby at_7) rfl ?_
      show Steps p.tables e below (s₁.setTop (mkF m 8 #[.val (.long q0), .second, .val (.long q1), .second, .val (.long q2), .second, .val (.long q3), .second, .val (.int p4), .unset, .unset, .unset, .unset, .unset, .unset, .unset, .unset, .unset] [(.long q0)])) _
      refine XS.goto X0.here hx rfl (pc0 := 8) (pc' := 13) rfl (hb hby at_8) (by decide) (by decide) ?_
      show Steps p.tables e below (s₁.setTop (mkF m 13 #[.val (.long q0), .second, .val (.long q1), .second, .val (.long q2), .second, .val (.long q3), .second, .val (.int p4), .unset, .unset, .unset, .unset, .unset, .unset, .unset, .unset, .unset] [(.long q0)])) _
      refine XS.lstore X0.here hx rfl (hb hby at_13) rfl (l' := #[.val (.long q0), .second, .val (.long q1), .second, .val (.long q2), .second, .val (.long q3), .second, .val (.int p4), .val (.long q0), .second, .unset, .unset, .unset, .unset, .unset, .unset, .unset]) rfl ?_
      show Steps p.tables e below (s₁.setTop (mkF m 15 #[.val (.long q0), .second, .val (.long q1), .second, .val (.long q2), .second, .val (.long q3), .second, .val (.int p4), .val (.long q0), .second, .unset, .unset, .unset, .unset, .unset, .unset, .unset] [])) _
      refine XS.iload X0.here hx rfl (hb hby at_15) rfl ?_
      show Steps p.tables e below (s₁.setTop (mkF m 17 #[.val (.long q0), .second, .val (.long q1), .second, .val (.long q2), .second, .val (.long q3), .second, .val (.int p4), .val (.long q0), .second, .unset, .unset, .unset, .unset, .unset, .unset, .unset] [(.int p4)])) _
      refine XS.iconst X0.here hx rfl (hb hby at_17) ?_
      show Steps p.tables e below (s₁.setTop (mkF m 18 #[.val (.long q0), .second, .val (.long q1), .second, .val (.long q2), .second, .val (.long q3), .second, .val (.int p4), .val (.long q0), .second, .unset, .unset, .unset, .unset, .unset, .unset, .unset] [(.int (2 : Int32)), (.int p4)])) _
      refine XS.iand X0.here hx rfl (hb hby at_18) rfl ?_
      exact kt
    by_cases hc19_168 : (p4 &&& (2 : Int32)) = (0 : Int32)
    · obtain ⟨T172, h172, X172, e172, E172, A172, D172, -, st172⟩ := newO X0 hx hZ hown (hw _ (List.mem_of_getElem? (i := 0) rfl)) (hw _ (List.mem_of_getElem? (i := 1) rfl)) (hw _ (List.mem_of_getElem? (i := 2) rfl)) e0 (g := (mkF m 30 #[.val (.long q0), .second, .val (.long q1), .second, .val (.long q2), .second, .val (.long q3), .second, .val (.int p4), .val (.long q0), .second, .val (.long q3), .second, .unset, .unset, .unset, .unset, .unset] [])) rfl (hb hby at_30) (by decide) (by decide)
      obtain ⟨b172, g172⟩ : ∃ z, z = h0.size := ⟨_, rfl⟩
      rw [← g172] at A172 D172 st172
      have Ge173 : n0 ≤ b172 := Nat.le_trans Z0 (Nat.le_of_eq g172.symm)
      have Sz174 : h0.size ≤ b172 := Nat.le_trans (Keep.refl h0 []).1 (Nat.le_of_eq g172.symm)
      have Kc175 : Keep h0 h172 [] := (Keep.refl h0 []).ext E172
      have Zs176 : n0 ≤ h172.size := (Nat.le_trans Z0 E172.1)
      have F172_high : Fld Z h172 b172 "com/example/rosterhall/rosterhall/ResourceId" "high" "J" (.long (0 : Int64)) := D172 (Or.inr (hw _ (List.mem_of_getElem? (i := 15) rfl))) (ty := .long) (by decide)
      have F172_low : Fld Z h172 b172 "com/example/rosterhall/rosterhall/ResourceId" "low" "J" (.long (0 : Int64)) := D172 (Or.inr (hw _ (List.mem_of_getElem? (i := 17) rfl))) (ty := .long) (by decide)
      obtain ⟨_, _, ⟨T181, L181, k181, n181⟩, -, X181, ⟨Lc181, hQ181, l181, y181, z181⟩, st181⟩ := X172.specialBack hx (y := (⟨"com/example/rosterhall/rosterhall/ResourceId", "<init>", "(JJ)V"⟩ : MethodName)) rfl hown (mvT hZ (hw _ (List.mem_of_getElem? (i := 3) rfl))) (mvT hZ (hw _ (List.mem_of_getElem? (i := 4) rfl))) (mvT hZ (hw _ (List.mem_of_getElem? (i := 5) rfl))) (by decide) (backOf (W := 1) (own_rmI l Z a0 hw [] b172 q0 q1 h172 n0 Zs176 A172 F172_high F172_low Ge173) hZ (hw _ (List.mem_of_getElem? (i := 5) rfl)) (hw _ (List.mem_of_getElem? (i := 2) rfl)) (by decide) (by decide)) (g := (mkF m 36 #[.val (.long q0), .second, .val (.long q1), .second, .val (.long q2), .second, .val (.long q3), .second, .val (.int p4), .val (.long q0), .second, .val (.long q3), .second, .unset, .unset, .unset, .unset, .unset] [(.long q1), (.long q0), (.ref b172), (.ref b172)])) rfl (by rw [hml]; rfl) (Steps.refl _) (a := b172) (argsL := [(.long q0), (.long q1)]) (rest := [(.ref b172)]) (lenOf own_pd2 rfl) rfl (by show 2 * 0 + _ ≤ _; exact Nat.le_of_eq rfl) (hb hby at_36) (fun _ _ => ⟨rfl, e172, (by decide : 1 + 0 ≤ _), (by decide : 2 + 0 ≤ _)⟩)
      dsimp only [Pt.U, Pt.locs, Pt.cells, Pt.slots] at X181 l181 y181 z181 st181 hQ181
      subst l181 y181 z181
      obtain ⟨rfl, Nq181, K181, Pf181_0, Pf181_1, Pf181_2⟩ := hQ181
      have N182 := Fr.app N0 Nq181
      have Kc183 : Keep h0 T181.heap [] := Kc175.trans K181 (allS (Or.inr Sz174) all0)
      have Zs184 : n0 ≤ T181.heap.size := Nat.le_trans Zs176 K181.1
      obtain ⟨T187, h187, X187, e187, E187, A187, D187, -, st187⟩ := newO X181 hx hZ hown (hw _ (List.mem_of_getElem? (i := 0) rfl)) (hw _ (List.mem_of_getElem? (i := 1) rfl)) (hw _ (List.mem_of_getElem? (i := 2) rfl)) rfl (g := (mkF m 41 #[.val (.long q0), .second, .val (.long q1), .second, .val (.long q2), .second, .val (.long q3), .second, .val (.int p4), .val (.long q0), .second, .val (.long q3), .second, .val (.ref b172), .unset, .unset, .unset, .unset] [])) rfl (hb hby at_41) (by decide) (by decide)
      obtain ⟨b187, g187⟩ : ∃ z, z = T181.heap.size := ⟨_, rfl⟩
      rw [← g187] at A187 D187 st187
      have Ne188 : b172 ≠ b187 := Nat.ne_of_lt (Nat.lt_of_lt_of_le Pf181_0.lt (Nat.le_of_eq g187.symm))
      have Ge189 : n0 ≤ b187 := Nat.le_trans Zs184 (Nat.le_of_eq g187.symm)
      have Sz190 : h0.size ≤ b187 := Nat.le_trans Kc183.1 (Nat.le_of_eq g187.symm)
      have Kc191 : Keep h0 h187 [] := Kc183.ext E187
      have Zs192 : n0 ≤ h187.size := (Nat.le_trans Zs184 E187.1)
      have F187_high : Fld Z h187 b187 "com/example/rosterhall/rosterhall/ResourceId" "high" "J" (.long (0 : Int64)) := D187 (Or.inr (hw _ (List.mem_of_getElem? (i := 15) rfl))) (ty := .long) (by decide)
      have F187_low : Fld Z h187 b187 "com/example/rosterhall/rosterhall/ResourceId" "low" "J" (.long (0 : Int64)) := D187 (Or.inr (hw _ (List.mem_of_getElem? (i := 17) rfl))) (ty := .long) (by decide)
      obtain ⟨_, _, ⟨T197, L197, k197, n197⟩, -, X197, ⟨Lc197, hQ197, l197, y197, z197⟩, st197⟩ := X187.specialBack hx (y := (⟨"com/example/rosterhall/rosterhall/ResourceId", "<init>", "(JJ)V"⟩ : MethodName)) rfl hown (mvT hZ (hw _ (List.mem_of_getElem? (i := 3) rfl))) (mvT hZ (hw _ (List.mem_of_getElem? (i := 4) rfl))) (mvT hZ (hw _ (List.mem_of_getElem? (i := 5) rfl))) (by decide) (backOf (W := 1) (own_rmI l Z a0 hw [] b187 q0 q3 h187 n0 Zs192 A187 F187_high F187_low Ge189) hZ (hw _ (List.mem_of_getElem? (i := 5) rfl)) (hw _ (List.mem_of_getElem? (i := 2) rfl)) (by decide) (by decide)) (g := (mkF m 49 #[.val (.long q0), .second, .val (.long q1), .second, .val (.long q2), .second, .val (.long q3), .second, .val (.int p4), .val (.long q0), .second, .val (.long q3), .second, .val (.ref b172), .unset, .unset, .unset, .unset] [(.long q3), (.long q0), (.ref b187), (.ref b187)])) rfl (by rw [hml]; rfl) (Steps.refl _) (a := b187) (argsL := [(.long q0), (.long q3)]) (rest := [(.ref b187)]) (lenOf own_pd2 rfl) rfl (by show 2 * 0 + _ ≤ _; exact Nat.le_of_eq rfl) (hb hby at_49) (fun _ _ => ⟨rfl, e187, (by decide : 2 + 0 ≤ _), (by decide : 4 + 0 ≤ _)⟩)
      dsimp only [Pt.U, Pt.locs, Pt.cells, Pt.slots] at X197 l197 y197 z197 st197 hQ197
      subst l197 y197 z197
      obtain ⟨rfl, Nq197, K197, Pf197_0, Pf197_1, Pf197_2⟩ := hQ197
      have N198 := Fr.app N182 Nq197
      have Kc199 : Keep h0 T197.heap [] := Kc191.trans K197 (allS (Or.inr Sz190) all0)
      have Zs200 : n0 ≤ T197.heap.size := Nat.le_trans Zs192 K197.1
      obtain ⟨_, _, ⟨T207, L207, k207, n207⟩, -, X207, ⟨Lc207, hQ207, l207, y207, z207⟩, st207⟩ := Jvm.LawKit.callS X197 hx (y := (⟨"com/example/rosterhall/rosterhall/ResourceIdCompareToPinLaw", "ref", "(JJJJ)I"⟩ : MethodName)) hown (mvT hZ (hw _ (List.mem_of_getElem? (i := 18) rfl))) (mvT hZ (hw _ (List.mem_of_getElem? (i := 19) rfl))) (mvT hZ (hw _ (List.mem_of_getElem? (i := 20) rfl))) (mvT hZ (hw _ (List.mem_of_getElem? (i := 21) rfl))) (by decide) (backOf (W := 0) (own_ref l Z a0 hw [] q0 q1 q0 q3 T197.heap n0 Zs200 ) hZ (hw _ (List.mem_of_getElem? (i := 21) rfl)) (hw _ (List.mem_of_getElem? (i := 20) rfl)) (by decide) (by decide)) (g := (mkF m 60 #[.val (.long q0), .second, .val (.long q1), .second, .val (.long q2), .second, .val (.long q3), .second, .val (.int p4), .val (.long q0), .second, .val (.long q3), .second, .val (.ref b172), .val (.ref b187), .unset, .unset, .unset] [(.long q3), (.long q0), (.long q1), (.long q0)])) rfl (by rw [hml]; rfl) (argsL := [(.long q0), (.long q1), (.long q0), (.long q3)]) (rest := []) (lenOf own_pd3 rfl) rfl (by show 2 * 0 + _ ≤ _; exact Nat.le_of_eq rfl) (hb hby at_60) (fun _ _ => ⟨rfl, rfl, (by decide : 2 + 0 ≤ _), (by decide : 4 + 0 ≤ _)⟩)
      dsimp only [Pt.U, Pt.locs, Pt.cells, Pt.slots] at X207 l207 y207 z207 st207 hQ207
      subst l207 y207 z207
      obtain ⟨rfl, Nq207, eh207⟩ := hQ207
      have N208 := Fr.app N198 Nq207
      have Fq214 : Fld Z T197.heap b172 "com/example/rosterhall/rosterhall/ResourceId" "high" "J" (.long q0) := ((Pf181_1.ext E187).keep K197 (ninS Ne188 nin0))
      have Fq215 : Fld Z T197.heap b172 "com/example/rosterhall/rosterhall/ResourceId" "low" "J" (.long q1) := ((Pf181_2.ext E187).keep K197 (ninS Ne188 nin0))
      have Fq216 : Exa Z T197.heap b172 "com/example/rosterhall/rosterhall/ResourceId" := ((Pf181_0.ext E187).keep K197)
      obtain ⟨cq213, kq213, q213a, q213b, q213c⟩ := isOf hZ eh207 Fq216
      obtain ⟨_, _, ⟨T213, L213, k213, n213⟩, -, X213, ⟨Lc213, hQ213, l213, y213, z213⟩, st213⟩ := X207.virtualBack hx (y := (⟨"com/example/rosterhall/rosterhall/ResourceId", "compareTo", "(Lcom/example/rosterhall/rosterhall/ResourceId;)I"⟩ : MethodName)) (z := (⟨"com/example/rosterhall/rosterhall/ResourceId", "compareTo", "(Lcom/example/rosterhall/rosterhall/ResourceId;)I"⟩ : MethodName)) hown (mvT hZ (hw _ (List.mem_of_getElem? (i := 26) rfl))) (mvT hZ (hw _ (List.mem_of_getElem? (i := 27) rfl))) (notFace_of_selects (args := #[]) (mvT hZ (hw _ (List.mem_of_getElem? (i := 29) rfl)))) (mvT hZ (hw _ (List.mem_of_getElem? (i := 29) rfl))) (mvT hZ (hw _ (List.mem_of_getElem? (i := 28) rfl))) (by decide) (backOf (W := 0) (own_rmC l Z a0 hw [] b172 b187 q0 q1 q0 q3 T197.heap n0 Zs200 Fq214 Fq215 Pf197_1 Pf197_2) hZ (hw _ (List.mem_of_getElem? (i := 30) rfl)) (hw _ (List.mem_of_getElem? (i := 2) rfl)) (by decide) (by decide)) q213a q213c (g := (mkF m 69 #[.val (.long q0), .second, .val (.long q1), .second, .val (.long q2), .second, .val (.long q3), .second, .val (.int p4), .val (.long q0), .second, .val (.long q3), .second, .val (.ref b172), .val (.ref b187), .val (.int (own_ref_f q0 q1 q0 q3)), .unset, .unset] [(.ref b187), (.ref b172)])) rfl (by rw [hml]; rfl) (Steps.refl _) (argsL := [(.ref b187)]) (rest := []) (lenOf own_pd4 rfl) rfl (by show 2 * 0 + _ ≤ _; exact Nat.le_of_eq rfl) (hb hby at_69) (fun _ _ => ⟨rfl, eh207, (by decide : 2 + 0 ≤ _), (by decide : 4 + 0 ≤ _)⟩)
      dsimp only [Pt.U, Pt.locs, Pt.cells, Pt.slots] at X213 l213 y213 z213 st213 hQ213
      subst l213 y213 z213
      obtain ⟨rfl, Nq213, eh213⟩ := hQ213
      have N217 := Fr.app N208 Nq213
      obtain ⟨_, _, ⟨T219, L219, k219, n219⟩, -, X219, ⟨Lc219, hQ219, l219, y219, z219⟩, st219⟩ := Jvm.LawKit.callS X213 hx (y := (⟨"com/example/rosterhall/rosterhall/ResourceIdCompareToPinLaw", "sign", "(I)I"⟩ : MethodName)) hown (mvT hZ (hw _ (List.mem_of_getElem? (i := 39) rfl))) (mvT hZ (hw _ (List.mem_of_getElem? (i := 40) rfl))) (mvT hZ (hw _ (List.mem_of_getElem? (i := 20) rfl))) (mvT hZ (hw _ (List.mem_of_getElem? (i := 41) rfl))) (by decide) (backOf (W := 0) (own_sign l Z a0 hw [] (own_rmC_f q0 q1 q0 q3) T197.heap n0 Zs200 ) hZ (hw _ (List.mem_of_getElem? (i := 41) rfl)) (hw _ (List.mem_of_getElem? (i := 20) rfl)) (by decide) (by decide)) (g := (mkF m 72 #[.val (.long q0), .second, .val (.long q1), .second, .val (.long q2), .second, .val (.long q3), .second, .val (.int p4), .val (.long q0), .second, .val (.long q3), .second, .val (.ref b172), .val (.ref b187), .val (.int (own_ref_f q0 q1 q0 q3)), .unset, .unset] [(.int (own_rmC_f q0 q1 q0 q3))])) rfl (by rw [hml]; rfl) (argsL := [(.int (own_rmC_f q0 q1 q0 q3))]) (rest := []) (lenOf own_pd5 rfl) rfl (by show 2 * 0 + _ ≤ _; exact Nat.le_of_eq rfl) (hb hby at_72) (fun _ _ => ⟨rfl, eh213, (by decide : 2 + 0 ≤ _), (by decide : 4 + 0 ≤ _)⟩)
      dsimp only [Pt.U, Pt.locs, Pt.cells, Pt.slots] at X219 l219 y219 z219 st219 hQ219
      subst l219 y219 z219
      obtain ⟨rfl, Nq219, eh219⟩ := hQ219
      have N220 := Fr.app N217 Nq219
      obtain ⟨cq225, kq225, q225a, q225b, q225c⟩ := isOf hZ eh219 Pf197_0
      obtain ⟨_, _, ⟨T225, L225, k225, n225⟩, -, X225, ⟨Lc225, hQ225, l225, y225, z225⟩, st225⟩ := X219.virtualBack hx (y := (⟨"com/example/rosterhall/rosterhall/ResourceId", "compareTo", "(Lcom/example/rosterhall/rosterhall/ResourceId;)I"⟩ : MethodName)) (z := (⟨"com/example/rosterhall/rosterhall/ResourceId", "compareTo", "(Lcom/example/rosterhall/rosterhall/ResourceId;)I"⟩ : MethodName)) hown (mvT hZ (hw _ (List.mem_of_getElem? (i := 26) rfl))) (mvT hZ (hw _ (List.mem_of_getElem? (i := 27) rfl))) (notFace_of_selects (args := #[]) (mvT hZ (hw _ (List.mem_of_getElem? (i := 29) rfl)))) (mvT hZ (hw _ (List.mem_of_getElem? (i := 29) rfl))) (mvT hZ (hw _ (List.mem_of_getElem? (i := 28) rfl))) (by decide) (backOf (W := 0) (own_rmC l Z a0 hw [] b187 b172 q0 q3 q0 q1 T197.heap n0 Zs200 Pf197_1 Pf197_2 Fq214 Fq215) hZ (hw _ (List.mem_of_getElem? (i := 30) rfl)) (hw _ (List.mem_of_getElem? (i := 2) rfl)) (by decide) (by decide)) q225a q225c (g := (mkF m 81 #[.val (.long q0), .second, .val (.long q1), .second, .val (.long q2), .second, .val (.long q3), .second, .val (.int p4), .val (.long q0), .second, .val (.long q3), .second, .val (.ref b172), .val (.ref b187), .val (.int (own_ref_f q0 q1 q0 q3)), .val (.int (own_sign_f (own_rmC_f q0 q1 q0 q3))), .unset] [(.ref b172), (.ref b187)])) rfl (by rw [hml]; rfl) (Steps.refl _) (argsL := [(.ref b172)]) (rest := []) (lenOf own_pd4 rfl) rfl (by show 2 * 0 + _ ≤ _; exact Nat.le_of_eq rfl) (hb hby at_81) (fun _ _ => ⟨rfl, eh219, (by decide : 2 + 0 ≤ _), (by decide : 4 + 0 ≤ _)⟩)
      dsimp only [Pt.U, Pt.locs, Pt.cells, Pt.slots] at X225 l225 y225 z225 st225 hQ225
      subst l225 y225 z225
      obtain ⟨rfl, Nq225, eh225⟩ := hQ225
      have N226 := Fr.app N220 Nq225
      obtain ⟨_, _, ⟨T228, L228, k228, n228⟩, -, X228, ⟨Lc228, hQ228, l228, y228, z228⟩, st228⟩ := Jvm.LawKit.callS X225 hx (y := (⟨"com/example/rosterhall/rosterhall/ResourceIdCompareToPinLaw", "sign", "(I)I"⟩ : MethodName)) hown (mvT hZ (hw _ (List.mem_of_getElem? (i := 39) rfl))) (mvT hZ (hw _ (List.mem_of_getElem? (i := 40) rfl))) (mvT hZ (hw _ (List.mem_of_getElem? (i := 20) rfl))) (mvT hZ (hw _ (List.mem_of_getElem? (i := 41) rfl))) (by decide) (backOf (W := 0) (own_sign l Z a0 hw [] (own_rmC_f q0 q3 q0 q1) T197.heap n0 Zs200 ) hZ (hw _ (List.mem_of_getElem? (i := 41) rfl)) (hw _ (List.mem_of_getElem? (i := 20) rfl)) (by decide) (by decide)) (g := (mkF m 84 #[.val (.long q0), .second, .val (.long q1), .second, .val (.long q2), .second, .val (.long q3), .second, .val (.int p4), .val (.long q0), .second, .val (.long q3), .second, .val (.ref b172), .val (.ref b187), .val (.int (own_ref_f q0 q1 q0 q3)), .val (.int (own_sign_f (own_rmC_f q0 q1 q0 q3))), .unset] [(.int (own_rmC_f q0 q3 q0 q1))])) rfl (by rw [hml]; rfl) (argsL := [(.int (own_rmC_f q0 q3 q0 q1))]) (rest := []) (lenOf own_pd5 rfl) rfl (by show 2 * 0 + _ ≤ _; exact Nat.le_of_eq rfl) (hb hby at_84) (fun _ _ => ⟨rfl, eh225, (by decide : 2 + 0 ≤ _), (by decide : 4 + 0 ≤ _)⟩)
      dsimp only [Pt.U, Pt.locs, Pt.cells, Pt.slots] at X228 l228 y228 z228 st228 hQ228
      subst l228 y228 z228
      obtain ⟨rfl, Nq228, eh228⟩ := hQ228
      have N229 := Fr.app N226 Nq228
      obtain ⟨fs, hr, hrun, hended, hW, hsame⟩ := X228.leave (v := some (.int (1 : Int32))) (fun h => by rw [Bd.returns] at h; cases h) (hlocks := BodyLoose.notSynchronized Bd)
      refine ⟨_, _, pre167 _ ?_, hrun, hended, _, _, rfl, ?_, ⟨_, rfl⟩, hW, hsame.mono (by decide) (by decide)⟩
      · show Steps p.tables e below (s₁.setTop (mkF m 19 #[.val (.long q0), .second, .val (.long q1), .second, .val (.long q2), .second, .val (.long q3), .second, .val (.int p4), .val (.long q0), .second, .unset, .unset, .unset, .unset, .unset, .unset, .unset] [(.int (p4 &&& (2 : Int32)))])) _
        refine XS.ifYes X0.here hx rfl (pc0 := 19) (pc' := 26) rfl (hb hby at_19) rfl ((if0 _ _).trans (teq hc19_168).1) (by decide) (by decide) ?_
        show Steps p.tables e below (s₁.setTop (mkF m 26 #[.val (.long q0), .second, .val (.long q1), .second, .val (.long q2), .second, .val (.long q3), .second, .val (.int p4), .val (.long q0), .second, .unset, .unset, .unset, .unset, .unset, .unset, .unset] [])) _
        refine XS.lload X0.here hx rfl (hb hby at_26) rfl ?_
        show Steps p.tables e below (s₁.setTop (mkF m 28 #[.val (.long q0), .second, .val (.long q1), .second, .val (.long q2), .second, .val (.long q3), .second, .val (.int p4), .val (.long q0), .second, .unset, .unset, .unset, .unset, .unset, .unset, .unset] [(.long q3)])) _
        refine XS.lstore X0.here hx rfl (hb hby at_28) rfl (l' := #[.val (.long q0), .second, .val (.long q1), .second, .val (.long q2), .second, .val (.long q3), .second, .val (.int p4), .val (.long q0), .second, .val (.long q3), .second, .unset, .unset, .unset, .unset, .unset]) rfl ?_
        show Steps p.tables e below (s₁.setTop (mkF m 30 #[.val (.long q0), .second, .val (.long q1), .second, .val (.long q2), .second, .val (.long q3), .second, .val (.int p4), .val (.long q0), .second, .val (.long q3), .second, .unset, .unset, .unset, .unset, .unset] [])) _
        refine st172 _ ?_
        show Steps p.tables e below (T172.setTop (mkF m 33 #[.val (.long q0), .second, .val (.long q1), .second, .val (.long q2), .second, .val (.long q3), .second, .val (.int p4), .val (.long q0), .second, .val (.long q3), .second, .unset, .unset, .unset, .unset, .unset] [(.ref b172)])) _
        refine XS.dup X172.here hx rfl (hb hby at_33) rfl rfl ?_
        show Steps p.tables e below (T172.setTop (mkF m 34 #[.val (.long q0), .second, .val (.long q1), .second, .val (.long q2), .second, .val (.long q3), .second, .val (.int p4), .val (.long q0), .second, .val (.long q3), .second, .unset, .unset, .unset, .unset, .unset] [(.ref b172), (.ref b172)])) _
        refine XS.lloadN X172.here hx rfl (hb hby at_34) rfl ?_
        show Steps p.tables e below (T172.setTop (mkF m 35 #[.val (.long q0), .second, .val (.long q1), .second, .val (.long q2), .second, .val (.long q3), .second, .val (.int p4), .val (.long q0), .second, .val (.long q3), .second, .unset, .unset, .unset, .unset, .unset] [(.long q0), (.ref b172), (.ref b172)])) _
        refine XS.lloadN X172.here hx rfl (hb hby at_35) rfl ?_
        show Steps p.tables e below (T172.setTop (mkF m 36 #[.val (.long q0), .second, .val (.long q1), .second, .val (.long q2), .second, .val (.long q3), .second, .val (.int p4), .val (.long q0), .second, .val (.long q3), .second, .unset, .unset, .unset, .unset, .unset] [(.long q1), (.long q0), (.ref b172), (.ref b172)])) _
        refine st181.trans ?_
        show Steps p.tables e below (T181.setTop (mkF m 39 #[.val (.long q0), .second, .val (.long q1), .second, .val (.long q2), .second, .val (.long q3), .second, .val (.int p4), .val (.long q0), .second, .val (.long q3), .second, .unset, .unset, .unset, .unset, .unset] [(.ref b172)])) _
        refine XS.astore X181.here hx rfl (hb hby at_39) rfl rfl (l' := #[.val (.long q0), .second, .val (.long q1), .second, .val (.long q2), .second, .val (.long q3), .second, .val (.int p4), .val (.long q0), .second, .val (.long q3), .second, .val (.ref b172), .unset, .unset, .unset, .unset]) rfl ?_
        show Steps p.tables e below (T181.setTop (mkF m 41 #[.val (.long q0), .second, .val (.long q1), .second, .val (.long q2), .second, .val (.long q3), .second, .val (.int p4), .val (.long q0), .second, .val (.long q3), .second, .val (.ref b172), .unset, .unset, .unset, .unset] [])) _
        refine st187 _ ?_
        show Steps p.tables e below (T187.setTop (mkF m 44 #[.val (.long q0), .second, .val (.long q1), .second, .val (.long q2), .second, .val (.long q3), .second, .val (.int p4), .val (.long q0), .second, .val (.long q3), .second, .val (.ref b172), .unset, .unset, .unset, .unset] [(.ref b187)])) _
        refine XS.dup X187.here hx rfl (hb hby at_44) rfl rfl ?_
        show Steps p.tables e below (T187.setTop (mkF m 45 #[.val (.long q0), .second, .val (.long q1), .second, .val (.long q2), .second, .val (.long q3), .second, .val (.int p4), .val (.long q0), .second, .val (.long q3), .second, .val (.ref b172), .unset, .unset, .unset, .unset] [(.ref b187), (.ref b187)])) _
        refine XS.lload X187.here hx rfl (hb hby at_45) rfl ?_
        show Steps p.tables e below (T187.setTop (mkF m 47 #[.val (.long q0), .second, .val (.long q1), .second, .val (.long q2), .second, .val (.long q3), .second, .val (.int p4), .val (.long q0), .second, .val (.long q3), .second, .val (.ref b172), .unset, .unset, .unset, .unset] [(.long q0), (.ref b187), (.ref b187)])) _
        refine XS.lload X187.here hx rfl (hb hby at_47) rfl ?_
        show Steps p.tables e below (T187.setTop (mkF m 49 #[.val (.long q0), .second, .val (.long q1), .second, .val (.long q2), .second, .val (.long q3), .second, .val (.int p4), .val (.long q0), .second, .val (.long q3), .second, .val (.ref b172), .unset, .unset, .unset, .unset] [(.long q3), (.long q0), (.ref b187), (.ref b187)])) _
        refine st197.trans ?_
        show Steps p.tables e below (T197.setTop (mkF m 52 #[.val (.long q0), .second, .val (.long q1), .second, .val (.long q2), .second, .val (.long q3), .second, .val (.int p4), .val (.long q0), .second, .val (.long q3), .second, .val (.ref b172), .unset, .unset, .unset, .unset] [(.ref b187)])) _
        refine XS.astore X197.here hx rfl (hb hby at_52) rfl rfl (l' := #[.val (.long q0), .second, .val (.long q1), .second, .val (.long q2), .second, .val (.long q3), .second, .val (.int p4), .val (.long q0), .second, .val (.long q3), .second, .val (.ref b172), .val (.ref b187), .unset, .unset, .unset]) rfl ?_
        show Steps p.tables e below (T197.setTop (mkF m 54 #[.val (.long q0), .second, .val (.long q1), .second, .val (.long q2), .second, .val (.long q3), .second, .val (.int p4), .val (.long q0), .second, .val (.long q3), .second, .val (.ref b172), .val (.ref b187), .unset, .unset, .unset] [])) _
        refine XS.lloadN X197.here hx rfl (hb hby at_54) rfl ?_
        show Steps p.tables e below (T197.setTop (mkF m 55 #[.val (.long q0), .second, .val (.long q1), .second, .val (.long q2), .second, .val (.long q3), .second, .val (.int p4), .val (.long q0), .second, .val (.long q3), .second, .val (.ref b172), .val (.ref b187), .unset, .unset, .unset] [(.long q0)])) _
        refine XS.lloadN X197.here hx rfl (hb hby at_55) rfl ?_
        show Steps p.tables e below (T197.setTop (mkF m 56 #[.val (.long q0), .second, .val (.long q1), .second, .val (.long q2), .second, .val (.long q3), .second, .val (.int p4), .val (.long q0), .second, .val (.long q3), .second, .val (.ref b172), .val (.ref b187), .unset, .unset, .unset] [(.long q1), (.long q0)])) _
        refine XS.lload X197.here hx rfl (hb hby at_56) rfl ?_
        show Steps p.tables e below (T197.setTop (mkF m 58 #[.val (.long q0), .second, .val (.long q1), .second, .val (.long q2), .second, .val (.long q3), .second, .val (.int p4), .val (.long q0), .second, .val (.long q3), .second, .val (.ref b172), .val (.ref b187), .unset, .unset, .unset] [(.long q0), (.long q1), (.long q0)])) _
        refine XS.lload X197.here hx rfl (hb hby at_58) rfl ?_
        show Steps p.tables e below (T197.setTop (mkF m 60 #[.val (.long q0), .second, .val (.long q1), .second, .val (.long q2), .second, .val (.long q3), .second, .val (.int p4), .val (.long q0), .second, .val (.long q3), .second, .val (.ref b172), .val (.ref b187), .unset, .unset, .unset] [(.long q3), (.long q0), (.long q1), (.long q0)])) _
        refine st207 _ ?_
        show Steps p.tables e below (T207.setTop (mkF m 63 #[.val (.long q0), .second, .val (.long q1), .second, .val (.long q2), .second, .val (.long q3), .second, .val (.int p4), .val (.long q0), .second, .val (.long q3), .second, .val (.ref b172), .val (.ref b187), .unset, .unset, .unset] [(.int (own_ref_f q0 q1 q0 q3))])) _
        refine XS.istore X207.here hx rfl (hb hby at_63) rfl (l' := #[.val (.long q0), .second, .val (.long q1), .second, .val (.long q2), .second, .val (.long q3), .second, .val (.int p4), .val (.long q0), .second, .val (.long q3), .second, .val (.ref b172), .val (.ref b187), .val (.int (own_ref_f q0 q1 q0 q3)), .unset, .unset]) rfl ?_
        show Steps p.tables e below (T207.setTop (mkF m 65 #[.val (.long q0), .second, .val (.long q1), .second, .val (.long q2), .second, .val (.long q3), .second, .val (.int p4), .val (.long q0), .second, .val (.long q3), .second, .val (.ref b172), .val (.ref b187), .val (.int (own_ref_f q0 q1 q0 q3)), .unset, .unset] [])) _
        refine XS.aload X207.here hx rfl (hb hby at_65) rfl rfl ?_
        show Steps p.tables e below (T207.setTop (mkF m 67 #[.val (.long q0), .second, .val (.long q1), .second, .val (.long q2), .second, .val (.long q3), .second, .val (.int p4), .val (.long q0), .second, .val (.long q3), .second, .val (.ref b172), .val (.ref b187), .val (.int (own_ref_f q0 q1 q0 q3)), .unset, .unset] [(.ref b172)])) _
        refine XS.aload X207.here hx rfl (hb hby at_67) rfl rfl ?_
        show Steps p.tables e below (T207.setTop (mkF m 69 #[.val (.long q0), .second, .val (.long q1), .second, .val (.long q2), .second, .val (.long q3), .second, .val (.int p4), .val (.long q0), .second, .val (.long q3), .second, .val (.ref b172), .val (.ref b187), .val (.int (own_ref_f q0 q1 q0 q3)), .unset, .unset] [(.ref b187), (.ref b172)])) _
        refine st213.trans ?_
        show Steps p.tables e below (T213.setTop (mkF m 72 #[.val (.long q0), .second, .val (.long q1), .second, .val (.long q2), .second, .val (.long q3), .second, .val (.int p4), .val (.long q0), .second, .val (.long q3), .second, .val (.ref b172), .val (.ref b187), .val (.int (own_ref_f q0 q1 q0 q3)), .unset, .unset] [(.int (own_rmC_f q0 q1 q0 q3))])) _
        refine st219 _ ?_
        show Steps p.tables e below (T219.setTop (mkF m 75 #[.val (.long q0), .second, .val (.long q1), .second, .val (.long q2), .second, .val (.long q3), .second, .val (.int p4), .val (.long q0), .second, .val (.long q3), .second, .val (.ref b172), .val (.ref b187), .val (.int (own_ref_f q0 q1 q0 q3)), .unset, .unset] [(.int (own_sign_f (own_rmC_f q0 q1 q0 q3)))])) _
        refine XS.istore X219.here hx rfl (hb hby at_75) rfl (l' := #[.val (.long q0), .second, .val (.long q1), .second, .val (.long q2), .second, .val (.long q3), .second, .val (.int p4), .val (.long q0), .second, .val (.long q3), .second, .val (.ref b172), .val (.ref b187), .val (.int (own_ref_f q0 q1 q0 q3)), .val (.int (own_sign_f (own_rmC_f q0 q1 q0 q3))), .unset]) rfl ?_
        show Steps p.tables e below (T219.setTop (mkF m 77 #[.val (.long q0), .second, .val (.long q1), .second, .val (.long q2), .second, .val (.long q3), .second, .val (.int p4), .val (.long q0), .second, .val (.long q3), .second, .val (.ref b172), .val (.ref b187), .val (.int (own_ref_f q0 q1 q0 q3)), .val (.int (own_sign_f (own_rmC_f q0 q1 q0 q3))), .unset] [])) _
        refine XS.aload X219.here hx rfl (hb hby at_77) rfl rfl ?_
        show Steps p.tables e below (T219.setTop (mkF m 79 #[.val (.long q0), .second, .val (.long q1), .second, .val (.long q2), .second, .val (.long q3), .second, .val (.int p4), .val (.long q0), .second, .val (.long q3), .second, .val (.ref b172), .val (.ref b187), .val (.int (own_ref_f q0 q1 q0 q3)), .val (.int (own_sign_f (own_rmC_f q0 q1 q0 q3))), .unset] [(.ref b187)])) _
        refine XS.aload X219.here hx rfl (hb hby at_79) rfl rfl ?_
        show Steps p.tables e below (T219.setTop (mkF m 81 #[.val (.long q0), .second, .val (.long q1), .second, .val (.long q2), .second, .val (.long q3), .second, .val (.int p4), .val (.long q0), .second, .val (.long q3), .second, .val (.ref b172), .val (.ref b187), .val (.int (own_ref_f q0 q1 q0 q3)), .val (.int (own_sign_f (own_rmC_f q0 q1 q0 q3))), .unset] [(.ref b172), (.ref b187)])) _
        refine st225.trans ?_
        show Steps p.tables e below (T225.setTop (mkF m 84 #[.val (.long q0), .second, .val (.long q1), .second, .val (.long q2), .second, .val (.long q3), .second, .val (.int p4), .val (.long q0), .second, .val (.long q3), .second, .val (.ref b172), .val (.ref b187), .val (.int (own_ref_f q0 q1 q0 q3)), .val (.int (own_sign_f (own_rmC_f q0 q1 q0 q3))), .unset] [(.int (own_rmC_f q0 q3 q0 q1))])) _
        refine st228 _ ?_
        show Steps p.tables e below (T228.setTop (mkF m 87 #[.val (.long q0), .second, .val (.long q1), .second, .val (.long q2), .second, .val (.long q3), .second, .val (.int p4), .val (.long q0), .second, .val (.long q3), .second, .val (.ref b172), .val (.ref b187), .val (.int (own_ref_f q0 q1 q0 q3)), .val (.int (own_sign_f (own_rmC_f q0 q1 q0 q3))), .unset] [(.int (own_sign_f (own_rmC_f q0 q3 q0 q1)))])) _
        refine XS.istore X228.here hx rfl (hb hby at_87) rfl (l' := #[.val (.long q0), .second, .val (.long q1), .second, .val (.long q2), .second, .val (.long q3), .second, .val (.int p4), .val (.long q0), .second, .val (.long q3), .second, .val (.ref b172), .val (.ref b187), .val (.int (own_ref_f q0 q1 q0 q3)), .val (.int (own_sign_f (own_rmC_f q0 q1 q0 q3))), .val (.int (own_sign_f (own_rmC_f q0 q3 q0 q1)))]) rfl ?_
        show Steps p.tables e below (T228.setTop (mkF m 89 #[.val (.long q0), .second, .val (.long q1), .second, .val (.long q2), .second, .val (.long q3), .second, .val (.int p4), .val (.long q0), .second, .val (.long q3), .second, .val (.ref b172), .val (.ref b187), .val (.int (own_ref_f q0 q1 q0 q3)), .val (.int (own_sign_f (own_rmC_f q0 q1 q0 q3))), .val (.int (own_sign_f (own_rmC_f q0 q3 q0 q1)))] [])) _
        refine XS.iload X228.here hx rfl (hb hby at_89) rfl ?_
        show Steps p.tables e below (T228.setTop (mkF m 91 #[.val (.long q0), .second, .val (.long q1), .second, .val (.long q2), .second, .val (.long q3), .second, .val (.int p4), .val (.long q0), .second, .val (.long q3), .second, .val (.ref b172), .val (.ref b187), .val (.int (own_ref_f q0 q1 q0 q3)), .val (.int (own_sign_f (own_rmC_f q0 q1 q0 q3))), .val (.int (own_sign_f (own_rmC_f q0 q3 q0 q1)))] [(.int (own_sign_f (own_rmC_f q0 q1 q0 q3)))])) _
        refine XS.iload X228.here hx rfl (hb hby at_91) rfl ?_
        show Steps p.tables e below (T228.setTop (mkF m 93 #[.val (.long q0), .second, .val (.long q1), .second, .val (.long q2), .second, .val (.long q3), .second, .val (.int p4), .val (.long q0), .second, .val (.long q3), .second, .val (.ref b172), .val (.ref b187), .val (.int (own_ref_f q0 q1 q0 q3)), .val (.int (own_sign_f (own_rmC_f q0 q1 q0 q3))), .val (.int (own_sign_f (own_rmC_f q0 q3 q0 q1)))] [(.int (own_ref_f q0 q1 q0 q3)), (.int (own_sign_f (own_rmC_f q0 q1 q0 q3)))])) _
        refine XS.icmpNo X228.here hx rfl (hb hby at_93) rfl (teq (own_m1 _ _ _ _ : (own_sign_f (own_rmC_f q0 q1 q0 q3)) = (own_ref_f q0 q1 q0 q3))).2 ?_
        show Steps p.tables e below (T228.setTop (mkF m 96 #[.val (.long q0), .second, .val (.long q1), .second, .val (.long q2), .second, .val (.long q3), .second, .val (.int p4), .val (.long q0), .second, .val (.long q3), .second, .val (.ref b172), .val (.ref b187), .val (.int (own_ref_f q0 q1 q0 q3)), .val (.int (own_sign_f (own_rmC_f q0 q1 q0 q3))), .val (.int (own_sign_f (own_rmC_f q0 q3 q0 q1)))] [])) _
        refine XS.iload X228.here hx rfl (hb hby at_96) rfl ?_
        show Steps p.tables e below (T228.setTop (mkF m 98 #[.val (.long q0), .second, .val (.long q1), .second, .val (.long q2), .second, .val (.long q3), .second, .val (.int p4), .val (.long q0), .second, .val (.long q3), .second, .val (.ref b172), .val (.ref b187), .val (.int (own_ref_f q0 q1 q0 q3)), .val (.int (own_sign_f (own_rmC_f q0 q1 q0 q3))), .val (.int (own_sign_f (own_rmC_f q0 q3 q0 q1)))] [(.int (own_sign_f (own_rmC_f q0 q3 q0 q1)))])) _
        refine XS.iload X228.here hx rfl (hb hby at_98) rfl ?_
        show Steps p.tables e below (T228.setTop (mkF m 100 #[.val (.long q0), .second, .val (.long q1), .second, .val (.long q2), .second, .val (.long q3), .second, .val (.int p4), .val (.long q0), .second, .val (.long q3), .second, .val (.ref b172), .val (.ref b187), .val (.int (own_ref_f q0 q1 q0 q3)), .val (.int (own_sign_f (own_rmC_f q0 q1 q0 q3))), .val (.int (own_sign_f (own_rmC_f q0 q3 q0 q1)))] [(.int (own_ref_f q0 q1 q0 q3)), (.int (own_sign_f (own_rmC_f q0 q3 q0 q1)))])) _
        refine XS.ineg X228.here hx rfl (hb hby at_100) rfl ?_
        show Steps p.tables e below (T228.setTop (mkF m 101 #[.val (.long q0), .second, .val (.long q1), .second, .val (.long q2), .second, .val (.long q3), .second, .val (.int p4), .val (.long q0), .second, .val (.long q3), .second, .val (.ref b172), .val (.ref b187), .val (.int (own_ref_f q0 q1 q0 q3)), .val (.int (own_sign_f (own_rmC_f q0 q1 q0 q3))), .val (.int (own_sign_f (own_rmC_f q0 q3 q0 q1)))] [(.int (-(own_ref_f q0 q1 q0 q3))), (.int (own_sign_f (own_rmC_f q0 q3 q0 q1)))])) _
        refine XS.icmpNo X228.here hx rfl (hb hby at_101) rfl (teq (own_m2 _ _ _ _ : (own_sign_f (own_rmC_f q0 q3 q0 q1)) = (-(own_ref_f q0 q1 q0 q3)))).2 ?_
        show Steps p.tables e below (T228.setTop (mkF m 104 #[.val (.long q0), .second, .val (.long q1), .second, .val (.long q2), .second, .val (.long q3), .second, .val (.int p4), .val (.long q0), .second, .val (.long q3), .second, .val (.ref b172), .val (.ref b187), .val (.int (own_ref_f q0 q1 q0 q3)), .val (.int (own_sign_f (own_rmC_f q0 q1 q0 q3))), .val (.int (own_sign_f (own_rmC_f q0 q3 q0 q1)))] [])) _
        refine XS.iconst X228.here hx rfl (hb hby at_104) ?_
        show Steps p.tables e below (T228.setTop (mkF m 105 #[.val (.long q0), .second, .val (.long q1), .second, .val (.long q2), .second, .val (.long q3), .second, .val (.int p4), .val (.long q0), .second, .val (.long q3), .second, .val (.ref b172), .val (.ref b187), .val (.int (own_ref_f q0 q1 q0 q3)), .val (.int (own_sign_f (own_rmC_f q0 q1 q0 q3))), .val (.int (own_sign_f (own_rmC_f q0 q3 q0 q1)))] [(.int (1 : Int32))])) _
        refine XS.goto X228.here hx rfl (pc0 := 105) (pc' := 109) rfl (hb hby at_105) (by decide) (by decide) ?_
        show Steps p.tables e below (T228.setTop (mkF m 109 #[.val (.long q0), .second, .val (.long q1), .second, .val (.long q2), .second, .val (.long q3), .second, .val (.int p4), .val (.long q0), .second, .val (.long q3), .second, .val (.ref b172), .val (.ref b187), .val (.int (own_ref_f q0 q1 q0 q3)), .val (.int (own_sign_f (own_rmC_f q0 q1 q0 q3))), .val (.int (own_sign_f (own_rmC_f q0 q3 q0 q1)))] [(.int (1 : Int32))])) _
        exact retN X228 hx (t := .boolean) Bd.returns (by simp) (hb hby at_109) hr
      · show Qown_law Z q0 q1 q2 q3 p4 h0 n0 _ T228.heap _
        rw [eh228]
        exact ⟨rfl, N229⟩
    · obtain ⟨T245, h245, X245, e245, E245, A245, D245, -, st245⟩ := newO X0 hx hZ hown (hw _ (List.mem_of_getElem? (i := 0) rfl)) (hw _ (List.mem_of_getElem? (i := 1) rfl)) (hw _ (List.mem_of_getElem? (i := 2) rfl)) e0 (g := (mkF m 30 #[.val (.long q0), .second, .val (.long q1), .second, .val (.long q2), .second, .val (.long q3), .second, .val (.int p4), .val (.long q0), .second, .val (.long q1), .second, .unset, .unset, .unset, .unset, .unset] [])) rfl (hb hby at_30) (by decide) (by decide)
      obtain ⟨b245, g245⟩ : ∃ z, z = h0.size := ⟨_, rfl⟩
      rw [← g245] at A245 D245 st245
      have Ge246 : n0 ≤ b245 := Nat.le_trans Z0 (Nat.le_of_eq g245.symm)
      have Sz247 : h0.size ≤ b245 := Nat.le_trans (Keep.refl h0 []).1 (Nat.le_of_eq g245.symm)
      have Kc248 : Keep h0 h245 [] := (Keep.refl h0 []).ext E245
      have Zs249 : n0 ≤ h245.size := (Nat.le_trans Z0 E245.1)
      have F245_high : Fld Z h245 b245 "com/example/rosterhall/rosterhall/ResourceId" "high" "J" (.long (0 : Int64)) := D245 (Or.inr (hw _ (List.mem_of_getElem? (i := 15) rfl))) (ty := .long) (by decide)
      have F245_low : Fld Z h245 b245 "com/example/rosterhall/rosterhall/ResourceId" "low" "J" (.long (0 : Int64)) := D245 (Or.inr (hw _ (List.mem_of_getElem? (i := 17) rfl))) (ty := .long) (by decide)
      obtain ⟨_, _, ⟨T254, L254, k254, n254⟩, -, X254, ⟨Lc254, hQ254, l254, y254, z254⟩, st254⟩ := X245.specialBack hx (y := (⟨"com/example/rosterhall/rosterhall/ResourceId", "<init>", "(JJ)V"⟩ : MethodName)) rfl hown (mvT hZ (hw _ (List.mem_of_getElem? (i := 3) rfl))) (mvT hZ (hw _ (List.mem_of_getElem? (i := 4) rfl))) (mvT hZ (hw _ (List.mem_of_getElem? (i := 5) rfl))) (by decide) (backOf (W := 1) (own_rmI l Z a0 hw [] b245 q0 q1 h245 n0 Zs249 A245 F245_high F245_low Ge246) hZ (hw _ (List.mem_of_getElem? (i := 5) rfl)) (hw _ (List.mem_of_getElem? (i := 2) rfl)) (by decide) (by decide)) (g := (mkF m 36 #[.val (.long q0), .second, .val (.long q1), .second, .val (.long q2), .second, .val (.long q3), .second, .val (.int p4), .val (.long q0), .second, .val (.long q1), .second, .unset, .unset, .unset, .unset, .unset] [(.long q1), (.long q0), (.ref b245), (.ref b245)])) rfl (by rw [hml]; rfl) (Steps.refl _) (a := b245) (argsL := [(.long q0), (.long q1)]) (rest := [(.ref b245)]) (lenOf own_pd2 rfl) rfl (by show 2 * 0 + _ ≤ _; exact Nat.le_of_eq rfl) (hb hby at_36) (fun _ _ => ⟨rfl, e245, (by decide : 1 + 0 ≤ _), (by decide : 2 + 0 ≤ _)⟩)
      dsimp only [Pt.U, Pt.locs, Pt.cells, Pt.slots] at X254 l254 y254 z254 st254 hQ254
      subst l254 y254 z254
      obtain ⟨rfl, Nq254, K254, Pf254_0, Pf254_1, Pf254_2⟩ := hQ254
      have N255 := Fr.app N0 Nq254
      have Kc256 : Keep h0 T254.heap [] := Kc248.trans K254 (allS (Or.inr Sz247) all0)
      have Zs257 : n0 ≤ T254.heap.size := Nat.le_trans Zs249 K254.1
      obtain ⟨T260, h260, X260, e260, E260, A260, D260, -, st260⟩ := newO X254 hx hZ hown (hw _ (List.mem_of_getElem? (i := 0) rfl)) (hw _ (List.mem_of_getElem? (i := 1) rfl)) (hw _ (List.mem_of_getElem? (i := 2) rfl)) rfl (g := (mkF m 41 #[.val (.long q0), .second, .val (.long q1), .second, .val (.long q2), .second, .val (.long q3), .second, .val (.int p4), .val (.long q0), .second, .val (.long q1), .second, .val (.ref b245), .unset, .unset, .unset, .unset] [])) rfl (hb hby at_41) (by decide) (by decide)
      obtain ⟨b260, g260⟩ : ∃ z, z = T254.heap.size := ⟨_, rfl⟩
      rw [← g260] at A260 D260 st260
      have Ne261 : b245 ≠ b260 := Nat.ne_of_lt (Nat.lt_of_lt_of_le Pf254_0.lt (Nat.le_of_eq g260.symm))
      have Ge262 : n0 ≤ b260 := Nat.le_trans Zs257 (Nat.le_of_eq g260.symm)
      have Sz263 : h0.size ≤ b260 := Nat.le_trans Kc256.1 (Nat.le_of_eq g260.symm)
      have Kc264 : Keep h0 h260 [] := Kc256.ext E260
      have Zs265 : n0 ≤ h260.size := (Nat.le_trans Zs257 E260.1)
      have F260_high : Fld Z h260 b260 "com/example/rosterhall/rosterhall/ResourceId" "high" "J" (.long (0 : Int64)) := D260 (Or.inr (hw _ (List.mem_of_getElem? (i := 15) rfl))) (ty := .long) (by decide)
      have F260_low : Fld Z h260 b260 "com/example/rosterhall/rosterhall/ResourceId" "low" "J" (.long (0 : Int64)) := D260 (Or.inr (hw _ (List.mem_of_getElem? (i := 17) rfl))) (ty := .long) (by decide)
      obtain ⟨_, _, ⟨T270, L270, k270, n270⟩, -, X270, ⟨Lc270, hQ270, l270, y270, z270⟩, st270⟩ := X260.specialBack hx (y := (⟨"com/example/rosterhall/rosterhall/ResourceId", "<init>", "(JJ)V"⟩ : MethodName)) rfl hown (mvT hZ (hw _ (List.mem_of_getElem? (i := 3) rfl))) (mvT hZ (hw _ (List.mem_of_getElem? (i := 4) rfl))) (mvT hZ (hw _ (List.mem_of_getElem? (i := 5) rfl))) (by decide) (backOf (W := 1) (own_rmI l Z a0 hw [] b260 q0 q1 h260 n0 Zs265 A260 F260_high F260_low Ge262) hZ (hw _ (List.mem_of_getElem? (i := 5) rfl)) (hw _ (List.mem_of_getElem? (i := 2) rfl)) (by decide) (by decide)) (g := (mkF m 49 #[.val (.long q0), .second, .val (.long q1), .second, .val (.long q2), .second, .val (.long q3), .second, .val (.int p4), .val (.long q0), .second, .val (.long q1), .second, .val (.ref b245), .unset, .unset, .unset, .unset] [(.long q1), (.long q0), (.ref b260), (.ref b260)])) rfl (by rw [hml]; rfl) (Steps.refl _) (a := b260) (argsL := [(.long q0), (.long q1)]) (rest := [(.ref b260)]) (lenOf own_pd2 rfl) rfl (by show 2 * 0 + _ ≤ _; exact Nat.le_of_eq rfl) (hb hby at_49) (fun _ _ => ⟨rfl, e260, (by decide : 2 + 0 ≤ _), (by decide : 4 + 0 ≤ _)⟩)
      dsimp only [Pt.U, Pt.locs, Pt.cells, Pt.slots] at X270 l270 y270 z270 st270 hQ270
      subst l270 y270 z270
      obtain ⟨rfl, Nq270, K270, Pf270_0, Pf270_1, Pf270_2⟩ := hQ270
      have N271 := Fr.app N255 Nq270
      have Kc272 : Keep h0 T270.heap [] := Kc264.trans K270 (allS (Or.inr Sz263) all0)
      have Zs273 : n0 ≤ T270.heap.size := Nat.le_trans Zs265 K270.1
      obtain ⟨_, _, ⟨T280, L280, k280, n280⟩, -, X280, ⟨Lc280, hQ280, l280, y280, z280⟩, st280⟩ := Jvm.LawKit.callS X270 hx (y := (⟨"com/example/rosterhall/rosterhall/ResourceIdCompareToPinLaw", "ref", "(JJJJ)I"⟩ : MethodName)) hown (mvT hZ (hw _ (List.mem_of_getElem? (i := 18) rfl))) (mvT hZ (hw _ (List.mem_of_getElem? (i := 19) rfl))) (mvT hZ (hw _ (List.mem_of_getElem? (i := 20) rfl))) (mvT hZ (hw _ (List.mem_of_getElem? (i := 21) rfl))) (by decide) (backOf (W := 0) (own_ref l Z a0 hw [] q0 q1 q0 q1 T270.heap n0 Zs273 ) hZ (hw _ (List.mem_of_getElem? (i := 21) rfl)) (hw _ (List.mem_of_getElem? (i := 20) rfl)) (by decide) (by decide)) (g := (mkF m 60 #[.val (.long q0), .second, .val (.long q1), .second, .val (.long q2), .second, .val (.long q3), .second, .val (.int p4), .val (.long q0), .second, .val (.long q1), .second, .val (.ref b245), .val (.ref b260), .unset, .unset, .unset] [(.long q1), (.long q0), (.long q1), (.long q0)])) rfl (by rw [hml]; rfl) (argsL := [(.long q0), (.long q1), (.long q0), (.long q1)]) (rest := []) (lenOf own_pd3 rfl) rfl (by show 2 * 0 + _ ≤ _; exact Nat.le_of_eq rfl) (hb hby at_60) (fun _ _ => ⟨rfl, rfl, (by decide : 2 + 0 ≤ _), (by decide : 4 + 0 ≤ _)⟩)
      dsimp only [Pt.U, Pt.locs, Pt.cells, Pt.slots] at X280 l280 y280 z280 st280 hQ280
      subst l280 y280 z280
      obtain ⟨rfl, Nq280, eh280⟩ := hQ280
      have N281 := Fr.app N271 Nq280
      have Fq287 : Fld Z T270.heap b245 "com/example/rosterhall/rosterhall/ResourceId" "high" "J" (.long q0) := ((Pf254_1.ext E260).keep K270 (ninS Ne261 nin0))
      have Fq288 : Fld Z T270.heap b245 "com/example/rosterhall/rosterhall/ResourceId" "low" "J" (.long q1) := ((Pf254_2.ext E260).keep K270 (ninS Ne261 nin0))
      have Fq289 : Exa Z T270.heap b245 "com/example/rosterhall/rosterhall/ResourceId" := ((Pf254_0.ext E260).keep K270)
      obtain ⟨cq286, kq286, q286a, q286b, q286c⟩ := isOf hZ eh280 Fq289
      obtain ⟨_, _, ⟨T286, L286, k286, n286⟩, -, X286, ⟨Lc286, hQ286, l286, y286, z286⟩, st286⟩ := X280.virtualBack hx (y := (⟨"com/example/rosterhall/rosterhall/ResourceId", "compareTo", "(Lcom/example/rosterhall/rosterhall/ResourceId;)I"⟩ : MethodName)) (z := (⟨"com/example/rosterhall/rosterhall/ResourceId", "compareTo", "(Lcom/example/rosterhall/rosterhall/ResourceId;)I"⟩ : MethodName)) hown (mvT hZ (hw _ (List.mem_of_getElem? (i := 26) rfl))) (mvT hZ (hw _ (List.mem_of_getElem? (i := 27) rfl))) (notFace_of_selects (args := #[]) (mvT hZ (hw _ (List.mem_of_getElem? (i := 29) rfl)))) (mvT hZ (hw _ (List.mem_of_getElem? (i := 29) rfl))) (mvT hZ (hw _ (List.mem_of_getElem? (i := 28) rfl))) (by decide) (backOf (W := 0) (own_rmC l Z a0 hw [] b245 b260 q0 q1 q0 q1 T270.heap n0 Zs273 Fq287 Fq288 Pf270_1 Pf270_2) hZ (hw _ (List.mem_of_getElem? (i := 30) rfl)) (hw _ (List.mem_of_getElem? (i := 2) rfl)) (by decide) (by decide)) q286a q286c (g := (mkF m 69 #[.val (.long q0), .second, .val (.long q1), .second, .val (.long q2), .second, .val (.long q3), .second, .val (.int p4), .val (.long q0), .second, .val (.long q1), .second, .val (.ref b245), .val (.ref b260), .val (.int (own_ref_f q0 q1 q0 q1)), .unset, .unset] [(.ref b260), (.ref b245)])) rfl (by rw [hml]; rfl) (Steps.refl _) (argsL := [(.ref b260)]) (rest := []) (lenOf own_pd4 rfl) rfl (by show 2 * 0 + _ ≤ _; exact Nat.le_of_eq rfl) (hb hby at_69) (fun _ _ => ⟨rfl, eh280, (by decide : 2 + 0 ≤ _), (by decide : 4 + 0 ≤ _)⟩)
      dsimp only [Pt.U, Pt.locs, Pt.cells, Pt.slots] at X286 l286 y286 z286 st286 hQ286
      subst l286 y286 z286
      obtain ⟨rfl, Nq286, eh286⟩ := hQ286
      have N290 := Fr.app N281 Nq286
      obtain ⟨_, _, ⟨T292, L292, k292, n292⟩, -, X292, ⟨Lc292, hQ292, l292, y292, z292⟩, st292⟩ := Jvm.LawKit.callS X286 hx (y := (⟨"com/example/rosterhall/rosterhall/ResourceIdCompareToPinLaw", "sign", "(I)I"⟩ : MethodName)) hown (mvT hZ (hw _ (List.mem_of_getElem? (i := 39) rfl))) (mvT hZ (hw _ (List.mem_of_getElem? (i := 40) rfl))) (mvT hZ (hw _ (List.mem_of_getElem? (i := 20) rfl))) (mvT hZ (hw _ (List.mem_of_getElem? (i := 41) rfl))) (by decide) (backOf (W := 0) (own_sign l Z a0 hw [] (own_rmC_f q0 q1 q0 q1) T270.heap n0 Zs273 ) hZ (hw _ (List.mem_of_getElem? (i := 41) rfl)) (hw _ (List.mem_of_getElem? (i := 20) rfl)) (by decide) (by decide)) (g := (mkF m 72 #[.val (.long q0), .second, .val (.long q1), .second, .val (.long q2), .second, .val (.long q3), .second, .val (.int p4), .val (.long q0), .second, .val (.long q1), .second, .val (.ref b245), .val (.ref b260), .val (.int (own_ref_f q0 q1 q0 q1)), .unset, .unset] [(.int (own_rmC_f q0 q1 q0 q1))])) rfl (by rw [hml]; rfl) (argsL := [(.int (own_rmC_f q0 q1 q0 q1))]) (rest := []) (lenOf own_pd5 rfl) rfl (by show 2 * 0 + _ ≤ _; exact Nat.le_of_eq rfl) (hb hby at_72) (fun _ _ => ⟨rfl, eh286, (by decide : 2 + 0 ≤ _), (by decide : 4 + 0 ≤ _)⟩)
      dsimp only [Pt.U, Pt.locs, Pt.cells, Pt.slots] at X292 l292 y292 z292 st292 hQ292
      subst l292 y292 z292
      obtain ⟨rfl, Nq292, eh292⟩ := hQ292
      have N293 := Fr.app N290 Nq292
      obtain ⟨cq298, kq298, q298a, q298b, q298c⟩ := isOf hZ eh292 Pf270_0
      obtain ⟨_, _, ⟨T298, L298, k298, n298⟩, -, X298, ⟨Lc298, hQ298, l298, y298, z298⟩, st298⟩ := X292.virtualBack hx (y := (⟨"com/example/rosterhall/rosterhall/ResourceId", "compareTo", "(Lcom/example/rosterhall/rosterhall/ResourceId;)I"⟩ : MethodName)) (z := (⟨"com/example/rosterhall/rosterhall/ResourceId", "compareTo", "(Lcom/example/rosterhall/rosterhall/ResourceId;)I"⟩ : MethodName)) hown (mvT hZ (hw _ (List.mem_of_getElem? (i := 26) rfl))) (mvT hZ (hw _ (List.mem_of_getElem? (i := 27) rfl))) (notFace_of_selects (args := #[]) (mvT hZ (hw _ (List.mem_of_getElem? (i := 29) rfl)))) (mvT hZ (hw _ (List.mem_of_getElem? (i := 29) rfl))) (mvT hZ (hw _ (List.mem_of_getElem? (i := 28) rfl))) (by decide) (backOf (W := 0) (own_rmC l Z a0 hw [] b260 b245 q0 q1 q0 q1 T270.heap n0 Zs273 Pf270_1 Pf270_2 Fq287 Fq288) hZ (hw _ (List.mem_of_getElem? (i := 30) rfl)) (hw _ (List.mem_of_getElem? (i := 2) rfl)) (by decide) (by decide)) q298a q298c (g := (mkF m 81 #[.val (.long q0), .second, .val (.long q1), .second, .val (.long q2), .second, .val (.long q3), .second, .val (.int p4), .val (.long q0), .second, .val (.long q1), .second, .val (.ref b245), .val (.ref b260), .val (.int (own_ref_f q0 q1 q0 q1)), .val (.int (own_sign_f (own_rmC_f q0 q1 q0 q1))), .unset] [(.ref b245), (.ref b260)])) rfl (by rw [hml]; rfl) (Steps.refl _) (argsL := [(.ref b245)]) (rest := []) (lenOf own_pd4 rfl) rfl (by show 2 * 0 + _ ≤ _; exact Nat.le_of_eq rfl) (hb hby at_81) (fun _ _ => ⟨rfl, eh292, (by decide : 2 + 0 ≤ _), (by decide : 4 + 0 ≤ _)⟩)
      dsimp only [Pt.U, Pt.locs, Pt.cells, Pt.slots] at X298 l298 y298 z298 st298 hQ298
      subst l298 y298 z298
      obtain ⟨rfl, Nq298, eh298⟩ := hQ298
      have N299 := Fr.app N293 Nq298
      obtain ⟨_, _, ⟨T301, L301, k301, n301⟩, -, X301, ⟨Lc301, hQ301, l301, y301, z301⟩, st301⟩ := Jvm.LawKit.callS X298 hx (y := (⟨"com/example/rosterhall/rosterhall/ResourceIdCompareToPinLaw", "sign", "(I)I"⟩ : MethodName)) hown (mvT hZ (hw _ (List.mem_of_getElem? (i := 39) rfl))) (mvT hZ (hw _ (List.mem_of_getElem? (i := 40) rfl))) (mvT hZ (hw _ (List.mem_of_getElem? (i := 20) rfl))) (mvT hZ (hw _ (List.mem_of_getElem? (i := 41) rfl))) (by decide) (backOf (W := 0) (own_sign l Z a0 hw [] (own_rmC_f q0 q1 q0 q1) T270.heap n0 Zs273 ) hZ (hw _ (List.mem_of_getElem? (i := 41) rfl)) (hw _ (List.mem_of_getElem? (i := 20) rfl)) (by decide) (by decide)) (g := (mkF m 84 #[.val (.long q0), .second, .val (.long q1), .second, .val (.long q2), .second, .val (.long q3), .second, .val (.int p4), .val (.long q0), .second, .val (.long q1), .second, .val (.ref b245), .val (.ref b260), .val (.int (own_ref_f q0 q1 q0 q1)), .val (.int (own_sign_f (own_rmC_f q0 q1 q0 q1))), .unset] [(.int (own_rmC_f q0 q1 q0 q1))])) rfl (by rw [hml]; rfl) (argsL := [(.int (own_rmC_f q0 q1 q0 q1))]) (rest := []) (lenOf own_pd5 rfl) rfl (by show 2 * 0 + _ ≤ _; exact Nat.le_of_eq rfl) (hb hby at_84) (fun _ _ => ⟨rfl, eh298, (by decide : 2 + 0 ≤ _), (by decide : 4 + 0 ≤ _)⟩)
      dsimp only [Pt.U, Pt.locs, Pt.cells, Pt.slots] at X301 l301 y301 z301 st301 hQ301
      subst l301 y301 z301
      obtain ⟨rfl, Nq301, eh301⟩ := hQ301
      have N302 := Fr.app N299 Nq301
      obtain ⟨fs, hr, hrun, hended, hW, hsame⟩ := X301.leave (v := some (.int (1 : Int32))) (fun h => by rw [Bd.returns] at h; cases h) (hlocks := BodyLoose.notSynchronized Bd)
      refine ⟨_, _, pre167 _ ?_, hrun, hended, _, _, rfl, ?_, ⟨_, rfl⟩, hW, hsame.mono (by decide) (by decide)⟩
      · show Steps p.tables e below (s₁.setTop (mkF m 19 #[.val (.long q0), .second, .val (.long q1), .second, .val (.long q2), .second, .val (.long q3), .second, .val (.int p4), .val (.long q0), .second, .unset, .unset, .unset, .unset, .unset, .unset, .unset] [(.int (p4 &&& (2 : Int32)))])) _
        refine XS.ifNo X0.here hx rfl (hb hby at_19) rfl ((if0 _ _).trans (feq hc19_168).1) ?_
        show Steps p.tables e below (s₁.setTop (mkF m 22 #[.val (.long q0), .second, .val (.long q1), .second, .val (.long q2), .second, .val (.long q3), .second, .val (.int p4), .val (.long q0), .second, .unset, .unset, .unset, .unset, .unset, .unset, .unset] [])) _
        refine XS.lloadN X0.here hx rfl (hb hby at_22) rfl ?_
        show Steps p.tables e below (s₁.setTop (mkF m 23 #[.val (.long q0), .second, .val (.long q1), .second, .val (.long q2), .second, .val (.long q3), .second, .val (.int p4), .val (.long q0), .second, .unset, .unset, .unset, .unset, .unset, .unset, .unset] [(.long q1)])) _
        refine XS.goto X0.here hx rfl (pc0 := 23) (pc' := 28) rfl (hb hby at_23) (by decide) (by decide) ?_
        show Steps p.tables e below (s₁.setTop (mkF m 28 #[.val (.long q0), .second, .val (.long q1), .second, .val (.long q2), .second, .val (.long q3), .second, .val (.int p4), .val (.long q0), .second, .unset, .unset, .unset, .unset, .unset, .unset, .unset] [(.long q1)])) _
        refine XS.lstore X0.here hx rfl (hb hby at_28) rfl (l' := #[.val (.long q0), .second, .val (.long q1), .second, .val (.long q2), .second, .val (.long q3), .second, .val (.int p4), .val (.long q0), .second, .val (.long q1), .second, .unset, .unset, .unset, .unset, .unset]) rfl ?_
        show Steps p.tables e below (s₁.setTop (mkF m 30 #[.val (.long q0), .second, .val (.long q1), .second, .val (.long q2), .second, .val (.long q3), .second, .val (.int p4), .val (.long q0), .second, .val (.long q1), .second, .unset, .unset, .unset, .unset, .unset] [])) _
        refine st245 _ ?_
        show Steps p.tables e below (T245.setTop (mkF m 33 #[.val (.long q0), .second, .val (.long q1), .second, .val (.long q2), .second, .val (.long q3), .second, .val (.int p4), .val (.long q0), .second, .val (.long q1), .second, .unset, .unset, .unset, .unset, .unset] [(.ref b245)])) _
        refine XS.dup X245.here hx rfl (hb hby at_33) rfl rfl ?_
        show Steps p.tables e below (T245.setTop (mkF m 34 #[.val (.long q0), .second, .val (.long q1), .second, .val (.long q2), .second, .val (.long q3), .second, .val (.int p4), .val (.long q0), .second, .val (.long q1), .second, .unset, .unset, .unset, .unset, .unset] [(.ref b245), (.ref b245)])) _
        refine XS.lloadN X245.here hx rfl (hb hby at_34) rfl ?_
        show Steps p.tables e below (T245.setTop (mkF m 35 #[.val (.long q0), .second, .val (.long q1), .second, .val (.long q2), .second, .val (.long q3), .second, .val (.int p4), .val (.long q0), .second, .val (.long q1), .second, .unset, .unset, .unset, .unset, .unset] [(.long q0), (.ref b245), (.ref b245)])) _
        refine XS.lloadN X245.here hx rfl (hb hby at_35) rfl ?_
        show Steps p.tables e below (T245.setTop (mkF m 36 #[.val (.long q0), .second, .val (.long q1), .second, .val (.long q2), .second, .val (.long q3), .second, .val (.int p4), .val (.long q0), .second, .val (.long q1), .second, .unset, .unset, .unset, .unset, .unset] [(.long q1), (.long q0), (.ref b245), (.ref b245)])) _
        refine st254.trans ?_
        show Steps p.tables e below (T254.setTop (mkF m 39 #[.val (.long q0), .second, .val (.long q1), .second, .val (.long q2), .second, .val (.long q3), .second, .val (.int p4), .val (.long q0), .second, .val (.long q1), .second, .unset, .unset, .unset, .unset, .unset] [(.ref b245)])) _
        refine XS.astore X254.here hx rfl (hb hby at_39) rfl rfl (l' := #[.val (.long q0), .second, .val (.long q1), .second, .val (.long q2), .second, .val (.long q3), .second, .val (.int p4), .val (.long q0), .second, .val (.long q1), .second, .val (.ref b245), .unset, .unset, .unset, .unset]) rfl ?_
        show Steps p.tables e below (T254.setTop (mkF m 41 #[.val (.long q0), .second, .val (.long q1), .second, .val (.long q2), .second, .val (.long q3), .second, .val (.int p4), .val (.long q0), .second, .val (.long q1), .second, .val (.ref b245), .unset, .unset, .unset, .unset] [])) _
        refine st260 _ ?_
        show Steps p.tables e below (T260.setTop (mkF m 44 #[.val (.long q0), .second, .val (.long q1), .second, .val (.long q2), .second, .val (.long q3), .second, .val (.int p4), .val (.long q0), .second, .val (.long q1), .second, .val (.ref b245), .unset, .unset, .unset, .unset] [(.ref b260)])) _
        refine XS.dup X260.here hx rfl (hb hby at_44) rfl rfl ?_
        show Steps p.tables e below (T260.setTop (mkF m 45 #[.val (.long q0), .second, .val (.long q1), .second, .val (.long q2), .second, .val (.long q3), .second, .val (.int p4), .val (.long q0), .second, .val (.long q1), .second, .val (.ref b245), .unset, .unset, .unset, .unset] [(.ref b260), (.ref b260)])) _
        refine XS.lload X260.here hx rfl (hb hby at_45) rfl ?_
        show Steps p.tables e below (T260.setTop (mkF m 47 #[.val (.long q0), .second, .val (.long q1), .second, .val (.long q2), .second, .val (.long q3), .second, .val (.int p4), .val (.long q0), .second, .val (.long q1), .second, .val (.ref b245), .unset, .unset, .unset, .unset] [(.long q0), (.ref b260), (.ref b260)])) _
        refine XS.lload X260.here hx rfl (hb hby at_47) rfl ?_
        show Steps p.tables e below (T260.setTop (mkF m 49 #[.val (.long q0), .second, .val (.long q1), .second, .val (.long q2), .second, .val (.long q3), .second, .val (.int p4), .val (.long q0), .second, .val (.long q1), .second, .val (.ref b245), .unset, .unset, .unset, .unset] [(.long q1), (.long q0), (.ref b260), (.ref b260)])) _
        refine st270.trans ?_
        show Steps p.tables e below (T270.setTop (mkF m 52 #[.val (.long q0), .second, .val (.long q1), .second, .val (.long q2), .second, .val (.long q3), .second, .val (.int p4), .val (.long q0), .second, .val (.long q1), .second, .val (.ref b245), .unset, .unset, .unset, .unset] [(.ref b260)])) _
        refine XS.astore X270.here hx rfl (hb hby at_52) rfl rfl (l' := #[.val (.long q0), .second, .val (.long q1), .second, .val (.long q2), .second, .val (.long q3), .second, .val (.int p4), .val (.long q0), .second, .val (.long q1), .second, .val (.ref b245), .val (.ref b260), .unset, .unset, .unset]) rfl ?_
        show Steps p.tables e below (T270.setTop (mkF m 54 #[.val (.long q0), .second, .val (.long q1), .second, .val (.long q2), .second, .val (.long q3), .second, .val (.int p4), .val (.long q0), .second, .val (.long q1), .second, .val (.ref b245), .val (.ref b260), .unset, .unset, .unset] [])) _
        refine XS.lloadN X270.here hx rfl (hb hby at_54) rfl ?_
        show Steps p.tables e below (T270.setTop (mkF m 55 #[.val (.long q0), .second, .val (.long q1), .second, .val (.long q2), .second, .val (.long q3), .second, .val (.int p4), .val (.long q0), .second, .val (.long q1), .second, .val (.ref b245), .val (.ref b260), .unset, .unset, .unset] [(.long q0)])) _
        refine XS.lloadN X270.here hx rfl (hb hby at_55) rfl ?_
        show Steps p.tables e below (T270.setTop (mkF m 56 #[.val (.long q0), .second, .val (.long q1), .second, .val (.long q2), .second, .val (.long q3), .second, .val (.int p4), .val (.long q0), .second, .val (.long q1), .second, .val (.ref b245), .val (.ref b260), .unset, .unset, .unset] [(.long q1), (.long q0)])) _
        refine XS.lload X270.here hx rfl (hb hby at_56) rfl ?_
        show Steps p.tables e below (T270.setTop (mkF m 58 #[.val (.long q0), .second, .val (.long q1), .second, .val (.long q2), .second, .val (.long q3), .second, .val (.int p4), .val (.long q0), .second, .val (.long q1), .second, .val (.ref b245), .val (.ref b260), .unset, .unset, .unset] [(.long q0), (.long q1), (.long q0)])) _
        refine XS.lload X270.here hx rfl (hb hby at_58) rfl ?_
        show Steps p.tables e below (T270.setTop (mkF m 60 #[.val (.long q0), .second, .val (.long q1), .second, .val (.long q2), .second, .val (.long q3), .second, .val (.int p4), .val (.long q0), .second, .val (.long q1), .second, .val (.ref b245), .val (.ref b260), .unset, .unset, .unset] [(.long q1), (.long q0), (.long q1), (.long q0)])) _
        refine st280 _ ?_
        show Steps p.tables e below (T280.setTop (mkF m 63 #[.val (.long q0), .second, .val (.long q1), .second, .val (.long q2), .second, .val (.long q3), .second, .val (.int p4), .val (.long q0), .second, .val (.long q1), .second, .val (.ref b245), .val (.ref b260), .unset, .unset, .unset] [(.int (own_ref_f q0 q1 q0 q1))])) _
        refine XS.istore X280.here hx rfl (hb hby at_63) rfl (l' := #[.val (.long q0), .second, .val (.long q1), .second, .val (.long q2), .second, .val (.long q3), .second, .val (.int p4), .val (.long q0), .second, .val (.long q1), .second, .val (.ref b245), .val (.ref b260), .val (.int (own_ref_f q0 q1 q0 q1)), .unset, .unset]) rfl ?_
        show Steps p.tables e below (T280.setTop (mkF m 65 #[.val (.long q0), .second, .val (.long q1), .second, .val (.long q2), .second, .val (.long q3), .second, .val (.int p4), .val (.long q0), .second, .val (.long q1), .second, .val (.ref b245), .val (.ref b260), .val (.int (own_ref_f q0 q1 q0 q1)), .unset, .unset] [])) _
        refine XS.aload X280.here hx rfl (hb hby at_65) rfl rfl ?_
        show Steps p.tables e below (T280.setTop (mkF m 67 #[.val (.long q0), .second, .val (.long q1), .second, .val (.long q2), .second, .val (.long q3), .second, .val (.int p4), .val (.long q0), .second, .val (.long q1), .second, .val (.ref b245), .val (.ref b260), .val (.int (own_ref_f q0 q1 q0 q1)), .unset, .unset] [(.ref b245)])) _
        refine XS.aload X280.here hx rfl (hb hby at_67) rfl rfl ?_
        show Steps p.tables e below (T280.setTop (mkF m 69 #[.val (.long q0), .second, .val (.long q1), .second, .val (.long q2), .second, .val (.long q3), .second, .val (.int p4), .val (.long q0), .second, .val (.long q1), .second, .val (.ref b245), .val (.ref b260), .val (.int (own_ref_f q0 q1 q0 q1)), .unset, .unset] [(.ref b260), (.ref b245)])) _
        refine st286.trans ?_
        show Steps p.tables e below (T286.setTop (mkF m 72 #[.val (.long q0), .second, .val (.long q1), .second, .val (.long q2), .second, .val (.long q3), .second, .val (.int p4), .val (.long q0), .second, .val (.long q1), .second, .val (.ref b245), .val (.ref b260), .val (.int (own_ref_f q0 q1 q0 q1)), .unset, .unset] [(.int (own_rmC_f q0 q1 q0 q1))])) _
        refine st292 _ ?_
        show Steps p.tables e below (T292.setTop (mkF m 75 #[.val (.long q0), .second, .val (.long q1), .second, .val (.long q2), .second, .val (.long q3), .second, .val (.int p4), .val (.long q0), .second, .val (.long q1), .second, .val (.ref b245), .val (.ref b260), .val (.int (own_ref_f q0 q1 q0 q1)), .unset, .unset] [(.int (own_sign_f (own_rmC_f q0 q1 q0 q1)))])) _
        refine XS.istore X292.here hx rfl (hb hby at_75) rfl (l' := #[.val (.long q0), .second, .val (.long q1), .second, .val (.long q2), .second, .val (.long q3), .second, .val (.int p4), .val (.long q0), .second, .val (.long q1), .second, .val (.ref b245), .val (.ref b260), .val (.int (own_ref_f q0 q1 q0 q1)), .val (.int (own_sign_f (own_rmC_f q0 q1 q0 q1))), .unset]) rfl ?_
        show Steps p.tables e below (T292.setTop (mkF m 77 #[.val (.long q0), .second, .val (.long q1), .second, .val (.long q2), .second, .val (.long q3), .second, .val (.int p4), .val (.long q0), .second, .val (.long q1), .second, .val (.ref b245), .val (.ref b260), .val (.int (own_ref_f q0 q1 q0 q1)), .val (.int (own_sign_f (own_rmC_f q0 q1 q0 q1))), .unset] [])) _
        refine XS.aload X292.here hx rfl (hb hby at_77) rfl rfl ?_
        show Steps p.tables e below (T292.setTop (mkF m 79 #[.val (.long q0), .second, .val (.long q1), .second, .val (.long q2), .second, .val (.long q3), .second, .val (.int p4), .val (.long q0), .second, .val (.long q1), .second, .val (.ref b245), .val (.ref b260), .val (.int (own_ref_f q0 q1 q0 q1)), .val (.int (own_sign_f (own_rmC_f q0 q1 q0 q1))), .unset] [(.ref b260)])) _
        refine XS.aload X292.here hx rfl (hb hby at_79) rfl rfl ?_
        show Steps p.tables e below (T292.setTop (mkF m 81 #[.val (.long q0), .second, .val (.long q1), .second, .val (.long q2), .second, .val (.long q3), .second, .val (.int p4), .val (.long q0), .second, .val (.long q1), .second, .val (.ref b245), .val (.ref b260), .val (.int (own_ref_f q0 q1 q0 q1)), .val (.int (own_sign_f (own_rmC_f q0 q1 q0 q1))), .unset] [(.ref b245), (.ref b260)])) _
        refine st298.trans ?_
        show Steps p.tables e below (T298.setTop (mkF m 84 #[.val (.long q0), .second, .val (.long q1), .second, .val (.long q2), .second, .val (.long q3), .second, .val (.int p4), .val (.long q0), .second, .val (.long q1), .second, .val (.ref b245), .val (.ref b260), .val (.int (own_ref_f q0 q1 q0 q1)), .val (.int (own_sign_f (own_rmC_f q0 q1 q0 q1))), .unset] [(.int (own_rmC_f q0 q1 q0 q1))])) _
        refine st301 _ ?_
        show Steps p.tables e below (T301.setTop (mkF m 87 #[.val (.long q0), .second, .val (.long q1), .second, .val (.long q2), .second, .val (.long q3), .second, .val (.int p4), .val (.long q0), .second, .val (.long q1), .second, .val (.ref b245), .val (.ref b260), .val (.int (own_ref_f q0 q1 q0 q1)), .val (.int (own_sign_f (own_rmC_f q0 q1 q0 q1))), .unset] [(.int (own_sign_f (own_rmC_f q0 q1 q0 q1)))])) _
        refine XS.istore X301.here hx rfl (hb hby at_87) rfl (l' := #[.val (.long q0), .second, .val (.long q1), .second, .val (.long q2), .second, .val (.long q3), .second, .val (.int p4), .val (.long q0), .second, .val (.long q1), .second, .val (.ref b245), .val (.ref b260), .val (.int (own_ref_f q0 q1 q0 q1)), .val (.int (own_sign_f (own_rmC_f q0 q1 q0 q1))), .val (.int (own_sign_f (own_rmC_f q0 q1 q0 q1)))]) rfl ?_
        show Steps p.tables e below (T301.setTop (mkF m 89 #[.val (.long q0), .second, .val (.long q1), .second, .val (.long q2), .second, .val (.long q3), .second, .val (.int p4), .val (.long q0), .second, .val (.long q1), .second, .val (.ref b245), .val (.ref b260), .val (.int (own_ref_f q0 q1 q0 q1)), .val (.int (own_sign_f (own_rmC_f q0 q1 q0 q1))), .val (.int (own_sign_f (own_rmC_f q0 q1 q0 q1)))] [])) _
        refine XS.iload X301.here hx rfl (hb hby at_89) rfl ?_
        show Steps p.tables e below (T301.setTop (mkF m 91 #[.val (.long q0), .second, .val (.long q1), .second, .val (.long q2), .second, .val (.long q3), .second, .val (.int p4), .val (.long q0), .second, .val (.long q1), .second, .val (.ref b245), .val (.ref b260), .val (.int (own_ref_f q0 q1 q0 q1)), .val (.int (own_sign_f (own_rmC_f q0 q1 q0 q1))), .val (.int (own_sign_f (own_rmC_f q0 q1 q0 q1)))] [(.int (own_sign_f (own_rmC_f q0 q1 q0 q1)))])) _
        refine XS.iload X301.here hx rfl (hb hby at_91) rfl ?_
        show Steps p.tables e below (T301.setTop (mkF m 93 #[.val (.long q0), .second, .val (.long q1), .second, .val (.long q2), .second, .val (.long q3), .second, .val (.int p4), .val (.long q0), .second, .val (.long q1), .second, .val (.ref b245), .val (.ref b260), .val (.int (own_ref_f q0 q1 q0 q1)), .val (.int (own_sign_f (own_rmC_f q0 q1 q0 q1))), .val (.int (own_sign_f (own_rmC_f q0 q1 q0 q1)))] [(.int (own_ref_f q0 q1 q0 q1)), (.int (own_sign_f (own_rmC_f q0 q1 q0 q1)))])) _
        refine XS.icmpNo X301.here hx rfl (hb hby at_93) rfl (teq (own_m1 _ _ _ _ : (own_sign_f (own_rmC_f q0 q1 q0 q1)) = (own_ref_f q0 q1 q0 q1))).2 ?_
        show Steps p.tables e below (T301.setTop (mkF m 96 #[.val (.long q0), .second, .val (.long q1), .second, .val (.long q2), .second, .val (.long q3), .second, .val (.int p4), .val (.long q0), .second, .val (.long q1), .second, .val (.ref b245), .val (.ref b260), .val (.int (own_ref_f q0 q1 q0 q1)), .val (.int (own_sign_f (own_rmC_f q0 q1 q0 q1))), .val (.int (own_sign_f (own_rmC_f q0 q1 q0 q1)))] [])) _
        refine XS.iload X301.here hx rfl (hb hby at_96) rfl ?_
        show Steps p.tables e below (T301.setTop (mkF m 98 #[.val (.long q0), .second, .val (.long q1), .second, .val (.long q2), .second, .val (.long q3), .second, .val (.int p4), .val (.long q0), .second, .val (.long q1), .second, .val (.ref b245), .val (.ref b260), .val (.int (own_ref_f q0 q1 q0 q1)), .val (.int (own_sign_f (own_rmC_f q0 q1 q0 q1))), .val (.int (own_sign_f (own_rmC_f q0 q1 q0 q1)))] [(.int (own_sign_f (own_rmC_f q0 q1 q0 q1)))])) _
        refine XS.iload X301.here hx rfl (hb hby at_98) rfl ?_
        show Steps p.tables e below (T301.setTop (mkF m 100 #[.val (.long q0), .second, .val (.long q1), .second, .val (.long q2), .second, .val (.long q3), .second, .val (.int p4), .val (.long q0), .second, .val (.long q1), .second, .val (.ref b245), .val (.ref b260), .val (.int (own_ref_f q0 q1 q0 q1)), .val (.int (own_sign_f (own_rmC_f q0 q1 q0 q1))), .val (.int (own_sign_f (own_rmC_f q0 q1 q0 q1)))] [(.int (own_ref_f q0 q1 q0 q1)), (.int (own_sign_f (own_rmC_f q0 q1 q0 q1)))])) _
        refine XS.ineg X301.here hx rfl (hb hby at_100) rfl ?_
        show Steps p.tables e below (T301.setTop (mkF m 101 #[.val (.long q0), .second, .val (.long q1), .second, .val (.long q2), .second, .val (.long q3), .second, .val (.int p4), .val (.long q0), .second, .val (.long q1), .second, .val (.ref b245), .val (.ref b260), .val (.int (own_ref_f q0 q1 q0 q1)), .val (.int (own_sign_f (own_rmC_f q0 q1 q0 q1))), .val (.int (own_sign_f (own_rmC_f q0 q1 q0 q1)))] [(.int (-(own_ref_f q0 q1 q0 q1))), (.int (own_sign_f (own_rmC_f q0 q1 q0 q1)))])) _
        refine XS.icmpNo X301.here hx rfl (hb hby at_101) rfl (teq (own_m2 _ _ _ _ : (own_sign_f (own_rmC_f q0 q1 q0 q1)) = (-(own_ref_f q0 q1 q0 q1)))).2 ?_
        show Steps p.tables e below (T301.setTop (mkF m 104 #[.val (.long q0), .second, .val (.long q1), .second, .val (.long q2), .second, .val (.long q3), .second, .val (.int p4), .val (.long q0), .second, .val (.long q1), .second, .val (.ref b245), .val (.ref b260), .val (.int (own_ref_f q0 q1 q0 q1)), .val (.int (own_sign_f (own_rmC_f q0 q1 q0 q1))), .val (.int (own_sign_f (own_rmC_f q0 q1 q0 q1)))] [])) _
        refine XS.iconst X301.here hx rfl (hb hby at_104) ?_
        show Steps p.tables e below (T301.setTop (mkF m 105 #[.val (.long q0), .second, .val (.long q1), .second, .val (.long q2), .second, .val (.long q3), .second, .val (.int p4), .val (.long q0), .second, .val (.long q1), .second, .val (.ref b245), .val (.ref b260), .val (.int (own_ref_f q0 q1 q0 q1)), .val (.int (own_sign_f (own_rmC_f q0 q1 q0 q1))), .val (.int (own_sign_f (own_rmC_f q0 q1 q0 q1)))] [(.int (1 : Int32))])) _
        refine XS.goto X301.here hx rfl (pc0 := 105) (pc' := 109) rfl (hb hby at_105) (by decide) (by decide) ?_
        show Steps p.tables e below (T301.setTop (mkF m 109 #[.val (.long q0), .second, .val (.long q1), .second, .val (.long q2), .second, .val (.long q3), .second, .val (.int p4), .val (.long q0), .second, .val (.long q1), .second, .val (.ref b245), .val (.ref b260), .val (.int (own_ref_f q0 q1 q0 q1)), .val (.int (own_sign_f (own_rmC_f q0 q1 q0 q1))), .val (.int (own_sign_f (own_rmC_f q0 q1 q0 q1)))] [(.int (1 : Int32))])) _
        exact retN X301 hx (t := .boolean) Bd.returns (by simp) (hb hby at_109) hr
      · show Qown_law Z q0 q1 q2 q3 p4 h0 n0 _ T301.heap _
        rw [eh301]
        exact ⟨rfl, N302⟩
set_option maxRecDepth 65536 in
set_option maxHeartbeats 40000000 in
theorem comes_1 {Post : Tables → Env → Array Value → State → Outcome → State → Prop} (hpost : ∀ tb e args s v u, (limb_1_1.after args s (.returned v) u = true ∧ limb_1_2.after args s (.returned v) u = true ∧ True) → FrameEnd s (.returned v) u (Jvm.fieldLocs frame_1_writes args s ++ Jvm.arrayLocs frame_1_arrays args s ++ Jvm.staticLocs frame_1_statics s) 16 128 → Post tb e args s (.returned v) u) :
    ArmFor flags0 classFile x code maxLocals ret World_1 tables_1 room_1 Calls_1 rest_1 Pre_1 Post := by
  intro l hfl _ _ p e ha hc hk s m args below hf hA hF happ hP
  obtain ⟨hcalls, hrest, hpre⟩ := hP
  obtain ⟨-, -, -, hnamed, -, -, -, hat⟩ := (Spec.applies_iff hf).mp happ
  obtain ⟨hg, hn⟩ := and_e (Cond.before_iff.mp (show (Jvm.Cond.and given_1 narrow_1).before args s = true from hpre))
  obtain ⟨gg1, gg2⟩ := and_e hg
  obtain ⟨gg3, gg4⟩ := and_e gg2
  obtain ⟨gg5, gg6⟩ := and_e gg4
  obtain ⟨gg7, gg8⟩ := and_e gg6
  obtain ⟨gg9, gg10⟩ := and_e gg8
  obtain ⟨w0, w1, w2, w3, w4, rfl⟩ : ∃ w0 w1 w2 w3 w4 : Value, args = #[w0, w1, w2, w3, w4] := by
    have hs : args.size = 5 := by simpa [Cond.value, given_1] using gg1
    obtain ⟨L⟩ := args
    match L, hs with
    | [w0, w1, w2, w3, w4], _ => exact ⟨w0, w1, w2, w3, w4, rfl⟩
  have hw := fun d (hd : d ∈ tables_1) => atoms_spec (ws := Jvm.Cond.code x code maxLocals ret :: tables_1) hat d (List.mem_cons_of_mem _ hd)
  obtain ⟨i0, ei0⟩ := isL_v gg3
  obtain rfl : w0 = (.long i0) := Option.some.inj ei0
  obtain ⟨i1, ei1⟩ := isL_v gg5
  obtain rfl : w1 = (.long i1) := Option.some.inj ei1
  obtain ⟨i2, ei2⟩ := isL_v gg7
  obtain rfl : w2 = (.long i2) := Option.some.inj ei2
  obtain ⟨i3, ei3⟩ := isL_v gg9
  obtain rfl : w3 = (.long i3) := Option.some.inj ei3
  obtain ⟨i4, ei4⟩ := is_v gg10
  obtain rfl : w4 = (.int i4) := Option.some.inj ei4
  obtain ⟨n, o, h1, h2, h3, _, L, rfl, ⟨rfl, N⟩, hq⟩ := own_law l s _ hw tables_1 i0 i1 i2 i3 i4 s.heap s.heap.size (Nat.le_refl _) p e ha hc hk s m _ below hf ((Spec.applies_iff_loose hf).mp happ).1 ⟨rfl, State.Warmed39.refl s, rfl⟩ trivial
  refine ⟨n, _, h1, h2, h3, hpost _ _ _ _ _ _ ⟨Cond.after_iff.mpr rfl, Cond.after_iff.mpr (eq_i res_at (Term.int_eval (1)) rfl), trivial⟩ ⟨hq.1, hq.2.1, (hq.2.2.sift fun y hy => Or.inr (N y hy)).mono (by decide) (by decide)⟩⟩
theorem main_1_1 : Claimed_1_1 := comes_1 fun _ _ _ _ _ _ h hF => ⟨h.1, hF⟩
theorem main_1_2 : Claimed_1_2 := comes_1 fun _ _ _ _ _ _ h hF => ⟨h.2.1, hF⟩
end Jvm.Pilot.@@N@@
namespace Jvm.Pilot.@@N@@
open Jvm Jvm.ClassFile Sem Op Lib Jvm.Free Jvm.Stand Jvm.Pilot.@@N@@.Jvm.D
/-! MADE BY PROGRAM (witnessworld.py) out of the Statement's table words and the real class files: 15 classes; the members and pool entries that the words name. The judged class is class 1, her method 1. -/
namespace start1
open Jvm.ClassFile
def u (s : String) : CpInfo := .utf8 (stringToUtf16 s)
/-- a pool by its gaps: so many unusable entries, then the entry; so many at the end -/
def gap : Nat → List CpInfo → List CpInfo
  | 0, r => r
  | n + 1, r => .unusable :: gap n r
def poolList (es : List (Nat × CpInfo)) (last : Nat) : List CpInfo := es.foldr (fun e r => gap e.1 (e.2 :: r)) (gap last [])
def pool (es : List (Nat × CpInfo)) (last : Nat) : Array CpInfo := ⟨poolList es last⟩
def fileOf (pool : Array CpInfo) (this : Nat) (attrs : Array Attribute := #[]) (ms : Array MethodInfo := #[]) (fl : Nat := 33) (sup : Nat := 0) (ifs : Array Nat := #[]) (fds : Array FieldInfo := #[]) : ClassFile where
  minorVersion := 0
  majorVersion := 65
  constantPool := pool
  accessFlags := fl
  thisClass := this
  superClass := sup
  interfaces := ifs
  fields := fds
  methods := ms
  attributes := attrs
def plain (name : String) (sup : Option ClassId) : Class where
  name := name
  kind := .ordinary
  loader := none
  accessFlags := 33
  super := sup
  interfaces := #[]
  cf := none
  fields := #[]
  methods := #[]
  instanceTypes := #[]
  staticTypes := #[]
  resolved := #[]
  callSites := []
  init := .initialized
  statics := none
  mirror := none

def pool0 : Array CpInfo := pool [(5, u "<init>"), (0, u "()V"), (1, .class_ 10), (1, u "java/lang/Object")] 113

def k0c0 : Code := { maxStack := 0, maxLocals := 1, code := object_method_1_code, exceptionTable := #[], attributes := #[] }
def k0m0 : Method := { name := "<init>", desc := "()V", sig := { parameters := [], returnType := none }, accessFlags := 1, code := some k0c0 }
/-- java/lang/Object -/
def k0 : Class := { plain "java/lang/Object" none with
  accessFlags := 33
  interfaces := #[]
  cf := some (fileOf pool0 8 #[] #[{ accessFlags := 1, nameIndex := 5, descriptorIndex := 6, attributes := #[] }] 33 0 #[] #[])
  fields := #[]
  methods := #[k0m0]
  instanceTypes := #[]
  staticTypes := #[]
  resolved := Array.replicate 124 none
  statics := none }

def pool1 : Array CpInfo := pool [(2, .class_ 4), (1, u "java/lang/Object"), (0, u "<init>"), (0, u "()V"), (0, .class_ 8), (0, u "com/example/rosterhall/rosterhall/ResourceId"), (0, .methodref 7 10), (0, .nameAndType 5 11), (0, u "(JJ)V"), (0, .methodref 13 14), (0, .class_ 15), (0, .nameAndType 16 17), (0, u "com/example/rosterhall/rosterhall/ResourceIdCompareToPinLaw"), (0, u "ref"), (0, u "(JJJJ)I"), (0, .methodref 7 19), (0, .nameAndType 20 21), (0, u "compareTo"), (0, u "(Lcom/example/rosterhall/rosterhall/ResourceId;)I"), (0, .methodref 13 23), (0, .nameAndType 24 25), (0, u "sign"), (0, u "(I)I"), (0, .long 9223372036854775808), (1, .methodref 13 29), (0, .nameAndType 30 31), (0, u "ucmp"), (0, u "(JJ)I"), (2, u "law"), (0, u "(JJJJI)Z")] 3

def k1m0 : Method := { name := "<init>", desc := "()V", sig := { parameters := [], returnType := none }, accessFlags := 1, code := none }
def k1c1 : Code := { maxStack := 8, maxLocals := 18, code := code, exceptionTable := #[], attributes := #[] }
def k1m1 : Method := { name := "law", desc := "(JJJJI)Z", sig := { parameters := [.long, .long, .long, .long, .int], returnType := some .boolean }, accessFlags := 9, code := some k1c1 }
def k1c2 : Code := { maxStack := 4, maxLocals := 8, code := method_3_code, exceptionTable := #[], attributes := #[] }
def k1m2 : Method := { name := "ucmp", desc := "(JJ)I", sig := { parameters := [.long, .long], returnType := some .int }, accessFlags := 10, code := some k1c2 }
def k1c3 : Code := { maxStack := 4, maxLocals := 9, code := method_4_code, exceptionTable := #[], attributes := #[] }
def k1m3 : Method := { name := "ref", desc := "(JJJJ)I", sig := { parameters := [.long, .long, .long, .long], returnType := some .int }, accessFlags := 10, code := some k1c3 }
def k1c4 : Code := { maxStack := 1, maxLocals := 1, code := method_5_code, exceptionTable := #[], attributes := #[] }
def k1m4 : Method := { name := "sign", desc := "(I)I", sig := { parameters := [.int], returnType := some .int }, accessFlags := 10, code := some k1c4 }
/-- com/example/rosterhall/rosterhall/ResourceIdCompareToPinLaw -/
def k1 : Class := { plain "com/example/rosterhall/rosterhall/ResourceIdCompareToPinLaw" (some 0) with
  accessFlags := 49
  interfaces := #[]
  cf := some (fileOf pool1 13 #[] #[{ accessFlags := 1, nameIndex := 5, descriptorIndex := 6, attributes := #[] }, { accessFlags := 9, nameIndex := 34, descriptorIndex := 35, attributes := #[] }, { accessFlags := 10, nameIndex := 30, descriptorIndex := 31, attributes := #[] }, { accessFlags := 10, nameIndex := 16, descriptorIndex := 17, attributes := #[] }, { accessFlags := 10, nameIndex := 24, descriptorIndex := 25, attributes := #[] }] 49 2 #[] #[])
  fields := #[]
  methods := #[k1m0, k1m1, k1m2, k1m3, k1m4]
  instanceTypes := #[]
  staticTypes := #[]
  resolved := Array.replicate 39 none
  statics := none }

def pool2 : Array CpInfo := pool [(1, .methodref 2 3), (0, .class_ 4), (0, .nameAndType 5 6), (0, u "java/lang/Object"), (0, u "<init>"), (0, u "()V"), (0, .class_ 8), (0, u "java/lang/Record")] 13

def k2c0 : Code := { maxStack := 1, maxLocals := 1, code := jdk_30_method_1_code, exceptionTable := #[], attributes := #[] }
def k2m0 : Method := { name := "<init>", desc := "()V", sig := { parameters := [], returnType := none }, accessFlags := 4, code := some k2c0 }
/-- java/lang/Record -/
def k2 : Class := { plain "java/lang/Record" (some 0) with
  accessFlags := 1057
  interfaces := #[]
  cf := some (fileOf pool2 7 #[] #[{ accessFlags := 4, nameIndex := 5, descriptorIndex := 6, attributes := #[] }] 1057 2 #[] #[])
  fields := #[]
  methods := #[k2m0]
  instanceTypes := #[]
  staticTypes := #[]
  resolved := Array.replicate 22 none
  statics := none }

def pool3 : Array CpInfo := pool [(1, .class_ 2), (0, u "java/lang/Comparable"), (0, .class_ 4), (0, u "java/lang/Object")] 7

/-- java/lang/Comparable -/
def k3 : Class := { plain "java/lang/Comparable" (some 0) with
  accessFlags := 1537
  interfaces := #[]
  cf := some (fileOf pool3 1 #[] #[] 1537 3 #[] #[])
  fields := #[]
  methods := #[]
  instanceTypes := #[]
  staticTypes := #[]
  resolved := Array.replicate 12 none
  statics := none }

def pool4 : Array CpInfo := pool [(1, .methodref 2 3), (0, .class_ 4), (0, .nameAndType 5 6), (0, u "java/lang/Record"), (0, u "<init>"), (0, u "()V"), (0, .fieldref 8 9), (0, .class_ 10), (0, .nameAndType 11 12), (0, u "com/example/rosterhall/rosterhall/ResourceId"), (0, u "high"), (0, u "J"), (0, .fieldref 8 14), (0, .nameAndType 15 12), (0, u "low"), (15, u "(JJ)V"), (36, .methodref 69 70), (0, .class_ 71), (0, .nameAndType 72 73), (0, u "java/lang/Long"), (0, u "compareUnsigned"), (0, u "(JJ)I"), (7, u "compareTo"), (0, u "(Lcom/example/rosterhall/rosterhall/ResourceId;)I"), (18, u "FIRST"), (0, u "Lcom/example/rosterhall/rosterhall/ResourceId;"), (4, u "LAST"), (0, .class_ 109), (0, u "java/lang/Comparable"), (0, u "LENGTH"), (0, u "I")] 60

def k4c0 : Code := { maxStack := 3, maxLocals := 5, code := prog_20_method_1_code, exceptionTable := #[], attributes := #[] }
def k4m0 : Method := { name := "<init>", desc := "(JJ)V", sig := { parameters := [.long, .long], returnType := none }, accessFlags := 0, code := some k4c0 }
def k4c1 : Code := { maxStack := 4, maxLocals := 3, code := prog_20_method_5_code, exceptionTable := #[], attributes := #[] }
def k4m1 : Method := { name := "compareTo", desc := "(Lcom/example/rosterhall/rosterhall/ResourceId;)I", sig := { parameters := [(.object "com/example/rosterhall/rosterhall/ResourceId")], returnType := some .int }, accessFlags := 1, code := some k4c1 }
/-- com/example/rosterhall/rosterhall/ResourceId -/
def k4 : Class := { plain "com/example/rosterhall/rosterhall/ResourceId" (some 2) with
  accessFlags := 48
  interfaces := #[3]
  cf := some (fileOf pool4 8 #[] #[{ accessFlags := 0, nameIndex := 5, descriptorIndex := 31, attributes := #[] }, { accessFlags := 1, nameIndex := 81, descriptorIndex := 82, attributes := #[] }] 48 2 #[108] #[{ accessFlags := 18, nameIndex := 11, descriptorIndex := 12, attributes := #[] }, { accessFlags := 18, nameIndex := 15, descriptorIndex := 12, attributes := #[] }, { accessFlags := 24, nameIndex := 101, descriptorIndex := 102, attributes := #[] }, { accessFlags := 24, nameIndex := 107, descriptorIndex := 102, attributes := #[] }, { accessFlags := 26, nameIndex := 110, descriptorIndex := 111, attributes := #[] }])
  fields := #[{ name := "high", type := .long, accessFlags := 18, slot := 0, constantValue := 0 }, { name := "low", type := .long, accessFlags := 18, slot := 1, constantValue := 0 }, { name := "FIRST", type := (.object "com/example/rosterhall/rosterhall/ResourceId"), accessFlags := 24, slot := 0, constantValue := 0 }, { name := "LAST", type := (.object "com/example/rosterhall/rosterhall/ResourceId"), accessFlags := 24, slot := 1, constantValue := 0 }, { name := "LENGTH", type := .int, accessFlags := 26, slot := 2, constantValue := 0 }]
  methods := #[k4m0, k4m1]
  instanceTypes := #[.long, .long]
  staticTypes := #[(.object "com/example/rosterhall/rosterhall/ResourceId"), (.object "com/example/rosterhall/rosterhall/ResourceId"), .int]
  resolved := Array.replicate 172 none
  statics := none }

def pool5 : Array CpInfo := pool [(1, .class_ 2), (0, u "java/io/Serializable"), (0, .class_ 4), (0, u "java/lang/Object")] 2

/-- java/io/Serializable -/
def k5 : Class := { plain "java/io/Serializable" (some 0) with
  accessFlags := 1537
  interfaces := #[]
  cf := some (fileOf pool5 1 #[] #[] 1537 3 #[] #[])
  fields := #[]
  methods := #[]
  instanceTypes := #[]
  staticTypes := #[]
  resolved := Array.replicate 7 none
  statics := none }

def pool6 : Array CpInfo := pool [(2, .class_ 4), (1, u "java/lang/Object"), (0, u "<init>"), (0, u "()V"), (1, .class_ 10), (1, u "java/lang/Number"), (2, .class_ 14), (0, u "java/io/Serializable"), (0, u "serialVersionUID"), (0, u "J")] 20

def k6m0 : Method := { name := "<init>", desc := "()V", sig := { parameters := [], returnType := none }, accessFlags := 1, code := none }
/-- java/lang/Number -/
def k6 : Class := { plain "java/lang/Number" (some 0) with
  accessFlags := 1057
  interfaces := #[5]
  cf := some (fileOf pool6 8 #[] #[{ accessFlags := 1, nameIndex := 5, descriptorIndex := 6, attributes := #[] }] 1057 2 #[13] #[{ accessFlags := 26, nameIndex := 15, descriptorIndex := 16, attributes := #[] }])
  fields := #[{ name := "serialVersionUID", type := .long, accessFlags := 26, slot := 0, constantValue := 0 }]
  methods := #[k6m0]
  instanceTypes := #[]
  staticTypes := #[.long]
  resolved := Array.replicate 37 none
  statics := none }

def pool7 : Array CpInfo := pool [(1, .class_ 2), (0, u "java/lang/constant/Constable"), (0, .class_ 4), (0, u "java/lang/Object")] 6

/-- java/lang/constant/Constable -/
def k7 : Class := { plain "java/lang/constant/Constable" (some 0) with
  accessFlags := 1537
  interfaces := #[]
  cf := some (fileOf pool7 1 #[] #[] 1537 3 #[] #[])
  fields := #[]
  methods := #[]
  instanceTypes := #[]
  staticTypes := #[]
  resolved := Array.replicate 11 none
  statics := none }

def pool8 : Array CpInfo := pool [(1, .class_ 2), (0, u "java/lang/constant/ConstantDesc"), (0, .class_ 4), (0, u "java/lang/Object")] 32

/-- java/lang/constant/ConstantDesc -/
def k8 : Class := { plain "java/lang/constant/ConstantDesc" (some 0) with
  accessFlags := 1537
  interfaces := #[]
  cf := some (fileOf pool8 1 #[] #[] 1537 3 #[] #[])
  fields := #[]
  methods := #[]
  instanceTypes := #[]
  staticTypes := #[]
  resolved := Array.replicate 37 none
  statics := none }

def pool9 : Array CpInfo := pool [(1, .class_ 2), (0, u "java/lang/Long"), (165, .long 9223372036854775808), (66, .class_ 237), (1, u "java/lang/Long$LongCache"), (33, .class_ 272), (0, u "java/lang/Number"), (2, u "value"), (0, u "J"), (25, .methodref 1 303), (0, .nameAndType 304 305), (0, u "compare"), (0, u "(JJ)I"), (55, u "TYPE"), (0, u "Ljava/lang/Class;"), (0, .class_ 364), (0, u "java/lang/Comparable"), (0, .class_ 366), (0, u "java/lang/constant/Constable"), (0, .class_ 368), (0, u "java/lang/constant/ConstantDesc"), (0, u "MIN_VALUE"), (1, u "MAX_VALUE"), (4, u "SIZE"), (0, u "I"), (1, u "BYTES"), (1, u "serialVersionUID"), (87, u "compareUnsigned")] 54

def k9c0 : Code := { maxStack := 4, maxLocals := 4, code := jdk_35_method_42_code, exceptionTable := #[], attributes := #[] }
def k9m0 : Method := { name := "compare", desc := "(JJ)I", sig := { parameters := [.long, .long], returnType := some .int }, accessFlags := 9, code := some k9c0 }
def k9c1 : Code := { maxStack := 6, maxLocals := 4, code := jdk_35_method_43_code, exceptionTable := #[], attributes := #[] }
def k9m1 : Method := { name := "compareUnsigned", desc := "(JJ)I", sig := { parameters := [.long, .long], returnType := some .int }, accessFlags := 9, code := some k9c1 }
/-- java/lang/Long -/
def k9 : Class := { plain "java/lang/Long" (some 6) with
  accessFlags := 49
  interfaces := #[3, 7, 8]
  cf := some (fileOf pool9 1 #[.nestMembers #[235]] #[{ accessFlags := 9, nameIndex := 304, descriptorIndex := 305, attributes := #[] }, { accessFlags := 9, nameIndex := 469, descriptorIndex := 305, attributes := #[] }] 49 271 #[363, 365, 367] #[{ accessFlags := 25, nameIndex := 369, descriptorIndex := 276, attributes := #[] }, { accessFlags := 25, nameIndex := 371, descriptorIndex := 276, attributes := #[] }, { accessFlags := 25, nameIndex := 361, descriptorIndex := 362, attributes := #[] }, { accessFlags := 18, nameIndex := 275, descriptorIndex := 276, attributes := #[] }, { accessFlags := 25, nameIndex := 376, descriptorIndex := 377, attributes := #[] }, { accessFlags := 25, nameIndex := 379, descriptorIndex := 377, attributes := #[] }, { accessFlags := 26, nameIndex := 381, descriptorIndex := 276, attributes := #[] }])
  fields := #[{ name := "MIN_VALUE", type := .long, accessFlags := 25, slot := 0, constantValue := 0 }, { name := "MAX_VALUE", type := .long, accessFlags := 25, slot := 1, constantValue := 0 }, { name := "TYPE", type := (.object "java/lang/Class"), accessFlags := 25, slot := 2, constantValue := 0 }, { name := "value", type := .long, accessFlags := 18, slot := 0, constantValue := 0 }, { name := "SIZE", type := .int, accessFlags := 25, slot := 3, constantValue := 0 }, { name := "BYTES", type := .int, accessFlags := 25, slot := 4, constantValue := 0 }, { name := "serialVersionUID", type := .long, accessFlags := 26, slot := 5, constantValue := 0 }]
  methods := #[k9m0, k9m1]
  instanceTypes := #[.long]
  staticTypes := #[.long, .long, (.object "java/lang/Class"), .int, .int, .long]
  resolved := Array.replicate 524 none
  statics := none }

def pool10 : Array CpInfo := pool [(1, u "java/lang/Cloneable"), (0, .class_ 1), (0, u "java/lang/Object"), (0, .class_ 3)] 3

/-- java/lang/Cloneable -/
def k10 : Class := { plain "java/lang/Cloneable" (some 0) with
  accessFlags := 1537
  interfaces := #[]
  cf := some (fileOf pool10 2 #[] #[] 1537 4 #[] #[])
  fields := #[]
  methods := #[]
  instanceTypes := #[]
  staticTypes := #[]
  resolved := Array.replicate 8 none
  statics := none }

/-- the primitive byte -/
def k11 : Class := { plain "byte" none with kind := .primitive 'B', accessFlags := 0x411 }
/-- [B -/
def k12 : Class := { plain "[B" (some 0) with kind := .array 11 .byte, interfaces := #[10, 5], accessFlags := 1041 }

/-- the primitive int -/
def k13 : Class := { plain "int" none with kind := .primitive 'I', accessFlags := 0x411 }
/-- [I -/
def k14 : Class := { plain "[I" (some 0) with kind := .array 13 .int, interfaces := #[10, 5], accessFlags := 1041 }

def heap : Heap := #[]
def classes : Array Class := #[k0, k1, k2, k3, k4, k5, k6, k7, k8, k9, k10, k11, k12, k13, k14]
def interned : List (Array UInt16 × Addr) := []
def slotsUsed : Nat := 0
def theMethod : MethodId := ⟨1, 1⟩
def args0 : Array Value := #[.long 5, .long 7, .long 3, .long 1, .int 1]
def aboutOver (below : List Frame) : State where
  vm := { classes := classes, interned := interned.toArray }
  heap := heap
  slotsUsed := slotsUsed
  threads := #[{ frames := .invoking theMethod args0 :: below }]
def below0 : List Frame := [.native { method := ⟨0, 0⟩, args := #[] }]
def about1 : State := aboutOver below0
def p0 : Program := .bare "" "" ""
def e0 : Env := launch0.env 0 0 0
theorem w_frames : about1.frames = Frame.invoking theMethod args0 :: below0 := rfl
set_option maxRecDepth 65536 in
theorem w_args : argsFit about1.vm theMethod args0 = true := by decide +kernel
set_option maxRecDepth 65536 in
theorem w_heap : heapFits about1 = true := by decide +kernel
set_option maxRecDepth 65536 in
theorem w_runnable : about1.curStatus? = some .runnable := by decide +kernel
set_option maxRecDepth 65536 in
theorem w_alone : about1.alone = true := by decide +kernel
set_option maxRecDepth 65536 in
theorem w_named : about1.methodNamed? x = some theMethod := by decide +kernel
set_option maxRecDepth 65536 in
theorem w_hears : about1.hears theMethod below0 = true := by decide +kernel
set_option maxRecDepth 65536 in
theorem w_ripe : about1.ripe theMethod args0 below0 = true := by decide +kernel
theorem w_running : about1.status = .running := rfl
set_option maxRecDepth 65536 in
theorem w_room : about1.hasRoom e0.platform room_1 = true :=
  launch0.hasRoom_least _ room_1 (by decide +kernel) (by decide +kernel) (by decide +kernel) (by decide +kernel) (by decide +kernel) (by decide +kernel)
theorem allAtoms_all (ts : List Jvm.Cond) (a : Array Jvm.Value) (st : Jvm.State) : (allAtoms ts).before a st = ts.all (fun c => c.before a st) := by
  induction ts with
  | nil => rfl
  | cons c t ih =>
    show (Jvm.Cond.and c (allAtoms t)).before a st = _
    rw [Jvm.Cond.before_and, ih, List.all_cons]
def words1 : List Jvm.Cond := Jvm.Cond.code x code maxLocals ret :: tables_1
/-- a 'code' word, met by the world's own term for the bytes: nothing is compared byte by byte -/
theorem code_word {y : MethodName} {bytes : ByteArray} {mx : Nat} {rt : Option FieldType} {a : Array Value} {s : State} {m : MethodId} {meth : Method} {c : Code} (h1 : s.methodNamed? y = some m) (h2 : s.vm.method? m = some meth) (h3 : meth.code = some c) (h4 : c.code = bytes)
    (h5 : (c.maxLocals == mx && c.exceptionTable.isEmpty && decide (c.maxStack ≤ mostOperands) && decide (meth.sig.returnType = rt) && !meth.locks && decide (parseMethodDescriptor y.desc = some meth.sig)) = true) : (Jvm.Cond.code y bytes mx rt).before a s = true := by
  simp only [Bool.and_eq_true, beq_iff_eq, Bool.not_eq_true', decide_eq_true_eq] at h5
  obtain ⟨⟨⟨⟨⟨g1, g2⟩, g3⟩, g4⟩, g5⟩, g6⟩ := h5
  simp [Cond.before, Cond.holds, Cond.value, h1, h2, h3, h4, g1, g2, g3, g4, g5, g6]
def isCode : Jvm.Cond → Bool
  | .code _ _ _ _ => true
  | _ => false
theorem all_split {L : List Jvm.Cond} {P : Jvm.Cond → Bool} (h1 : L.all (fun c => isCode c || P c) = true) (h2 : ∀ c ∈ L.filter isCode, P c = true) : L.all P = true := by
  refine List.all_eq_true.mpr fun c hc => ?_
  have h := List.all_eq_true.mp h1 c hc
  rcases Bool.eq_false_or_eq_true (isCode c) with hi | hi
  · exact h2 c (List.mem_filter.mpr ⟨hc, hi⟩)
  · simpa [hi] using h
set_option maxRecDepth 65536 in
theorem w_c0 : (Jvm.Cond.code x code maxLocals ret).before args0 about1 = true := code_word (m := ⟨1, 1⟩) (meth := k1m1) (c := k1c1) (by decide +kernel) rfl rfl rfl (by decide +kernel)
set_option maxRecDepth 65536 in
theorem w_c1 : (Jvm.Cond.code ({ cls := "com/example/rosterhall/rosterhall/ResourceId", name := "<init>", desc := "(JJ)V" } : Jvm.MethodName) prog_20_method_1_code (5 : Nat) (Option.none : Option Jvm.ClassFile.FieldType)).before args0 about1 = true := code_word (m := ⟨4, 0⟩) (meth := k4m0) (c := k4c0) (by decide +kernel) rfl rfl rfl (by decide +kernel)
set_option maxRecDepth 65536 in
theorem w_c2 : (Jvm.Cond.code ({ cls := "java/lang/Record", name := "<init>", desc := "()V" } : Jvm.MethodName) jdk_30_method_1_code (1 : Nat) (Option.none : Option Jvm.ClassFile.FieldType)).before args0 about1 = true := code_word (m := ⟨2, 0⟩) (meth := k2m0) (c := k2c0) (by decide +kernel) rfl rfl rfl (by decide +kernel)
set_option maxRecDepth 65536 in
theorem w_c3 : (Jvm.Cond.code ({ cls := "java/lang/Object", name := "<init>", desc := "()V" } : Jvm.MethodName) object_method_1_code (1 : Nat) (Option.none : Option Jvm.ClassFile.FieldType)).before args0 about1 = true := code_word (m := ⟨0, 0⟩) (meth := k0m0) (c := k0c0) (by decide +kernel) rfl rfl rfl (by decide +kernel)
set_option maxRecDepth 65536 in
theorem w_c4 : (Jvm.Cond.code ({ cls := "com/example/rosterhall/rosterhall/ResourceIdCompareToPinLaw", name := "ref", desc := "(JJJJ)I" } : Jvm.MethodName) method_4_code (9 : Nat) (Option.some Jvm.ClassFile.FieldType.int)).before args0 about1 = true := code_word (m := ⟨1, 3⟩) (meth := k1m3) (c := k1c3) (by decide +kernel) rfl rfl rfl (by decide +kernel)
set_option maxRecDepth 65536 in
theorem w_c5 : (Jvm.Cond.code ({ cls := "com/example/rosterhall/rosterhall/ResourceIdCompareToPinLaw", name := "ucmp", desc := "(JJ)I" } : Jvm.MethodName) method_3_code (8 : Nat) (Option.some Jvm.ClassFile.FieldType.int)).before args0 about1 = true := code_word (m := ⟨1, 2⟩) (meth := k1m2) (c := k1c2) (by decide +kernel) rfl rfl rfl (by decide +kernel)
set_option maxRecDepth 65536 in
theorem w_c6 : (Jvm.Cond.code ({ cls := "com/example/rosterhall/rosterhall/ResourceId", name := "compareTo", desc := "(Lcom/example/rosterhall/rosterhall/ResourceId;)I" } : Jvm.MethodName) prog_20_method_5_code (3 : Nat) (Option.some Jvm.ClassFile.FieldType.int)).before args0 about1 = true := code_word (m := ⟨4, 1⟩) (meth := k4m1) (c := k4c1) (by decide +kernel) rfl rfl rfl (by decide +kernel)
set_option maxRecDepth 65536 in
theorem w_c7 : (Jvm.Cond.code ({ cls := "java/lang/Long", name := "compareUnsigned", desc := "(JJ)I" } : Jvm.MethodName) jdk_35_method_43_code (4 : Nat) (Option.some Jvm.ClassFile.FieldType.int)).before args0 about1 = true := code_word (m := ⟨9, 1⟩) (meth := k9m1) (c := k9c1) (by decide +kernel) rfl rfl rfl (by decide +kernel)
set_option maxRecDepth 65536 in
theorem w_c8 : (Jvm.Cond.code ({ cls := "java/lang/Long", name := "compare", desc := "(JJ)I" } : Jvm.MethodName) jdk_35_method_42_code (4 : Nat) (Option.some Jvm.ClassFile.FieldType.int)).before args0 about1 = true := code_word (m := ⟨9, 0⟩) (meth := k9m0) (c := k9c0) (by decide +kernel) rfl rfl rfl (by decide +kernel)
set_option maxRecDepth 65536 in
theorem w_c9 : (Jvm.Cond.code ({ cls := "com/example/rosterhall/rosterhall/ResourceIdCompareToPinLaw", name := "sign", desc := "(I)I" } : Jvm.MethodName) method_5_code (1 : Nat) (Option.some Jvm.ClassFile.FieldType.int)).before args0 about1 = true := code_word (m := ⟨1, 4⟩) (meth := k1m4) (c := k1c4) (by decide +kernel) rfl rfl rfl (by decide +kernel)
def codes1 : List Jvm.Cond := [Jvm.Cond.code x code maxLocals ret, Jvm.Cond.code ({ cls := "com/example/rosterhall/rosterhall/ResourceId", name := "<init>", desc := "(JJ)V" } : Jvm.MethodName) prog_20_method_1_code (5 : Nat) (Option.none : Option Jvm.ClassFile.FieldType), Jvm.Cond.code ({ cls := "java/lang/Record", name := "<init>", desc := "()V" } : Jvm.MethodName) jdk_30_method_1_code (1 : Nat) (Option.none : Option Jvm.ClassFile.FieldType), Jvm.Cond.code ({ cls := "java/lang/Object", name := "<init>", desc := "()V" } : Jvm.MethodName) object_method_1_code (1 : Nat) (Option.none : Option Jvm.ClassFile.FieldType), Jvm.Cond.code ({ cls := "com/example/rosterhall/rosterhall/ResourceIdCompareToPinLaw", name := "ref", desc := "(JJJJ)I" } : Jvm.MethodName) method_4_code (9 : Nat) (Option.some Jvm.ClassFile.FieldType.int), Jvm.Cond.code ({ cls := "com/example/rosterhall/rosterhall/ResourceIdCompareToPinLaw", name := "ucmp", desc := "(JJ)I" } : Jvm.MethodName) method_3_code (8 : Nat) (Option.some Jvm.ClassFile.FieldType.int), Jvm.Cond.code ({ cls := "com/example/rosterhall/rosterhall/ResourceId", name := "compareTo", desc := "(Lcom/example/rosterhall/rosterhall/ResourceId;)I" } : Jvm.MethodName) prog_20_method_5_code (3 : Nat) (Option.some Jvm.ClassFile.FieldType.int), Jvm.Cond.code ({ cls := "java/lang/Long", name := "compareUnsigned", desc := "(JJ)I" } : Jvm.MethodName) jdk_35_method_43_code (4 : Nat) (Option.some Jvm.ClassFile.FieldType.int), Jvm.Cond.code ({ cls := "java/lang/Long", name := "compare", desc := "(JJ)I" } : Jvm.MethodName) jdk_35_method_42_code (4 : Nat) (Option.some Jvm.ClassFile.FieldType.int), Jvm.Cond.code ({ cls := "com/example/rosterhall/rosterhall/ResourceIdCompareToPinLaw", name := "sign", desc := "(I)I" } : Jvm.MethodName) method_5_code (1 : Nat) (Option.some Jvm.ClassFile.FieldType.int)]
set_option maxRecDepth 65536 in
theorem codes_eq : words1.filter isCode = codes1 := rfl
theorem w_codes : ∀ c ∈ words1.filter isCode, c.before args0 about1 = true := by
  rw [codes_eq]
  intro c hc
  simp only [codes1, List.mem_cons, List.not_mem_nil, or_false] at hc
  rcases hc with rfl | rfl | rfl | rfl | rfl | rfl | rfl | rfl | rfl | rfl
  · exact w_c0
  · exact w_c1
  · exact w_c2
  · exact w_c3
  · exact w_c4
  · exact w_c5
  · exact w_c6
  · exact w_c7
  · exact w_c8
  · exact w_c9
set_option maxRecDepth 65536 in
theorem w_t1 : (words1.take 24).all (fun c => isCode c || c.before args0 about1) = true := by decide +kernel
set_option maxRecDepth 65536 in
theorem w_t2 : (words1.drop 24).all (fun c => isCode c || c.before args0 about1) = true := by decide +kernel
theorem w_tables : (allAtoms (Jvm.Cond.code x code maxLocals ret :: tables_1)).before args0 about1 = true := by
  rw [allAtoms_all]
  show words1.all (fun c => c.before args0 about1) = true
  refine all_split ?_ w_codes
  rw [← List.take_append_drop 24 words1, List.all_append, w_t1, w_t2]
  rfl
set_option maxRecDepth 65536 in
theorem w_case : (Jvm.Cond.and given_1 narrow_1).before args0 about1 = true := by decide +kernel
theorem w_applies : (headSpec (Jvm.Cond.code x code maxLocals ret :: tables_1) room_1).applies x e0.platform about1 = true :=
  (Spec.applies_iff w_frames).mpr ⟨w_running, w_runnable, w_alone, w_named, w_hears, w_ripe, w_room, w_tables⟩
theorem atStart : AtStart classFile x code maxLocals ret World_1 tables_1 room_1 Calls_1 rest_1 Pre_1 launch0 p0 e0 about1 theMethod args0 below0 :=
  ⟨lists_1, trivial, launch0.admits_env _ _ _, launch0.least_env, fairChoices_fair.cas, fairChoices_fair.clock, w_frames, w_args, w_heap, w_applies, trivial, trivial, w_case⟩
end start1
theorem witness_1 : WitnessClaimed_1 := ⟨start1.p0, start1.e0, start1.about1, start1.theMethod, start1.args0, start1.below0, start1.atStart⟩
end Jvm.Pilot.@@N@@
